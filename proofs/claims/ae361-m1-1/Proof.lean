import JvmDerived
import JvmDerived.Pilot.@@N@@Statement
import JvmDerived.Pilot.@@N@@Code
set_option linter.unusedVariables false
set_option linter.unusedSimpArgs false
@@BLOCK:NumsL.lean.txt@@
namespace Jvm.Pilot.@@N@@
open Jvm Jvm.ClassFile Sem Op Lib Jvm.Free Jvm.Stand Jvm.LawKit Jvm.RoadKit Bundle Jvm.Pilot.@@N@@.Jvm.D
/-- the run that stands at st comes to a return: Q says what is returned, the heap and the places written; at most kc cells and ks slots are new -/
def own_Ends (p : Program) (e : Env) (below : List Frame) (s : State) (kc ks : Nat) (Q : Option Value → Heap → List Loc → Prop) (st : State) : Prop :=
  ∃ s₂ o, Steps p.tables e below st s₂ ∧ s₂.status = .running ∧ Ended s₂ below o ∧ ∃ v L, o = .returned v ∧ Q v s₂.heap L ∧ FrameEnd s o s₂ L kc ks
theorem own_step {p : Program} {e : Env} {below : List Frame} {s : State} {kc ks : Nat} {Q : Option Value → Heap → List Loc → Prop} {st st' : State}
    (h : ∀ t, Steps p.tables e below st' t → Steps p.tables e below st t) (k : own_Ends p e below s kc ks Q st') : own_Ends p e below s kc ks Q st := by
  obtain ⟨s₂, o, h1, h2⟩ := k
  exact ⟨s₂, o, h _ h1, h2⟩
theorem own_ret {p : Program} {l : Launch} {e : Env} {R : Room} {s : State} {m : MethodId} {args : Array Value} {below : List Frame} {meth : Method} {c : Code} {T : State} {locs : List Loc} {cells slots : Nat} {kc ks : Nat} {Q : Option Value → Heap → List Loc → Prop} {st : State}
    (X : Stand p l e R s m args below meth c T locs cells slots) (hlocks : meth.locks = false) {v : Option Value} (hv : meth.sig.returnType = none → v = none) (hq : Q v T.heap locs) (hc : cells ≤ kc) (hs : slots ≤ ks)
    (hr : ∀ fs, (∀ (f : JFrame) (acts : List Action), f.method = m → f.locked = none → f.entered = [] → (doReturn e (T.setTop f) acts v).1 = T.setFrames fs) → Steps p.tables e below st (T.setFrames fs)) : own_Ends p e below s kc ks Q st := by
  obtain ⟨fs, h1, hrun, hended, hW, hsame⟩ := X.leave (v := v) hv hlocks
  exact ⟨_, _, hr fs h1, hrun, hended, v, locs, rfl, hq, ⟨_, rfl⟩, hW, hsame.mono hc hs⟩

theorem own_nb (x : Int32) : nar .byte x.toInt8.toInt32 = x.toInt8.toInt32 := by
  show x.toInt8.toInt32.toInt8.toInt32 = x.toInt8.toInt32
  rw [Int8.toInt8_toInt32]
def own_pick (x : Int32) : Int32 := if x &&& 15 = 0 then 32 else if x &&& 15 = 1 then 9 else if x &&& 15 = 2 then 10 else if x &&& 15 = 3 then 13 else if x &&& 15 = 4 then 60 else if x &&& 15 = 5 then (-17) else if x &&& 15 = 6 then (-69) else if x &&& 15 = 7 then (-65) else (x >>> ((4 : Int32) &&& 31)).toInt8.toInt32
theorem own_pickn (x : Int32) : nar .byte (own_pick x) = own_pick x := by
  unfold own_pick
  repeat' split
  all_goals first | rfl | exact own_nb _
def own_ws (b : Int32) : Int32 := if b = 32 then 1 else if b = 9 then 1 else if b = 10 then 1 else if b = 13 then 1 else 0
def own_first : List Int32 → Int32
  | [] => 0
  | b :: r => if own_ws b = 0 then (if b = 60 then 1 else 0) else own_first r
def own_start : List Int32 → Nat
  | a :: b :: d :: _ => if a = -17 then (if b = -69 then (if d = -65 then 3 else 0) else 0) else 0
  | _ => 0
def own_looks (bs : List Int32) : Int32 := own_first (bs.drop (own_start bs))
def own_res (k f : Int32) : Int32 := if k < 0 then 0 else if f = 60 then 1 else 0
theorem own_short {bs : List Int32} (h : bs.length < 3) : own_start bs = 0 := by
  match bs, h with
  | [], _ => rfl
  | [_], _ => rfl
  | [_, _], _ => rfl
  | _ :: _ :: _ :: r, h => simp at h; omega
theorem own_three {bs : List Int32} (h : ¬ bs.length < 3) : ∃ a b d r, bs = a :: b :: d :: r := by
  match bs, h with
  | [], h => simp at h
  | [_], h => simp at h
  | [_, _], h => simp at h
  | a :: b :: d :: r, _ => exact ⟨a, b, d, r, rfl⟩
theorem own_sle (bs : List Int32) : own_start bs ≤ bs.length := by
  by_cases h : bs.length < 3
  · rw [own_short h]; omega
  · obtain ⟨a, b, d, r, rfl⟩ := own_three h
    simp only [own_start, List.length_cons]
    split
    · split
      · split <;> omega
      · omega
    · omega
theorem own_byte {b m : Int32} (hbl : nar .byte b = b) (k : Int) (hm : m.toInt = k + 256) (h1 : -128 ≤ k) (h2 : k < 0) : b &&& 255 = m ↔ b.toInt = k := by
  have e := Jvm.Kit.i32_mask b 255 (k := 8) (by decide) (by decide)
  have q := c_i2b b
  rw [show b.toInt8.toInt32 = b from hbl] at q
  rw [← Int32.toInt_inj]
  omega
theorem own_six (x : Int32) : ∀ r, r = ((x &&& (2147483647 : Int32)) - (x &&& (2147483647 : Int32)) / (6 : Int32) * (6 : Int32)) → r = 0 ∨ r = 1 ∨ r = 2 ∨ r = 3 ∨ r = 4 ∨ r = 5 := by
  intro r hr
  have e := Jvm.Kit.i32_mask x 2147483647 (k := 31) (by decide) (by decide)
  generalize x &&& (2147483647 : Int32) = y at *
  rw [irem_eq_mod] at hr
  have h := Jvm.Kit.i32_rem_nonneg (x := y) (y := 6) (by omega)
  rw [← hr] at h
  have e5 : (6 : Int32).toInt = 6 := rfl
  rw [e5] at h
  have h2 : r.toInt = 0 ∨ r.toInt = 1 ∨ r.toInt = 2 ∨ r.toInt = 3 ∨ r.toInt = 4 ∨ r.toInt = 5 := by omega
  rcases h2 with h | h | h | h | h | h
  · exact Or.inl (Int32.toInt_inj.mp h)
  · exact Or.inr (Or.inl (Int32.toInt_inj.mp h))
  · exact Or.inr (Or.inr (Or.inl (Int32.toInt_inj.mp h)))
  · exact Or.inr (Or.inr (Or.inr (Or.inl (Int32.toInt_inj.mp h))))
  · exact Or.inr (Or.inr (Or.inr (Or.inr (Or.inl (Int32.toInt_inj.mp h)))))
  · exact Or.inr (Or.inr (Or.inr (Or.inr (Or.inr (Int32.toInt_inj.mp h)))))
theorem own_ti {i : Nat} (h : i < 1000) : (Int32.ofNat i).toInt = i := by rw [Int32.toInt_ofNat_of_lt (by omega)]
theorem own_tn {i : Nat} (h : i < 1000) : (Int32.ofNat i).toNatClampNeg = i := by simp only [Int32.toNatClampNeg, own_ti h]; omega
theorem own_il {i n : Nat} (h : i < n) (hn : n < 1000) : Int32.ofNat i < Int32.ofNat n := by rw [Int32.lt_iff_toInt_lt, own_ti (by omega), own_ti hn]; omega
theorem own_li {i n : Nat} (h : Int32.ofNat i < Int32.ofNat n) (hi : i < 1000) (hn : n < 1000) : i < n := by rw [Int32.lt_iff_toInt_lt, own_ti hi, own_ti hn] at h; omega
theorem own_nl {i n : Nat} (h : ¬ i < n) (hi : i < 1000) (hn : n < 1000) : ¬ Int32.ofNat i < Int32.ofNat n := by rw [Int32.lt_iff_toInt_lt, own_ti hi, own_ti hn]; omega
theorem own_up (i : Nat) : Int32.ofNat i + 1 = Int32.ofNat (i + 1) := Int32.ofNat_succ i
theorem own_in {cl : Cell} {n i : Nat} (hS : cl.slots.size = n) (hn : n < 1000) (hi : i < n) : ¬ (Int32.ofNat i < 0 ∨ cl.slots.size ≤ (Int32.ofNat i).toNatClampNeg) := by
  rw [hS, own_tn (by omega), Int32.lt_iff_toInt_lt, own_ti (by omega)]
  have : (0 : Int32).toInt = 0 := rfl
  omega
theorem own_hat {cl : Cell} {bs : List Int32} {d : Value} (H : Has cl (bs.map Value.int) d) (hS : cl.slots.size = bs.length) : ∀ (i : Nat) (h : i < bs.length), cl.slots[i]? = some (.int bs[i]) := by
  intro i h
  rw [H i (by omega)]
  simp [List.getD_eq_getElem?_getD, h]
theorem own_cut {bs : List Int32} {i : Nat} (h : i < bs.length) : own_first (bs.drop i) = if own_ws bs[i] = 0 then (if bs[i] = 60 then 1 else 0) else own_first (bs.drop (i + 1)) := by
  rw [List.drop_eq_getElem_cons h]; rfl
theorem own_d1_0 : decode method_4_code 0 = .ok (.iload_n 0, 1) := by decide +kernel
theorem own_d1_1 : decode method_4_code 1 = .ok (.bipush 15, 2) := by decide +kernel
theorem own_d1_3 : decode method_4_code 3 = .ok (.iand, 1) := by decide +kernel
theorem own_d1_4 : decode method_4_code 4 = .ok (.istore_n 1, 1) := by decide +kernel
theorem own_d1_5 : decode method_4_code 5 = .ok (.iload_n 1, 1) := by decide +kernel
theorem own_d1_6 : decode method_4_code 6 = .ok (.ifCond .ne 6, 3) := by decide +kernel
theorem own_d1_9 : decode method_4_code 9 = .ok (.bipush 32, 2) := by decide +kernel
theorem own_d1_11 : decode method_4_code 11 = .ok (.ireturn, 1) := by decide +kernel
theorem own_d1_12 : decode method_4_code 12 = .ok (.iload_n 1, 1) := by decide +kernel
theorem own_d1_13 : decode method_4_code 13 = .ok (.iconst 1, 1) := by decide +kernel
theorem own_d1_14 : decode method_4_code 14 = .ok (.if_icmp .ne 6, 3) := by decide +kernel
theorem own_d1_17 : decode method_4_code 17 = .ok (.bipush 9, 2) := by decide +kernel
theorem own_d1_19 : decode method_4_code 19 = .ok (.ireturn, 1) := by decide +kernel
theorem own_d1_20 : decode method_4_code 20 = .ok (.iload_n 1, 1) := by decide +kernel
theorem own_d1_21 : decode method_4_code 21 = .ok (.iconst 2, 1) := by decide +kernel
theorem own_d1_22 : decode method_4_code 22 = .ok (.if_icmp .ne 6, 3) := by decide +kernel
theorem own_d1_25 : decode method_4_code 25 = .ok (.bipush 10, 2) := by decide +kernel
theorem own_d1_27 : decode method_4_code 27 = .ok (.ireturn, 1) := by decide +kernel
theorem own_d1_28 : decode method_4_code 28 = .ok (.iload_n 1, 1) := by decide +kernel
theorem own_d1_29 : decode method_4_code 29 = .ok (.iconst 3, 1) := by decide +kernel
theorem own_d1_30 : decode method_4_code 30 = .ok (.if_icmp .ne 6, 3) := by decide +kernel
theorem own_d1_33 : decode method_4_code 33 = .ok (.bipush 13, 2) := by decide +kernel
theorem own_d1_35 : decode method_4_code 35 = .ok (.ireturn, 1) := by decide +kernel
theorem own_d1_36 : decode method_4_code 36 = .ok (.iload_n 1, 1) := by decide +kernel
theorem own_d1_37 : decode method_4_code 37 = .ok (.iconst 4, 1) := by decide +kernel
theorem own_d1_38 : decode method_4_code 38 = .ok (.if_icmp .ne 6, 3) := by decide +kernel
theorem own_d1_41 : decode method_4_code 41 = .ok (.bipush 60, 2) := by decide +kernel
theorem own_d1_43 : decode method_4_code 43 = .ok (.ireturn, 1) := by decide +kernel
theorem own_d1_44 : decode method_4_code 44 = .ok (.iload_n 1, 1) := by decide +kernel
theorem own_d1_45 : decode method_4_code 45 = .ok (.iconst 5, 1) := by decide +kernel
theorem own_d1_46 : decode method_4_code 46 = .ok (.if_icmp .ne 6, 3) := by decide +kernel
theorem own_d1_49 : decode method_4_code 49 = .ok (.bipush (-17), 2) := by decide +kernel
theorem own_d1_51 : decode method_4_code 51 = .ok (.ireturn, 1) := by decide +kernel
theorem own_d1_52 : decode method_4_code 52 = .ok (.iload_n 1, 1) := by decide +kernel
theorem own_d1_53 : decode method_4_code 53 = .ok (.bipush 6, 2) := by decide +kernel
theorem own_d1_55 : decode method_4_code 55 = .ok (.if_icmp .ne 6, 3) := by decide +kernel
theorem own_d1_58 : decode method_4_code 58 = .ok (.bipush (-69), 2) := by decide +kernel
theorem own_d1_60 : decode method_4_code 60 = .ok (.ireturn, 1) := by decide +kernel
theorem own_d1_61 : decode method_4_code 61 = .ok (.iload_n 1, 1) := by decide +kernel
theorem own_d1_62 : decode method_4_code 62 = .ok (.bipush 7, 2) := by decide +kernel
theorem own_d1_64 : decode method_4_code 64 = .ok (.if_icmp .ne 6, 3) := by decide +kernel
theorem own_d1_67 : decode method_4_code 67 = .ok (.bipush (-65), 2) := by decide +kernel
theorem own_d1_69 : decode method_4_code 69 = .ok (.ireturn, 1) := by decide +kernel
theorem own_d1_70 : decode method_4_code 70 = .ok (.iload_n 0, 1) := by decide +kernel
theorem own_d1_71 : decode method_4_code 71 = .ok (.iconst 4, 1) := by decide +kernel
theorem own_d1_72 : decode method_4_code 72 = .ok (.ishr, 1) := by decide +kernel
theorem own_d1_73 : decode method_4_code 73 = .ok (.i2b, 1) := by decide +kernel
theorem own_d1_74 : decode method_4_code 74 = .ok (.ireturn, 1) := by decide +kernel
theorem own_pn0 : plainName "com/example/parley/parley/io/CompetitionXmlLooksLikeXmlPinLaw" = true := by first | (simp [plainName, overriddenIn]; done) | decide +kernel
theorem own_ef1 (m : MethodId) (p0 : Int32) : entryFrame m #[(.int p0)] 2 = mkF m 0 #[.val (.int p0), .unset] [] := by first | (simp [entryFrame, mkF, argsToLocals, Value.category]; done) | rfl
def own_Q1 (Z : State) (p0 : Int32)  (h0 : Heap) (n0 : Nat) (v : Option Value) (h : Heap) (L : List Loc) : Prop := v = some (.int (own_pick p0)) ∧ Fr n0 L ∧ h = h0
set_option maxRecDepth 65536 in
set_option maxHeartbeats 40000000 in
theorem own_rm1 (l : Launch) (Z : State) (a0 : Array Value) (hw : ∀ d ∈ tables_1, d.before a0 Z = true) (ws : List Jvm.Cond) (p0 : Int32)  (h0 : Heap) (n0 : Nat) (Z0 : n0 ≤ h0.size)  :
    MetFree l (⟨"com/example/parley/parley/io/CompetitionXmlLooksLikeXmlPinLaw", "pick", "(I)B"⟩ : MethodName) (head1 (Jvm.Cond.code (⟨"com/example/parley/parley/io/CompetitionXmlLooksLikeXmlPinLaw", "pick", "(I)B"⟩ : MethodName) method_4_code 2 (some .byte) :: ws) ({ frames := 0, cells := 0, slots := 0, locals := 0 } : Room)) (fun a U => a = #[(.int p0)] ∧ Z.Warmed39 U.vm ∧ U.heap = h0) (fun _ _ _ _ _ => True) (fun _ U o U' => ∃ v L, o = .returned v ∧ own_Q1 Z p0  h0 n0 v U'.heap L ∧ FrameEnd U o U' L ({ frames := 0, cells := 0, slots := 0, locals := 0 } : Room).cells ({ frames := 0, cells := 0, slots := 0, locals := 0 } : Room).slots) := by
  refine MetFree.of_bodySF (plainFor_of_name own_pn0) hisR ?_
  intro p e s m args below meth c s₁ Bd hml0 hP hK
  obtain ⟨rfl, hZ, hh⟩ := hP
  have hx := Bd.exec
  have hby := Bd.bytes
  have hml : c.maxLocals = 2 := hml0
  have hown : s.vm.findClass "com/example/parley/parley/io/CompetitionXmlLooksLikeXmlPinLaw" = some m.cls := findClass_of_methodNamed Bd.named
  have hnm := (name_of_methodNamed Bd.named Bd.method).1
  have X0 : Stand p l e ({ frames := 0, cells := 0, slots := 0, locals := 0 } : Room) s m #[(.int p0)] below meth c s₁ [] 0 0 := Stand.of_body Bd
  have e0 : s₁.heap = h0 := by rw [← hh, Bd.state]; rfl
  have N0 := Fr.nil n0
  suffices H : own_Ends p e below s ({ frames := 0, cells := 0, slots := 0, locals := 0 } : Room).cells ({ frames := 0, cells := 0, slots := 0, locals := 0 } : Room).slots (own_Q1 Z p0  h0 n0) (s₁.setTop (mkF m 0 #[.val (.int p0), .unset] [])) by
    obtain ⟨s₂, o, h1, h2⟩ := H
    exact ⟨s₂, o, castTop (own_ef1 m p0) h1, h2⟩
  show own_Ends _ _ _ _ _ _ _ (s₁.setTop (mkF m 0 #[.val (.int p0), .unset] []))
  refine own_step (fun _ k => XS.iloadN X0.here hx rfl (hb hby own_d1_0) rfl k) ?_
  show own_Ends _ _ _ _ _ _ _ (s₁.setTop (mkF m 1 #[.val (.int p0), .unset] [(.int p0)]))
  refine own_step (fun _ k => XS.bipush X0.here hx rfl (hb hby own_d1_1) k) ?_
  show own_Ends _ _ _ _ _ _ _ (s₁.setTop (mkF m 3 #[.val (.int p0), .unset] [(.int (15 : Int32)), (.int p0)]))
  refine own_step (fun _ k => XS.iand X0.here hx rfl (hb hby own_d1_3) rfl k) ?_
  show own_Ends _ _ _ _ _ _ _ (s₁.setTop (mkF m 4 #[.val (.int p0), .unset] [(.int (p0 &&& (15 : Int32)))]))
  refine own_step (fun _ k => XS.istoreN X0.here hx rfl (hb hby own_d1_4) rfl (l' := #[.val (.int p0), .val (.int (p0 &&& (15 : Int32)))]) rfl k) ?_
  show own_Ends _ _ _ _ _ _ _ (s₁.setTop (mkF m 5 #[.val (.int p0), .val (.int (p0 &&& (15 : Int32)))] []))
  refine own_step (fun _ k => XS.iloadN X0.here hx rfl (hb hby own_d1_5) rfl k) ?_
  show own_Ends _ _ _ _ _ _ _ (s₁.setTop (mkF m 6 #[.val (.int p0), .val (.int (p0 &&& (15 : Int32)))] [(.int (p0 &&& (15 : Int32)))]))
  by_cases hk0 : (p0 &&& (15 : Int32)) = (0 : Int32)
  · refine own_step (fun _ k => XS.ifNo X0.here hx rfl (hb hby own_d1_6) rfl ((if0 _ _).trans (teq hk0).2) k) ?_
    show own_Ends _ _ _ _ _ _ _ (s₁.setTop (mkF m 9 #[.val (.int p0), .val (.int (p0 &&& (15 : Int32)))] []))
    refine own_step (fun _ k => XS.bipush X0.here hx rfl (hb hby own_d1_9) k) ?_
    show own_Ends _ _ _ _ _ _ _ (s₁.setTop (mkF m 11 #[.val (.int p0), .val (.int (p0 &&& (15 : Int32)))] [(.int (32 : Int32))]))
    refine own_ret X0 (BodyLoose.notSynchronized Bd) (v := (some (.int (32 : Int32)))) (fun h => by rw [Bd.returns] at h; cases h) ?_ (by decide) (by decide) (fun fs hr => X0.ireturnOut hx Bd.returns rfl (by simp) (hb hby own_d1_11) hr)
    show own_Q1 Z p0  h0 n0 (some (.int (32 : Int32))) s₁.heap _
    rw [e0]
    exact ⟨by simp [own_pick, hk0], N0, rfl⟩
  · refine own_step (fun _ k => XS.ifYes X0.here hx rfl (pc0 := 6) (pc' := 12) rfl (hb hby own_d1_6) rfl ((if0 _ _).trans (feq hk0).2) (by decide) (by decide) k) ?_
    show own_Ends _ _ _ _ _ _ _ (s₁.setTop (mkF m 12 #[.val (.int p0), .val (.int (p0 &&& (15 : Int32)))] []))
    refine own_step (fun _ k => XS.iloadN X0.here hx rfl (hb hby own_d1_12) rfl k) ?_
    show own_Ends _ _ _ _ _ _ _ (s₁.setTop (mkF m 13 #[.val (.int p0), .val (.int (p0 &&& (15 : Int32)))] [(.int (p0 &&& (15 : Int32)))]))
    refine own_step (fun _ k => XS.iconst X0.here hx rfl (hb hby own_d1_13) k) ?_
    show own_Ends _ _ _ _ _ _ _ (s₁.setTop (mkF m 14 #[.val (.int p0), .val (.int (p0 &&& (15 : Int32)))] [(.int (1 : Int32)), (.int (p0 &&& (15 : Int32)))]))
    by_cases hk1 : (p0 &&& (15 : Int32)) = (1 : Int32)
    · refine own_step (fun _ k => XS.icmpNo X0.here hx rfl (hb hby own_d1_14) rfl (teq hk1).2 k) ?_
      show own_Ends _ _ _ _ _ _ _ (s₁.setTop (mkF m 17 #[.val (.int p0), .val (.int (p0 &&& (15 : Int32)))] []))
      refine own_step (fun _ k => XS.bipush X0.here hx rfl (hb hby own_d1_17) k) ?_
      show own_Ends _ _ _ _ _ _ _ (s₁.setTop (mkF m 19 #[.val (.int p0), .val (.int (p0 &&& (15 : Int32)))] [(.int (9 : Int32))]))
      refine own_ret X0 (BodyLoose.notSynchronized Bd) (v := (some (.int (9 : Int32)))) (fun h => by rw [Bd.returns] at h; cases h) ?_ (by decide) (by decide) (fun fs hr => X0.ireturnOut hx Bd.returns rfl (by simp) (hb hby own_d1_19) hr)
      show own_Q1 Z p0  h0 n0 (some (.int (9 : Int32))) s₁.heap _
      rw [e0]
      exact ⟨by simp [own_pick, hk0, hk1], N0, rfl⟩
    · refine own_step (fun _ k => XS.icmpYes X0.here hx rfl (pc0 := 14) (pc' := 20) rfl (hb hby own_d1_14) rfl (feq hk1).2 (by decide) (by decide) k) ?_
      show own_Ends _ _ _ _ _ _ _ (s₁.setTop (mkF m 20 #[.val (.int p0), .val (.int (p0 &&& (15 : Int32)))] []))
      refine own_step (fun _ k => XS.iloadN X0.here hx rfl (hb hby own_d1_20) rfl k) ?_
      show own_Ends _ _ _ _ _ _ _ (s₁.setTop (mkF m 21 #[.val (.int p0), .val (.int (p0 &&& (15 : Int32)))] [(.int (p0 &&& (15 : Int32)))]))
      refine own_step (fun _ k => XS.iconst X0.here hx rfl (hb hby own_d1_21) k) ?_
      show own_Ends _ _ _ _ _ _ _ (s₁.setTop (mkF m 22 #[.val (.int p0), .val (.int (p0 &&& (15 : Int32)))] [(.int (2 : Int32)), (.int (p0 &&& (15 : Int32)))]))
      by_cases hk2 : (p0 &&& (15 : Int32)) = (2 : Int32)
      · refine own_step (fun _ k => XS.icmpNo X0.here hx rfl (hb hby own_d1_22) rfl (teq hk2).2 k) ?_
        show own_Ends _ _ _ _ _ _ _ (s₁.setTop (mkF m 25 #[.val (.int p0), .val (.int (p0 &&& (15 : Int32)))] []))
        refine own_step (fun _ k => XS.bipush X0.here hx rfl (hb hby own_d1_25) k) ?_
        show own_Ends _ _ _ _ _ _ _ (s₁.setTop (mkF m 27 #[.val (.int p0), .val (.int (p0 &&& (15 : Int32)))] [(.int (10 : Int32))]))
        refine own_ret X0 (BodyLoose.notSynchronized Bd) (v := (some (.int (10 : Int32)))) (fun h => by rw [Bd.returns] at h; cases h) ?_ (by decide) (by decide) (fun fs hr => X0.ireturnOut hx Bd.returns rfl (by simp) (hb hby own_d1_27) hr)
        show own_Q1 Z p0  h0 n0 (some (.int (10 : Int32))) s₁.heap _
        rw [e0]
        exact ⟨by simp [own_pick, hk0, hk1, hk2], N0, rfl⟩
      · refine own_step (fun _ k => XS.icmpYes X0.here hx rfl (pc0 := 22) (pc' := 28) rfl (hb hby own_d1_22) rfl (feq hk2).2 (by decide) (by decide) k) ?_
        show own_Ends _ _ _ _ _ _ _ (s₁.setTop (mkF m 28 #[.val (.int p0), .val (.int (p0 &&& (15 : Int32)))] []))
        refine own_step (fun _ k => XS.iloadN X0.here hx rfl (hb hby own_d1_28) rfl k) ?_
        show own_Ends _ _ _ _ _ _ _ (s₁.setTop (mkF m 29 #[.val (.int p0), .val (.int (p0 &&& (15 : Int32)))] [(.int (p0 &&& (15 : Int32)))]))
        refine own_step (fun _ k => XS.iconst X0.here hx rfl (hb hby own_d1_29) k) ?_
        show own_Ends _ _ _ _ _ _ _ (s₁.setTop (mkF m 30 #[.val (.int p0), .val (.int (p0 &&& (15 : Int32)))] [(.int (3 : Int32)), (.int (p0 &&& (15 : Int32)))]))
        by_cases hk3 : (p0 &&& (15 : Int32)) = (3 : Int32)
        · refine own_step (fun _ k => XS.icmpNo X0.here hx rfl (hb hby own_d1_30) rfl (teq hk3).2 k) ?_
          show own_Ends _ _ _ _ _ _ _ (s₁.setTop (mkF m 33 #[.val (.int p0), .val (.int (p0 &&& (15 : Int32)))] []))
          refine own_step (fun _ k => XS.bipush X0.here hx rfl (hb hby own_d1_33) k) ?_
          show own_Ends _ _ _ _ _ _ _ (s₁.setTop (mkF m 35 #[.val (.int p0), .val (.int (p0 &&& (15 : Int32)))] [(.int (13 : Int32))]))
          refine own_ret X0 (BodyLoose.notSynchronized Bd) (v := (some (.int (13 : Int32)))) (fun h => by rw [Bd.returns] at h; cases h) ?_ (by decide) (by decide) (fun fs hr => X0.ireturnOut hx Bd.returns rfl (by simp) (hb hby own_d1_35) hr)
          show own_Q1 Z p0  h0 n0 (some (.int (13 : Int32))) s₁.heap _
          rw [e0]
          exact ⟨by simp [own_pick, hk0, hk1, hk2, hk3], N0, rfl⟩
        · refine own_step (fun _ k => XS.icmpYes X0.here hx rfl (pc0 := 30) (pc' := 36) rfl (hb hby own_d1_30) rfl (feq hk3).2 (by decide) (by decide) k) ?_
          show own_Ends _ _ _ _ _ _ _ (s₁.setTop (mkF m 36 #[.val (.int p0), .val (.int (p0 &&& (15 : Int32)))] []))
          refine own_step (fun _ k => XS.iloadN X0.here hx rfl (hb hby own_d1_36) rfl k) ?_
          show own_Ends _ _ _ _ _ _ _ (s₁.setTop (mkF m 37 #[.val (.int p0), .val (.int (p0 &&& (15 : Int32)))] [(.int (p0 &&& (15 : Int32)))]))
          refine own_step (fun _ k => XS.iconst X0.here hx rfl (hb hby own_d1_37) k) ?_
          show own_Ends _ _ _ _ _ _ _ (s₁.setTop (mkF m 38 #[.val (.int p0), .val (.int (p0 &&& (15 : Int32)))] [(.int (4 : Int32)), (.int (p0 &&& (15 : Int32)))]))
          by_cases hk4 : (p0 &&& (15 : Int32)) = (4 : Int32)
          · refine own_step (fun _ k => XS.icmpNo X0.here hx rfl (hb hby own_d1_38) rfl (teq hk4).2 k) ?_
            show own_Ends _ _ _ _ _ _ _ (s₁.setTop (mkF m 41 #[.val (.int p0), .val (.int (p0 &&& (15 : Int32)))] []))
            refine own_step (fun _ k => XS.bipush X0.here hx rfl (hb hby own_d1_41) k) ?_
            show own_Ends _ _ _ _ _ _ _ (s₁.setTop (mkF m 43 #[.val (.int p0), .val (.int (p0 &&& (15 : Int32)))] [(.int (60 : Int32))]))
            refine own_ret X0 (BodyLoose.notSynchronized Bd) (v := (some (.int (60 : Int32)))) (fun h => by rw [Bd.returns] at h; cases h) ?_ (by decide) (by decide) (fun fs hr => X0.ireturnOut hx Bd.returns rfl (by simp) (hb hby own_d1_43) hr)
            show own_Q1 Z p0  h0 n0 (some (.int (60 : Int32))) s₁.heap _
            rw [e0]
            exact ⟨by simp [own_pick, hk0, hk1, hk2, hk3, hk4], N0, rfl⟩
          · refine own_step (fun _ k => XS.icmpYes X0.here hx rfl (pc0 := 38) (pc' := 44) rfl (hb hby own_d1_38) rfl (feq hk4).2 (by decide) (by decide) k) ?_
            show own_Ends _ _ _ _ _ _ _ (s₁.setTop (mkF m 44 #[.val (.int p0), .val (.int (p0 &&& (15 : Int32)))] []))
            refine own_step (fun _ k => XS.iloadN X0.here hx rfl (hb hby own_d1_44) rfl k) ?_
            show own_Ends _ _ _ _ _ _ _ (s₁.setTop (mkF m 45 #[.val (.int p0), .val (.int (p0 &&& (15 : Int32)))] [(.int (p0 &&& (15 : Int32)))]))
            refine own_step (fun _ k => XS.iconst X0.here hx rfl (hb hby own_d1_45) k) ?_
            show own_Ends _ _ _ _ _ _ _ (s₁.setTop (mkF m 46 #[.val (.int p0), .val (.int (p0 &&& (15 : Int32)))] [(.int (5 : Int32)), (.int (p0 &&& (15 : Int32)))]))
            by_cases hk5 : (p0 &&& (15 : Int32)) = (5 : Int32)
            · refine own_step (fun _ k => XS.icmpNo X0.here hx rfl (hb hby own_d1_46) rfl (teq hk5).2 k) ?_
              show own_Ends _ _ _ _ _ _ _ (s₁.setTop (mkF m 49 #[.val (.int p0), .val (.int (p0 &&& (15 : Int32)))] []))
              refine own_step (fun _ k => XS.bipush X0.here hx rfl (hb hby own_d1_49) k) ?_
              show own_Ends _ _ _ _ _ _ _ (s₁.setTop (mkF m 51 #[.val (.int p0), .val (.int (p0 &&& (15 : Int32)))] [(.int (-17 : Int32))]))
              refine own_ret X0 (BodyLoose.notSynchronized Bd) (v := (some (.int (-17 : Int32)))) (fun h => by rw [Bd.returns] at h; cases h) ?_ (by decide) (by decide) (fun fs hr => X0.ireturnOut hx Bd.returns rfl (by simp) (hb hby own_d1_51) hr)
              show own_Q1 Z p0  h0 n0 (some (.int (-17 : Int32))) s₁.heap _
              rw [e0]
              exact ⟨by simp [own_pick, hk0, hk1, hk2, hk3, hk4, hk5], N0, rfl⟩
            · refine own_step (fun _ k => XS.icmpYes X0.here hx rfl (pc0 := 46) (pc' := 52) rfl (hb hby own_d1_46) rfl (feq hk5).2 (by decide) (by decide) k) ?_
              show own_Ends _ _ _ _ _ _ _ (s₁.setTop (mkF m 52 #[.val (.int p0), .val (.int (p0 &&& (15 : Int32)))] []))
              refine own_step (fun _ k => XS.iloadN X0.here hx rfl (hb hby own_d1_52) rfl k) ?_
              show own_Ends _ _ _ _ _ _ _ (s₁.setTop (mkF m 53 #[.val (.int p0), .val (.int (p0 &&& (15 : Int32)))] [(.int (p0 &&& (15 : Int32)))]))
              refine own_step (fun _ k => XS.bipush X0.here hx rfl (hb hby own_d1_53) k) ?_
              show own_Ends _ _ _ _ _ _ _ (s₁.setTop (mkF m 55 #[.val (.int p0), .val (.int (p0 &&& (15 : Int32)))] [(.int (6 : Int32)), (.int (p0 &&& (15 : Int32)))]))
              by_cases hk6 : (p0 &&& (15 : Int32)) = (6 : Int32)
              · refine own_step (fun _ k => XS.icmpNo X0.here hx rfl (hb hby own_d1_55) rfl (teq hk6).2 k) ?_
                show own_Ends _ _ _ _ _ _ _ (s₁.setTop (mkF m 58 #[.val (.int p0), .val (.int (p0 &&& (15 : Int32)))] []))
                refine own_step (fun _ k => XS.bipush X0.here hx rfl (hb hby own_d1_58) k) ?_
                show own_Ends _ _ _ _ _ _ _ (s₁.setTop (mkF m 60 #[.val (.int p0), .val (.int (p0 &&& (15 : Int32)))] [(.int (-69 : Int32))]))
                refine own_ret X0 (BodyLoose.notSynchronized Bd) (v := (some (.int (-69 : Int32)))) (fun h => by rw [Bd.returns] at h; cases h) ?_ (by decide) (by decide) (fun fs hr => X0.ireturnOut hx Bd.returns rfl (by simp) (hb hby own_d1_60) hr)
                show own_Q1 Z p0  h0 n0 (some (.int (-69 : Int32))) s₁.heap _
                rw [e0]
                exact ⟨by simp [own_pick, hk0, hk1, hk2, hk3, hk4, hk5, hk6], N0, rfl⟩
              · refine own_step (fun _ k => XS.icmpYes X0.here hx rfl (pc0 := 55) (pc' := 61) rfl (hb hby own_d1_55) rfl (feq hk6).2 (by decide) (by decide) k) ?_
                show own_Ends _ _ _ _ _ _ _ (s₁.setTop (mkF m 61 #[.val (.int p0), .val (.int (p0 &&& (15 : Int32)))] []))
                refine own_step (fun _ k => XS.iloadN X0.here hx rfl (hb hby own_d1_61) rfl k) ?_
                show own_Ends _ _ _ _ _ _ _ (s₁.setTop (mkF m 62 #[.val (.int p0), .val (.int (p0 &&& (15 : Int32)))] [(.int (p0 &&& (15 : Int32)))]))
                refine own_step (fun _ k => XS.bipush X0.here hx rfl (hb hby own_d1_62) k) ?_
                show own_Ends _ _ _ _ _ _ _ (s₁.setTop (mkF m 64 #[.val (.int p0), .val (.int (p0 &&& (15 : Int32)))] [(.int (7 : Int32)), (.int (p0 &&& (15 : Int32)))]))
                by_cases hk7 : (p0 &&& (15 : Int32)) = (7 : Int32)
                · refine own_step (fun _ k => XS.icmpNo X0.here hx rfl (hb hby own_d1_64) rfl (teq hk7).2 k) ?_
                  show own_Ends _ _ _ _ _ _ _ (s₁.setTop (mkF m 67 #[.val (.int p0), .val (.int (p0 &&& (15 : Int32)))] []))
                  refine own_step (fun _ k => XS.bipush X0.here hx rfl (hb hby own_d1_67) k) ?_
                  show own_Ends _ _ _ _ _ _ _ (s₁.setTop (mkF m 69 #[.val (.int p0), .val (.int (p0 &&& (15 : Int32)))] [(.int (-65 : Int32))]))
                  refine own_ret X0 (BodyLoose.notSynchronized Bd) (v := (some (.int (-65 : Int32)))) (fun h => by rw [Bd.returns] at h; cases h) ?_ (by decide) (by decide) (fun fs hr => X0.ireturnOut hx Bd.returns rfl (by simp) (hb hby own_d1_69) hr)
                  show own_Q1 Z p0  h0 n0 (some (.int (-65 : Int32))) s₁.heap _
                  rw [e0]
                  exact ⟨by simp [own_pick, hk0, hk1, hk2, hk3, hk4, hk5, hk6, hk7], N0, rfl⟩
                · refine own_step (fun _ k => XS.icmpYes X0.here hx rfl (pc0 := 64) (pc' := 70) rfl (hb hby own_d1_64) rfl (feq hk7).2 (by decide) (by decide) k) ?_
                  show own_Ends _ _ _ _ _ _ _ (s₁.setTop (mkF m 70 #[.val (.int p0), .val (.int (p0 &&& (15 : Int32)))] []))
                  refine own_step (fun _ k => XS.iloadN X0.here hx rfl (hb hby own_d1_70) rfl k) ?_
                  show own_Ends _ _ _ _ _ _ _ (s₁.setTop (mkF m 71 #[.val (.int p0), .val (.int (p0 &&& (15 : Int32)))] [(.int p0)]))
                  refine own_step (fun _ k => XS.iconst X0.here hx rfl (hb hby own_d1_71) k) ?_
                  show own_Ends _ _ _ _ _ _ _ (s₁.setTop (mkF m 72 #[.val (.int p0), .val (.int (p0 &&& (15 : Int32)))] [(.int (4 : Int32)), (.int p0)]))
                  refine own_step (fun _ k => XT.ishr X0.here hx rfl (hb hby own_d1_72) rfl k) ?_
                  show own_Ends _ _ _ _ _ _ _ (s₁.setTop (mkF m 73 #[.val (.int p0), .val (.int (p0 &&& (15 : Int32)))] [(.int (p0 >>> ((4 : Int32) &&& 31)))]))
                  refine own_step (fun _ k => XS.i2b X0.here hx rfl (hb hby own_d1_73) rfl k) ?_
                  show own_Ends _ _ _ _ _ _ _ (s₁.setTop (mkF m 74 #[.val (.int p0), .val (.int (p0 &&& (15 : Int32)))] [(.int (((p0 >>> ((4 : Int32) &&& 31))).toInt8.toInt32))]))
                  refine own_ret X0 (BodyLoose.notSynchronized Bd) (v := (some (.int (((p0 >>> ((4 : Int32) &&& 31))).toInt8.toInt32)))) (fun h => by rw [Bd.returns] at h; cases h) ?_ (by decide) (by decide) (fun fs hr => X0.ireturnOut hx Bd.returns (congrArg Value.int (own_nb _)) (by simp) (hb hby own_d1_74) hr)
                  show own_Q1 Z p0  h0 n0 (some (.int (((p0 >>> ((4 : Int32) &&& 31))).toInt8.toInt32))) s₁.heap _
                  rw [e0]
                  exact ⟨by simp [own_pick, hk0, hk1, hk2, hk3, hk4, hk5, hk6, hk7], N0, rfl⟩
theorem own_d2_0 : decode method_3_code 0 = .ok (.iload_n 0, 1) := by decide +kernel
theorem own_d2_1 : decode method_3_code 1 = .ok (.bipush 32, 2) := by decide +kernel
theorem own_d2_3 : decode method_3_code 3 = .ok (.if_icmp .eq 21, 3) := by decide +kernel
theorem own_d2_6 : decode method_3_code 6 = .ok (.iload_n 0, 1) := by decide +kernel
theorem own_d2_7 : decode method_3_code 7 = .ok (.bipush 9, 2) := by decide +kernel
theorem own_d2_9 : decode method_3_code 9 = .ok (.if_icmp .eq 15, 3) := by decide +kernel
theorem own_d2_12 : decode method_3_code 12 = .ok (.iload_n 0, 1) := by decide +kernel
theorem own_d2_13 : decode method_3_code 13 = .ok (.bipush 10, 2) := by decide +kernel
theorem own_d2_15 : decode method_3_code 15 = .ok (.if_icmp .eq 9, 3) := by decide +kernel
theorem own_d2_18 : decode method_3_code 18 = .ok (.iload_n 0, 1) := by decide +kernel
theorem own_d2_19 : decode method_3_code 19 = .ok (.bipush 13, 2) := by decide +kernel
theorem own_d2_21 : decode method_3_code 21 = .ok (.if_icmp .ne 7, 3) := by decide +kernel
theorem own_d2_24 : decode method_3_code 24 = .ok (.iconst 1, 1) := by decide +kernel
theorem own_d2_25 : decode method_3_code 25 = .ok (.goto 4, 3) := by decide +kernel
theorem own_d2_28 : decode method_3_code 28 = .ok (.iconst 0, 1) := by decide +kernel
theorem own_d2_29 : decode method_3_code 29 = .ok (.ireturn, 1) := by decide +kernel
theorem own_ef2 (m : MethodId) (p0 : Int32) : entryFrame m #[(.int p0)] 1 = mkF m 0 #[.val (.int p0)] [] := by first | (simp [entryFrame, mkF, argsToLocals, Value.category]; done) | rfl
def own_Q2 (Z : State) (p0 : Int32)  (h0 : Heap) (n0 : Nat) (v : Option Value) (h : Heap) (L : List Loc) : Prop := v = some (.int (own_ws p0)) ∧ Fr n0 L ∧ h = h0
set_option maxRecDepth 65536 in
set_option maxHeartbeats 40000000 in
theorem own_rm2 (l : Launch) (Z : State) (a0 : Array Value) (hw : ∀ d ∈ tables_1, d.before a0 Z = true) (ws : List Jvm.Cond) (p0 : Int32)  (h0 : Heap) (n0 : Nat) (Z0 : n0 ≤ h0.size)  :
    MetFree l (⟨"com/example/parley/parley/io/CompetitionXmlLooksLikeXmlPinLaw", "ws", "(B)Z"⟩ : MethodName) (head1 (Jvm.Cond.code (⟨"com/example/parley/parley/io/CompetitionXmlLooksLikeXmlPinLaw", "ws", "(B)Z"⟩ : MethodName) method_3_code 1 (some .boolean) :: ws) ({ frames := 0, cells := 0, slots := 0, locals := 0 } : Room)) (fun a U => a = #[(.int p0)] ∧ Z.Warmed39 U.vm ∧ U.heap = h0) (fun _ _ _ _ _ => True) (fun _ U o U' => ∃ v L, o = .returned v ∧ own_Q2 Z p0  h0 n0 v U'.heap L ∧ FrameEnd U o U' L ({ frames := 0, cells := 0, slots := 0, locals := 0 } : Room).cells ({ frames := 0, cells := 0, slots := 0, locals := 0 } : Room).slots) := by
  refine MetFree.of_bodySF (plainFor_of_name own_pn0) hisR ?_
  intro p e s m args below meth c s₁ Bd hml0 hP hK
  obtain ⟨rfl, hZ, hh⟩ := hP
  have hx := Bd.exec
  have hby := Bd.bytes
  have hml : c.maxLocals = 1 := hml0
  have hown : s.vm.findClass "com/example/parley/parley/io/CompetitionXmlLooksLikeXmlPinLaw" = some m.cls := findClass_of_methodNamed Bd.named
  have hnm := (name_of_methodNamed Bd.named Bd.method).1
  have X0 : Stand p l e ({ frames := 0, cells := 0, slots := 0, locals := 0 } : Room) s m #[(.int p0)] below meth c s₁ [] 0 0 := Stand.of_body Bd
  have e0 : s₁.heap = h0 := by rw [← hh, Bd.state]; rfl
  have N0 := Fr.nil n0
  suffices H : own_Ends p e below s ({ frames := 0, cells := 0, slots := 0, locals := 0 } : Room).cells ({ frames := 0, cells := 0, slots := 0, locals := 0 } : Room).slots (own_Q2 Z p0  h0 n0) (s₁.setTop (mkF m 0 #[.val (.int p0)] [])) by
    obtain ⟨s₂, o, h1, h2⟩ := H
    exact ⟨s₂, o, castTop (own_ef2 m p0) h1, h2⟩
  show own_Ends _ _ _ _ _ _ _ (s₁.setTop (mkF m 0 #[.val (.int p0)] []))
  refine own_step (fun _ k => XS.iloadN X0.here hx rfl (hb hby own_d2_0) rfl k) ?_
  show own_Ends _ _ _ _ _ _ _ (s₁.setTop (mkF m 1 #[.val (.int p0)] [(.int p0)]))
  refine own_step (fun _ k => XS.bipush X0.here hx rfl (hb hby own_d2_1) k) ?_
  show own_Ends _ _ _ _ _ _ _ (s₁.setTop (mkF m 3 #[.val (.int p0)] [(.int (32 : Int32)), (.int p0)]))
  by_cases h1 : p0 = (32 : Int32)
  · refine own_step (fun _ k => XS.icmpYes X0.here hx rfl (pc0 := 3) (pc' := 24) rfl (hb hby own_d2_3) rfl (teq h1).1 (by decide) (by decide) k) ?_
    show own_Ends _ _ _ _ _ _ _ (s₁.setTop (mkF m 24 #[.val (.int p0)] []))
    refine own_step (fun _ k => XS.iconst X0.here hx rfl (hb hby own_d2_24) k) ?_
    show own_Ends _ _ _ _ _ _ _ (s₁.setTop (mkF m 25 #[.val (.int p0)] [(.int (1 : Int32))]))
    refine own_step (fun _ k => XS.goto X0.here hx rfl (pc0 := 25) (pc' := 29) rfl (hb hby own_d2_25) (by decide) (by decide) k) ?_
    show own_Ends _ _ _ _ _ _ _ (s₁.setTop (mkF m 29 #[.val (.int p0)] [(.int (1 : Int32))]))
    refine own_ret X0 (BodyLoose.notSynchronized Bd) (v := (some (.int (1 : Int32)))) (fun h => by rw [Bd.returns] at h; cases h) ?_ (by decide) (by decide) (fun fs hr => X0.ireturnOut hx Bd.returns rfl (by simp) (hb hby own_d2_29) hr)
    show own_Q2 Z p0  h0 n0 (some (.int (1 : Int32))) s₁.heap _
    rw [e0]
    exact ⟨by simp [own_ws, h1], N0, rfl⟩
  · refine own_step (fun _ k => XS.icmpNo X0.here hx rfl (hb hby own_d2_3) rfl (feq h1).1 k) ?_
    show own_Ends _ _ _ _ _ _ _ (s₁.setTop (mkF m 6 #[.val (.int p0)] []))
    refine own_step (fun _ k => XS.iloadN X0.here hx rfl (hb hby own_d2_6) rfl k) ?_
    show own_Ends _ _ _ _ _ _ _ (s₁.setTop (mkF m 7 #[.val (.int p0)] [(.int p0)]))
    refine own_step (fun _ k => XS.bipush X0.here hx rfl (hb hby own_d2_7) k) ?_
    show own_Ends _ _ _ _ _ _ _ (s₁.setTop (mkF m 9 #[.val (.int p0)] [(.int (9 : Int32)), (.int p0)]))
    by_cases h2 : p0 = (9 : Int32)
    · refine own_step (fun _ k => XS.icmpYes X0.here hx rfl (pc0 := 9) (pc' := 24) rfl (hb hby own_d2_9) rfl (teq h2).1 (by decide) (by decide) k) ?_
      show own_Ends _ _ _ _ _ _ _ (s₁.setTop (mkF m 24 #[.val (.int p0)] []))
      refine own_step (fun _ k => XS.iconst X0.here hx rfl (hb hby own_d2_24) k) ?_
      show own_Ends _ _ _ _ _ _ _ (s₁.setTop (mkF m 25 #[.val (.int p0)] [(.int (1 : Int32))]))
      refine own_step (fun _ k => XS.goto X0.here hx rfl (pc0 := 25) (pc' := 29) rfl (hb hby own_d2_25) (by decide) (by decide) k) ?_
      show own_Ends _ _ _ _ _ _ _ (s₁.setTop (mkF m 29 #[.val (.int p0)] [(.int (1 : Int32))]))
      refine own_ret X0 (BodyLoose.notSynchronized Bd) (v := (some (.int (1 : Int32)))) (fun h => by rw [Bd.returns] at h; cases h) ?_ (by decide) (by decide) (fun fs hr => X0.ireturnOut hx Bd.returns rfl (by simp) (hb hby own_d2_29) hr)
      show own_Q2 Z p0  h0 n0 (some (.int (1 : Int32))) s₁.heap _
      rw [e0]
      exact ⟨by simp [own_ws, h1, h2], N0, rfl⟩
    · refine own_step (fun _ k => XS.icmpNo X0.here hx rfl (hb hby own_d2_9) rfl (feq h2).1 k) ?_
      show own_Ends _ _ _ _ _ _ _ (s₁.setTop (mkF m 12 #[.val (.int p0)] []))
      refine own_step (fun _ k => XS.iloadN X0.here hx rfl (hb hby own_d2_12) rfl k) ?_
      show own_Ends _ _ _ _ _ _ _ (s₁.setTop (mkF m 13 #[.val (.int p0)] [(.int p0)]))
      refine own_step (fun _ k => XS.bipush X0.here hx rfl (hb hby own_d2_13) k) ?_
      show own_Ends _ _ _ _ _ _ _ (s₁.setTop (mkF m 15 #[.val (.int p0)] [(.int (10 : Int32)), (.int p0)]))
      by_cases h3 : p0 = (10 : Int32)
      · refine own_step (fun _ k => XS.icmpYes X0.here hx rfl (pc0 := 15) (pc' := 24) rfl (hb hby own_d2_15) rfl (teq h3).1 (by decide) (by decide) k) ?_
        show own_Ends _ _ _ _ _ _ _ (s₁.setTop (mkF m 24 #[.val (.int p0)] []))
        refine own_step (fun _ k => XS.iconst X0.here hx rfl (hb hby own_d2_24) k) ?_
        show own_Ends _ _ _ _ _ _ _ (s₁.setTop (mkF m 25 #[.val (.int p0)] [(.int (1 : Int32))]))
        refine own_step (fun _ k => XS.goto X0.here hx rfl (pc0 := 25) (pc' := 29) rfl (hb hby own_d2_25) (by decide) (by decide) k) ?_
        show own_Ends _ _ _ _ _ _ _ (s₁.setTop (mkF m 29 #[.val (.int p0)] [(.int (1 : Int32))]))
        refine own_ret X0 (BodyLoose.notSynchronized Bd) (v := (some (.int (1 : Int32)))) (fun h => by rw [Bd.returns] at h; cases h) ?_ (by decide) (by decide) (fun fs hr => X0.ireturnOut hx Bd.returns rfl (by simp) (hb hby own_d2_29) hr)
        show own_Q2 Z p0  h0 n0 (some (.int (1 : Int32))) s₁.heap _
        rw [e0]
        exact ⟨by simp [own_ws, h1, h2, h3], N0, rfl⟩
      · refine own_step (fun _ k => XS.icmpNo X0.here hx rfl (hb hby own_d2_15) rfl (feq h3).1 k) ?_
        show own_Ends _ _ _ _ _ _ _ (s₁.setTop (mkF m 18 #[.val (.int p0)] []))
        refine own_step (fun _ k => XS.iloadN X0.here hx rfl (hb hby own_d2_18) rfl k) ?_
        show own_Ends _ _ _ _ _ _ _ (s₁.setTop (mkF m 19 #[.val (.int p0)] [(.int p0)]))
        refine own_step (fun _ k => XS.bipush X0.here hx rfl (hb hby own_d2_19) k) ?_
        show own_Ends _ _ _ _ _ _ _ (s₁.setTop (mkF m 21 #[.val (.int p0)] [(.int (13 : Int32)), (.int p0)]))
        by_cases h4 : p0 = (13 : Int32)
        · refine own_step (fun _ k => XS.icmpNo X0.here hx rfl (hb hby own_d2_21) rfl (teq h4).2 k) ?_
          show own_Ends _ _ _ _ _ _ _ (s₁.setTop (mkF m 24 #[.val (.int p0)] []))
          refine own_step (fun _ k => XS.iconst X0.here hx rfl (hb hby own_d2_24) k) ?_
          show own_Ends _ _ _ _ _ _ _ (s₁.setTop (mkF m 25 #[.val (.int p0)] [(.int (1 : Int32))]))
          refine own_step (fun _ k => XS.goto X0.here hx rfl (pc0 := 25) (pc' := 29) rfl (hb hby own_d2_25) (by decide) (by decide) k) ?_
          show own_Ends _ _ _ _ _ _ _ (s₁.setTop (mkF m 29 #[.val (.int p0)] [(.int (1 : Int32))]))
          refine own_ret X0 (BodyLoose.notSynchronized Bd) (v := (some (.int (1 : Int32)))) (fun h => by rw [Bd.returns] at h; cases h) ?_ (by decide) (by decide) (fun fs hr => X0.ireturnOut hx Bd.returns rfl (by simp) (hb hby own_d2_29) hr)
          show own_Q2 Z p0  h0 n0 (some (.int (1 : Int32))) s₁.heap _
          rw [e0]
          exact ⟨by simp [own_ws, h1, h2, h3, h4], N0, rfl⟩
        · refine own_step (fun _ k => XS.icmpYes X0.here hx rfl (pc0 := 21) (pc' := 28) rfl (hb hby own_d2_21) rfl (feq h4).2 (by decide) (by decide) k) ?_
          show own_Ends _ _ _ _ _ _ _ (s₁.setTop (mkF m 28 #[.val (.int p0)] []))
          refine own_step (fun _ k => XS.iconst X0.here hx rfl (hb hby own_d2_28) k) ?_
          show own_Ends _ _ _ _ _ _ _ (s₁.setTop (mkF m 29 #[.val (.int p0)] [(.int (0 : Int32))]))
          refine own_ret X0 (BodyLoose.notSynchronized Bd) (v := (some (.int (0 : Int32)))) (fun h => by rw [Bd.returns] at h; cases h) ?_ (by decide) (by decide) (fun fs hr => X0.ireturnOut hx Bd.returns rfl (by simp) (hb hby own_d2_29) hr)
          show own_Q2 Z p0  h0 n0 (some (.int (0 : Int32))) s₁.heap _
          rw [e0]
          exact ⟨by simp [own_ws, h1, h2, h3, h4], N0, rfl⟩
theorem own_d3_0 : decode prog_27_method_4_code 0 = .ok (.aload_n 0, 1) := by decide +kernel
theorem own_d3_1 : decode prog_27_method_4_code 1 = .ok (.arraylength, 1) := by decide +kernel
theorem own_d3_2 : decode prog_27_method_4_code 2 = .ok (.iconst 3, 1) := by decide +kernel
theorem own_d3_3 : decode prog_27_method_4_code 3 = .ok (.if_icmp .lt 46, 3) := by decide +kernel
theorem own_d3_6 : decode prog_27_method_4_code 6 = .ok (.aload_n 0, 1) := by decide +kernel
theorem own_d3_7 : decode prog_27_method_4_code 7 = .ok (.iconst 0, 1) := by decide +kernel
theorem own_d3_8 : decode prog_27_method_4_code 8 = .ok (.baload, 1) := by decide +kernel
theorem own_d3_9 : decode prog_27_method_4_code 9 = .ok (.sipush 255, 3) := by decide +kernel
theorem own_d3_12 : decode prog_27_method_4_code 12 = .ok (.iand, 1) := by decide +kernel
theorem own_d3_13 : decode prog_27_method_4_code 13 = .ok (.sipush 239, 3) := by decide +kernel
theorem own_d3_16 : decode prog_27_method_4_code 16 = .ok (.if_icmp .ne 33, 3) := by decide +kernel
theorem own_d3_19 : decode prog_27_method_4_code 19 = .ok (.aload_n 0, 1) := by decide +kernel
theorem own_d3_20 : decode prog_27_method_4_code 20 = .ok (.iconst 1, 1) := by decide +kernel
theorem own_d3_21 : decode prog_27_method_4_code 21 = .ok (.baload, 1) := by decide +kernel
theorem own_d3_22 : decode prog_27_method_4_code 22 = .ok (.sipush 255, 3) := by decide +kernel
theorem own_d3_25 : decode prog_27_method_4_code 25 = .ok (.iand, 1) := by decide +kernel
theorem own_d3_26 : decode prog_27_method_4_code 26 = .ok (.sipush 187, 3) := by decide +kernel
theorem own_d3_29 : decode prog_27_method_4_code 29 = .ok (.if_icmp .ne 20, 3) := by decide +kernel
theorem own_d3_32 : decode prog_27_method_4_code 32 = .ok (.aload_n 0, 1) := by decide +kernel
theorem own_d3_33 : decode prog_27_method_4_code 33 = .ok (.iconst 2, 1) := by decide +kernel
theorem own_d3_34 : decode prog_27_method_4_code 34 = .ok (.baload, 1) := by decide +kernel
theorem own_d3_35 : decode prog_27_method_4_code 35 = .ok (.sipush 255, 3) := by decide +kernel
theorem own_d3_38 : decode prog_27_method_4_code 38 = .ok (.iand, 1) := by decide +kernel
theorem own_d3_39 : decode prog_27_method_4_code 39 = .ok (.sipush 191, 3) := by decide +kernel
theorem own_d3_42 : decode prog_27_method_4_code 42 = .ok (.if_icmp .ne 7, 3) := by decide +kernel
theorem own_d3_45 : decode prog_27_method_4_code 45 = .ok (.iconst 3, 1) := by decide +kernel
theorem own_d3_46 : decode prog_27_method_4_code 46 = .ok (.goto 4, 3) := by decide +kernel
theorem own_d3_49 : decode prog_27_method_4_code 49 = .ok (.iconst 0, 1) := by decide +kernel
theorem own_d3_50 : decode prog_27_method_4_code 50 = .ok (.istore_n 1, 1) := by decide +kernel
theorem own_d3_51 : decode prog_27_method_4_code 51 = .ok (.iload_n 1, 1) := by decide +kernel
theorem own_d3_52 : decode prog_27_method_4_code 52 = .ok (.istore_n 2, 1) := by decide +kernel
theorem own_d3_53 : decode prog_27_method_4_code 53 = .ok (.iload_n 2, 1) := by decide +kernel
theorem own_d3_54 : decode prog_27_method_4_code 54 = .ok (.aload_n 0, 1) := by decide +kernel
theorem own_d3_55 : decode prog_27_method_4_code 55 = .ok (.arraylength, 1) := by decide +kernel
theorem own_d3_56 : decode prog_27_method_4_code 56 = .ok (.if_icmp .ge 49, 3) := by decide +kernel
theorem own_d3_59 : decode prog_27_method_4_code 59 = .ok (.aload_n 0, 1) := by decide +kernel
theorem own_d3_60 : decode prog_27_method_4_code 60 = .ok (.iload_n 2, 1) := by decide +kernel
theorem own_d3_61 : decode prog_27_method_4_code 61 = .ok (.baload, 1) := by decide +kernel
theorem own_d3_62 : decode prog_27_method_4_code 62 = .ok (.istore_n 3, 1) := by decide +kernel
theorem own_d3_63 : decode prog_27_method_4_code 63 = .ok (.iload_n 3, 1) := by decide +kernel
theorem own_d3_64 : decode prog_27_method_4_code 64 = .ok (.bipush 32, 2) := by decide +kernel
theorem own_d3_66 : decode prog_27_method_4_code 66 = .ok (.if_icmp .eq 33, 3) := by decide +kernel
theorem own_d3_69 : decode prog_27_method_4_code 69 = .ok (.iload_n 3, 1) := by decide +kernel
theorem own_d3_70 : decode prog_27_method_4_code 70 = .ok (.bipush 9, 2) := by decide +kernel
theorem own_d3_72 : decode prog_27_method_4_code 72 = .ok (.if_icmp .eq 27, 3) := by decide +kernel
theorem own_d3_75 : decode prog_27_method_4_code 75 = .ok (.iload_n 3, 1) := by decide +kernel
theorem own_d3_76 : decode prog_27_method_4_code 76 = .ok (.bipush 10, 2) := by decide +kernel
theorem own_d3_78 : decode prog_27_method_4_code 78 = .ok (.if_icmp .eq 21, 3) := by decide +kernel
theorem own_d3_81 : decode prog_27_method_4_code 81 = .ok (.iload_n 3, 1) := by decide +kernel
theorem own_d3_82 : decode prog_27_method_4_code 82 = .ok (.bipush 13, 2) := by decide +kernel
theorem own_d3_84 : decode prog_27_method_4_code 84 = .ok (.if_icmp .eq 15, 3) := by decide +kernel
theorem own_d3_87 : decode prog_27_method_4_code 87 = .ok (.iload_n 3, 1) := by decide +kernel
theorem own_d3_88 : decode prog_27_method_4_code 88 = .ok (.bipush 60, 2) := by decide +kernel
theorem own_d3_90 : decode prog_27_method_4_code 90 = .ok (.if_icmp .ne 7, 3) := by decide +kernel
theorem own_d3_93 : decode prog_27_method_4_code 93 = .ok (.iconst 1, 1) := by decide +kernel
theorem own_d3_94 : decode prog_27_method_4_code 94 = .ok (.goto 4, 3) := by decide +kernel
theorem own_d3_97 : decode prog_27_method_4_code 97 = .ok (.iconst 0, 1) := by decide +kernel
theorem own_d3_98 : decode prog_27_method_4_code 98 = .ok (.ireturn, 1) := by decide +kernel
theorem own_d3_99 : decode prog_27_method_4_code 99 = .ok (.iinc 2 1, 3) := by decide +kernel
theorem own_d3_102 : decode prog_27_method_4_code 102 = .ok (.goto (-49), 3) := by decide +kernel
theorem own_d3_105 : decode prog_27_method_4_code 105 = .ok (.iconst 0, 1) := by decide +kernel
theorem own_d3_106 : decode prog_27_method_4_code 106 = .ok (.ireturn, 1) := by decide +kernel
theorem own_pn1 : plainName "com/example/parley/parley/io/CompetitionXml" = true := by first | (simp [plainName, overriddenIn]; done) | decide +kernel
theorem own_ef3 (m : MethodId) (r0 : Addr) : entryFrame m #[(.ref r0)] 4 = mkF m 0 #[.val (.ref r0), .unset, .unset, .unset] [] := by first | (simp [entryFrame, mkF, argsToLocals, Value.category]; done) | rfl
def own_Q3 (Z : State) (r0 : Addr) (cl : Cell) (bs : List Int32) (h0 : Heap) (n0 : Nat) (v : Option Value) (h : Heap) (L : List Loc) : Prop := v = some (.int (own_looks bs)) ∧ Fr n0 L ∧ h = h0
set_option maxRecDepth 65536 in
set_option maxHeartbeats 40000000 in
theorem own_rm3 (l : Launch) (Z : State) (a0 : Array Value) (hw : ∀ d ∈ tables_1, d.before a0 Z = true) (ws : List Jvm.Cond) (r0 : Addr) (cl : Cell) (bs : List Int32) (h0 : Heap) (n0 : Nat) (Z0 : n0 ≤ h0.size) (Ar : Arr Z h0 r0 cl .byte) (hS : cl.slots.size = bs.length) (hM : bs.length < 999) (hat : ∀ (i : Nat) (h : i < bs.length), cl.slots[i]? = some (.int bs[i])) (hby' : ∀ b ∈ bs, nar .byte b = b) :
    MetFree l (⟨"com/example/parley/parley/io/CompetitionXml", "looksLikeXml", "([B)Z"⟩ : MethodName) (head1 (Jvm.Cond.code (⟨"com/example/parley/parley/io/CompetitionXml", "looksLikeXml", "([B)Z"⟩ : MethodName) prog_27_method_4_code 4 (some .boolean) :: ws) ({ frames := 0, cells := 0, slots := 0, locals := 0 } : Room)) (fun a U => a = #[(.ref r0)] ∧ Z.Warmed39 U.vm ∧ U.heap = h0) (fun _ _ _ _ _ => True) (fun _ U o U' => ∃ v L, o = .returned v ∧ own_Q3 Z r0 cl bs h0 n0 v U'.heap L ∧ FrameEnd U o U' L ({ frames := 0, cells := 0, slots := 0, locals := 0 } : Room).cells ({ frames := 0, cells := 0, slots := 0, locals := 0 } : Room).slots) := by
  refine MetFree.of_bodySF (plainFor_of_name own_pn1) hisR ?_
  intro p e s m args below meth c s₁ Bd hml0 hP hK
  obtain ⟨rfl, hZ, hh⟩ := hP
  have hx := Bd.exec
  have hby := Bd.bytes
  have hml : c.maxLocals = 4 := hml0
  have hown : s.vm.findClass "com/example/parley/parley/io/CompetitionXml" = some m.cls := findClass_of_methodNamed Bd.named
  have hnm := (name_of_methodNamed Bd.named Bd.method).1
  have X0 : Stand p l e ({ frames := 0, cells := 0, slots := 0, locals := 0 } : Room) s m #[(.ref r0)] below meth c s₁ [] 0 0 := Stand.of_body Bd
  have e0 : s₁.heap = h0 := by rw [← hh, Bd.state]; rfl
  have N0 := Fr.nil n0
  suffices H : own_Ends p e below s ({ frames := 0, cells := 0, slots := 0, locals := 0 } : Room).cells ({ frames := 0, cells := 0, slots := 0, locals := 0 } : Room).slots (own_Q3 Z r0 cl bs h0 n0) (s₁.setTop (mkF m 0 #[.val (.ref r0), .unset, .unset, .unset] [])) by
    obtain ⟨s₂, o, h1, h2⟩ := H
    exact ⟨s₂, o, castTop (own_ef3 m r0) h1, h2⟩
  show own_Ends _ _ _ _ _ _ _ (s₁.setTop (mkF m 0 #[.val (.ref r0), .unset, .unset, .unset] []))
  refine own_step (fun _ k => XS.aloadN X0.here hx rfl (hb hby own_d3_0) rfl rfl k) ?_
  show own_Ends _ _ _ _ _ _ _ (s₁.setTop (mkF m 1 #[.val (.ref r0), .unset, .unset, .unset] [(.ref r0)]))
  refine own_step (fun _ k => X0.arraylength hx (by rw [e0]; exact Ar.1) (State.isArrayOf_alike hZ.alike Ar.2.1) (g := (mkF m 1 #[.val (.ref r0), .unset, .unset, .unset] [(.ref r0)])) rfl rfl (hb hby own_d3_1) _ k) ?_
  rw [hS]
  show own_Ends _ _ _ _ _ _ _ (s₁.setTop (mkF m 2 #[.val (.ref r0), .unset, .unset, .unset] [(.int (Int32.ofNat bs.length))]))
  refine own_step (fun _ k => XS.iconst X0.here hx rfl (hb hby own_d3_2) k) ?_
  show own_Ends _ _ _ _ _ _ _ (s₁.setTop (mkF m 3 #[.val (.ref r0), .unset, .unset, .unset] [(.int (3 : Int32)), (.int (Int32.ofNat bs.length))]))
  have J50_1 : ∀ (st : Nat) (hst : st = own_start bs), own_Ends p e below s ({ frames := 0, cells := 0, slots := 0, locals := 0 } : Room).cells ({ frames := 0, cells := 0, slots := 0, locals := 0 } : Room).slots (own_Q3 Z r0 cl bs h0 n0) (s₁.setTop (mkF m 50 #[.val (.ref r0), .unset, .unset, .unset] [(.int (Int32.ofNat st))])) := by
    intro st hst
    show own_Ends _ _ _ _ _ _ _ (s₁.setTop (mkF m 50 #[.val (.ref r0), .unset, .unset, .unset] [(.int (Int32.ofNat st))]))
    refine own_step (fun _ k => XS.istoreN X0.here hx rfl (hb hby own_d3_50) rfl (l' := #[.val (.ref r0), .val (.int (Int32.ofNat st)), .unset, .unset]) rfl k) ?_
    show own_Ends _ _ _ _ _ _ _ (s₁.setTop (mkF m 51 #[.val (.ref r0), .val (.int (Int32.ofNat st)), .unset, .unset] []))
    refine own_step (fun _ k => XS.iloadN X0.here hx rfl (hb hby own_d3_51) rfl k) ?_
    show own_Ends _ _ _ _ _ _ _ (s₁.setTop (mkF m 52 #[.val (.ref r0), .val (.int (Int32.ofNat st)), .unset, .unset] [(.int (Int32.ofNat st))]))
    refine own_step (fun _ k => XS.istoreN X0.here hx rfl (hb hby own_d3_52) rfl (l' := #[.val (.ref r0), .val (.int (Int32.ofNat st)), .val (.int (Int32.ofNat st)), .unset]) rfl k) ?_
    show own_Ends _ _ _ _ _ _ _ (s₁.setTop (mkF m 53 #[.val (.ref r0), .val (.int (Int32.ofNat st)), .val (.int (Int32.ofNat st)), .unset] []))
    have loop : ∀ (k i : Nat) (sl : Slot), One sl → i + k = bs.length → own_looks bs = own_first (bs.drop i) → own_Ends p e below s ({ frames := 0, cells := 0, slots := 0, locals := 0 } : Room).cells ({ frames := 0, cells := 0, slots := 0, locals := 0 } : Room).slots (own_Q3 Z r0 cl bs h0 n0) (s₁.setTop (mkF m 53 #[.val (.ref r0), .val (.int (Int32.ofNat st)), .val (.int (Int32.ofNat i)), sl] [])) := by
      intro k
      induction k with
      | zero =>
        intro i sl hsl hk hbl
        show own_Ends _ _ _ _ _ _ _ (s₁.setTop (mkF m 53 #[.val (.ref r0), .val (.int (Int32.ofNat st)), .val (.int (Int32.ofNat i)), sl] []))
        refine own_step (fun _ k => XS.iloadN X0.here hx rfl (hb hby own_d3_53) rfl k) ?_
        show own_Ends _ _ _ _ _ _ _ (s₁.setTop (mkF m 54 #[.val (.ref r0), .val (.int (Int32.ofNat st)), .val (.int (Int32.ofNat i)), sl] [(.int (Int32.ofNat i))]))
        refine own_step (fun _ k => XS.aloadN X0.here hx rfl (hb hby own_d3_54) rfl rfl k) ?_
        show own_Ends _ _ _ _ _ _ _ (s₁.setTop (mkF m 55 #[.val (.ref r0), .val (.int (Int32.ofNat st)), .val (.int (Int32.ofNat i)), sl] [(.ref r0), (.int (Int32.ofNat i))]))
        refine own_step (fun _ k => X0.arraylength hx (by rw [e0]; exact Ar.1) (State.isArrayOf_alike hZ.alike Ar.2.1) (g := (mkF m 55 #[.val (.ref r0), .val (.int (Int32.ofNat st)), .val (.int (Int32.ofNat i)), sl] [(.ref r0), (.int (Int32.ofNat i))])) rfl rfl (hb hby own_d3_55) _ k) ?_
        rw [hS]
        show own_Ends _ _ _ _ _ _ _ (s₁.setTop (mkF m 56 #[.val (.ref r0), .val (.int (Int32.ofNat st)), .val (.int (Int32.ofNat i)), sl] [(.int (Int32.ofNat bs.length)), (.int (Int32.ofNat i))]))
        refine own_step (fun _ k => XS.icmpYes X0.here hx rfl (pc0 := 56) (pc' := 105) rfl (hb hby own_d3_56) rfl (flt (own_nl (by omega) (by omega) (by omega))).2.1 (by decide) (by decide) k) ?_
        show own_Ends _ _ _ _ _ _ _ (s₁.setTop (mkF m 105 #[.val (.ref r0), .val (.int (Int32.ofNat st)), .val (.int (Int32.ofNat i)), sl] []))
        refine own_step (fun _ k => XS.iconst X0.here hx rfl (hb hby own_d3_105) k) ?_
        show own_Ends _ _ _ _ _ _ _ (s₁.setTop (mkF m 106 #[.val (.ref r0), .val (.int (Int32.ofNat st)), .val (.int (Int32.ofNat i)), sl] [(.int (0 : Int32))]))
        refine own_ret X0 (BodyLoose.notSynchronized Bd) (v := (some (.int (0 : Int32)))) (fun h => by rw [Bd.returns] at h; cases h) ?_ (by decide) (by decide) (fun fs hr => X0.ireturnOut hx Bd.returns rfl (by simp) (hb hby own_d3_106) hr)
        show own_Q3 Z r0 cl bs h0 n0 (some (.int (0 : Int32))) s₁.heap _
        rw [e0]
        exact ⟨by rw [hbl, List.drop_eq_nil_of_le (by omega)]; rfl, N0, rfl⟩
      | succ k ih =>
        intro i sl hsl hk hbl
        have hi : i < bs.length := by omega
        rw [own_cut hi] at hbl
        have hv : cl.slots[(Int32.ofNat i).toNatClampNeg]? = some (.int bs[i]) := by rw [own_tn (by omega)]; exact hat i hi
        show own_Ends _ _ _ _ _ _ _ (s₁.setTop (mkF m 53 #[.val (.ref r0), .val (.int (Int32.ofNat st)), .val (.int (Int32.ofNat i)), sl] []))
        refine own_step (fun _ k => XS.iloadN X0.here hx rfl (hb hby own_d3_53) rfl k) ?_
        show own_Ends _ _ _ _ _ _ _ (s₁.setTop (mkF m 54 #[.val (.ref r0), .val (.int (Int32.ofNat st)), .val (.int (Int32.ofNat i)), sl] [(.int (Int32.ofNat i))]))
        refine own_step (fun _ k => XS.aloadN X0.here hx rfl (hb hby own_d3_54) rfl rfl k) ?_
        show own_Ends _ _ _ _ _ _ _ (s₁.setTop (mkF m 55 #[.val (.ref r0), .val (.int (Int32.ofNat st)), .val (.int (Int32.ofNat i)), sl] [(.ref r0), (.int (Int32.ofNat i))]))
        refine own_step (fun _ k => X0.arraylength hx (by rw [e0]; exact Ar.1) (State.isArrayOf_alike hZ.alike Ar.2.1) (g := (mkF m 55 #[.val (.ref r0), .val (.int (Int32.ofNat st)), .val (.int (Int32.ofNat i)), sl] [(.ref r0), (.int (Int32.ofNat i))])) rfl rfl (hb hby own_d3_55) _ k) ?_
        rw [hS]
        show own_Ends _ _ _ _ _ _ _ (s₁.setTop (mkF m 56 #[.val (.ref r0), .val (.int (Int32.ofNat st)), .val (.int (Int32.ofNat i)), sl] [(.int (Int32.ofNat bs.length)), (.int (Int32.ofNat i))]))
        refine own_step (fun _ k => XS.icmpNo X0.here hx rfl (hb hby own_d3_56) rfl (tlt (own_il hi (by omega))).2.1 k) ?_
        show own_Ends _ _ _ _ _ _ _ (s₁.setTop (mkF m 59 #[.val (.ref r0), .val (.int (Int32.ofNat st)), .val (.int (Int32.ofNat i)), sl] []))
        refine own_step (fun _ k => XS.aloadN X0.here hx rfl (hb hby own_d3_59) rfl rfl k) ?_
        show own_Ends _ _ _ _ _ _ _ (s₁.setTop (mkF m 60 #[.val (.ref r0), .val (.int (Int32.ofNat st)), .val (.int (Int32.ofNat i)), sl] [(.ref r0)]))
        refine own_step (fun _ k => XS.iloadN X0.here hx rfl (hb hby own_d3_60) rfl k) ?_
        show own_Ends _ _ _ _ _ _ _ (s₁.setTop (mkF m 61 #[.val (.ref r0), .val (.int (Int32.ofNat st)), .val (.int (Int32.ofNat i)), sl] [(.int (Int32.ofNat i)), (.ref r0)]))
        refine own_step (fun _ k => X0.baloadBytes hx (j := (Int32.ofNat i)) (v := (.int bs[i])) (by rw [e0]; exact Ar.1) (State.isArrayOf_alike hZ.alike Ar.2.1) Ar.2.2 (own_in hS (by omega) hi) hv (g := (mkF m 61 #[.val (.ref r0), .val (.int (Int32.ofNat st)), .val (.int (Int32.ofNat i)), sl] [(.int (Int32.ofNat i)), (.ref r0)])) rfl rfl (hb hby own_d3_61) _ k) ?_
        show own_Ends _ _ _ _ _ _ _ (s₁.setTop (mkF m 62 #[.val (.ref r0), .val (.int (Int32.ofNat st)), .val (.int (Int32.ofNat i)), sl] [(.int bs[i])]))
        generalize bs[i] = b at hbl hv ⊢
        refine own_step (fun _ k => XS.istoreN X0.here hx rfl (hb hby own_d3_62) rfl (l' := #[.val (.ref r0), .val (.int (Int32.ofNat st)), .val (.int (Int32.ofNat i)), .val (.int b)]) (by rcases hsl with rfl | ⟨w, rfl, hw⟩ <;> first | rfl | (cases w <;> first | rfl | (simp [Value.category] at hw))) k) ?_
        show own_Ends _ _ _ _ _ _ _ (s₁.setTop (mkF m 63 #[.val (.ref r0), .val (.int (Int32.ofNat st)), .val (.int (Int32.ofNat i)), .val (.int b)] []))
        have J99_2 : ∀ (hok : ¬ own_ws b = 0), own_Ends p e below s ({ frames := 0, cells := 0, slots := 0, locals := 0 } : Room).cells ({ frames := 0, cells := 0, slots := 0, locals := 0 } : Room).slots (own_Q3 Z r0 cl bs h0 n0) (s₁.setTop (mkF m 99 #[.val (.ref r0), .val (.int (Int32.ofNat st)), .val (.int (Int32.ofNat i)), .val (.int b)] [])) := by
          intro hok
          show own_Ends _ _ _ _ _ _ _ (s₁.setTop (mkF m 99 #[.val (.ref r0), .val (.int (Int32.ofNat st)), .val (.int (Int32.ofNat i)), .val (.int b)] []))
          refine own_step (fun _ k => XS.iinc X0.here hx rfl (hb hby own_d3_99) rfl (l' := #[.val (.ref r0), .val (.int (Int32.ofNat st)), .val (.int ((Int32.ofNat i) + (1 : Int32))), .val (.int b)]) rfl k) ?_
          show own_Ends _ _ _ _ _ _ _ (s₁.setTop (mkF m 102 #[.val (.ref r0), .val (.int (Int32.ofNat st)), .val (.int ((Int32.ofNat i) + (1 : Int32))), .val (.int b)] []))
          rw [own_up]
          show own_Ends _ _ _ _ _ _ _ (s₁.setTop (mkF m 102 #[.val (.ref r0), .val (.int (Int32.ofNat st)), .val (.int (Int32.ofNat (i + 1))), .val (.int b)] []))
          refine own_step (fun _ k => XS.goto X0.here hx rfl (pc0 := 102) (pc' := 53) rfl (hb hby own_d3_102) (by decide) (by decide) k) ?_
          show own_Ends _ _ _ _ _ _ _ (s₁.setTop (mkF m 53 #[.val (.ref r0), .val (.int (Int32.ofNat st)), .val (.int (Int32.ofNat (i + 1))), .val (.int b)] []))
          rw [if_neg hok] at hbl
          exact ih (i + 1) _ (One.val rfl) (by omega) hbl
        refine own_step (fun _ k => XS.iloadN X0.here hx rfl (hb hby own_d3_63) rfl k) ?_
        show own_Ends _ _ _ _ _ _ _ (s₁.setTop (mkF m 64 #[.val (.ref r0), .val (.int (Int32.ofNat st)), .val (.int (Int32.ofNat i)), .val (.int b)] [(.int b)]))
        refine own_step (fun _ k => XS.bipush X0.here hx rfl (hb hby own_d3_64) k) ?_
        show own_Ends _ _ _ _ _ _ _ (s₁.setTop (mkF m 66 #[.val (.ref r0), .val (.int (Int32.ofNat st)), .val (.int (Int32.ofNat i)), .val (.int b)] [(.int (32 : Int32)), (.int b)]))
        by_cases hk0 : b = (32 : Int32)
        · refine own_step (fun _ k => XS.icmpYes X0.here hx rfl (pc0 := 66) (pc' := 99) rfl (hb hby own_d3_66) rfl (teq hk0).1 (by decide) (by decide) k) ?_
          show own_Ends _ _ _ _ _ _ _ (s₁.setTop (mkF m 99 #[.val (.ref r0), .val (.int (Int32.ofNat st)), .val (.int (Int32.ofNat i)), .val (.int b)] []))
          exact J99_2 (by simp [own_ws, hk0])
        · refine own_step (fun _ k => XS.icmpNo X0.here hx rfl (hb hby own_d3_66) rfl (feq hk0).1 k) ?_
          show own_Ends _ _ _ _ _ _ _ (s₁.setTop (mkF m 69 #[.val (.ref r0), .val (.int (Int32.ofNat st)), .val (.int (Int32.ofNat i)), .val (.int b)] []))
          refine own_step (fun _ k => XS.iloadN X0.here hx rfl (hb hby own_d3_69) rfl k) ?_
          show own_Ends _ _ _ _ _ _ _ (s₁.setTop (mkF m 70 #[.val (.ref r0), .val (.int (Int32.ofNat st)), .val (.int (Int32.ofNat i)), .val (.int b)] [(.int b)]))
          refine own_step (fun _ k => XS.bipush X0.here hx rfl (hb hby own_d3_70) k) ?_
          show own_Ends _ _ _ _ _ _ _ (s₁.setTop (mkF m 72 #[.val (.ref r0), .val (.int (Int32.ofNat st)), .val (.int (Int32.ofNat i)), .val (.int b)] [(.int (9 : Int32)), (.int b)]))
          by_cases hk1 : b = (9 : Int32)
          · refine own_step (fun _ k => XS.icmpYes X0.here hx rfl (pc0 := 72) (pc' := 99) rfl (hb hby own_d3_72) rfl (teq hk1).1 (by decide) (by decide) k) ?_
            show own_Ends _ _ _ _ _ _ _ (s₁.setTop (mkF m 99 #[.val (.ref r0), .val (.int (Int32.ofNat st)), .val (.int (Int32.ofNat i)), .val (.int b)] []))
            exact J99_2 (by simp [own_ws, hk0, hk1])
          · refine own_step (fun _ k => XS.icmpNo X0.here hx rfl (hb hby own_d3_72) rfl (feq hk1).1 k) ?_
            show own_Ends _ _ _ _ _ _ _ (s₁.setTop (mkF m 75 #[.val (.ref r0), .val (.int (Int32.ofNat st)), .val (.int (Int32.ofNat i)), .val (.int b)] []))
            refine own_step (fun _ k => XS.iloadN X0.here hx rfl (hb hby own_d3_75) rfl k) ?_
            show own_Ends _ _ _ _ _ _ _ (s₁.setTop (mkF m 76 #[.val (.ref r0), .val (.int (Int32.ofNat st)), .val (.int (Int32.ofNat i)), .val (.int b)] [(.int b)]))
            refine own_step (fun _ k => XS.bipush X0.here hx rfl (hb hby own_d3_76) k) ?_
            show own_Ends _ _ _ _ _ _ _ (s₁.setTop (mkF m 78 #[.val (.ref r0), .val (.int (Int32.ofNat st)), .val (.int (Int32.ofNat i)), .val (.int b)] [(.int (10 : Int32)), (.int b)]))
            by_cases hk2 : b = (10 : Int32)
            · refine own_step (fun _ k => XS.icmpYes X0.here hx rfl (pc0 := 78) (pc' := 99) rfl (hb hby own_d3_78) rfl (teq hk2).1 (by decide) (by decide) k) ?_
              show own_Ends _ _ _ _ _ _ _ (s₁.setTop (mkF m 99 #[.val (.ref r0), .val (.int (Int32.ofNat st)), .val (.int (Int32.ofNat i)), .val (.int b)] []))
              exact J99_2 (by simp [own_ws, hk0, hk1, hk2])
            · refine own_step (fun _ k => XS.icmpNo X0.here hx rfl (hb hby own_d3_78) rfl (feq hk2).1 k) ?_
              show own_Ends _ _ _ _ _ _ _ (s₁.setTop (mkF m 81 #[.val (.ref r0), .val (.int (Int32.ofNat st)), .val (.int (Int32.ofNat i)), .val (.int b)] []))
              refine own_step (fun _ k => XS.iloadN X0.here hx rfl (hb hby own_d3_81) rfl k) ?_
              show own_Ends _ _ _ _ _ _ _ (s₁.setTop (mkF m 82 #[.val (.ref r0), .val (.int (Int32.ofNat st)), .val (.int (Int32.ofNat i)), .val (.int b)] [(.int b)]))
              refine own_step (fun _ k => XS.bipush X0.here hx rfl (hb hby own_d3_82) k) ?_
              show own_Ends _ _ _ _ _ _ _ (s₁.setTop (mkF m 84 #[.val (.ref r0), .val (.int (Int32.ofNat st)), .val (.int (Int32.ofNat i)), .val (.int b)] [(.int (13 : Int32)), (.int b)]))
              by_cases hk3 : b = (13 : Int32)
              · refine own_step (fun _ k => XS.icmpYes X0.here hx rfl (pc0 := 84) (pc' := 99) rfl (hb hby own_d3_84) rfl (teq hk3).1 (by decide) (by decide) k) ?_
                show own_Ends _ _ _ _ _ _ _ (s₁.setTop (mkF m 99 #[.val (.ref r0), .val (.int (Int32.ofNat st)), .val (.int (Int32.ofNat i)), .val (.int b)] []))
                exact J99_2 (by simp [own_ws, hk0, hk1, hk2, hk3])
              · refine own_step (fun _ k => XS.icmpNo X0.here hx rfl (hb hby own_d3_84) rfl (feq hk3).1 k) ?_
                show own_Ends _ _ _ _ _ _ _ (s₁.setTop (mkF m 87 #[.val (.ref r0), .val (.int (Int32.ofNat st)), .val (.int (Int32.ofNat i)), .val (.int b)] []))
                refine own_step (fun _ k => XS.iloadN X0.here hx rfl (hb hby own_d3_87) rfl k) ?_
                show own_Ends _ _ _ _ _ _ _ (s₁.setTop (mkF m 88 #[.val (.ref r0), .val (.int (Int32.ofNat st)), .val (.int (Int32.ofNat i)), .val (.int b)] [(.int b)]))
                refine own_step (fun _ k => XS.bipush X0.here hx rfl (hb hby own_d3_88) k) ?_
                show own_Ends _ _ _ _ _ _ _ (s₁.setTop (mkF m 90 #[.val (.ref r0), .val (.int (Int32.ofNat st)), .val (.int (Int32.ofNat i)), .val (.int b)] [(.int (60 : Int32)), (.int b)]))
                have hw0 : own_ws b = 0 := by simp [own_ws, hk0, hk1, hk2, hk3]
                rw [if_pos hw0] at hbl
                by_cases h9 : b = (60 : Int32)
                · refine own_step (fun _ k => XS.icmpNo X0.here hx rfl (hb hby own_d3_90) rfl (teq h9).2 k) ?_
                  show own_Ends _ _ _ _ _ _ _ (s₁.setTop (mkF m 93 #[.val (.ref r0), .val (.int (Int32.ofNat st)), .val (.int (Int32.ofNat i)), .val (.int b)] []))
                  refine own_step (fun _ k => XS.iconst X0.here hx rfl (hb hby own_d3_93) k) ?_
                  show own_Ends _ _ _ _ _ _ _ (s₁.setTop (mkF m 94 #[.val (.ref r0), .val (.int (Int32.ofNat st)), .val (.int (Int32.ofNat i)), .val (.int b)] [(.int (1 : Int32))]))
                  refine own_step (fun _ k => XS.goto X0.here hx rfl (pc0 := 94) (pc' := 98) rfl (hb hby own_d3_94) (by decide) (by decide) k) ?_
                  show own_Ends _ _ _ _ _ _ _ (s₁.setTop (mkF m 98 #[.val (.ref r0), .val (.int (Int32.ofNat st)), .val (.int (Int32.ofNat i)), .val (.int b)] [(.int (1 : Int32))]))
                  refine own_ret X0 (BodyLoose.notSynchronized Bd) (v := (some (.int (1 : Int32)))) (fun h => by rw [Bd.returns] at h; cases h) ?_ (by decide) (by decide) (fun fs hr => X0.ireturnOut hx Bd.returns rfl (by simp) (hb hby own_d3_98) hr)
                  show own_Q3 Z r0 cl bs h0 n0 (some (.int (1 : Int32))) s₁.heap _
                  rw [e0]
                  exact ⟨by rw [hbl]; simp [h9], N0, rfl⟩
                · refine own_step (fun _ k => XS.icmpYes X0.here hx rfl (pc0 := 90) (pc' := 97) rfl (hb hby own_d3_90) rfl (feq h9).2 (by decide) (by decide) k) ?_
                  show own_Ends _ _ _ _ _ _ _ (s₁.setTop (mkF m 97 #[.val (.ref r0), .val (.int (Int32.ofNat st)), .val (.int (Int32.ofNat i)), .val (.int b)] []))
                  refine own_step (fun _ k => XS.iconst X0.here hx rfl (hb hby own_d3_97) k) ?_
                  show own_Ends _ _ _ _ _ _ _ (s₁.setTop (mkF m 98 #[.val (.ref r0), .val (.int (Int32.ofNat st)), .val (.int (Int32.ofNat i)), .val (.int b)] [(.int (0 : Int32))]))
                  refine own_ret X0 (BodyLoose.notSynchronized Bd) (v := (some (.int (0 : Int32)))) (fun h => by rw [Bd.returns] at h; cases h) ?_ (by decide) (by decide) (fun fs hr => X0.ireturnOut hx Bd.returns rfl (by simp) (hb hby own_d3_98) hr)
                  show own_Q3 Z r0 cl bs h0 n0 (some (.int (0 : Int32))) s₁.heap _
                  rw [e0]
                  exact ⟨by rw [hbl]; simp [h9], N0, rfl⟩
    exact loop (bs.length - st) st _ One.u (by have := own_sle bs; omega) (by rw [own_looks, hst])
  by_cases h1 : (Int32.ofNat bs.length) < (3 : Int32)
  · refine own_step (fun _ k => XS.icmpYes X0.here hx rfl (pc0 := 3) (pc' := 49) rfl (hb hby own_d3_3) rfl (tlt h1).1 (by decide) (by decide) k) ?_
    show own_Ends _ _ _ _ _ _ _ (s₁.setTop (mkF m 49 #[.val (.ref r0), .unset, .unset, .unset] []))
    refine own_step (fun _ k => XS.iconst X0.here hx rfl (hb hby own_d3_49) k) ?_
    show own_Ends _ _ _ _ _ _ _ (s₁.setTop (mkF m 50 #[.val (.ref r0), .unset, .unset, .unset] [(.int (0 : Int32))]))
    exact J50_1 0 (own_short (own_li (n := 3) h1 (by omega) (by omega))).symm
  · refine own_step (fun _ k => XS.icmpNo X0.here hx rfl (hb hby own_d3_3) rfl (flt h1).1 k) ?_
    show own_Ends _ _ _ _ _ _ _ (s₁.setTop (mkF m 6 #[.val (.ref r0), .unset, .unset, .unset] []))
    have hlen : ¬ bs.length < 3 := fun q => h1 (own_il (n := 3) q (by omega))
    obtain ⟨c0, c1, c2, rest, rfl⟩ := own_three hlen
    refine own_step (fun _ k => XS.aloadN X0.here hx rfl (hb hby own_d3_6) rfl rfl k) ?_
    show own_Ends _ _ _ _ _ _ _ (s₁.setTop (mkF m 7 #[.val (.ref r0), .unset, .unset, .unset] [(.ref r0)]))
    refine own_step (fun _ k => XS.iconst X0.here hx rfl (hb hby own_d3_7) k) ?_
    show own_Ends _ _ _ _ _ _ _ (s₁.setTop (mkF m 8 #[.val (.ref r0), .unset, .unset, .unset] [(.int (0 : Int32)), (.ref r0)]))
    have at0 : cl.slots[((0 : Int32)).toNatClampNeg]? = some (.int c0) := hat 0 (by simp; try omega)
    have by0 := own_byte (hby' c0 (by simp)) (m := 239) (-17) rfl (by decide) (by decide)
    refine own_step (fun _ k => X0.baloadBytes hx (j := (0 : Int32)) (v := (.int c0)) (by rw [e0]; exact Ar.1) (State.isArrayOf_alike hZ.alike Ar.2.1) Ar.2.2 (own_in (i := 0) hS (by omega) (by omega)) at0 (g := (mkF m 8 #[.val (.ref r0), .unset, .unset, .unset] [(.int (0 : Int32)), (.ref r0)])) rfl rfl (hb hby own_d3_8) _ k) ?_
    show own_Ends _ _ _ _ _ _ _ (s₁.setTop (mkF m 9 #[.val (.ref r0), .unset, .unset, .unset] [(.int c0)]))
    refine own_step (fun _ k => XS.sipush X0.here hx rfl (hb hby own_d3_9) k) ?_
    show own_Ends _ _ _ _ _ _ _ (s₁.setTop (mkF m 12 #[.val (.ref r0), .unset, .unset, .unset] [(.int (255 : Int32)), (.int c0)]))
    refine own_step (fun _ k => XS.iand X0.here hx rfl (hb hby own_d3_12) rfl k) ?_
    show own_Ends _ _ _ _ _ _ _ (s₁.setTop (mkF m 13 #[.val (.ref r0), .unset, .unset, .unset] [(.int (c0 &&& (255 : Int32)))]))
    refine own_step (fun _ k => XS.sipush X0.here hx rfl (hb hby own_d3_13) k) ?_
    show own_Ends _ _ _ _ _ _ _ (s₁.setTop (mkF m 16 #[.val (.ref r0), .unset, .unset, .unset] [(.int (239 : Int32)), (.int (c0 &&& (255 : Int32)))]))
    by_cases k0 : (c0 &&& (255 : Int32)) = (239 : Int32)
    · refine own_step (fun _ k => XS.icmpNo X0.here hx rfl (hb hby own_d3_16) rfl (teq k0).2 k) ?_
      show own_Ends _ _ _ _ _ _ _ (s₁.setTop (mkF m 19 #[.val (.ref r0), .unset, .unset, .unset] []))
      have kk0 : c0 = (-17) := Int32.toInt_inj.mp (by0.mp k0)
      refine own_step (fun _ k => XS.aloadN X0.here hx rfl (hb hby own_d3_19) rfl rfl k) ?_
      show own_Ends _ _ _ _ _ _ _ (s₁.setTop (mkF m 20 #[.val (.ref r0), .unset, .unset, .unset] [(.ref r0)]))
      refine own_step (fun _ k => XS.iconst X0.here hx rfl (hb hby own_d3_20) k) ?_
      show own_Ends _ _ _ _ _ _ _ (s₁.setTop (mkF m 21 #[.val (.ref r0), .unset, .unset, .unset] [(.int (1 : Int32)), (.ref r0)]))
      have at1 : cl.slots[((1 : Int32)).toNatClampNeg]? = some (.int c1) := hat 1 (by simp; try omega)
      have by1 := own_byte (hby' c1 (by simp)) (m := 187) (-69) rfl (by decide) (by decide)
      refine own_step (fun _ k => X0.baloadBytes hx (j := (1 : Int32)) (v := (.int c1)) (by rw [e0]; exact Ar.1) (State.isArrayOf_alike hZ.alike Ar.2.1) Ar.2.2 (own_in (i := 1) hS (by omega) (by omega)) at1 (g := (mkF m 21 #[.val (.ref r0), .unset, .unset, .unset] [(.int (1 : Int32)), (.ref r0)])) rfl rfl (hb hby own_d3_21) _ k) ?_
      show own_Ends _ _ _ _ _ _ _ (s₁.setTop (mkF m 22 #[.val (.ref r0), .unset, .unset, .unset] [(.int c1)]))
      refine own_step (fun _ k => XS.sipush X0.here hx rfl (hb hby own_d3_22) k) ?_
      show own_Ends _ _ _ _ _ _ _ (s₁.setTop (mkF m 25 #[.val (.ref r0), .unset, .unset, .unset] [(.int (255 : Int32)), (.int c1)]))
      refine own_step (fun _ k => XS.iand X0.here hx rfl (hb hby own_d3_25) rfl k) ?_
      show own_Ends _ _ _ _ _ _ _ (s₁.setTop (mkF m 26 #[.val (.ref r0), .unset, .unset, .unset] [(.int (c1 &&& (255 : Int32)))]))
      refine own_step (fun _ k => XS.sipush X0.here hx rfl (hb hby own_d3_26) k) ?_
      show own_Ends _ _ _ _ _ _ _ (s₁.setTop (mkF m 29 #[.val (.ref r0), .unset, .unset, .unset] [(.int (187 : Int32)), (.int (c1 &&& (255 : Int32)))]))
      by_cases k1 : (c1 &&& (255 : Int32)) = (187 : Int32)
      · refine own_step (fun _ k => XS.icmpNo X0.here hx rfl (hb hby own_d3_29) rfl (teq k1).2 k) ?_
        show own_Ends _ _ _ _ _ _ _ (s₁.setTop (mkF m 32 #[.val (.ref r0), .unset, .unset, .unset] []))
        have kk1 : c1 = (-69) := Int32.toInt_inj.mp (by1.mp k1)
        refine own_step (fun _ k => XS.aloadN X0.here hx rfl (hb hby own_d3_32) rfl rfl k) ?_
        show own_Ends _ _ _ _ _ _ _ (s₁.setTop (mkF m 33 #[.val (.ref r0), .unset, .unset, .unset] [(.ref r0)]))
        refine own_step (fun _ k => XS.iconst X0.here hx rfl (hb hby own_d3_33) k) ?_
        show own_Ends _ _ _ _ _ _ _ (s₁.setTop (mkF m 34 #[.val (.ref r0), .unset, .unset, .unset] [(.int (2 : Int32)), (.ref r0)]))
        have at2 : cl.slots[((2 : Int32)).toNatClampNeg]? = some (.int c2) := hat 2 (by simp; try omega)
        have by2 := own_byte (hby' c2 (by simp)) (m := 191) (-65) rfl (by decide) (by decide)
        refine own_step (fun _ k => X0.baloadBytes hx (j := (2 : Int32)) (v := (.int c2)) (by rw [e0]; exact Ar.1) (State.isArrayOf_alike hZ.alike Ar.2.1) Ar.2.2 (own_in (i := 2) hS (by omega) (by omega)) at2 (g := (mkF m 34 #[.val (.ref r0), .unset, .unset, .unset] [(.int (2 : Int32)), (.ref r0)])) rfl rfl (hb hby own_d3_34) _ k) ?_
        show own_Ends _ _ _ _ _ _ _ (s₁.setTop (mkF m 35 #[.val (.ref r0), .unset, .unset, .unset] [(.int c2)]))
        refine own_step (fun _ k => XS.sipush X0.here hx rfl (hb hby own_d3_35) k) ?_
        show own_Ends _ _ _ _ _ _ _ (s₁.setTop (mkF m 38 #[.val (.ref r0), .unset, .unset, .unset] [(.int (255 : Int32)), (.int c2)]))
        refine own_step (fun _ k => XS.iand X0.here hx rfl (hb hby own_d3_38) rfl k) ?_
        show own_Ends _ _ _ _ _ _ _ (s₁.setTop (mkF m 39 #[.val (.ref r0), .unset, .unset, .unset] [(.int (c2 &&& (255 : Int32)))]))
        refine own_step (fun _ k => XS.sipush X0.here hx rfl (hb hby own_d3_39) k) ?_
        show own_Ends _ _ _ _ _ _ _ (s₁.setTop (mkF m 42 #[.val (.ref r0), .unset, .unset, .unset] [(.int (191 : Int32)), (.int (c2 &&& (255 : Int32)))]))
        by_cases k2 : (c2 &&& (255 : Int32)) = (191 : Int32)
        · refine own_step (fun _ k => XS.icmpNo X0.here hx rfl (hb hby own_d3_42) rfl (teq k2).2 k) ?_
          show own_Ends _ _ _ _ _ _ _ (s₁.setTop (mkF m 45 #[.val (.ref r0), .unset, .unset, .unset] []))
          have kk2 : c2 = (-65) := Int32.toInt_inj.mp (by2.mp k2)
          refine own_step (fun _ k => XS.iconst X0.here hx rfl (hb hby own_d3_45) k) ?_
          show own_Ends _ _ _ _ _ _ _ (s₁.setTop (mkF m 46 #[.val (.ref r0), .unset, .unset, .unset] [(.int (3 : Int32))]))
          refine own_step (fun _ k => XS.goto X0.here hx rfl (pc0 := 46) (pc' := 50) rfl (hb hby own_d3_46) (by decide) (by decide) k) ?_
          show own_Ends _ _ _ _ _ _ _ (s₁.setTop (mkF m 50 #[.val (.ref r0), .unset, .unset, .unset] [(.int (3 : Int32))]))
          exact J50_1 3 (by simp [own_start, kk0, kk1, kk2])
        · refine own_step (fun _ k => XS.icmpYes X0.here hx rfl (pc0 := 42) (pc' := 49) rfl (hb hby own_d3_42) rfl (feq k2).2 (by decide) (by decide) k) ?_
          show own_Ends _ _ _ _ _ _ _ (s₁.setTop (mkF m 49 #[.val (.ref r0), .unset, .unset, .unset] []))
          have kk2 : ¬ c2 = (-65) := fun q => k2 (by2.mpr (by rw [q]; rfl))
          refine own_step (fun _ k => XS.iconst X0.here hx rfl (hb hby own_d3_49) k) ?_
          show own_Ends _ _ _ _ _ _ _ (s₁.setTop (mkF m 50 #[.val (.ref r0), .unset, .unset, .unset] [(.int (0 : Int32))]))
          exact J50_1 0 (by simp [own_start, kk0, kk1, kk2])
      · refine own_step (fun _ k => XS.icmpYes X0.here hx rfl (pc0 := 29) (pc' := 49) rfl (hb hby own_d3_29) rfl (feq k1).2 (by decide) (by decide) k) ?_
        show own_Ends _ _ _ _ _ _ _ (s₁.setTop (mkF m 49 #[.val (.ref r0), .unset, .unset, .unset] []))
        have kk1 : ¬ c1 = (-69) := fun q => k1 (by1.mpr (by rw [q]; rfl))
        refine own_step (fun _ k => XS.iconst X0.here hx rfl (hb hby own_d3_49) k) ?_
        show own_Ends _ _ _ _ _ _ _ (s₁.setTop (mkF m 50 #[.val (.ref r0), .unset, .unset, .unset] [(.int (0 : Int32))]))
        exact J50_1 0 (by simp [own_start, kk0, kk1])
    · refine own_step (fun _ k => XS.icmpYes X0.here hx rfl (pc0 := 16) (pc' := 49) rfl (hb hby own_d3_16) rfl (feq k0).2 (by decide) (by decide) k) ?_
      show own_Ends _ _ _ _ _ _ _ (s₁.setTop (mkF m 49 #[.val (.ref r0), .unset, .unset, .unset] []))
      have kk0 : ¬ c0 = (-17) := fun q => k0 (by0.mpr (by rw [q]; rfl))
      refine own_step (fun _ k => XS.iconst X0.here hx rfl (hb hby own_d3_49) k) ?_
      show own_Ends _ _ _ _ _ _ _ (s₁.setTop (mkF m 50 #[.val (.ref r0), .unset, .unset, .unset] [(.int (0 : Int32))]))
      exact J50_1 0 (by simp [own_start, kk0])
theorem own_ef0 (m : MethodId) (p0 : Int32) (p1 : Int32) (p2 : Int32) (p3 : Int32) (p4 : Int32) (p5 : Int32) : entryFrame m #[(.int p0), (.int p1), (.int p2), (.int p3), (.int p4), (.int p5)] maxLocals = mkF m 0 #[.val (.int p0), .val (.int p1), .val (.int p2), .val (.int p3), .val (.int p4), .val (.int p5), .unset, .unset, .unset, .unset, .unset, .unset, .unset, .unset, .unset, .unset, .unset, .unset] [] := by first | (simp [entryFrame, mkF, argsToLocals, Value.category, maxLocals]; done) | rfl
theorem own_pd0 : parseMethodDescriptor "(I)B" = some ⟨[.int], some .byte⟩ := by decide +kernel
theorem own_pd1 : parseMethodDescriptor "([B)Z" = some ⟨[(.array .byte)], some .boolean⟩ := by decide +kernel
theorem own_pd2 : parseMethodDescriptor "(B)Z" = some ⟨[.byte], some .boolean⟩ := by decide +kernel
def own_Q0 (Z : State) (p0 : Int32) (p1 : Int32) (p2 : Int32) (p3 : Int32) (p4 : Int32) (p5 : Int32)  (h0 : Heap) (n0 : Nat) (v : Option Value) (h : Heap) (L : List Loc) : Prop := v = some (.int 1) ∧ Fr n0 L
set_option maxRecDepth 65536 in
set_option maxHeartbeats 40000000 in
theorem own_rm0 (l : Launch) (Z : State) (a0 : Array Value) (hw : ∀ d ∈ tables_1, d.before a0 Z = true) (ws : List Jvm.Cond) (p0 : Int32) (p1 : Int32) (p2 : Int32) (p3 : Int32) (p4 : Int32) (p5 : Int32)  (h0 : Heap) (n0 : Nat) (Z0 : n0 ≤ h0.size)  :
    MetFree l x (head1 (Jvm.Cond.code x code maxLocals ret :: ws) room_1) (fun a U => a = #[(.int p0), (.int p1), (.int p2), (.int p3), (.int p4), (.int p5)] ∧ Z.Warmed39 U.vm ∧ U.heap = h0) (fun _ _ _ _ _ => True) (fun _ U o U' => ∃ v L, o = .returned v ∧ own_Q0 Z p0 p1 p2 p3 p4 p5  h0 n0 v U'.heap L ∧ FrameEnd U o U' L 1 5) := by
  refine MetFree.of_bodySF (plainFor_of_name own_pn0) hisR ?_
  intro p e s m args below meth c s₁ Bd hml0 hP hK
  obtain ⟨rfl, hZ, hh⟩ := hP
  have hx := Bd.exec
  have hby := Bd.bytes
  have hml : c.maxLocals = 18 := hml0
  have hown : s.vm.findClass "com/example/parley/parley/io/CompetitionXmlLooksLikeXmlPinLaw" = some m.cls := findClass_of_methodNamed Bd.named
  have hnm := (name_of_methodNamed Bd.named Bd.method).1
  have X0 : Stand p l e room_1 s m #[(.int p0), (.int p1), (.int p2), (.int p3), (.int p4), (.int p5)] below meth c s₁ [] 0 0 := Stand.of_body Bd
  have e0 : s₁.heap = h0 := by rw [← hh, Bd.state]; rfl
  have N0 := Fr.nil n0
  suffices H : own_Ends p e below s 1 5 (own_Q0 Z p0 p1 p2 p3 p4 p5  h0 n0) (s₁.setTop (mkF m 0 #[.val (.int p0), .val (.int p1), .val (.int p2), .val (.int p3), .val (.int p4), .val (.int p5), .unset, .unset, .unset, .unset, .unset, .unset, .unset, .unset, .unset, .unset, .unset, .unset] [])) by
    obtain ⟨s₂, o, h1, h2⟩ := H
    exact ⟨s₂, o, castTop (own_ef0 m p0 p1 p2 p3 p4 p5) h1, h2⟩
  show own_Ends _ _ _ _ _ _ _ (s₁.setTop (mkF m 0 #[.val (.int p0), .val (.int p1), .val (.int p2), .val (.int p3), .val (.int p4), .val (.int p5), .unset, .unset, .unset, .unset, .unset, .unset, .unset, .unset, .unset, .unset, .unset, .unset] []))
  refine own_step (fun _ k => XS.iloadN X0.here hx rfl (hb hby at_0) rfl k) ?_
  show own_Ends _ _ _ _ _ _ _ (s₁.setTop (mkF m 1 #[.val (.int p0), .val (.int p1), .val (.int p2), .val (.int p3), .val (.int p4), .val (.int p5), .unset, .unset, .unset, .unset, .unset, .unset, .unset, .unset, .unset, .unset, .unset, .unset] [(.int p0)]))
  refine own_step (fun _ k => X0.ldcInt hx hown (mvT hZ (hw _ (List.mem_of_getElem? (i := 0) rfl))) (g := (mkF m 1 #[.val (.int p0), .val (.int p1), .val (.int p2), .val (.int p3), .val (.int p4), .val (.int p5), .unset, .unset, .unset, .unset, .unset, .unset, .unset, .unset, .unset, .unset, .unset, .unset] [(.int p0)])) rfl (hb hby at_1) _ k) ?_
  show own_Ends _ _ _ _ _ _ _ (s₁.setTop (mkF m 3 #[.val (.int p0), .val (.int p1), .val (.int p2), .val (.int p3), .val (.int p4), .val (.int p5), .unset, .unset, .unset, .unset, .unset, .unset, .unset, .unset, .unset, .unset, .unset, .unset] [(.int (2147483647 : Int32)), (.int p0)]))
  refine own_step (fun _ k => XS.iand X0.here hx rfl (hb hby at_3) rfl k) ?_
  show own_Ends _ _ _ _ _ _ _ (s₁.setTop (mkF m 4 #[.val (.int p0), .val (.int p1), .val (.int p2), .val (.int p3), .val (.int p4), .val (.int p5), .unset, .unset, .unset, .unset, .unset, .unset, .unset, .unset, .unset, .unset, .unset, .unset] [(.int (p0 &&& (2147483647 : Int32)))]))
  refine own_step (fun _ k => XS.bipush X0.here hx rfl (hb hby at_4) k) ?_
  show own_Ends _ _ _ _ _ _ _ (s₁.setTop (mkF m 6 #[.val (.int p0), .val (.int p1), .val (.int p2), .val (.int p3), .val (.int p4), .val (.int p5), .unset, .unset, .unset, .unset, .unset, .unset, .unset, .unset, .unset, .unset, .unset, .unset] [(.int (6 : Int32)), (.int (p0 &&& (2147483647 : Int32)))]))
  refine own_step (fun _ k => XS.irem X0.here hx rfl (hb hby at_6) rfl (by decide) k) ?_
  show own_Ends _ _ _ _ _ _ _ (s₁.setTop (mkF m 7 #[.val (.int p0), .val (.int p1), .val (.int p2), .val (.int p3), .val (.int p4), .val (.int p5), .unset, .unset, .unset, .unset, .unset, .unset, .unset, .unset, .unset, .unset, .unset, .unset] [(.int ((p0 &&& (2147483647 : Int32)) - ((p0 &&& (2147483647 : Int32)) / (6 : Int32)) * (6 : Int32)))]))
  have hfv := own_six p0 _ rfl
  generalize ((p0 &&& (2147483647 : Int32)) - ((p0 &&& (2147483647 : Int32)) / (6 : Int32)) * (6 : Int32)) = nn at hfv ⊢
  refine own_step (fun _ k => XS.istore X0.here hx rfl (hb hby at_7) rfl (l' := #[.val (.int p0), .val (.int p1), .val (.int p2), .val (.int p3), .val (.int p4), .val (.int p5), .val (.int nn), .unset, .unset, .unset, .unset, .unset, .unset, .unset, .unset, .unset, .unset, .unset]) rfl k) ?_
  show own_Ends _ _ _ _ _ _ _ (s₁.setTop (mkF m 9 #[.val (.int p0), .val (.int p1), .val (.int p2), .val (.int p3), .val (.int p4), .val (.int p5), .val (.int nn), .unset, .unset, .unset, .unset, .unset, .unset, .unset, .unset, .unset, .unset, .unset] []))
  refine own_step (fun _ k => XS.iloadN X0.here hx rfl (hb hby at_9) rfl k) ?_
  show own_Ends _ _ _ _ _ _ _ (s₁.setTop (mkF m 10 #[.val (.int p0), .val (.int p1), .val (.int p2), .val (.int p3), .val (.int p4), .val (.int p5), .val (.int nn), .unset, .unset, .unset, .unset, .unset, .unset, .unset, .unset, .unset, .unset, .unset] [(.int p1)]))
  obtain ⟨_, _, ⟨T3, L3, k3, n3⟩, -, X3, ⟨Lc3, hQ3, l3, y3, z3⟩, st3⟩ := Jvm.LawKit.callS X0 hx (y := (⟨"com/example/parley/parley/io/CompetitionXmlLooksLikeXmlPinLaw", "pick", "(I)B"⟩ : MethodName)) hown (mvT hZ (hw _ (List.mem_of_getElem? (i := 1) rfl))) (mvT hZ (hw _ (List.mem_of_getElem? (i := 2) rfl))) (mvT hZ (hw _ (List.mem_of_getElem? (i := 3) rfl))) (mvT hZ (hw _ (List.mem_of_getElem? (i := 4) rfl))) (by decide) (backOf (W := 0) (own_rm1 l Z a0 hw [] p1  h0 n0 Z0 ) hZ (hw _ (List.mem_of_getElem? (i := 4) rfl)) (hw _ (List.mem_of_getElem? (i := 3) rfl)) (by decide) (by decide)) (g := (mkF m 10 #[.val (.int p0), .val (.int p1), .val (.int p2), .val (.int p3), .val (.int p4), .val (.int p5), .val (.int nn), .unset, .unset, .unset, .unset, .unset, .unset, .unset, .unset, .unset, .unset, .unset] [(.int p1)])) rfl (by rw [hml]; rfl) (argsL := [(.int p1)]) (rest := []) (lenOf own_pd0 rfl) rfl (by show 2 * 0 + _ ≤ _; exact Nat.le_of_eq rfl) (hb hby at_10) (fun _ _ => ⟨rfl, e0, (by decide : 0 + 0 ≤ _), (by decide : 0 + 0 ≤ _)⟩)
  dsimp only [Pt.U, Pt.locs, Pt.cells, Pt.slots] at X3 l3 y3 z3 st3 hQ3
  subst l3 y3 z3
  obtain ⟨rfl, Nq3, e3⟩ := hQ3
  have N3 := Fr.app N0 Nq3
  refine own_step (fun _ k => st3 _ k) ?_
  show own_Ends _ _ _ _ _ _ _ (T3.setTop (mkF m 13 #[.val (.int p0), .val (.int p1), .val (.int p2), .val (.int p3), .val (.int p4), .val (.int p5), .val (.int nn), .unset, .unset, .unset, .unset, .unset, .unset, .unset, .unset, .unset, .unset, .unset] [(.int (own_pick p1))]))
  have nb0 := own_pickn p1
  generalize own_pick p1 = c0_ at nb0 ⊢
  show own_Ends _ _ _ _ _ _ _ (T3.setTop (mkF m 13 #[.val (.int p0), .val (.int p1), .val (.int p2), .val (.int p3), .val (.int p4), .val (.int p5), .val (.int nn), .unset, .unset, .unset, .unset, .unset, .unset, .unset, .unset, .unset, .unset, .unset] [(.int c0_)]))
  refine own_step (fun _ k => XS.istore X3.here hx rfl (hb hby at_13) rfl (l' := #[.val (.int p0), .val (.int p1), .val (.int p2), .val (.int p3), .val (.int p4), .val (.int p5), .val (.int nn), .val (.int c0_), .unset, .unset, .unset, .unset, .unset, .unset, .unset, .unset, .unset, .unset]) rfl k) ?_
  show own_Ends _ _ _ _ _ _ _ (T3.setTop (mkF m 15 #[.val (.int p0), .val (.int p1), .val (.int p2), .val (.int p3), .val (.int p4), .val (.int p5), .val (.int nn), .val (.int c0_), .unset, .unset, .unset, .unset, .unset, .unset, .unset, .unset, .unset, .unset] []))
  refine own_step (fun _ k => XS.iloadN X3.here hx rfl (hb hby at_15) rfl k) ?_
  show own_Ends _ _ _ _ _ _ _ (T3.setTop (mkF m 16 #[.val (.int p0), .val (.int p1), .val (.int p2), .val (.int p3), .val (.int p4), .val (.int p5), .val (.int nn), .val (.int c0_), .unset, .unset, .unset, .unset, .unset, .unset, .unset, .unset, .unset, .unset] [(.int p2)]))
  obtain ⟨_, _, ⟨T4, L4, k4, n4⟩, -, X4, ⟨Lc4, hQ4, l4, y4, z4⟩, st4⟩ := Jvm.LawKit.callS X3 hx (y := (⟨"com/example/parley/parley/io/CompetitionXmlLooksLikeXmlPinLaw", "pick", "(I)B"⟩ : MethodName)) hown (mvT hZ (hw _ (List.mem_of_getElem? (i := 1) rfl))) (mvT hZ (hw _ (List.mem_of_getElem? (i := 2) rfl))) (mvT hZ (hw _ (List.mem_of_getElem? (i := 3) rfl))) (mvT hZ (hw _ (List.mem_of_getElem? (i := 4) rfl))) (by decide) (backOf (W := 0) (own_rm1 l Z a0 hw [] p2  h0 n0 Z0 ) hZ (hw _ (List.mem_of_getElem? (i := 4) rfl)) (hw _ (List.mem_of_getElem? (i := 3) rfl)) (by decide) (by decide)) (g := (mkF m 16 #[.val (.int p0), .val (.int p1), .val (.int p2), .val (.int p3), .val (.int p4), .val (.int p5), .val (.int nn), .val (.int c0_), .unset, .unset, .unset, .unset, .unset, .unset, .unset, .unset, .unset, .unset] [(.int p2)])) rfl (by rw [hml]; rfl) (argsL := [(.int p2)]) (rest := []) (lenOf own_pd0 rfl) rfl (by show 2 * 0 + _ ≤ _; exact Nat.le_of_eq rfl) (hb hby at_16) (fun _ _ => ⟨rfl, e3, (by decide : 0 + 0 ≤ _), (by decide : 0 + 0 ≤ _)⟩)
  dsimp only [Pt.U, Pt.locs, Pt.cells, Pt.slots] at X4 l4 y4 z4 st4 hQ4
  subst l4 y4 z4
  obtain ⟨rfl, Nq4, e4⟩ := hQ4
  have N4 := Fr.app N3 Nq4
  refine own_step (fun _ k => st4 _ k) ?_
  show own_Ends _ _ _ _ _ _ _ (T4.setTop (mkF m 19 #[.val (.int p0), .val (.int p1), .val (.int p2), .val (.int p3), .val (.int p4), .val (.int p5), .val (.int nn), .val (.int c0_), .unset, .unset, .unset, .unset, .unset, .unset, .unset, .unset, .unset, .unset] [(.int (own_pick p2))]))
  have nb1 := own_pickn p2
  generalize own_pick p2 = c1_ at nb1 ⊢
  show own_Ends _ _ _ _ _ _ _ (T4.setTop (mkF m 19 #[.val (.int p0), .val (.int p1), .val (.int p2), .val (.int p3), .val (.int p4), .val (.int p5), .val (.int nn), .val (.int c0_), .unset, .unset, .unset, .unset, .unset, .unset, .unset, .unset, .unset, .unset] [(.int c1_)]))
  refine own_step (fun _ k => XS.istore X4.here hx rfl (hb hby at_19) rfl (l' := #[.val (.int p0), .val (.int p1), .val (.int p2), .val (.int p3), .val (.int p4), .val (.int p5), .val (.int nn), .val (.int c0_), .val (.int c1_), .unset, .unset, .unset, .unset, .unset, .unset, .unset, .unset, .unset]) rfl k) ?_
  show own_Ends _ _ _ _ _ _ _ (T4.setTop (mkF m 21 #[.val (.int p0), .val (.int p1), .val (.int p2), .val (.int p3), .val (.int p4), .val (.int p5), .val (.int nn), .val (.int c0_), .val (.int c1_), .unset, .unset, .unset, .unset, .unset, .unset, .unset, .unset, .unset] []))
  refine own_step (fun _ k => XS.iloadN X4.here hx rfl (hb hby at_21) rfl k) ?_
  show own_Ends _ _ _ _ _ _ _ (T4.setTop (mkF m 22 #[.val (.int p0), .val (.int p1), .val (.int p2), .val (.int p3), .val (.int p4), .val (.int p5), .val (.int nn), .val (.int c0_), .val (.int c1_), .unset, .unset, .unset, .unset, .unset, .unset, .unset, .unset, .unset] [(.int p3)]))
  obtain ⟨_, _, ⟨T5, L5, k5, n5⟩, -, X5, ⟨Lc5, hQ5, l5, y5, z5⟩, st5⟩ := Jvm.LawKit.callS X4 hx (y := (⟨"com/example/parley/parley/io/CompetitionXmlLooksLikeXmlPinLaw", "pick", "(I)B"⟩ : MethodName)) hown (mvT hZ (hw _ (List.mem_of_getElem? (i := 1) rfl))) (mvT hZ (hw _ (List.mem_of_getElem? (i := 2) rfl))) (mvT hZ (hw _ (List.mem_of_getElem? (i := 3) rfl))) (mvT hZ (hw _ (List.mem_of_getElem? (i := 4) rfl))) (by decide) (backOf (W := 0) (own_rm1 l Z a0 hw [] p3  h0 n0 Z0 ) hZ (hw _ (List.mem_of_getElem? (i := 4) rfl)) (hw _ (List.mem_of_getElem? (i := 3) rfl)) (by decide) (by decide)) (g := (mkF m 22 #[.val (.int p0), .val (.int p1), .val (.int p2), .val (.int p3), .val (.int p4), .val (.int p5), .val (.int nn), .val (.int c0_), .val (.int c1_), .unset, .unset, .unset, .unset, .unset, .unset, .unset, .unset, .unset] [(.int p3)])) rfl (by rw [hml]; rfl) (argsL := [(.int p3)]) (rest := []) (lenOf own_pd0 rfl) rfl (by show 2 * 0 + _ ≤ _; exact Nat.le_of_eq rfl) (hb hby at_22) (fun _ _ => ⟨rfl, e4, (by decide : 0 + 0 ≤ _), (by decide : 0 + 0 ≤ _)⟩)
  dsimp only [Pt.U, Pt.locs, Pt.cells, Pt.slots] at X5 l5 y5 z5 st5 hQ5
  subst l5 y5 z5
  obtain ⟨rfl, Nq5, e5⟩ := hQ5
  have N5 := Fr.app N4 Nq5
  refine own_step (fun _ k => st5 _ k) ?_
  show own_Ends _ _ _ _ _ _ _ (T5.setTop (mkF m 25 #[.val (.int p0), .val (.int p1), .val (.int p2), .val (.int p3), .val (.int p4), .val (.int p5), .val (.int nn), .val (.int c0_), .val (.int c1_), .unset, .unset, .unset, .unset, .unset, .unset, .unset, .unset, .unset] [(.int (own_pick p3))]))
  have nb2 := own_pickn p3
  generalize own_pick p3 = c2_ at nb2 ⊢
  show own_Ends _ _ _ _ _ _ _ (T5.setTop (mkF m 25 #[.val (.int p0), .val (.int p1), .val (.int p2), .val (.int p3), .val (.int p4), .val (.int p5), .val (.int nn), .val (.int c0_), .val (.int c1_), .unset, .unset, .unset, .unset, .unset, .unset, .unset, .unset, .unset] [(.int c2_)]))
  refine own_step (fun _ k => XS.istore X5.here hx rfl (hb hby at_25) rfl (l' := #[.val (.int p0), .val (.int p1), .val (.int p2), .val (.int p3), .val (.int p4), .val (.int p5), .val (.int nn), .val (.int c0_), .val (.int c1_), .val (.int c2_), .unset, .unset, .unset, .unset, .unset, .unset, .unset, .unset]) rfl k) ?_
  show own_Ends _ _ _ _ _ _ _ (T5.setTop (mkF m 27 #[.val (.int p0), .val (.int p1), .val (.int p2), .val (.int p3), .val (.int p4), .val (.int p5), .val (.int nn), .val (.int c0_), .val (.int c1_), .val (.int c2_), .unset, .unset, .unset, .unset, .unset, .unset, .unset, .unset] []))
  refine own_step (fun _ k => XS.iload X5.here hx rfl (hb hby at_27) rfl k) ?_
  show own_Ends _ _ _ _ _ _ _ (T5.setTop (mkF m 29 #[.val (.int p0), .val (.int p1), .val (.int p2), .val (.int p3), .val (.int p4), .val (.int p5), .val (.int nn), .val (.int c0_), .val (.int c1_), .val (.int c2_), .unset, .unset, .unset, .unset, .unset, .unset, .unset, .unset] [(.int p4)]))
  obtain ⟨_, _, ⟨T6, L6, k6, n6⟩, -, X6, ⟨Lc6, hQ6, l6, y6, z6⟩, st6⟩ := Jvm.LawKit.callS X5 hx (y := (⟨"com/example/parley/parley/io/CompetitionXmlLooksLikeXmlPinLaw", "pick", "(I)B"⟩ : MethodName)) hown (mvT hZ (hw _ (List.mem_of_getElem? (i := 1) rfl))) (mvT hZ (hw _ (List.mem_of_getElem? (i := 2) rfl))) (mvT hZ (hw _ (List.mem_of_getElem? (i := 3) rfl))) (mvT hZ (hw _ (List.mem_of_getElem? (i := 4) rfl))) (by decide) (backOf (W := 0) (own_rm1 l Z a0 hw [] p4  h0 n0 Z0 ) hZ (hw _ (List.mem_of_getElem? (i := 4) rfl)) (hw _ (List.mem_of_getElem? (i := 3) rfl)) (by decide) (by decide)) (g := (mkF m 29 #[.val (.int p0), .val (.int p1), .val (.int p2), .val (.int p3), .val (.int p4), .val (.int p5), .val (.int nn), .val (.int c0_), .val (.int c1_), .val (.int c2_), .unset, .unset, .unset, .unset, .unset, .unset, .unset, .unset] [(.int p4)])) rfl (by rw [hml]; rfl) (argsL := [(.int p4)]) (rest := []) (lenOf own_pd0 rfl) rfl (by show 2 * 0 + _ ≤ _; exact Nat.le_of_eq rfl) (hb hby at_29) (fun _ _ => ⟨rfl, e5, (by decide : 0 + 0 ≤ _), (by decide : 0 + 0 ≤ _)⟩)
  dsimp only [Pt.U, Pt.locs, Pt.cells, Pt.slots] at X6 l6 y6 z6 st6 hQ6
  subst l6 y6 z6
  obtain ⟨rfl, Nq6, e6⟩ := hQ6
  have N6 := Fr.app N5 Nq6
  refine own_step (fun _ k => st6 _ k) ?_
  show own_Ends _ _ _ _ _ _ _ (T6.setTop (mkF m 32 #[.val (.int p0), .val (.int p1), .val (.int p2), .val (.int p3), .val (.int p4), .val (.int p5), .val (.int nn), .val (.int c0_), .val (.int c1_), .val (.int c2_), .unset, .unset, .unset, .unset, .unset, .unset, .unset, .unset] [(.int (own_pick p4))]))
  have nb3 := own_pickn p4
  generalize own_pick p4 = c3_ at nb3 ⊢
  show own_Ends _ _ _ _ _ _ _ (T6.setTop (mkF m 32 #[.val (.int p0), .val (.int p1), .val (.int p2), .val (.int p3), .val (.int p4), .val (.int p5), .val (.int nn), .val (.int c0_), .val (.int c1_), .val (.int c2_), .unset, .unset, .unset, .unset, .unset, .unset, .unset, .unset] [(.int c3_)]))
  refine own_step (fun _ k => XS.istore X6.here hx rfl (hb hby at_32) rfl (l' := #[.val (.int p0), .val (.int p1), .val (.int p2), .val (.int p3), .val (.int p4), .val (.int p5), .val (.int nn), .val (.int c0_), .val (.int c1_), .val (.int c2_), .val (.int c3_), .unset, .unset, .unset, .unset, .unset, .unset, .unset]) rfl k) ?_
  show own_Ends _ _ _ _ _ _ _ (T6.setTop (mkF m 34 #[.val (.int p0), .val (.int p1), .val (.int p2), .val (.int p3), .val (.int p4), .val (.int p5), .val (.int nn), .val (.int c0_), .val (.int c1_), .val (.int c2_), .val (.int c3_), .unset, .unset, .unset, .unset, .unset, .unset, .unset] []))
  refine own_step (fun _ k => XS.iload X6.here hx rfl (hb hby at_34) rfl k) ?_
  show own_Ends _ _ _ _ _ _ _ (T6.setTop (mkF m 36 #[.val (.int p0), .val (.int p1), .val (.int p2), .val (.int p3), .val (.int p4), .val (.int p5), .val (.int nn), .val (.int c0_), .val (.int c1_), .val (.int c2_), .val (.int c3_), .unset, .unset, .unset, .unset, .unset, .unset, .unset] [(.int p5)]))
  obtain ⟨_, _, ⟨T7, L7, k7, n7⟩, -, X7, ⟨Lc7, hQ7, l7, y7, z7⟩, st7⟩ := Jvm.LawKit.callS X6 hx (y := (⟨"com/example/parley/parley/io/CompetitionXmlLooksLikeXmlPinLaw", "pick", "(I)B"⟩ : MethodName)) hown (mvT hZ (hw _ (List.mem_of_getElem? (i := 1) rfl))) (mvT hZ (hw _ (List.mem_of_getElem? (i := 2) rfl))) (mvT hZ (hw _ (List.mem_of_getElem? (i := 3) rfl))) (mvT hZ (hw _ (List.mem_of_getElem? (i := 4) rfl))) (by decide) (backOf (W := 0) (own_rm1 l Z a0 hw [] p5  h0 n0 Z0 ) hZ (hw _ (List.mem_of_getElem? (i := 4) rfl)) (hw _ (List.mem_of_getElem? (i := 3) rfl)) (by decide) (by decide)) (g := (mkF m 36 #[.val (.int p0), .val (.int p1), .val (.int p2), .val (.int p3), .val (.int p4), .val (.int p5), .val (.int nn), .val (.int c0_), .val (.int c1_), .val (.int c2_), .val (.int c3_), .unset, .unset, .unset, .unset, .unset, .unset, .unset] [(.int p5)])) rfl (by rw [hml]; rfl) (argsL := [(.int p5)]) (rest := []) (lenOf own_pd0 rfl) rfl (by show 2 * 0 + _ ≤ _; exact Nat.le_of_eq rfl) (hb hby at_36) (fun _ _ => ⟨rfl, e6, (by decide : 0 + 0 ≤ _), (by decide : 0 + 0 ≤ _)⟩)
  dsimp only [Pt.U, Pt.locs, Pt.cells, Pt.slots] at X7 l7 y7 z7 st7 hQ7
  subst l7 y7 z7
  obtain ⟨rfl, Nq7, e7⟩ := hQ7
  have N7 := Fr.app N6 Nq7
  refine own_step (fun _ k => st7 _ k) ?_
  show own_Ends _ _ _ _ _ _ _ (T7.setTop (mkF m 39 #[.val (.int p0), .val (.int p1), .val (.int p2), .val (.int p3), .val (.int p4), .val (.int p5), .val (.int nn), .val (.int c0_), .val (.int c1_), .val (.int c2_), .val (.int c3_), .unset, .unset, .unset, .unset, .unset, .unset, .unset] [(.int (own_pick p5))]))
  have nb4 := own_pickn p5
  generalize own_pick p5 = c4_ at nb4 ⊢
  show own_Ends _ _ _ _ _ _ _ (T7.setTop (mkF m 39 #[.val (.int p0), .val (.int p1), .val (.int p2), .val (.int p3), .val (.int p4), .val (.int p5), .val (.int nn), .val (.int c0_), .val (.int c1_), .val (.int c2_), .val (.int c3_), .unset, .unset, .unset, .unset, .unset, .unset, .unset] [(.int c4_)]))
  refine own_step (fun _ k => XS.istore X7.here hx rfl (hb hby at_39) rfl (l' := #[.val (.int p0), .val (.int p1), .val (.int p2), .val (.int p3), .val (.int p4), .val (.int p5), .val (.int nn), .val (.int c0_), .val (.int c1_), .val (.int c2_), .val (.int c3_), .val (.int c4_), .unset, .unset, .unset, .unset, .unset, .unset]) rfl k) ?_
  show own_Ends _ _ _ _ _ _ _ (T7.setTop (mkF m 41 #[.val (.int p0), .val (.int p1), .val (.int p2), .val (.int p3), .val (.int p4), .val (.int p5), .val (.int nn), .val (.int c0_), .val (.int c1_), .val (.int c2_), .val (.int c3_), .val (.int c4_), .unset, .unset, .unset, .unset, .unset, .unset] []))
  refine own_step (fun _ k => XS.iload X7.here hx rfl (hb hby at_41) rfl k) ?_
  show own_Ends _ _ _ _ _ _ _ (T7.setTop (mkF m 43 #[.val (.int p0), .val (.int p1), .val (.int p2), .val (.int p3), .val (.int p4), .val (.int p5), .val (.int nn), .val (.int c0_), .val (.int c1_), .val (.int c2_), .val (.int c3_), .val (.int c4_), .unset, .unset, .unset, .unset, .unset, .unset] [(.int nn)]))
  rcases hfv with rfl | rfl | rfl | rfl | rfl | rfl
  · show own_Ends _ _ _ _ _ _ _ (T7.setTop (mkF m 43 #[.val (.int p0), .val (.int p1), .val (.int p2), .val (.int p3), .val (.int p4), .val (.int p5), .val (.int (0 : Int32)), .val (.int c0_), .val (.int c1_), .val (.int c2_), .val (.int c3_), .val (.int c4_), .unset, .unset, .unset, .unset, .unset, .unset] [(.int (0 : Int32))]))
    obtain ⟨T8, h8, k8, X8, e8, E8, A8, st8⟩ := newP X7 hx hZ (hw _ (List.mem_of_getElem? (i := 5) rfl)) e7 (g := (mkF m 43 #[.val (.int p0), .val (.int p1), .val (.int p2), .val (.int p3), .val (.int p4), .val (.int p5), .val (.int (0 : Int32)), .val (.int c0_), .val (.int c1_), .val (.int c2_), .val (.int c3_), .val (.int c4_), .unset, .unset, .unset, .unset, .unset, .unset] [(.int (0 : Int32))])) rfl (hb hby at_43) rfl (by decide) (cap := 0) (by decide) (by decide) (by decide) (by decide)
    obtain ⟨b8, g8⟩ : ∃ z, z = h0.size := ⟨_, rfl⟩
    rw [← g8] at A8 st8
    have gn8 : n0 ≤ b8 := Nat.le_trans Z0 (Nat.le_of_eq g8.symm)
    have Z8 := Nat.le_trans Z0 E8.1
    have V8_b8 : Arv Z h8 b8 k8 .byte (0 : Int32) [] (.int (0 : Int32)) := (Arv.new A8 (by decide)).pad (pad_rep [] (.int (0 : Int32)) 0)
    refine own_step (fun _ k => st8 _ k) ?_
    show own_Ends _ _ _ _ _ _ _ (T8.setTop (mkF m 45 #[.val (.int p0), .val (.int p1), .val (.int p2), .val (.int p3), .val (.int p4), .val (.int p5), .val (.int (0 : Int32)), .val (.int c0_), .val (.int c1_), .val (.int c2_), .val (.int c3_), .val (.int c4_), .unset, .unset, .unset, .unset, .unset, .unset] [(.ref b8)]))
    refine own_step (fun _ k => XS.astore X8.here hx rfl (hb hby at_45) rfl rfl (l' := #[.val (.int p0), .val (.int p1), .val (.int p2), .val (.int p3), .val (.int p4), .val (.int p5), .val (.int (0 : Int32)), .val (.int c0_), .val (.int c1_), .val (.int c2_), .val (.int c3_), .val (.int c4_), .val (.ref b8), .unset, .unset, .unset, .unset, .unset]) rfl k) ?_
    show own_Ends _ _ _ _ _ _ _ (T8.setTop (mkF m 47 #[.val (.int p0), .val (.int p1), .val (.int p2), .val (.int p3), .val (.int p4), .val (.int p5), .val (.int (0 : Int32)), .val (.int c0_), .val (.int c1_), .val (.int c2_), .val (.int c3_), .val (.int c4_), .val (.ref b8), .unset, .unset, .unset, .unset, .unset] []))
    refine own_step (fun _ k => XS.iload X8.here hx rfl (hb hby at_47) rfl k) ?_
    show own_Ends _ _ _ _ _ _ _ (T8.setTop (mkF m 49 #[.val (.int p0), .val (.int p1), .val (.int p2), .val (.int p3), .val (.int p4), .val (.int p5), .val (.int (0 : Int32)), .val (.int c0_), .val (.int c1_), .val (.int c2_), .val (.int c3_), .val (.int c4_), .val (.ref b8), .unset, .unset, .unset, .unset, .unset] [(.int (0 : Int32))]))
    refine own_step (fun _ k => XS.ifYes X8.here hx rfl (pc0 := 49) (pc' := 58) rfl (hb hby at_49) rfl ((if0 _ _).trans (flt (by decide)).2.2.2) (by decide) (by decide) k) ?_
    show own_Ends _ _ _ _ _ _ _ (T8.setTop (mkF m 58 #[.val (.int p0), .val (.int p1), .val (.int p2), .val (.int p3), .val (.int p4), .val (.int p5), .val (.int (0 : Int32)), .val (.int c0_), .val (.int c1_), .val (.int c2_), .val (.int c3_), .val (.int c4_), .val (.ref b8), .unset, .unset, .unset, .unset, .unset] []))
    refine own_step (fun _ k => XS.iload X8.here hx rfl (hb hby at_58) rfl k) ?_
    show own_Ends _ _ _ _ _ _ _ (T8.setTop (mkF m 60 #[.val (.int p0), .val (.int p1), .val (.int p2), .val (.int p3), .val (.int p4), .val (.int p5), .val (.int (0 : Int32)), .val (.int c0_), .val (.int c1_), .val (.int c2_), .val (.int c3_), .val (.int c4_), .val (.ref b8), .unset, .unset, .unset, .unset, .unset] [(.int (0 : Int32))]))
    refine own_step (fun _ k => XS.iconst X8.here hx rfl (hb hby at_60) k) ?_
    show own_Ends _ _ _ _ _ _ _ (T8.setTop (mkF m 61 #[.val (.int p0), .val (.int p1), .val (.int p2), .val (.int p3), .val (.int p4), .val (.int p5), .val (.int (0 : Int32)), .val (.int c0_), .val (.int c1_), .val (.int c2_), .val (.int c3_), .val (.int c4_), .val (.ref b8), .unset, .unset, .unset, .unset, .unset] [(.int (1 : Int32)), (.int (0 : Int32))]))
    refine own_step (fun _ k => XS.icmpYes X8.here hx rfl (pc0 := 61) (pc' := 70) rfl (hb hby at_61) rfl (flt (by decide)).2.2.2 (by decide) (by decide) k) ?_
    show own_Ends _ _ _ _ _ _ _ (T8.setTop (mkF m 70 #[.val (.int p0), .val (.int p1), .val (.int p2), .val (.int p3), .val (.int p4), .val (.int p5), .val (.int (0 : Int32)), .val (.int c0_), .val (.int c1_), .val (.int c2_), .val (.int c3_), .val (.int c4_), .val (.ref b8), .unset, .unset, .unset, .unset, .unset] []))
    refine own_step (fun _ k => XS.iload X8.here hx rfl (hb hby at_70) rfl k) ?_
    show own_Ends _ _ _ _ _ _ _ (T8.setTop (mkF m 72 #[.val (.int p0), .val (.int p1), .val (.int p2), .val (.int p3), .val (.int p4), .val (.int p5), .val (.int (0 : Int32)), .val (.int c0_), .val (.int c1_), .val (.int c2_), .val (.int c3_), .val (.int c4_), .val (.ref b8), .unset, .unset, .unset, .unset, .unset] [(.int (0 : Int32))]))
    refine own_step (fun _ k => XS.iconst X8.here hx rfl (hb hby at_72) k) ?_
    show own_Ends _ _ _ _ _ _ _ (T8.setTop (mkF m 73 #[.val (.int p0), .val (.int p1), .val (.int p2), .val (.int p3), .val (.int p4), .val (.int p5), .val (.int (0 : Int32)), .val (.int c0_), .val (.int c1_), .val (.int c2_), .val (.int c3_), .val (.int c4_), .val (.ref b8), .unset, .unset, .unset, .unset, .unset] [(.int (2 : Int32)), (.int (0 : Int32))]))
    refine own_step (fun _ k => XS.icmpYes X8.here hx rfl (pc0 := 73) (pc' := 82) rfl (hb hby at_73) rfl (flt (by decide)).2.2.2 (by decide) (by decide) k) ?_
    show own_Ends _ _ _ _ _ _ _ (T8.setTop (mkF m 82 #[.val (.int p0), .val (.int p1), .val (.int p2), .val (.int p3), .val (.int p4), .val (.int p5), .val (.int (0 : Int32)), .val (.int c0_), .val (.int c1_), .val (.int c2_), .val (.int c3_), .val (.int c4_), .val (.ref b8), .unset, .unset, .unset, .unset, .unset] []))
    refine own_step (fun _ k => XS.iload X8.here hx rfl (hb hby at_82) rfl k) ?_
    show own_Ends _ _ _ _ _ _ _ (T8.setTop (mkF m 84 #[.val (.int p0), .val (.int p1), .val (.int p2), .val (.int p3), .val (.int p4), .val (.int p5), .val (.int (0 : Int32)), .val (.int c0_), .val (.int c1_), .val (.int c2_), .val (.int c3_), .val (.int c4_), .val (.ref b8), .unset, .unset, .unset, .unset, .unset] [(.int (0 : Int32))]))
    refine own_step (fun _ k => XS.iconst X8.here hx rfl (hb hby at_84) k) ?_
    show own_Ends _ _ _ _ _ _ _ (T8.setTop (mkF m 85 #[.val (.int p0), .val (.int p1), .val (.int p2), .val (.int p3), .val (.int p4), .val (.int p5), .val (.int (0 : Int32)), .val (.int c0_), .val (.int c1_), .val (.int c2_), .val (.int c3_), .val (.int c4_), .val (.ref b8), .unset, .unset, .unset, .unset, .unset] [(.int (3 : Int32)), (.int (0 : Int32))]))
    refine own_step (fun _ k => XS.icmpYes X8.here hx rfl (pc0 := 85) (pc' := 94) rfl (hb hby at_85) rfl (flt (by decide)).2.2.2 (by decide) (by decide) k) ?_
    show own_Ends _ _ _ _ _ _ _ (T8.setTop (mkF m 94 #[.val (.int p0), .val (.int p1), .val (.int p2), .val (.int p3), .val (.int p4), .val (.int p5), .val (.int (0 : Int32)), .val (.int c0_), .val (.int c1_), .val (.int c2_), .val (.int c3_), .val (.int c4_), .val (.ref b8), .unset, .unset, .unset, .unset, .unset] []))
    refine own_step (fun _ k => XS.iload X8.here hx rfl (hb hby at_94) rfl k) ?_
    show own_Ends _ _ _ _ _ _ _ (T8.setTop (mkF m 96 #[.val (.int p0), .val (.int p1), .val (.int p2), .val (.int p3), .val (.int p4), .val (.int p5), .val (.int (0 : Int32)), .val (.int c0_), .val (.int c1_), .val (.int c2_), .val (.int c3_), .val (.int c4_), .val (.ref b8), .unset, .unset, .unset, .unset, .unset] [(.int (0 : Int32))]))
    refine own_step (fun _ k => XS.iconst X8.here hx rfl (hb hby at_96) k) ?_
    show own_Ends _ _ _ _ _ _ _ (T8.setTop (mkF m 97 #[.val (.int p0), .val (.int p1), .val (.int p2), .val (.int p3), .val (.int p4), .val (.int p5), .val (.int (0 : Int32)), .val (.int c0_), .val (.int c1_), .val (.int c2_), .val (.int c3_), .val (.int c4_), .val (.ref b8), .unset, .unset, .unset, .unset, .unset] [(.int (4 : Int32)), (.int (0 : Int32))]))
    refine own_step (fun _ k => XS.icmpYes X8.here hx rfl (pc0 := 97) (pc' := 106) rfl (hb hby at_97) rfl (flt (by decide)).2.2.2 (by decide) (by decide) k) ?_
    show own_Ends _ _ _ _ _ _ _ (T8.setTop (mkF m 106 #[.val (.int p0), .val (.int p1), .val (.int p2), .val (.int p3), .val (.int p4), .val (.int p5), .val (.int (0 : Int32)), .val (.int c0_), .val (.int c1_), .val (.int c2_), .val (.int c3_), .val (.int c4_), .val (.ref b8), .unset, .unset, .unset, .unset, .unset] []))
    refine own_step (fun _ k => XS.iload X8.here hx rfl (hb hby at_106) rfl k) ?_
    show own_Ends _ _ _ _ _ _ _ (T8.setTop (mkF m 108 #[.val (.int p0), .val (.int p1), .val (.int p2), .val (.int p3), .val (.int p4), .val (.int p5), .val (.int (0 : Int32)), .val (.int c0_), .val (.int c1_), .val (.int c2_), .val (.int c3_), .val (.int c4_), .val (.ref b8), .unset, .unset, .unset, .unset, .unset] [(.int (0 : Int32))]))
    refine own_step (fun _ k => XS.iconst X8.here hx rfl (hb hby at_108) k) ?_
    show own_Ends _ _ _ _ _ _ _ (T8.setTop (mkF m 109 #[.val (.int p0), .val (.int p1), .val (.int p2), .val (.int p3), .val (.int p4), .val (.int p5), .val (.int (0 : Int32)), .val (.int c0_), .val (.int c1_), .val (.int c2_), .val (.int c3_), .val (.int c4_), .val (.ref b8), .unset, .unset, .unset, .unset, .unset] [(.int (3 : Int32)), (.int (0 : Int32))]))
    refine own_step (fun _ k => XS.icmpYes X8.here hx rfl (pc0 := 109) (pc' := 137) rfl (hb hby at_109) rfl (tlt (by decide)).1 (by decide) (by decide) k) ?_
    show own_Ends _ _ _ _ _ _ _ (T8.setTop (mkF m 137 #[.val (.int p0), .val (.int p1), .val (.int p2), .val (.int p3), .val (.int p4), .val (.int p5), .val (.int (0 : Int32)), .val (.int c0_), .val (.int c1_), .val (.int c2_), .val (.int c3_), .val (.int c4_), .val (.ref b8), .unset, .unset, .unset, .unset, .unset] []))
    refine own_step (fun _ k => XS.iconst X8.here hx rfl (hb hby at_137) k) ?_
    show own_Ends _ _ _ _ _ _ _ (T8.setTop (mkF m 138 #[.val (.int p0), .val (.int p1), .val (.int p2), .val (.int p3), .val (.int p4), .val (.int p5), .val (.int (0 : Int32)), .val (.int c0_), .val (.int c1_), .val (.int c2_), .val (.int c3_), .val (.int c4_), .val (.ref b8), .unset, .unset, .unset, .unset, .unset] [(.int (0 : Int32))]))
    have hst : own_start [] = 0 := rfl
    refine own_step (fun _ k => XS.istore X8.here hx rfl (hb hby at_138) rfl (l' := #[.val (.int p0), .val (.int p1), .val (.int p2), .val (.int p3), .val (.int p4), .val (.int p5), .val (.int (0 : Int32)), .val (.int c0_), .val (.int c1_), .val (.int c2_), .val (.int c3_), .val (.int c4_), .val (.ref b8), .val (.int (0 : Int32)), .unset, .unset, .unset, .unset]) rfl k) ?_
    show own_Ends _ _ _ _ _ _ _ (T8.setTop (mkF m 140 #[.val (.int p0), .val (.int p1), .val (.int p2), .val (.int p3), .val (.int p4), .val (.int p5), .val (.int (0 : Int32)), .val (.int c0_), .val (.int c1_), .val (.int c2_), .val (.int c3_), .val (.int c4_), .val (.ref b8), .val (.int (0 : Int32)), .unset, .unset, .unset, .unset] []))
    refine own_step (fun _ k => XS.iload X8.here hx rfl (hb hby at_140) rfl k) ?_
    show own_Ends _ _ _ _ _ _ _ (T8.setTop (mkF m 142 #[.val (.int p0), .val (.int p1), .val (.int p2), .val (.int p3), .val (.int p4), .val (.int p5), .val (.int (0 : Int32)), .val (.int c0_), .val (.int c1_), .val (.int c2_), .val (.int c3_), .val (.int c4_), .val (.ref b8), .val (.int (0 : Int32)), .unset, .unset, .unset, .unset] [(.int (0 : Int32))]))
    refine own_step (fun _ k => XS.ifYes X8.here hx rfl (pc0 := 142) (pc' := 149) rfl (hb hby at_142) rfl ((if0 _ _).trans (teq rfl).1) (by decide) (by decide) k) ?_
    show own_Ends _ _ _ _ _ _ _ (T8.setTop (mkF m 149 #[.val (.int p0), .val (.int p1), .val (.int p2), .val (.int p3), .val (.int p4), .val (.int p5), .val (.int (0 : Int32)), .val (.int c0_), .val (.int c1_), .val (.int c2_), .val (.int c3_), .val (.int c4_), .val (.ref b8), .val (.int (0 : Int32)), .unset, .unset, .unset, .unset] []))
    refine own_step (fun _ k => XS.iconst X8.here hx rfl (hb hby at_149) k) ?_
    show own_Ends _ _ _ _ _ _ _ (T8.setTop (mkF m 150 #[.val (.int p0), .val (.int p1), .val (.int p2), .val (.int p3), .val (.int p4), .val (.int p5), .val (.int (0 : Int32)), .val (.int c0_), .val (.int c1_), .val (.int c2_), .val (.int c3_), .val (.int c4_), .val (.ref b8), .val (.int (0 : Int32)), .unset, .unset, .unset, .unset] [(.int (0 : Int32))]))
    refine own_step (fun _ k => XS.istore X8.here hx rfl (hb hby at_150) rfl (l' := #[.val (.int p0), .val (.int p1), .val (.int p2), .val (.int p3), .val (.int p4), .val (.int p5), .val (.int (0 : Int32)), .val (.int c0_), .val (.int c1_), .val (.int c2_), .val (.int c3_), .val (.int c4_), .val (.ref b8), .val (.int (0 : Int32)), .val (.int (0 : Int32)), .unset, .unset, .unset]) rfl k) ?_
    show own_Ends _ _ _ _ _ _ _ (T8.setTop (mkF m 152 #[.val (.int p0), .val (.int p1), .val (.int p2), .val (.int p3), .val (.int p4), .val (.int p5), .val (.int (0 : Int32)), .val (.int c0_), .val (.int c1_), .val (.int c2_), .val (.int c3_), .val (.int c4_), .val (.ref b8), .val (.int (0 : Int32)), .val (.int (0 : Int32)), .unset, .unset, .unset] []))
    refine own_step (fun _ k => XS.iconst X8.here hx rfl (hb hby at_152) k) ?_
    show own_Ends _ _ _ _ _ _ _ (T8.setTop (mkF m 153 #[.val (.int p0), .val (.int p1), .val (.int p2), .val (.int p3), .val (.int p4), .val (.int p5), .val (.int (0 : Int32)), .val (.int c0_), .val (.int c1_), .val (.int c2_), .val (.int c3_), .val (.int c4_), .val (.ref b8), .val (.int (0 : Int32)), .val (.int (0 : Int32)), .unset, .unset, .unset] [(.int (-1 : Int32))]))
    refine own_step (fun _ k => XS.istore X8.here hx rfl (hb hby at_153) rfl (l' := #[.val (.int p0), .val (.int p1), .val (.int p2), .val (.int p3), .val (.int p4), .val (.int p5), .val (.int (0 : Int32)), .val (.int c0_), .val (.int c1_), .val (.int c2_), .val (.int c3_), .val (.int c4_), .val (.ref b8), .val (.int (0 : Int32)), .val (.int (0 : Int32)), .val (.int (-1 : Int32)), .unset, .unset]) rfl k) ?_
    show own_Ends _ _ _ _ _ _ _ (T8.setTop (mkF m 155 #[.val (.int p0), .val (.int p1), .val (.int p2), .val (.int p3), .val (.int p4), .val (.int p5), .val (.int (0 : Int32)), .val (.int c0_), .val (.int c1_), .val (.int c2_), .val (.int c3_), .val (.int c4_), .val (.ref b8), .val (.int (0 : Int32)), .val (.int (0 : Int32)), .val (.int (-1 : Int32)), .unset, .unset] []))
    refine own_step (fun _ k => XS.iconst X8.here hx rfl (hb hby at_155) k) ?_
    show own_Ends _ _ _ _ _ _ _ (T8.setTop (mkF m 156 #[.val (.int p0), .val (.int p1), .val (.int p2), .val (.int p3), .val (.int p4), .val (.int p5), .val (.int (0 : Int32)), .val (.int c0_), .val (.int c1_), .val (.int c2_), .val (.int c3_), .val (.int c4_), .val (.ref b8), .val (.int (0 : Int32)), .val (.int (0 : Int32)), .val (.int (-1 : Int32)), .unset, .unset] [(.int (0 : Int32))]))
    refine own_step (fun _ k => XS.istore X8.here hx rfl (hb hby at_156) rfl (l' := #[.val (.int p0), .val (.int p1), .val (.int p2), .val (.int p3), .val (.int p4), .val (.int p5), .val (.int (0 : Int32)), .val (.int c0_), .val (.int c1_), .val (.int c2_), .val (.int c3_), .val (.int c4_), .val (.ref b8), .val (.int (0 : Int32)), .val (.int (0 : Int32)), .val (.int (-1 : Int32)), .val (.int (0 : Int32)), .unset]) rfl k) ?_
    show own_Ends _ _ _ _ _ _ _ (T8.setTop (mkF m 158 #[.val (.int p0), .val (.int p1), .val (.int p2), .val (.int p3), .val (.int p4), .val (.int p5), .val (.int (0 : Int32)), .val (.int c0_), .val (.int c1_), .val (.int c2_), .val (.int c3_), .val (.int c4_), .val (.ref b8), .val (.int (0 : Int32)), .val (.int (0 : Int32)), .val (.int (-1 : Int32)), .val (.int (0 : Int32)), .unset] []))
    refine own_step (fun _ k => XS.iload X8.here hx rfl (hb hby at_158) rfl k) ?_
    show own_Ends _ _ _ _ _ _ _ (T8.setTop (mkF m 160 #[.val (.int p0), .val (.int p1), .val (.int p2), .val (.int p3), .val (.int p4), .val (.int p5), .val (.int (0 : Int32)), .val (.int c0_), .val (.int c1_), .val (.int c2_), .val (.int c3_), .val (.int c4_), .val (.ref b8), .val (.int (0 : Int32)), .val (.int (0 : Int32)), .val (.int (-1 : Int32)), .val (.int (0 : Int32)), .unset] [(.int (0 : Int32))]))
    refine own_step (fun _ k => XS.iconst X8.here hx rfl (hb hby at_160) k) ?_
    show own_Ends _ _ _ _ _ _ _ (T8.setTop (mkF m 161 #[.val (.int p0), .val (.int p1), .val (.int p2), .val (.int p3), .val (.int p4), .val (.int p5), .val (.int (0 : Int32)), .val (.int c0_), .val (.int c1_), .val (.int c2_), .val (.int c3_), .val (.int c4_), .val (.ref b8), .val (.int (0 : Int32)), .val (.int (0 : Int32)), .val (.int (-1 : Int32)), .val (.int (0 : Int32)), .unset] [(.int (4 : Int32)), (.int (0 : Int32))]))
    refine own_step (fun _ k => XS.icmpYes X8.here hx rfl (pc0 := 161) (pc' := 185) rfl (hb hby at_161) rfl (flt (by decide)).2.2.2 (by decide) (by decide) k) ?_
    show own_Ends _ _ _ _ _ _ _ (T8.setTop (mkF m 185 #[.val (.int p0), .val (.int p1), .val (.int p2), .val (.int p3), .val (.int p4), .val (.int p5), .val (.int (0 : Int32)), .val (.int c0_), .val (.int c1_), .val (.int c2_), .val (.int c3_), .val (.int c4_), .val (.ref b8), .val (.int (0 : Int32)), .val (.int (0 : Int32)), .val (.int (-1 : Int32)), .val (.int (0 : Int32)), .unset] []))
    refine own_step (fun _ k => XS.iload X8.here hx rfl (hb hby at_185) rfl k) ?_
    show own_Ends _ _ _ _ _ _ _ (T8.setTop (mkF m 187 #[.val (.int p0), .val (.int p1), .val (.int p2), .val (.int p3), .val (.int p4), .val (.int p5), .val (.int (0 : Int32)), .val (.int c0_), .val (.int c1_), .val (.int c2_), .val (.int c3_), .val (.int c4_), .val (.ref b8), .val (.int (0 : Int32)), .val (.int (0 : Int32)), .val (.int (-1 : Int32)), .val (.int (0 : Int32)), .unset] [(.int (0 : Int32))]))
    refine own_step (fun _ k => XS.iconst X8.here hx rfl (hb hby at_187) k) ?_
    show own_Ends _ _ _ _ _ _ _ (T8.setTop (mkF m 188 #[.val (.int p0), .val (.int p1), .val (.int p2), .val (.int p3), .val (.int p4), .val (.int p5), .val (.int (0 : Int32)), .val (.int c0_), .val (.int c1_), .val (.int c2_), .val (.int c3_), .val (.int c4_), .val (.ref b8), .val (.int (0 : Int32)), .val (.int (0 : Int32)), .val (.int (-1 : Int32)), .val (.int (0 : Int32)), .unset] [(.int (3 : Int32)), (.int (0 : Int32))]))
    refine own_step (fun _ k => XS.icmpYes X8.here hx rfl (pc0 := 188) (pc' := 212) rfl (hb hby at_188) rfl (flt (by decide)).2.2.2 (by decide) (by decide) k) ?_
    show own_Ends _ _ _ _ _ _ _ (T8.setTop (mkF m 212 #[.val (.int p0), .val (.int p1), .val (.int p2), .val (.int p3), .val (.int p4), .val (.int p5), .val (.int (0 : Int32)), .val (.int c0_), .val (.int c1_), .val (.int c2_), .val (.int c3_), .val (.int c4_), .val (.ref b8), .val (.int (0 : Int32)), .val (.int (0 : Int32)), .val (.int (-1 : Int32)), .val (.int (0 : Int32)), .unset] []))
    refine own_step (fun _ k => XS.iload X8.here hx rfl (hb hby at_212) rfl k) ?_
    show own_Ends _ _ _ _ _ _ _ (T8.setTop (mkF m 214 #[.val (.int p0), .val (.int p1), .val (.int p2), .val (.int p3), .val (.int p4), .val (.int p5), .val (.int (0 : Int32)), .val (.int c0_), .val (.int c1_), .val (.int c2_), .val (.int c3_), .val (.int c4_), .val (.ref b8), .val (.int (0 : Int32)), .val (.int (0 : Int32)), .val (.int (-1 : Int32)), .val (.int (0 : Int32)), .unset] [(.int (0 : Int32))]))
    refine own_step (fun _ k => XS.iconst X8.here hx rfl (hb hby at_214) k) ?_
    show own_Ends _ _ _ _ _ _ _ (T8.setTop (mkF m 215 #[.val (.int p0), .val (.int p1), .val (.int p2), .val (.int p3), .val (.int p4), .val (.int p5), .val (.int (0 : Int32)), .val (.int c0_), .val (.int c1_), .val (.int c2_), .val (.int c3_), .val (.int c4_), .val (.ref b8), .val (.int (0 : Int32)), .val (.int (0 : Int32)), .val (.int (-1 : Int32)), .val (.int (0 : Int32)), .unset] [(.int (2 : Int32)), (.int (0 : Int32))]))
    refine own_step (fun _ k => XS.icmpYes X8.here hx rfl (pc0 := 215) (pc' := 239) rfl (hb hby at_215) rfl (flt (by decide)).2.2.2 (by decide) (by decide) k) ?_
    show own_Ends _ _ _ _ _ _ _ (T8.setTop (mkF m 239 #[.val (.int p0), .val (.int p1), .val (.int p2), .val (.int p3), .val (.int p4), .val (.int p5), .val (.int (0 : Int32)), .val (.int c0_), .val (.int c1_), .val (.int c2_), .val (.int c3_), .val (.int c4_), .val (.ref b8), .val (.int (0 : Int32)), .val (.int (0 : Int32)), .val (.int (-1 : Int32)), .val (.int (0 : Int32)), .unset] []))
    refine own_step (fun _ k => XS.iload X8.here hx rfl (hb hby at_239) rfl k) ?_
    show own_Ends _ _ _ _ _ _ _ (T8.setTop (mkF m 241 #[.val (.int p0), .val (.int p1), .val (.int p2), .val (.int p3), .val (.int p4), .val (.int p5), .val (.int (0 : Int32)), .val (.int c0_), .val (.int c1_), .val (.int c2_), .val (.int c3_), .val (.int c4_), .val (.ref b8), .val (.int (0 : Int32)), .val (.int (0 : Int32)), .val (.int (-1 : Int32)), .val (.int (0 : Int32)), .unset] [(.int (0 : Int32))]))
    refine own_step (fun _ k => XS.iconst X8.here hx rfl (hb hby at_241) k) ?_
    show own_Ends _ _ _ _ _ _ _ (T8.setTop (mkF m 242 #[.val (.int p0), .val (.int p1), .val (.int p2), .val (.int p3), .val (.int p4), .val (.int p5), .val (.int (0 : Int32)), .val (.int c0_), .val (.int c1_), .val (.int c2_), .val (.int c3_), .val (.int c4_), .val (.ref b8), .val (.int (0 : Int32)), .val (.int (0 : Int32)), .val (.int (-1 : Int32)), .val (.int (0 : Int32)), .unset] [(.int (1 : Int32)), (.int (0 : Int32))]))
    refine own_step (fun _ k => XS.icmpYes X8.here hx rfl (pc0 := 242) (pc' := 266) rfl (hb hby at_242) rfl (flt (by decide)).2.2.2 (by decide) (by decide) k) ?_
    show own_Ends _ _ _ _ _ _ _ (T8.setTop (mkF m 266 #[.val (.int p0), .val (.int p1), .val (.int p2), .val (.int p3), .val (.int p4), .val (.int p5), .val (.int (0 : Int32)), .val (.int c0_), .val (.int c1_), .val (.int c2_), .val (.int c3_), .val (.int c4_), .val (.ref b8), .val (.int (0 : Int32)), .val (.int (0 : Int32)), .val (.int (-1 : Int32)), .val (.int (0 : Int32)), .unset] []))
    refine own_step (fun _ k => XS.iload X8.here hx rfl (hb hby at_266) rfl k) ?_
    show own_Ends _ _ _ _ _ _ _ (T8.setTop (mkF m 268 #[.val (.int p0), .val (.int p1), .val (.int p2), .val (.int p3), .val (.int p4), .val (.int p5), .val (.int (0 : Int32)), .val (.int c0_), .val (.int c1_), .val (.int c2_), .val (.int c3_), .val (.int c4_), .val (.ref b8), .val (.int (0 : Int32)), .val (.int (0 : Int32)), .val (.int (-1 : Int32)), .val (.int (0 : Int32)), .unset] [(.int (0 : Int32))]))
    refine own_step (fun _ k => XS.ifYes X8.here hx rfl (pc0 := 268) (pc' := 291) rfl (hb hby at_268) rfl ((if0 _ _).trans (flt (by decide)).2.2.2) (by decide) (by decide) k) ?_
    show own_Ends _ _ _ _ _ _ _ (T8.setTop (mkF m 291 #[.val (.int p0), .val (.int p1), .val (.int p2), .val (.int p3), .val (.int p4), .val (.int p5), .val (.int (0 : Int32)), .val (.int c0_), .val (.int c1_), .val (.int c2_), .val (.int c3_), .val (.int c4_), .val (.ref b8), .val (.int (0 : Int32)), .val (.int (0 : Int32)), .val (.int (-1 : Int32)), .val (.int (0 : Int32)), .unset] []))
    have J308_9 : ∀ (ex : Int32) (hex : ex = own_res (-1 : Int32) (0 : Int32)), own_Ends p e below s 1 5 (own_Q0 Z p0 p1 p2 p3 p4 p5  h0 n0) (T8.setTop (mkF m 308 #[.val (.int p0), .val (.int p1), .val (.int p2), .val (.int p3), .val (.int p4), .val (.int p5), .val (.int (0 : Int32)), .val (.int c0_), .val (.int c1_), .val (.int c2_), .val (.int c3_), .val (.int c4_), .val (.ref b8), .val (.int (0 : Int32)), .val (.int (0 : Int32)), .val (.int (-1 : Int32)), .val (.int (0 : Int32)), .unset] [(.int ex)])) := by
      intro ex hex
      show own_Ends _ _ _ _ _ _ _ (T8.setTop (mkF m 308 #[.val (.int p0), .val (.int p1), .val (.int p2), .val (.int p3), .val (.int p4), .val (.int p5), .val (.int (0 : Int32)), .val (.int c0_), .val (.int c1_), .val (.int c2_), .val (.int c3_), .val (.int c4_), .val (.ref b8), .val (.int (0 : Int32)), .val (.int (0 : Int32)), .val (.int (-1 : Int32)), .val (.int (0 : Int32)), .unset] [(.int ex)]))
      refine own_step (fun _ k => XS.istore X8.here hx rfl (hb hby at_308) rfl (l' := #[.val (.int p0), .val (.int p1), .val (.int p2), .val (.int p3), .val (.int p4), .val (.int p5), .val (.int (0 : Int32)), .val (.int c0_), .val (.int c1_), .val (.int c2_), .val (.int c3_), .val (.int c4_), .val (.ref b8), .val (.int (0 : Int32)), .val (.int (0 : Int32)), .val (.int (-1 : Int32)), .val (.int (0 : Int32)), .val (.int ex)]) rfl k) ?_
      show own_Ends _ _ _ _ _ _ _ (T8.setTop (mkF m 310 #[.val (.int p0), .val (.int p1), .val (.int p2), .val (.int p3), .val (.int p4), .val (.int p5), .val (.int (0 : Int32)), .val (.int c0_), .val (.int c1_), .val (.int c2_), .val (.int c3_), .val (.int c4_), .val (.ref b8), .val (.int (0 : Int32)), .val (.int (0 : Int32)), .val (.int (-1 : Int32)), .val (.int (0 : Int32)), .val (.int ex)] []))
      refine own_step (fun _ k => XS.aload X8.here hx rfl (hb hby at_310) rfl rfl k) ?_
      show own_Ends _ _ _ _ _ _ _ (T8.setTop (mkF m 312 #[.val (.int p0), .val (.int p1), .val (.int p2), .val (.int p3), .val (.int p4), .val (.int p5), .val (.int (0 : Int32)), .val (.int c0_), .val (.int c1_), .val (.int c2_), .val (.int c3_), .val (.int c4_), .val (.ref b8), .val (.int (0 : Int32)), .val (.int (0 : Int32)), .val (.int (-1 : Int32)), .val (.int (0 : Int32)), .val (.int ex)] [(.ref b8)]))
      obtain ⟨cl10, Ar10, qq10, S10, M10, H10, G10⟩ := id V8_b8
      have hbb : ∀ b ∈ ([] : List Int32), nar .byte b = b := by
        intro b hbl; cases hbl
      obtain ⟨_, _, ⟨T11, L11, k11, n11⟩, -, X11, ⟨Lc11, hQ11, l11, y11, z11⟩, st11⟩ := Jvm.LawKit.callS X8 hx (y := (⟨"com/example/parley/parley/io/CompetitionXml", "looksLikeXml", "([B)Z"⟩ : MethodName)) hown (mvT hZ (hw _ (List.mem_of_getElem? (i := 6) rfl))) (mvT hZ (hw _ (List.mem_of_getElem? (i := 7) rfl))) (mvT hZ (hw _ (List.mem_of_getElem? (i := 8) rfl))) (mvT hZ (hw _ (List.mem_of_getElem? (i := 9) rfl))) (by decide) (backOf (W := 0) (own_rm3 l Z a0 hw [] b8 cl10 [] h8 n0 Z8 Ar10 (S10.trans (show ((0 : Int32)).toNatClampNeg = 0 by decide)) (by simp) (own_hat (bs := []) H10 (S10.trans (show ((0 : Int32)).toNatClampNeg = 0 by decide))) hbb) hZ (hw _ (List.mem_of_getElem? (i := 9) rfl)) (hw _ (List.mem_of_getElem? (i := 8) rfl)) (by decide) (by decide)) (g := (mkF m 312 #[.val (.int p0), .val (.int p1), .val (.int p2), .val (.int p3), .val (.int p4), .val (.int p5), .val (.int (0 : Int32)), .val (.int c0_), .val (.int c1_), .val (.int c2_), .val (.int c3_), .val (.int c4_), .val (.ref b8), .val (.int (0 : Int32)), .val (.int (0 : Int32)), .val (.int (-1 : Int32)), .val (.int (0 : Int32)), .val (.int ex)] [(.ref b8)])) rfl (by rw [hml]; rfl) (argsL := [(.ref b8)]) (rest := []) (lenOf own_pd1 rfl) rfl (by show 2 * 0 + _ ≤ _; exact Nat.le_of_eq rfl) (hb hby at_312) (fun _ _ => ⟨rfl, e8, (by decide : 1 + 0 ≤ _), (by decide : 0 + 0 ≤ _)⟩)
      dsimp only [Pt.U, Pt.locs, Pt.cells, Pt.slots] at X11 l11 y11 z11 st11 hQ11
      subst l11 y11 z11
      obtain ⟨rfl, Nq11, e11⟩ := hQ11
      have N11 := Fr.app N7 Nq11
      refine own_step (fun _ k => st11 _ k) ?_
      show own_Ends _ _ _ _ _ _ _ (T11.setTop (mkF m 315 #[.val (.int p0), .val (.int p1), .val (.int p2), .val (.int p3), .val (.int p4), .val (.int p5), .val (.int (0 : Int32)), .val (.int c0_), .val (.int c1_), .val (.int c2_), .val (.int c3_), .val (.int c4_), .val (.ref b8), .val (.int (0 : Int32)), .val (.int (0 : Int32)), .val (.int (-1 : Int32)), .val (.int (0 : Int32)), .val (.int ex)] [(.int (own_looks []))]))
      refine own_step (fun _ k => XS.iload X11.here hx rfl (hb hby at_315) rfl k) ?_
      show own_Ends _ _ _ _ _ _ _ (T11.setTop (mkF m 317 #[.val (.int p0), .val (.int p1), .val (.int p2), .val (.int p3), .val (.int p4), .val (.int p5), .val (.int (0 : Int32)), .val (.int c0_), .val (.int c1_), .val (.int c2_), .val (.int c3_), .val (.int c4_), .val (.ref b8), .val (.int (0 : Int32)), .val (.int (0 : Int32)), .val (.int (-1 : Int32)), .val (.int (0 : Int32)), .val (.int ex)] [(.int ex), (.int (own_looks []))]))
      refine own_step (fun _ k => XS.icmpNo X11.here hx rfl (hb hby at_317) rfl (teq (by rw [own_looks, hst, hex]; exact ((rfl : own_res _ _ = own_first [])).symm)).2 k) ?_
      show own_Ends _ _ _ _ _ _ _ (T11.setTop (mkF m 320 #[.val (.int p0), .val (.int p1), .val (.int p2), .val (.int p3), .val (.int p4), .val (.int p5), .val (.int (0 : Int32)), .val (.int c0_), .val (.int c1_), .val (.int c2_), .val (.int c3_), .val (.int c4_), .val (.ref b8), .val (.int (0 : Int32)), .val (.int (0 : Int32)), .val (.int (-1 : Int32)), .val (.int (0 : Int32)), .val (.int ex)] []))
      refine own_step (fun _ k => XS.iconst X11.here hx rfl (hb hby at_320) k) ?_
      show own_Ends _ _ _ _ _ _ _ (T11.setTop (mkF m 321 #[.val (.int p0), .val (.int p1), .val (.int p2), .val (.int p3), .val (.int p4), .val (.int p5), .val (.int (0 : Int32)), .val (.int c0_), .val (.int c1_), .val (.int c2_), .val (.int c3_), .val (.int c4_), .val (.ref b8), .val (.int (0 : Int32)), .val (.int (0 : Int32)), .val (.int (-1 : Int32)), .val (.int (0 : Int32)), .val (.int ex)] [(.int (1 : Int32))]))
      refine own_step (fun _ k => XS.goto X11.here hx rfl (pc0 := 321) (pc' := 325) rfl (hb hby at_321) (by decide) (by decide) k) ?_
      show own_Ends _ _ _ _ _ _ _ (T11.setTop (mkF m 325 #[.val (.int p0), .val (.int p1), .val (.int p2), .val (.int p3), .val (.int p4), .val (.int p5), .val (.int (0 : Int32)), .val (.int c0_), .val (.int c1_), .val (.int c2_), .val (.int c3_), .val (.int c4_), .val (.ref b8), .val (.int (0 : Int32)), .val (.int (0 : Int32)), .val (.int (-1 : Int32)), .val (.int (0 : Int32)), .val (.int ex)] [(.int (1 : Int32))]))
      refine own_ret X11 (BodyLoose.notSynchronized Bd) (v := (some (.int (1 : Int32)))) (fun h => by rw [Bd.returns] at h; cases h) ?_ (by decide) (by decide) (fun fs hr => X11.ireturnOut hx Bd.returns rfl (by simp) (hb hby at_325) hr)
      show own_Q0 Z p0 p1 p2 p3 p4 p5  h0 n0 (some (.int (1 : Int32))) T11.heap _
      rw [e11]
      exact ⟨rfl, N11⟩
    refine own_step (fun _ k => XS.iload X8.here hx rfl (hb hby at_291) rfl k) ?_
    show own_Ends _ _ _ _ _ _ _ (T8.setTop (mkF m 293 #[.val (.int p0), .val (.int p1), .val (.int p2), .val (.int p3), .val (.int p4), .val (.int p5), .val (.int (0 : Int32)), .val (.int c0_), .val (.int c1_), .val (.int c2_), .val (.int c3_), .val (.int c4_), .val (.ref b8), .val (.int (0 : Int32)), .val (.int (0 : Int32)), .val (.int (-1 : Int32)), .val (.int (0 : Int32)), .unset] [(.int (-1 : Int32))]))
    by_cases u1 : (-1 : Int32) < (0 : Int32)
    · refine own_step (fun _ k => XS.ifYes X8.here hx rfl (pc0 := 293) (pc' := 307) rfl (hb hby at_293) rfl ((if0 _ _).trans (tlt u1).1) (by decide) (by decide) k) ?_
      show own_Ends _ _ _ _ _ _ _ (T8.setTop (mkF m 307 #[.val (.int p0), .val (.int p1), .val (.int p2), .val (.int p3), .val (.int p4), .val (.int p5), .val (.int (0 : Int32)), .val (.int c0_), .val (.int c1_), .val (.int c2_), .val (.int c3_), .val (.int c4_), .val (.ref b8), .val (.int (0 : Int32)), .val (.int (0 : Int32)), .val (.int (-1 : Int32)), .val (.int (0 : Int32)), .unset] []))
      refine own_step (fun _ k => XS.iconst X8.here hx rfl (hb hby at_307) k) ?_
      show own_Ends _ _ _ _ _ _ _ (T8.setTop (mkF m 308 #[.val (.int p0), .val (.int p1), .val (.int p2), .val (.int p3), .val (.int p4), .val (.int p5), .val (.int (0 : Int32)), .val (.int c0_), .val (.int c1_), .val (.int c2_), .val (.int c3_), .val (.int c4_), .val (.ref b8), .val (.int (0 : Int32)), .val (.int (0 : Int32)), .val (.int (-1 : Int32)), .val (.int (0 : Int32)), .unset] [(.int (0 : Int32))]))
      exact J308_9 _ (by rw [own_res, if_pos u1])
    · refine own_step (fun _ k => XS.ifNo X8.here hx rfl (hb hby at_293) rfl ((if0 _ _).trans (flt u1).1) k) ?_
      show own_Ends _ _ _ _ _ _ _ (T8.setTop (mkF m 296 #[.val (.int p0), .val (.int p1), .val (.int p2), .val (.int p3), .val (.int p4), .val (.int p5), .val (.int (0 : Int32)), .val (.int c0_), .val (.int c1_), .val (.int c2_), .val (.int c3_), .val (.int c4_), .val (.ref b8), .val (.int (0 : Int32)), .val (.int (0 : Int32)), .val (.int (-1 : Int32)), .val (.int (0 : Int32)), .unset] []))
      refine own_step (fun _ k => XS.iload X8.here hx rfl (hb hby at_296) rfl k) ?_
      show own_Ends _ _ _ _ _ _ _ (T8.setTop (mkF m 298 #[.val (.int p0), .val (.int p1), .val (.int p2), .val (.int p3), .val (.int p4), .val (.int p5), .val (.int (0 : Int32)), .val (.int c0_), .val (.int c1_), .val (.int c2_), .val (.int c3_), .val (.int c4_), .val (.ref b8), .val (.int (0 : Int32)), .val (.int (0 : Int32)), .val (.int (-1 : Int32)), .val (.int (0 : Int32)), .unset] [(.int (0 : Int32))]))
      refine own_step (fun _ k => XS.bipush X8.here hx rfl (hb hby at_298) k) ?_
      show own_Ends _ _ _ _ _ _ _ (T8.setTop (mkF m 300 #[.val (.int p0), .val (.int p1), .val (.int p2), .val (.int p3), .val (.int p4), .val (.int p5), .val (.int (0 : Int32)), .val (.int c0_), .val (.int c1_), .val (.int c2_), .val (.int c3_), .val (.int c4_), .val (.ref b8), .val (.int (0 : Int32)), .val (.int (0 : Int32)), .val (.int (-1 : Int32)), .val (.int (0 : Int32)), .unset] [(.int (60 : Int32)), (.int (0 : Int32))]))
      by_cases u2 : (0 : Int32) = (60 : Int32)
      · refine own_step (fun _ k => XS.icmpNo X8.here hx rfl (hb hby at_300) rfl (teq u2).2 k) ?_
        show own_Ends _ _ _ _ _ _ _ (T8.setTop (mkF m 303 #[.val (.int p0), .val (.int p1), .val (.int p2), .val (.int p3), .val (.int p4), .val (.int p5), .val (.int (0 : Int32)), .val (.int c0_), .val (.int c1_), .val (.int c2_), .val (.int c3_), .val (.int c4_), .val (.ref b8), .val (.int (0 : Int32)), .val (.int (0 : Int32)), .val (.int (-1 : Int32)), .val (.int (0 : Int32)), .unset] []))
        refine own_step (fun _ k => XS.iconst X8.here hx rfl (hb hby at_303) k) ?_
        show own_Ends _ _ _ _ _ _ _ (T8.setTop (mkF m 304 #[.val (.int p0), .val (.int p1), .val (.int p2), .val (.int p3), .val (.int p4), .val (.int p5), .val (.int (0 : Int32)), .val (.int c0_), .val (.int c1_), .val (.int c2_), .val (.int c3_), .val (.int c4_), .val (.ref b8), .val (.int (0 : Int32)), .val (.int (0 : Int32)), .val (.int (-1 : Int32)), .val (.int (0 : Int32)), .unset] [(.int (1 : Int32))]))
        refine own_step (fun _ k => XS.goto X8.here hx rfl (pc0 := 304) (pc' := 308) rfl (hb hby at_304) (by decide) (by decide) k) ?_
        show own_Ends _ _ _ _ _ _ _ (T8.setTop (mkF m 308 #[.val (.int p0), .val (.int p1), .val (.int p2), .val (.int p3), .val (.int p4), .val (.int p5), .val (.int (0 : Int32)), .val (.int c0_), .val (.int c1_), .val (.int c2_), .val (.int c3_), .val (.int c4_), .val (.ref b8), .val (.int (0 : Int32)), .val (.int (0 : Int32)), .val (.int (-1 : Int32)), .val (.int (0 : Int32)), .unset] [(.int (1 : Int32))]))
        exact J308_9 _ (by rw [own_res, if_neg u1, if_pos u2])
      · refine own_step (fun _ k => XS.icmpYes X8.here hx rfl (pc0 := 300) (pc' := 307) rfl (hb hby at_300) rfl (feq u2).2 (by decide) (by decide) k) ?_
        show own_Ends _ _ _ _ _ _ _ (T8.setTop (mkF m 307 #[.val (.int p0), .val (.int p1), .val (.int p2), .val (.int p3), .val (.int p4), .val (.int p5), .val (.int (0 : Int32)), .val (.int c0_), .val (.int c1_), .val (.int c2_), .val (.int c3_), .val (.int c4_), .val (.ref b8), .val (.int (0 : Int32)), .val (.int (0 : Int32)), .val (.int (-1 : Int32)), .val (.int (0 : Int32)), .unset] []))
        refine own_step (fun _ k => XS.iconst X8.here hx rfl (hb hby at_307) k) ?_
        show own_Ends _ _ _ _ _ _ _ (T8.setTop (mkF m 308 #[.val (.int p0), .val (.int p1), .val (.int p2), .val (.int p3), .val (.int p4), .val (.int p5), .val (.int (0 : Int32)), .val (.int c0_), .val (.int c1_), .val (.int c2_), .val (.int c3_), .val (.int c4_), .val (.ref b8), .val (.int (0 : Int32)), .val (.int (0 : Int32)), .val (.int (-1 : Int32)), .val (.int (0 : Int32)), .unset] [(.int (0 : Int32))]))
        exact J308_9 _ (by rw [own_res, if_neg u1, if_neg u2])
  · show own_Ends _ _ _ _ _ _ _ (T7.setTop (mkF m 43 #[.val (.int p0), .val (.int p1), .val (.int p2), .val (.int p3), .val (.int p4), .val (.int p5), .val (.int (1 : Int32)), .val (.int c0_), .val (.int c1_), .val (.int c2_), .val (.int c3_), .val (.int c4_), .unset, .unset, .unset, .unset, .unset, .unset] [(.int (1 : Int32))]))
    obtain ⟨T12, h12, k12, X12, e12, E12, A12, st12⟩ := newP X7 hx hZ (hw _ (List.mem_of_getElem? (i := 5) rfl)) e7 (g := (mkF m 43 #[.val (.int p0), .val (.int p1), .val (.int p2), .val (.int p3), .val (.int p4), .val (.int p5), .val (.int (1 : Int32)), .val (.int c0_), .val (.int c1_), .val (.int c2_), .val (.int c3_), .val (.int c4_), .unset, .unset, .unset, .unset, .unset, .unset] [(.int (1 : Int32))])) rfl (hb hby at_43) rfl (by decide) (cap := 1) (by decide) (by decide) (by decide) (by decide)
    obtain ⟨b12, g12⟩ : ∃ z, z = h0.size := ⟨_, rfl⟩
    rw [← g12] at A12 st12
    have gn12 : n0 ≤ b12 := Nat.le_trans Z0 (Nat.le_of_eq g12.symm)
    have Z12 := Nat.le_trans Z0 E12.1
    have V12_b12 : Arv Z h12 b12 k12 .byte (1 : Int32) [(.int (0 : Int32))] (.int (0 : Int32)) := (Arv.new A12 (by decide)).pad (pad_rep [] (.int (0 : Int32)) 1)
    refine own_step (fun _ k => st12 _ k) ?_
    show own_Ends _ _ _ _ _ _ _ (T12.setTop (mkF m 45 #[.val (.int p0), .val (.int p1), .val (.int p2), .val (.int p3), .val (.int p4), .val (.int p5), .val (.int (1 : Int32)), .val (.int c0_), .val (.int c1_), .val (.int c2_), .val (.int c3_), .val (.int c4_), .unset, .unset, .unset, .unset, .unset, .unset] [(.ref b12)]))
    refine own_step (fun _ k => XS.astore X12.here hx rfl (hb hby at_45) rfl rfl (l' := #[.val (.int p0), .val (.int p1), .val (.int p2), .val (.int p3), .val (.int p4), .val (.int p5), .val (.int (1 : Int32)), .val (.int c0_), .val (.int c1_), .val (.int c2_), .val (.int c3_), .val (.int c4_), .val (.ref b12), .unset, .unset, .unset, .unset, .unset]) rfl k) ?_
    show own_Ends _ _ _ _ _ _ _ (T12.setTop (mkF m 47 #[.val (.int p0), .val (.int p1), .val (.int p2), .val (.int p3), .val (.int p4), .val (.int p5), .val (.int (1 : Int32)), .val (.int c0_), .val (.int c1_), .val (.int c2_), .val (.int c3_), .val (.int c4_), .val (.ref b12), .unset, .unset, .unset, .unset, .unset] []))
    refine own_step (fun _ k => XS.iload X12.here hx rfl (hb hby at_47) rfl k) ?_
    show own_Ends _ _ _ _ _ _ _ (T12.setTop (mkF m 49 #[.val (.int p0), .val (.int p1), .val (.int p2), .val (.int p3), .val (.int p4), .val (.int p5), .val (.int (1 : Int32)), .val (.int c0_), .val (.int c1_), .val (.int c2_), .val (.int c3_), .val (.int c4_), .val (.ref b12), .unset, .unset, .unset, .unset, .unset] [(.int (1 : Int32))]))
    refine own_step (fun _ k => XS.ifNo X12.here hx rfl (hb hby at_49) rfl ((if0 _ _).trans (tlt (by decide)).2.2.2) k) ?_
    show own_Ends _ _ _ _ _ _ _ (T12.setTop (mkF m 52 #[.val (.int p0), .val (.int p1), .val (.int p2), .val (.int p3), .val (.int p4), .val (.int p5), .val (.int (1 : Int32)), .val (.int c0_), .val (.int c1_), .val (.int c2_), .val (.int c3_), .val (.int c4_), .val (.ref b12), .unset, .unset, .unset, .unset, .unset] []))
    refine own_step (fun _ k => XS.aload X12.here hx rfl (hb hby at_52) rfl rfl k) ?_
    show own_Ends _ _ _ _ _ _ _ (T12.setTop (mkF m 54 #[.val (.int p0), .val (.int p1), .val (.int p2), .val (.int p3), .val (.int p4), .val (.int p5), .val (.int (1 : Int32)), .val (.int c0_), .val (.int c1_), .val (.int c2_), .val (.int c3_), .val (.int c4_), .val (.ref b12), .unset, .unset, .unset, .unset, .unset] [(.ref b12)]))
    refine own_step (fun _ k => XS.iconst X12.here hx rfl (hb hby at_54) k) ?_
    show own_Ends _ _ _ _ _ _ _ (T12.setTop (mkF m 55 #[.val (.int p0), .val (.int p1), .val (.int p2), .val (.int p3), .val (.int p4), .val (.int p5), .val (.int (1 : Int32)), .val (.int c0_), .val (.int c1_), .val (.int c2_), .val (.int c3_), .val (.int c4_), .val (.ref b12), .unset, .unset, .unset, .unset, .unset] [(.int (0 : Int32)), (.ref b12)]))
    refine own_step (fun _ k => XS.iload X12.here hx rfl (hb hby at_55) rfl k) ?_
    show own_Ends _ _ _ _ _ _ _ (T12.setTop (mkF m 57 #[.val (.int p0), .val (.int p1), .val (.int p2), .val (.int p3), .val (.int p4), .val (.int p5), .val (.int (1 : Int32)), .val (.int c0_), .val (.int c1_), .val (.int c2_), .val (.int c3_), .val (.int c4_), .val (.ref b12), .unset, .unset, .unset, .unset, .unset] [(.int c0_), (.int (0 : Int32)), (.ref b12)]))
    obtain ⟨cl13, Ar13, qq13, S13, M13, H13, G13⟩ := id V12_b12
    have hin13 : ¬ ((0 : Int32) < 0 ∨ cl13.slots.size ≤ ((0 : Int32)).toNatClampNeg) := inb_of S13 ⟨by decide, by decide⟩
    obtain ⟨T13, h13, X13, e13, W13, st13⟩ := stB X12 hx hZ e12 Ar13 (j := (0 : Int32)) hin13 (g := (mkF m 57 #[.val (.int p0), .val (.int p1), .val (.int p2), .val (.int p3), .val (.int p4), .val (.int p5), .val (.int (1 : Int32)), .val (.int c0_), .val (.int c1_), .val (.int c2_), .val (.int c3_), .val (.int c4_), .val (.ref b12), .unset, .unset, .unset, .unset, .unset] [(.int c0_), (.int (0 : Int32)), (.ref b12)])) rfl rfl (hb hby at_57)
    have N13 := Fr.snoc X13 N7 gn12
    rw [nb0] at W13
    have V13_b12 : Arv Z h13 b12 k12 .byte (1 : Int32) [(.int c0_)] (.int (0 : Int32)) := Arv.set Ar13 qq13 S13 M13 H13 G13 (by have := fits_nar_byte c0_; rw [show (c0_).toInt8.toInt32 = c0_ from nb0] at this; exact this) W13 0 (by decide) (by simp)
    have Z13 := Nat.le_trans Z12 (Keep.of_wr W13).1
    refine own_step (fun _ k => st13 _ k) ?_
    show own_Ends _ _ _ _ _ _ _ (T13.setTop (mkF m 58 #[.val (.int p0), .val (.int p1), .val (.int p2), .val (.int p3), .val (.int p4), .val (.int p5), .val (.int (1 : Int32)), .val (.int c0_), .val (.int c1_), .val (.int c2_), .val (.int c3_), .val (.int c4_), .val (.ref b12), .unset, .unset, .unset, .unset, .unset] []))
    refine own_step (fun _ k => XS.iload X13.here hx rfl (hb hby at_58) rfl k) ?_
    show own_Ends _ _ _ _ _ _ _ (T13.setTop (mkF m 60 #[.val (.int p0), .val (.int p1), .val (.int p2), .val (.int p3), .val (.int p4), .val (.int p5), .val (.int (1 : Int32)), .val (.int c0_), .val (.int c1_), .val (.int c2_), .val (.int c3_), .val (.int c4_), .val (.ref b12), .unset, .unset, .unset, .unset, .unset] [(.int (1 : Int32))]))
    refine own_step (fun _ k => XS.iconst X13.here hx rfl (hb hby at_60) k) ?_
    show own_Ends _ _ _ _ _ _ _ (T13.setTop (mkF m 61 #[.val (.int p0), .val (.int p1), .val (.int p2), .val (.int p3), .val (.int p4), .val (.int p5), .val (.int (1 : Int32)), .val (.int c0_), .val (.int c1_), .val (.int c2_), .val (.int c3_), .val (.int c4_), .val (.ref b12), .unset, .unset, .unset, .unset, .unset] [(.int (1 : Int32)), (.int (1 : Int32))]))
    refine own_step (fun _ k => XS.icmpYes X13.here hx rfl (pc0 := 61) (pc' := 70) rfl (hb hby at_61) rfl (flt (by decide)).2.2.2 (by decide) (by decide) k) ?_
    show own_Ends _ _ _ _ _ _ _ (T13.setTop (mkF m 70 #[.val (.int p0), .val (.int p1), .val (.int p2), .val (.int p3), .val (.int p4), .val (.int p5), .val (.int (1 : Int32)), .val (.int c0_), .val (.int c1_), .val (.int c2_), .val (.int c3_), .val (.int c4_), .val (.ref b12), .unset, .unset, .unset, .unset, .unset] []))
    refine own_step (fun _ k => XS.iload X13.here hx rfl (hb hby at_70) rfl k) ?_
    show own_Ends _ _ _ _ _ _ _ (T13.setTop (mkF m 72 #[.val (.int p0), .val (.int p1), .val (.int p2), .val (.int p3), .val (.int p4), .val (.int p5), .val (.int (1 : Int32)), .val (.int c0_), .val (.int c1_), .val (.int c2_), .val (.int c3_), .val (.int c4_), .val (.ref b12), .unset, .unset, .unset, .unset, .unset] [(.int (1 : Int32))]))
    refine own_step (fun _ k => XS.iconst X13.here hx rfl (hb hby at_72) k) ?_
    show own_Ends _ _ _ _ _ _ _ (T13.setTop (mkF m 73 #[.val (.int p0), .val (.int p1), .val (.int p2), .val (.int p3), .val (.int p4), .val (.int p5), .val (.int (1 : Int32)), .val (.int c0_), .val (.int c1_), .val (.int c2_), .val (.int c3_), .val (.int c4_), .val (.ref b12), .unset, .unset, .unset, .unset, .unset] [(.int (2 : Int32)), (.int (1 : Int32))]))
    refine own_step (fun _ k => XS.icmpYes X13.here hx rfl (pc0 := 73) (pc' := 82) rfl (hb hby at_73) rfl (flt (by decide)).2.2.2 (by decide) (by decide) k) ?_
    show own_Ends _ _ _ _ _ _ _ (T13.setTop (mkF m 82 #[.val (.int p0), .val (.int p1), .val (.int p2), .val (.int p3), .val (.int p4), .val (.int p5), .val (.int (1 : Int32)), .val (.int c0_), .val (.int c1_), .val (.int c2_), .val (.int c3_), .val (.int c4_), .val (.ref b12), .unset, .unset, .unset, .unset, .unset] []))
    refine own_step (fun _ k => XS.iload X13.here hx rfl (hb hby at_82) rfl k) ?_
    show own_Ends _ _ _ _ _ _ _ (T13.setTop (mkF m 84 #[.val (.int p0), .val (.int p1), .val (.int p2), .val (.int p3), .val (.int p4), .val (.int p5), .val (.int (1 : Int32)), .val (.int c0_), .val (.int c1_), .val (.int c2_), .val (.int c3_), .val (.int c4_), .val (.ref b12), .unset, .unset, .unset, .unset, .unset] [(.int (1 : Int32))]))
    refine own_step (fun _ k => XS.iconst X13.here hx rfl (hb hby at_84) k) ?_
    show own_Ends _ _ _ _ _ _ _ (T13.setTop (mkF m 85 #[.val (.int p0), .val (.int p1), .val (.int p2), .val (.int p3), .val (.int p4), .val (.int p5), .val (.int (1 : Int32)), .val (.int c0_), .val (.int c1_), .val (.int c2_), .val (.int c3_), .val (.int c4_), .val (.ref b12), .unset, .unset, .unset, .unset, .unset] [(.int (3 : Int32)), (.int (1 : Int32))]))
    refine own_step (fun _ k => XS.icmpYes X13.here hx rfl (pc0 := 85) (pc' := 94) rfl (hb hby at_85) rfl (flt (by decide)).2.2.2 (by decide) (by decide) k) ?_
    show own_Ends _ _ _ _ _ _ _ (T13.setTop (mkF m 94 #[.val (.int p0), .val (.int p1), .val (.int p2), .val (.int p3), .val (.int p4), .val (.int p5), .val (.int (1 : Int32)), .val (.int c0_), .val (.int c1_), .val (.int c2_), .val (.int c3_), .val (.int c4_), .val (.ref b12), .unset, .unset, .unset, .unset, .unset] []))
    refine own_step (fun _ k => XS.iload X13.here hx rfl (hb hby at_94) rfl k) ?_
    show own_Ends _ _ _ _ _ _ _ (T13.setTop (mkF m 96 #[.val (.int p0), .val (.int p1), .val (.int p2), .val (.int p3), .val (.int p4), .val (.int p5), .val (.int (1 : Int32)), .val (.int c0_), .val (.int c1_), .val (.int c2_), .val (.int c3_), .val (.int c4_), .val (.ref b12), .unset, .unset, .unset, .unset, .unset] [(.int (1 : Int32))]))
    refine own_step (fun _ k => XS.iconst X13.here hx rfl (hb hby at_96) k) ?_
    show own_Ends _ _ _ _ _ _ _ (T13.setTop (mkF m 97 #[.val (.int p0), .val (.int p1), .val (.int p2), .val (.int p3), .val (.int p4), .val (.int p5), .val (.int (1 : Int32)), .val (.int c0_), .val (.int c1_), .val (.int c2_), .val (.int c3_), .val (.int c4_), .val (.ref b12), .unset, .unset, .unset, .unset, .unset] [(.int (4 : Int32)), (.int (1 : Int32))]))
    refine own_step (fun _ k => XS.icmpYes X13.here hx rfl (pc0 := 97) (pc' := 106) rfl (hb hby at_97) rfl (flt (by decide)).2.2.2 (by decide) (by decide) k) ?_
    show own_Ends _ _ _ _ _ _ _ (T13.setTop (mkF m 106 #[.val (.int p0), .val (.int p1), .val (.int p2), .val (.int p3), .val (.int p4), .val (.int p5), .val (.int (1 : Int32)), .val (.int c0_), .val (.int c1_), .val (.int c2_), .val (.int c3_), .val (.int c4_), .val (.ref b12), .unset, .unset, .unset, .unset, .unset] []))
    refine own_step (fun _ k => XS.iload X13.here hx rfl (hb hby at_106) rfl k) ?_
    show own_Ends _ _ _ _ _ _ _ (T13.setTop (mkF m 108 #[.val (.int p0), .val (.int p1), .val (.int p2), .val (.int p3), .val (.int p4), .val (.int p5), .val (.int (1 : Int32)), .val (.int c0_), .val (.int c1_), .val (.int c2_), .val (.int c3_), .val (.int c4_), .val (.ref b12), .unset, .unset, .unset, .unset, .unset] [(.int (1 : Int32))]))
    refine own_step (fun _ k => XS.iconst X13.here hx rfl (hb hby at_108) k) ?_
    show own_Ends _ _ _ _ _ _ _ (T13.setTop (mkF m 109 #[.val (.int p0), .val (.int p1), .val (.int p2), .val (.int p3), .val (.int p4), .val (.int p5), .val (.int (1 : Int32)), .val (.int c0_), .val (.int c1_), .val (.int c2_), .val (.int c3_), .val (.int c4_), .val (.ref b12), .unset, .unset, .unset, .unset, .unset] [(.int (3 : Int32)), (.int (1 : Int32))]))
    refine own_step (fun _ k => XS.icmpYes X13.here hx rfl (pc0 := 109) (pc' := 137) rfl (hb hby at_109) rfl (tlt (by decide)).1 (by decide) (by decide) k) ?_
    show own_Ends _ _ _ _ _ _ _ (T13.setTop (mkF m 137 #[.val (.int p0), .val (.int p1), .val (.int p2), .val (.int p3), .val (.int p4), .val (.int p5), .val (.int (1 : Int32)), .val (.int c0_), .val (.int c1_), .val (.int c2_), .val (.int c3_), .val (.int c4_), .val (.ref b12), .unset, .unset, .unset, .unset, .unset] []))
    refine own_step (fun _ k => XS.iconst X13.here hx rfl (hb hby at_137) k) ?_
    show own_Ends _ _ _ _ _ _ _ (T13.setTop (mkF m 138 #[.val (.int p0), .val (.int p1), .val (.int p2), .val (.int p3), .val (.int p4), .val (.int p5), .val (.int (1 : Int32)), .val (.int c0_), .val (.int c1_), .val (.int c2_), .val (.int c3_), .val (.int c4_), .val (.ref b12), .unset, .unset, .unset, .unset, .unset] [(.int (0 : Int32))]))
    have hst : own_start [c0_] = 0 := rfl
    refine own_step (fun _ k => XS.istore X13.here hx rfl (hb hby at_138) rfl (l' := #[.val (.int p0), .val (.int p1), .val (.int p2), .val (.int p3), .val (.int p4), .val (.int p5), .val (.int (1 : Int32)), .val (.int c0_), .val (.int c1_), .val (.int c2_), .val (.int c3_), .val (.int c4_), .val (.ref b12), .val (.int (0 : Int32)), .unset, .unset, .unset, .unset]) rfl k) ?_
    show own_Ends _ _ _ _ _ _ _ (T13.setTop (mkF m 140 #[.val (.int p0), .val (.int p1), .val (.int p2), .val (.int p3), .val (.int p4), .val (.int p5), .val (.int (1 : Int32)), .val (.int c0_), .val (.int c1_), .val (.int c2_), .val (.int c3_), .val (.int c4_), .val (.ref b12), .val (.int (0 : Int32)), .unset, .unset, .unset, .unset] []))
    refine own_step (fun _ k => XS.iload X13.here hx rfl (hb hby at_140) rfl k) ?_
    show own_Ends _ _ _ _ _ _ _ (T13.setTop (mkF m 142 #[.val (.int p0), .val (.int p1), .val (.int p2), .val (.int p3), .val (.int p4), .val (.int p5), .val (.int (1 : Int32)), .val (.int c0_), .val (.int c1_), .val (.int c2_), .val (.int c3_), .val (.int c4_), .val (.ref b12), .val (.int (0 : Int32)), .unset, .unset, .unset, .unset] [(.int (0 : Int32))]))
    refine own_step (fun _ k => XS.ifYes X13.here hx rfl (pc0 := 142) (pc' := 149) rfl (hb hby at_142) rfl ((if0 _ _).trans (teq rfl).1) (by decide) (by decide) k) ?_
    show own_Ends _ _ _ _ _ _ _ (T13.setTop (mkF m 149 #[.val (.int p0), .val (.int p1), .val (.int p2), .val (.int p3), .val (.int p4), .val (.int p5), .val (.int (1 : Int32)), .val (.int c0_), .val (.int c1_), .val (.int c2_), .val (.int c3_), .val (.int c4_), .val (.ref b12), .val (.int (0 : Int32)), .unset, .unset, .unset, .unset] []))
    refine own_step (fun _ k => XS.iconst X13.here hx rfl (hb hby at_149) k) ?_
    show own_Ends _ _ _ _ _ _ _ (T13.setTop (mkF m 150 #[.val (.int p0), .val (.int p1), .val (.int p2), .val (.int p3), .val (.int p4), .val (.int p5), .val (.int (1 : Int32)), .val (.int c0_), .val (.int c1_), .val (.int c2_), .val (.int c3_), .val (.int c4_), .val (.ref b12), .val (.int (0 : Int32)), .unset, .unset, .unset, .unset] [(.int (0 : Int32))]))
    refine own_step (fun _ k => XS.istore X13.here hx rfl (hb hby at_150) rfl (l' := #[.val (.int p0), .val (.int p1), .val (.int p2), .val (.int p3), .val (.int p4), .val (.int p5), .val (.int (1 : Int32)), .val (.int c0_), .val (.int c1_), .val (.int c2_), .val (.int c3_), .val (.int c4_), .val (.ref b12), .val (.int (0 : Int32)), .val (.int (0 : Int32)), .unset, .unset, .unset]) rfl k) ?_
    show own_Ends _ _ _ _ _ _ _ (T13.setTop (mkF m 152 #[.val (.int p0), .val (.int p1), .val (.int p2), .val (.int p3), .val (.int p4), .val (.int p5), .val (.int (1 : Int32)), .val (.int c0_), .val (.int c1_), .val (.int c2_), .val (.int c3_), .val (.int c4_), .val (.ref b12), .val (.int (0 : Int32)), .val (.int (0 : Int32)), .unset, .unset, .unset] []))
    refine own_step (fun _ k => XS.iconst X13.here hx rfl (hb hby at_152) k) ?_
    show own_Ends _ _ _ _ _ _ _ (T13.setTop (mkF m 153 #[.val (.int p0), .val (.int p1), .val (.int p2), .val (.int p3), .val (.int p4), .val (.int p5), .val (.int (1 : Int32)), .val (.int c0_), .val (.int c1_), .val (.int c2_), .val (.int c3_), .val (.int c4_), .val (.ref b12), .val (.int (0 : Int32)), .val (.int (0 : Int32)), .unset, .unset, .unset] [(.int (-1 : Int32))]))
    refine own_step (fun _ k => XS.istore X13.here hx rfl (hb hby at_153) rfl (l' := #[.val (.int p0), .val (.int p1), .val (.int p2), .val (.int p3), .val (.int p4), .val (.int p5), .val (.int (1 : Int32)), .val (.int c0_), .val (.int c1_), .val (.int c2_), .val (.int c3_), .val (.int c4_), .val (.ref b12), .val (.int (0 : Int32)), .val (.int (0 : Int32)), .val (.int (-1 : Int32)), .unset, .unset]) rfl k) ?_
    show own_Ends _ _ _ _ _ _ _ (T13.setTop (mkF m 155 #[.val (.int p0), .val (.int p1), .val (.int p2), .val (.int p3), .val (.int p4), .val (.int p5), .val (.int (1 : Int32)), .val (.int c0_), .val (.int c1_), .val (.int c2_), .val (.int c3_), .val (.int c4_), .val (.ref b12), .val (.int (0 : Int32)), .val (.int (0 : Int32)), .val (.int (-1 : Int32)), .unset, .unset] []))
    refine own_step (fun _ k => XS.iconst X13.here hx rfl (hb hby at_155) k) ?_
    show own_Ends _ _ _ _ _ _ _ (T13.setTop (mkF m 156 #[.val (.int p0), .val (.int p1), .val (.int p2), .val (.int p3), .val (.int p4), .val (.int p5), .val (.int (1 : Int32)), .val (.int c0_), .val (.int c1_), .val (.int c2_), .val (.int c3_), .val (.int c4_), .val (.ref b12), .val (.int (0 : Int32)), .val (.int (0 : Int32)), .val (.int (-1 : Int32)), .unset, .unset] [(.int (0 : Int32))]))
    refine own_step (fun _ k => XS.istore X13.here hx rfl (hb hby at_156) rfl (l' := #[.val (.int p0), .val (.int p1), .val (.int p2), .val (.int p3), .val (.int p4), .val (.int p5), .val (.int (1 : Int32)), .val (.int c0_), .val (.int c1_), .val (.int c2_), .val (.int c3_), .val (.int c4_), .val (.ref b12), .val (.int (0 : Int32)), .val (.int (0 : Int32)), .val (.int (-1 : Int32)), .val (.int (0 : Int32)), .unset]) rfl k) ?_
    show own_Ends _ _ _ _ _ _ _ (T13.setTop (mkF m 158 #[.val (.int p0), .val (.int p1), .val (.int p2), .val (.int p3), .val (.int p4), .val (.int p5), .val (.int (1 : Int32)), .val (.int c0_), .val (.int c1_), .val (.int c2_), .val (.int c3_), .val (.int c4_), .val (.ref b12), .val (.int (0 : Int32)), .val (.int (0 : Int32)), .val (.int (-1 : Int32)), .val (.int (0 : Int32)), .unset] []))
    refine own_step (fun _ k => XS.iload X13.here hx rfl (hb hby at_158) rfl k) ?_
    show own_Ends _ _ _ _ _ _ _ (T13.setTop (mkF m 160 #[.val (.int p0), .val (.int p1), .val (.int p2), .val (.int p3), .val (.int p4), .val (.int p5), .val (.int (1 : Int32)), .val (.int c0_), .val (.int c1_), .val (.int c2_), .val (.int c3_), .val (.int c4_), .val (.ref b12), .val (.int (0 : Int32)), .val (.int (0 : Int32)), .val (.int (-1 : Int32)), .val (.int (0 : Int32)), .unset] [(.int (1 : Int32))]))
    refine own_step (fun _ k => XS.iconst X13.here hx rfl (hb hby at_160) k) ?_
    show own_Ends _ _ _ _ _ _ _ (T13.setTop (mkF m 161 #[.val (.int p0), .val (.int p1), .val (.int p2), .val (.int p3), .val (.int p4), .val (.int p5), .val (.int (1 : Int32)), .val (.int c0_), .val (.int c1_), .val (.int c2_), .val (.int c3_), .val (.int c4_), .val (.ref b12), .val (.int (0 : Int32)), .val (.int (0 : Int32)), .val (.int (-1 : Int32)), .val (.int (0 : Int32)), .unset] [(.int (4 : Int32)), (.int (1 : Int32))]))
    refine own_step (fun _ k => XS.icmpYes X13.here hx rfl (pc0 := 161) (pc' := 185) rfl (hb hby at_161) rfl (flt (by decide)).2.2.2 (by decide) (by decide) k) ?_
    show own_Ends _ _ _ _ _ _ _ (T13.setTop (mkF m 185 #[.val (.int p0), .val (.int p1), .val (.int p2), .val (.int p3), .val (.int p4), .val (.int p5), .val (.int (1 : Int32)), .val (.int c0_), .val (.int c1_), .val (.int c2_), .val (.int c3_), .val (.int c4_), .val (.ref b12), .val (.int (0 : Int32)), .val (.int (0 : Int32)), .val (.int (-1 : Int32)), .val (.int (0 : Int32)), .unset] []))
    refine own_step (fun _ k => XS.iload X13.here hx rfl (hb hby at_185) rfl k) ?_
    show own_Ends _ _ _ _ _ _ _ (T13.setTop (mkF m 187 #[.val (.int p0), .val (.int p1), .val (.int p2), .val (.int p3), .val (.int p4), .val (.int p5), .val (.int (1 : Int32)), .val (.int c0_), .val (.int c1_), .val (.int c2_), .val (.int c3_), .val (.int c4_), .val (.ref b12), .val (.int (0 : Int32)), .val (.int (0 : Int32)), .val (.int (-1 : Int32)), .val (.int (0 : Int32)), .unset] [(.int (1 : Int32))]))
    refine own_step (fun _ k => XS.iconst X13.here hx rfl (hb hby at_187) k) ?_
    show own_Ends _ _ _ _ _ _ _ (T13.setTop (mkF m 188 #[.val (.int p0), .val (.int p1), .val (.int p2), .val (.int p3), .val (.int p4), .val (.int p5), .val (.int (1 : Int32)), .val (.int c0_), .val (.int c1_), .val (.int c2_), .val (.int c3_), .val (.int c4_), .val (.ref b12), .val (.int (0 : Int32)), .val (.int (0 : Int32)), .val (.int (-1 : Int32)), .val (.int (0 : Int32)), .unset] [(.int (3 : Int32)), (.int (1 : Int32))]))
    refine own_step (fun _ k => XS.icmpYes X13.here hx rfl (pc0 := 188) (pc' := 212) rfl (hb hby at_188) rfl (flt (by decide)).2.2.2 (by decide) (by decide) k) ?_
    show own_Ends _ _ _ _ _ _ _ (T13.setTop (mkF m 212 #[.val (.int p0), .val (.int p1), .val (.int p2), .val (.int p3), .val (.int p4), .val (.int p5), .val (.int (1 : Int32)), .val (.int c0_), .val (.int c1_), .val (.int c2_), .val (.int c3_), .val (.int c4_), .val (.ref b12), .val (.int (0 : Int32)), .val (.int (0 : Int32)), .val (.int (-1 : Int32)), .val (.int (0 : Int32)), .unset] []))
    refine own_step (fun _ k => XS.iload X13.here hx rfl (hb hby at_212) rfl k) ?_
    show own_Ends _ _ _ _ _ _ _ (T13.setTop (mkF m 214 #[.val (.int p0), .val (.int p1), .val (.int p2), .val (.int p3), .val (.int p4), .val (.int p5), .val (.int (1 : Int32)), .val (.int c0_), .val (.int c1_), .val (.int c2_), .val (.int c3_), .val (.int c4_), .val (.ref b12), .val (.int (0 : Int32)), .val (.int (0 : Int32)), .val (.int (-1 : Int32)), .val (.int (0 : Int32)), .unset] [(.int (1 : Int32))]))
    refine own_step (fun _ k => XS.iconst X13.here hx rfl (hb hby at_214) k) ?_
    show own_Ends _ _ _ _ _ _ _ (T13.setTop (mkF m 215 #[.val (.int p0), .val (.int p1), .val (.int p2), .val (.int p3), .val (.int p4), .val (.int p5), .val (.int (1 : Int32)), .val (.int c0_), .val (.int c1_), .val (.int c2_), .val (.int c3_), .val (.int c4_), .val (.ref b12), .val (.int (0 : Int32)), .val (.int (0 : Int32)), .val (.int (-1 : Int32)), .val (.int (0 : Int32)), .unset] [(.int (2 : Int32)), (.int (1 : Int32))]))
    refine own_step (fun _ k => XS.icmpYes X13.here hx rfl (pc0 := 215) (pc' := 239) rfl (hb hby at_215) rfl (flt (by decide)).2.2.2 (by decide) (by decide) k) ?_
    show own_Ends _ _ _ _ _ _ _ (T13.setTop (mkF m 239 #[.val (.int p0), .val (.int p1), .val (.int p2), .val (.int p3), .val (.int p4), .val (.int p5), .val (.int (1 : Int32)), .val (.int c0_), .val (.int c1_), .val (.int c2_), .val (.int c3_), .val (.int c4_), .val (.ref b12), .val (.int (0 : Int32)), .val (.int (0 : Int32)), .val (.int (-1 : Int32)), .val (.int (0 : Int32)), .unset] []))
    refine own_step (fun _ k => XS.iload X13.here hx rfl (hb hby at_239) rfl k) ?_
    show own_Ends _ _ _ _ _ _ _ (T13.setTop (mkF m 241 #[.val (.int p0), .val (.int p1), .val (.int p2), .val (.int p3), .val (.int p4), .val (.int p5), .val (.int (1 : Int32)), .val (.int c0_), .val (.int c1_), .val (.int c2_), .val (.int c3_), .val (.int c4_), .val (.ref b12), .val (.int (0 : Int32)), .val (.int (0 : Int32)), .val (.int (-1 : Int32)), .val (.int (0 : Int32)), .unset] [(.int (1 : Int32))]))
    refine own_step (fun _ k => XS.iconst X13.here hx rfl (hb hby at_241) k) ?_
    show own_Ends _ _ _ _ _ _ _ (T13.setTop (mkF m 242 #[.val (.int p0), .val (.int p1), .val (.int p2), .val (.int p3), .val (.int p4), .val (.int p5), .val (.int (1 : Int32)), .val (.int c0_), .val (.int c1_), .val (.int c2_), .val (.int c3_), .val (.int c4_), .val (.ref b12), .val (.int (0 : Int32)), .val (.int (0 : Int32)), .val (.int (-1 : Int32)), .val (.int (0 : Int32)), .unset] [(.int (1 : Int32)), (.int (1 : Int32))]))
    refine own_step (fun _ k => XS.icmpYes X13.here hx rfl (pc0 := 242) (pc' := 266) rfl (hb hby at_242) rfl (flt (by decide)).2.2.2 (by decide) (by decide) k) ?_
    show own_Ends _ _ _ _ _ _ _ (T13.setTop (mkF m 266 #[.val (.int p0), .val (.int p1), .val (.int p2), .val (.int p3), .val (.int p4), .val (.int p5), .val (.int (1 : Int32)), .val (.int c0_), .val (.int c1_), .val (.int c2_), .val (.int c3_), .val (.int c4_), .val (.ref b12), .val (.int (0 : Int32)), .val (.int (0 : Int32)), .val (.int (-1 : Int32)), .val (.int (0 : Int32)), .unset] []))
    refine own_step (fun _ k => XS.iload X13.here hx rfl (hb hby at_266) rfl k) ?_
    show own_Ends _ _ _ _ _ _ _ (T13.setTop (mkF m 268 #[.val (.int p0), .val (.int p1), .val (.int p2), .val (.int p3), .val (.int p4), .val (.int p5), .val (.int (1 : Int32)), .val (.int c0_), .val (.int c1_), .val (.int c2_), .val (.int c3_), .val (.int c4_), .val (.ref b12), .val (.int (0 : Int32)), .val (.int (0 : Int32)), .val (.int (-1 : Int32)), .val (.int (0 : Int32)), .unset] [(.int (1 : Int32))]))
    refine own_step (fun _ k => XS.ifNo X13.here hx rfl (hb hby at_268) rfl ((if0 _ _).trans (tlt (by decide)).2.2.2) k) ?_
    show own_Ends _ _ _ _ _ _ _ (T13.setTop (mkF m 271 #[.val (.int p0), .val (.int p1), .val (.int p2), .val (.int p3), .val (.int p4), .val (.int p5), .val (.int (1 : Int32)), .val (.int c0_), .val (.int c1_), .val (.int c2_), .val (.int c3_), .val (.int c4_), .val (.ref b12), .val (.int (0 : Int32)), .val (.int (0 : Int32)), .val (.int (-1 : Int32)), .val (.int (0 : Int32)), .unset] []))
    refine own_step (fun _ k => XS.iload X13.here hx rfl (hb hby at_271) rfl k) ?_
    show own_Ends _ _ _ _ _ _ _ (T13.setTop (mkF m 273 #[.val (.int p0), .val (.int p1), .val (.int p2), .val (.int p3), .val (.int p4), .val (.int p5), .val (.int (1 : Int32)), .val (.int c0_), .val (.int c1_), .val (.int c2_), .val (.int c3_), .val (.int c4_), .val (.ref b12), .val (.int (0 : Int32)), .val (.int (0 : Int32)), .val (.int (-1 : Int32)), .val (.int (0 : Int32)), .unset] [(.int (0 : Int32))]))
    refine own_step (fun _ k => XS.ifNo X13.here hx rfl (hb hby at_273) rfl ((if0 _ _).trans (flt (by decide)).2.2.1) k) ?_
    show own_Ends _ _ _ _ _ _ _ (T13.setTop (mkF m 276 #[.val (.int p0), .val (.int p1), .val (.int p2), .val (.int p3), .val (.int p4), .val (.int p5), .val (.int (1 : Int32)), .val (.int c0_), .val (.int c1_), .val (.int c2_), .val (.int c3_), .val (.int c4_), .val (.ref b12), .val (.int (0 : Int32)), .val (.int (0 : Int32)), .val (.int (-1 : Int32)), .val (.int (0 : Int32)), .unset] []))
    refine own_step (fun _ k => XS.iload X13.here hx rfl (hb hby at_276) rfl k) ?_
    show own_Ends _ _ _ _ _ _ _ (T13.setTop (mkF m 278 #[.val (.int p0), .val (.int p1), .val (.int p2), .val (.int p3), .val (.int p4), .val (.int p5), .val (.int (1 : Int32)), .val (.int c0_), .val (.int c1_), .val (.int c2_), .val (.int c3_), .val (.int c4_), .val (.ref b12), .val (.int (0 : Int32)), .val (.int (0 : Int32)), .val (.int (-1 : Int32)), .val (.int (0 : Int32)), .unset] [(.int c0_)]))
    obtain ⟨_, _, ⟨T14, L14, k14, n14⟩, -, X14, ⟨Lc14, hQ14, l14, y14, z14⟩, st14⟩ := Jvm.LawKit.callS X13 hx (y := (⟨"com/example/parley/parley/io/CompetitionXmlLooksLikeXmlPinLaw", "ws", "(B)Z"⟩ : MethodName)) hown (mvT hZ (hw _ (List.mem_of_getElem? (i := 10) rfl))) (mvT hZ (hw _ (List.mem_of_getElem? (i := 11) rfl))) (mvT hZ (hw _ (List.mem_of_getElem? (i := 3) rfl))) (mvT hZ (hw _ (List.mem_of_getElem? (i := 12) rfl))) (by decide) (backOf (W := 0) (own_rm2 l Z a0 hw [] c0_  h13 n0 Z13 ) hZ (hw _ (List.mem_of_getElem? (i := 12) rfl)) (hw _ (List.mem_of_getElem? (i := 3) rfl)) (by decide) (by decide)) (g := (mkF m 278 #[.val (.int p0), .val (.int p1), .val (.int p2), .val (.int p3), .val (.int p4), .val (.int p5), .val (.int (1 : Int32)), .val (.int c0_), .val (.int c1_), .val (.int c2_), .val (.int c3_), .val (.int c4_), .val (.ref b12), .val (.int (0 : Int32)), .val (.int (0 : Int32)), .val (.int (-1 : Int32)), .val (.int (0 : Int32)), .unset] [(.int c0_)])) rfl (by rw [hml]; rfl) (argsL := [(.int c0_)]) (rest := []) (lenOf own_pd2 rfl) rfl (by show 2 * 0 + _ ≤ _; exact Nat.le_of_eq rfl) (hb hby at_278) (fun _ _ => ⟨rfl, e13, (by decide : 1 + 0 ≤ _), (by decide : 1 + 0 ≤ _)⟩)
    dsimp only [Pt.U, Pt.locs, Pt.cells, Pt.slots] at X14 l14 y14 z14 st14 hQ14
    subst l14 y14 z14
    obtain ⟨rfl, Nq14, e14⟩ := hQ14
    have N14 := Fr.app N13 Nq14
    refine own_step (fun _ k => st14 _ k) ?_
    show own_Ends _ _ _ _ _ _ _ (T14.setTop (mkF m 281 #[.val (.int p0), .val (.int p1), .val (.int p2), .val (.int p3), .val (.int p4), .val (.int p5), .val (.int (1 : Int32)), .val (.int c0_), .val (.int c1_), .val (.int c2_), .val (.int c3_), .val (.int c4_), .val (.ref b12), .val (.int (0 : Int32)), .val (.int (0 : Int32)), .val (.int (-1 : Int32)), .val (.int (0 : Int32)), .unset] [(.int (own_ws c0_))]))
    have J291_15 : ∀ (lJ15 : List Loc) (NJ15 : Fr n0 lJ15) (TJ15 : State) (XJ15 : Stand p l e room_1 s m #[(.int p0), (.int p1), (.int p2), (.int p3), (.int p4), (.int p5)] below meth c TJ15 lJ15 1 1) (eJ15 : TJ15.heap = h13) (kv0 fv0 : Int32) (hE0 : own_res kv0 fv0 = own_first [c0_]), own_Ends p e below s 1 5 (own_Q0 Z p0 p1 p2 p3 p4 p5  h0 n0) (TJ15.setTop (mkF m 291 #[.val (.int p0), .val (.int p1), .val (.int p2), .val (.int p3), .val (.int p4), .val (.int p5), .val (.int (1 : Int32)), .val (.int c0_), .val (.int c1_), .val (.int c2_), .val (.int c3_), .val (.int c4_), .val (.ref b12), .val (.int (0 : Int32)), .val (.int (0 : Int32)), .val (.int kv0), .val (.int fv0), .unset] [])) := by
      intro lJ15 NJ15 TJ15 XJ15 eJ15 kv0 fv0 hE0
      show own_Ends _ _ _ _ _ _ _ (TJ15.setTop (mkF m 291 #[.val (.int p0), .val (.int p1), .val (.int p2), .val (.int p3), .val (.int p4), .val (.int p5), .val (.int (1 : Int32)), .val (.int c0_), .val (.int c1_), .val (.int c2_), .val (.int c3_), .val (.int c4_), .val (.ref b12), .val (.int (0 : Int32)), .val (.int (0 : Int32)), .val (.int kv0), .val (.int fv0), .unset] []))
      have J308_16 : ∀ (ex : Int32) (hex : ex = own_res kv0 fv0), own_Ends p e below s 1 5 (own_Q0 Z p0 p1 p2 p3 p4 p5  h0 n0) (TJ15.setTop (mkF m 308 #[.val (.int p0), .val (.int p1), .val (.int p2), .val (.int p3), .val (.int p4), .val (.int p5), .val (.int (1 : Int32)), .val (.int c0_), .val (.int c1_), .val (.int c2_), .val (.int c3_), .val (.int c4_), .val (.ref b12), .val (.int (0 : Int32)), .val (.int (0 : Int32)), .val (.int kv0), .val (.int fv0), .unset] [(.int ex)])) := by
        intro ex hex
        show own_Ends _ _ _ _ _ _ _ (TJ15.setTop (mkF m 308 #[.val (.int p0), .val (.int p1), .val (.int p2), .val (.int p3), .val (.int p4), .val (.int p5), .val (.int (1 : Int32)), .val (.int c0_), .val (.int c1_), .val (.int c2_), .val (.int c3_), .val (.int c4_), .val (.ref b12), .val (.int (0 : Int32)), .val (.int (0 : Int32)), .val (.int kv0), .val (.int fv0), .unset] [(.int ex)]))
        refine own_step (fun _ k => XS.istore XJ15.here hx rfl (hb hby at_308) rfl (l' := #[.val (.int p0), .val (.int p1), .val (.int p2), .val (.int p3), .val (.int p4), .val (.int p5), .val (.int (1 : Int32)), .val (.int c0_), .val (.int c1_), .val (.int c2_), .val (.int c3_), .val (.int c4_), .val (.ref b12), .val (.int (0 : Int32)), .val (.int (0 : Int32)), .val (.int kv0), .val (.int fv0), .val (.int ex)]) rfl k) ?_
        show own_Ends _ _ _ _ _ _ _ (TJ15.setTop (mkF m 310 #[.val (.int p0), .val (.int p1), .val (.int p2), .val (.int p3), .val (.int p4), .val (.int p5), .val (.int (1 : Int32)), .val (.int c0_), .val (.int c1_), .val (.int c2_), .val (.int c3_), .val (.int c4_), .val (.ref b12), .val (.int (0 : Int32)), .val (.int (0 : Int32)), .val (.int kv0), .val (.int fv0), .val (.int ex)] []))
        refine own_step (fun _ k => XS.aload XJ15.here hx rfl (hb hby at_310) rfl rfl k) ?_
        show own_Ends _ _ _ _ _ _ _ (TJ15.setTop (mkF m 312 #[.val (.int p0), .val (.int p1), .val (.int p2), .val (.int p3), .val (.int p4), .val (.int p5), .val (.int (1 : Int32)), .val (.int c0_), .val (.int c1_), .val (.int c2_), .val (.int c3_), .val (.int c4_), .val (.ref b12), .val (.int (0 : Int32)), .val (.int (0 : Int32)), .val (.int kv0), .val (.int fv0), .val (.int ex)] [(.ref b12)]))
        obtain ⟨cl17, Ar17, qq17, S17, M17, H17, G17⟩ := id V13_b12
        have hbb : ∀ b ∈ ([c0_] : List Int32), nar .byte b = b := by
          intro b hbl
          simp only [List.mem_cons, List.not_mem_nil, or_false] at hbl
          rcases hbl with rfl
          · exact nb0
        obtain ⟨_, _, ⟨T18, L18, k18, n18⟩, -, X18, ⟨Lc18, hQ18, l18, y18, z18⟩, st18⟩ := Jvm.LawKit.callS XJ15 hx (y := (⟨"com/example/parley/parley/io/CompetitionXml", "looksLikeXml", "([B)Z"⟩ : MethodName)) hown (mvT hZ (hw _ (List.mem_of_getElem? (i := 6) rfl))) (mvT hZ (hw _ (List.mem_of_getElem? (i := 7) rfl))) (mvT hZ (hw _ (List.mem_of_getElem? (i := 8) rfl))) (mvT hZ (hw _ (List.mem_of_getElem? (i := 9) rfl))) (by decide) (backOf (W := 0) (own_rm3 l Z a0 hw [] b12 cl17 [c0_] h13 n0 Z13 Ar17 (S17.trans (show ((1 : Int32)).toNatClampNeg = 1 by decide)) (by simp) (own_hat (bs := [c0_]) H17 (S17.trans (show ((1 : Int32)).toNatClampNeg = 1 by decide))) hbb) hZ (hw _ (List.mem_of_getElem? (i := 9) rfl)) (hw _ (List.mem_of_getElem? (i := 8) rfl)) (by decide) (by decide)) (g := (mkF m 312 #[.val (.int p0), .val (.int p1), .val (.int p2), .val (.int p3), .val (.int p4), .val (.int p5), .val (.int (1 : Int32)), .val (.int c0_), .val (.int c1_), .val (.int c2_), .val (.int c3_), .val (.int c4_), .val (.ref b12), .val (.int (0 : Int32)), .val (.int (0 : Int32)), .val (.int kv0), .val (.int fv0), .val (.int ex)] [(.ref b12)])) rfl (by rw [hml]; rfl) (argsL := [(.ref b12)]) (rest := []) (lenOf own_pd1 rfl) rfl (by show 2 * 0 + _ ≤ _; exact Nat.le_of_eq rfl) (hb hby at_312) (fun _ _ => ⟨rfl, eJ15, (by decide : 1 + 0 ≤ _), (by decide : 1 + 0 ≤ _)⟩)
        dsimp only [Pt.U, Pt.locs, Pt.cells, Pt.slots] at X18 l18 y18 z18 st18 hQ18
        subst l18 y18 z18
        obtain ⟨rfl, Nq18, e18⟩ := hQ18
        have N18 := Fr.app NJ15 Nq18
        refine own_step (fun _ k => st18 _ k) ?_
        show own_Ends _ _ _ _ _ _ _ (T18.setTop (mkF m 315 #[.val (.int p0), .val (.int p1), .val (.int p2), .val (.int p3), .val (.int p4), .val (.int p5), .val (.int (1 : Int32)), .val (.int c0_), .val (.int c1_), .val (.int c2_), .val (.int c3_), .val (.int c4_), .val (.ref b12), .val (.int (0 : Int32)), .val (.int (0 : Int32)), .val (.int kv0), .val (.int fv0), .val (.int ex)] [(.int (own_looks [c0_]))]))
        refine own_step (fun _ k => XS.iload X18.here hx rfl (hb hby at_315) rfl k) ?_
        show own_Ends _ _ _ _ _ _ _ (T18.setTop (mkF m 317 #[.val (.int p0), .val (.int p1), .val (.int p2), .val (.int p3), .val (.int p4), .val (.int p5), .val (.int (1 : Int32)), .val (.int c0_), .val (.int c1_), .val (.int c2_), .val (.int c3_), .val (.int c4_), .val (.ref b12), .val (.int (0 : Int32)), .val (.int (0 : Int32)), .val (.int kv0), .val (.int fv0), .val (.int ex)] [(.int ex), (.int (own_looks [c0_]))]))
        refine own_step (fun _ k => XS.icmpNo X18.here hx rfl (hb hby at_317) rfl (teq (by rw [own_looks, hst, hex]; exact (hE0).symm)).2 k) ?_
        show own_Ends _ _ _ _ _ _ _ (T18.setTop (mkF m 320 #[.val (.int p0), .val (.int p1), .val (.int p2), .val (.int p3), .val (.int p4), .val (.int p5), .val (.int (1 : Int32)), .val (.int c0_), .val (.int c1_), .val (.int c2_), .val (.int c3_), .val (.int c4_), .val (.ref b12), .val (.int (0 : Int32)), .val (.int (0 : Int32)), .val (.int kv0), .val (.int fv0), .val (.int ex)] []))
        refine own_step (fun _ k => XS.iconst X18.here hx rfl (hb hby at_320) k) ?_
        show own_Ends _ _ _ _ _ _ _ (T18.setTop (mkF m 321 #[.val (.int p0), .val (.int p1), .val (.int p2), .val (.int p3), .val (.int p4), .val (.int p5), .val (.int (1 : Int32)), .val (.int c0_), .val (.int c1_), .val (.int c2_), .val (.int c3_), .val (.int c4_), .val (.ref b12), .val (.int (0 : Int32)), .val (.int (0 : Int32)), .val (.int kv0), .val (.int fv0), .val (.int ex)] [(.int (1 : Int32))]))
        refine own_step (fun _ k => XS.goto X18.here hx rfl (pc0 := 321) (pc' := 325) rfl (hb hby at_321) (by decide) (by decide) k) ?_
        show own_Ends _ _ _ _ _ _ _ (T18.setTop (mkF m 325 #[.val (.int p0), .val (.int p1), .val (.int p2), .val (.int p3), .val (.int p4), .val (.int p5), .val (.int (1 : Int32)), .val (.int c0_), .val (.int c1_), .val (.int c2_), .val (.int c3_), .val (.int c4_), .val (.ref b12), .val (.int (0 : Int32)), .val (.int (0 : Int32)), .val (.int kv0), .val (.int fv0), .val (.int ex)] [(.int (1 : Int32))]))
        refine own_ret X18 (BodyLoose.notSynchronized Bd) (v := (some (.int (1 : Int32)))) (fun h => by rw [Bd.returns] at h; cases h) ?_ (by decide) (by decide) (fun fs hr => X18.ireturnOut hx Bd.returns rfl (by simp) (hb hby at_325) hr)
        show own_Q0 Z p0 p1 p2 p3 p4 p5  h0 n0 (some (.int (1 : Int32))) T18.heap _
        rw [e18]
        exact ⟨rfl, N18⟩
      refine own_step (fun _ k => XS.iload XJ15.here hx rfl (hb hby at_291) rfl k) ?_
      show own_Ends _ _ _ _ _ _ _ (TJ15.setTop (mkF m 293 #[.val (.int p0), .val (.int p1), .val (.int p2), .val (.int p3), .val (.int p4), .val (.int p5), .val (.int (1 : Int32)), .val (.int c0_), .val (.int c1_), .val (.int c2_), .val (.int c3_), .val (.int c4_), .val (.ref b12), .val (.int (0 : Int32)), .val (.int (0 : Int32)), .val (.int kv0), .val (.int fv0), .unset] [(.int kv0)]))
      by_cases u1 : kv0 < (0 : Int32)
      · refine own_step (fun _ k => XS.ifYes XJ15.here hx rfl (pc0 := 293) (pc' := 307) rfl (hb hby at_293) rfl ((if0 _ _).trans (tlt u1).1) (by decide) (by decide) k) ?_
        show own_Ends _ _ _ _ _ _ _ (TJ15.setTop (mkF m 307 #[.val (.int p0), .val (.int p1), .val (.int p2), .val (.int p3), .val (.int p4), .val (.int p5), .val (.int (1 : Int32)), .val (.int c0_), .val (.int c1_), .val (.int c2_), .val (.int c3_), .val (.int c4_), .val (.ref b12), .val (.int (0 : Int32)), .val (.int (0 : Int32)), .val (.int kv0), .val (.int fv0), .unset] []))
        refine own_step (fun _ k => XS.iconst XJ15.here hx rfl (hb hby at_307) k) ?_
        show own_Ends _ _ _ _ _ _ _ (TJ15.setTop (mkF m 308 #[.val (.int p0), .val (.int p1), .val (.int p2), .val (.int p3), .val (.int p4), .val (.int p5), .val (.int (1 : Int32)), .val (.int c0_), .val (.int c1_), .val (.int c2_), .val (.int c3_), .val (.int c4_), .val (.ref b12), .val (.int (0 : Int32)), .val (.int (0 : Int32)), .val (.int kv0), .val (.int fv0), .unset] [(.int (0 : Int32))]))
        exact J308_16 _ (by rw [own_res, if_pos u1])
      · refine own_step (fun _ k => XS.ifNo XJ15.here hx rfl (hb hby at_293) rfl ((if0 _ _).trans (flt u1).1) k) ?_
        show own_Ends _ _ _ _ _ _ _ (TJ15.setTop (mkF m 296 #[.val (.int p0), .val (.int p1), .val (.int p2), .val (.int p3), .val (.int p4), .val (.int p5), .val (.int (1 : Int32)), .val (.int c0_), .val (.int c1_), .val (.int c2_), .val (.int c3_), .val (.int c4_), .val (.ref b12), .val (.int (0 : Int32)), .val (.int (0 : Int32)), .val (.int kv0), .val (.int fv0), .unset] []))
        refine own_step (fun _ k => XS.iload XJ15.here hx rfl (hb hby at_296) rfl k) ?_
        show own_Ends _ _ _ _ _ _ _ (TJ15.setTop (mkF m 298 #[.val (.int p0), .val (.int p1), .val (.int p2), .val (.int p3), .val (.int p4), .val (.int p5), .val (.int (1 : Int32)), .val (.int c0_), .val (.int c1_), .val (.int c2_), .val (.int c3_), .val (.int c4_), .val (.ref b12), .val (.int (0 : Int32)), .val (.int (0 : Int32)), .val (.int kv0), .val (.int fv0), .unset] [(.int fv0)]))
        refine own_step (fun _ k => XS.bipush XJ15.here hx rfl (hb hby at_298) k) ?_
        show own_Ends _ _ _ _ _ _ _ (TJ15.setTop (mkF m 300 #[.val (.int p0), .val (.int p1), .val (.int p2), .val (.int p3), .val (.int p4), .val (.int p5), .val (.int (1 : Int32)), .val (.int c0_), .val (.int c1_), .val (.int c2_), .val (.int c3_), .val (.int c4_), .val (.ref b12), .val (.int (0 : Int32)), .val (.int (0 : Int32)), .val (.int kv0), .val (.int fv0), .unset] [(.int (60 : Int32)), (.int fv0)]))
        by_cases u2 : fv0 = (60 : Int32)
        · refine own_step (fun _ k => XS.icmpNo XJ15.here hx rfl (hb hby at_300) rfl (teq u2).2 k) ?_
          show own_Ends _ _ _ _ _ _ _ (TJ15.setTop (mkF m 303 #[.val (.int p0), .val (.int p1), .val (.int p2), .val (.int p3), .val (.int p4), .val (.int p5), .val (.int (1 : Int32)), .val (.int c0_), .val (.int c1_), .val (.int c2_), .val (.int c3_), .val (.int c4_), .val (.ref b12), .val (.int (0 : Int32)), .val (.int (0 : Int32)), .val (.int kv0), .val (.int fv0), .unset] []))
          refine own_step (fun _ k => XS.iconst XJ15.here hx rfl (hb hby at_303) k) ?_
          show own_Ends _ _ _ _ _ _ _ (TJ15.setTop (mkF m 304 #[.val (.int p0), .val (.int p1), .val (.int p2), .val (.int p3), .val (.int p4), .val (.int p5), .val (.int (1 : Int32)), .val (.int c0_), .val (.int c1_), .val (.int c2_), .val (.int c3_), .val (.int c4_), .val (.ref b12), .val (.int (0 : Int32)), .val (.int (0 : Int32)), .val (.int kv0), .val (.int fv0), .unset] [(.int (1 : Int32))]))
          refine own_step (fun _ k => XS.goto XJ15.here hx rfl (pc0 := 304) (pc' := 308) rfl (hb hby at_304) (by decide) (by decide) k) ?_
          show own_Ends _ _ _ _ _ _ _ (TJ15.setTop (mkF m 308 #[.val (.int p0), .val (.int p1), .val (.int p2), .val (.int p3), .val (.int p4), .val (.int p5), .val (.int (1 : Int32)), .val (.int c0_), .val (.int c1_), .val (.int c2_), .val (.int c3_), .val (.int c4_), .val (.ref b12), .val (.int (0 : Int32)), .val (.int (0 : Int32)), .val (.int kv0), .val (.int fv0), .unset] [(.int (1 : Int32))]))
          exact J308_16 _ (by rw [own_res, if_neg u1, if_pos u2])
        · refine own_step (fun _ k => XS.icmpYes XJ15.here hx rfl (pc0 := 300) (pc' := 307) rfl (hb hby at_300) rfl (feq u2).2 (by decide) (by decide) k) ?_
          show own_Ends _ _ _ _ _ _ _ (TJ15.setTop (mkF m 307 #[.val (.int p0), .val (.int p1), .val (.int p2), .val (.int p3), .val (.int p4), .val (.int p5), .val (.int (1 : Int32)), .val (.int c0_), .val (.int c1_), .val (.int c2_), .val (.int c3_), .val (.int c4_), .val (.ref b12), .val (.int (0 : Int32)), .val (.int (0 : Int32)), .val (.int kv0), .val (.int fv0), .unset] []))
          refine own_step (fun _ k => XS.iconst XJ15.here hx rfl (hb hby at_307) k) ?_
          show own_Ends _ _ _ _ _ _ _ (TJ15.setTop (mkF m 308 #[.val (.int p0), .val (.int p1), .val (.int p2), .val (.int p3), .val (.int p4), .val (.int p5), .val (.int (1 : Int32)), .val (.int c0_), .val (.int c1_), .val (.int c2_), .val (.int c3_), .val (.int c4_), .val (.ref b12), .val (.int (0 : Int32)), .val (.int (0 : Int32)), .val (.int kv0), .val (.int fv0), .unset] [(.int (0 : Int32))]))
          exact J308_16 _ (by rw [own_res, if_neg u1, if_neg u2])
    by_cases w0 : (own_ws c0_) = (0 : Int32)
    · refine own_step (fun _ k => XS.ifNo X14.here hx rfl (hb hby at_281) rfl ((if0 _ _).trans (teq w0).2) k) ?_
      show own_Ends _ _ _ _ _ _ _ (T14.setTop (mkF m 284 #[.val (.int p0), .val (.int p1), .val (.int p2), .val (.int p3), .val (.int p4), .val (.int p5), .val (.int (1 : Int32)), .val (.int c0_), .val (.int c1_), .val (.int c2_), .val (.int c3_), .val (.int c4_), .val (.ref b12), .val (.int (0 : Int32)), .val (.int (0 : Int32)), .val (.int (-1 : Int32)), .val (.int (0 : Int32)), .unset] []))
      refine own_step (fun _ k => XS.iconst X14.here hx rfl (hb hby at_284) k) ?_
      show own_Ends _ _ _ _ _ _ _ (T14.setTop (mkF m 285 #[.val (.int p0), .val (.int p1), .val (.int p2), .val (.int p3), .val (.int p4), .val (.int p5), .val (.int (1 : Int32)), .val (.int c0_), .val (.int c1_), .val (.int c2_), .val (.int c3_), .val (.int c4_), .val (.ref b12), .val (.int (0 : Int32)), .val (.int (0 : Int32)), .val (.int (-1 : Int32)), .val (.int (0 : Int32)), .unset] [(.int (0 : Int32))]))
      refine own_step (fun _ k => XS.istore X14.here hx rfl (hb hby at_285) rfl (l' := #[.val (.int p0), .val (.int p1), .val (.int p2), .val (.int p3), .val (.int p4), .val (.int p5), .val (.int (1 : Int32)), .val (.int c0_), .val (.int c1_), .val (.int c2_), .val (.int c3_), .val (.int c4_), .val (.ref b12), .val (.int (0 : Int32)), .val (.int (0 : Int32)), .val (.int (0 : Int32)), .val (.int (0 : Int32)), .unset]) rfl k) ?_
      show own_Ends _ _ _ _ _ _ _ (T14.setTop (mkF m 287 #[.val (.int p0), .val (.int p1), .val (.int p2), .val (.int p3), .val (.int p4), .val (.int p5), .val (.int (1 : Int32)), .val (.int c0_), .val (.int c1_), .val (.int c2_), .val (.int c3_), .val (.int c4_), .val (.ref b12), .val (.int (0 : Int32)), .val (.int (0 : Int32)), .val (.int (0 : Int32)), .val (.int (0 : Int32)), .unset] []))
      refine own_step (fun _ k => XS.iload X14.here hx rfl (hb hby at_287) rfl k) ?_
      show own_Ends _ _ _ _ _ _ _ (T14.setTop (mkF m 289 #[.val (.int p0), .val (.int p1), .val (.int p2), .val (.int p3), .val (.int p4), .val (.int p5), .val (.int (1 : Int32)), .val (.int c0_), .val (.int c1_), .val (.int c2_), .val (.int c3_), .val (.int c4_), .val (.ref b12), .val (.int (0 : Int32)), .val (.int (0 : Int32)), .val (.int (0 : Int32)), .val (.int (0 : Int32)), .unset] [(.int c0_)]))
      refine own_step (fun _ k => XS.istore X14.here hx rfl (hb hby at_289) rfl (l' := #[.val (.int p0), .val (.int p1), .val (.int p2), .val (.int p3), .val (.int p4), .val (.int p5), .val (.int (1 : Int32)), .val (.int c0_), .val (.int c1_), .val (.int c2_), .val (.int c3_), .val (.int c4_), .val (.ref b12), .val (.int (0 : Int32)), .val (.int (0 : Int32)), .val (.int (0 : Int32)), .val (.int c0_), .unset]) rfl k) ?_
      show own_Ends _ _ _ _ _ _ _ (T14.setTop (mkF m 291 #[.val (.int p0), .val (.int p1), .val (.int p2), .val (.int p3), .val (.int p4), .val (.int p5), .val (.int (1 : Int32)), .val (.int c0_), .val (.int c1_), .val (.int c2_), .val (.int c3_), .val (.int c4_), .val (.ref b12), .val (.int (0 : Int32)), .val (.int (0 : Int32)), .val (.int (0 : Int32)), .val (.int c0_), .unset] []))
      exact J291_15 _ N14 _ X14 e14 _ _ (by rw [own_first, if_pos w0]; rfl)
    · refine own_step (fun _ k => XS.ifYes X14.here hx rfl (pc0 := 281) (pc' := 291) rfl (hb hby at_281) rfl ((if0 _ _).trans (feq w0).2) (by decide) (by decide) k) ?_
      show own_Ends _ _ _ _ _ _ _ (T14.setTop (mkF m 291 #[.val (.int p0), .val (.int p1), .val (.int p2), .val (.int p3), .val (.int p4), .val (.int p5), .val (.int (1 : Int32)), .val (.int c0_), .val (.int c1_), .val (.int c2_), .val (.int c3_), .val (.int c4_), .val (.ref b12), .val (.int (0 : Int32)), .val (.int (0 : Int32)), .val (.int (-1 : Int32)), .val (.int (0 : Int32)), .unset] []))
      exact J291_15 _ N14 _ X14 e14 _ _ (by rw [own_first, if_neg w0]; rfl)
  · show own_Ends _ _ _ _ _ _ _ (T7.setTop (mkF m 43 #[.val (.int p0), .val (.int p1), .val (.int p2), .val (.int p3), .val (.int p4), .val (.int p5), .val (.int (2 : Int32)), .val (.int c0_), .val (.int c1_), .val (.int c2_), .val (.int c3_), .val (.int c4_), .unset, .unset, .unset, .unset, .unset, .unset] [(.int (2 : Int32))]))
    obtain ⟨T19, h19, k19, X19, e19, E19, A19, st19⟩ := newP X7 hx hZ (hw _ (List.mem_of_getElem? (i := 5) rfl)) e7 (g := (mkF m 43 #[.val (.int p0), .val (.int p1), .val (.int p2), .val (.int p3), .val (.int p4), .val (.int p5), .val (.int (2 : Int32)), .val (.int c0_), .val (.int c1_), .val (.int c2_), .val (.int c3_), .val (.int c4_), .unset, .unset, .unset, .unset, .unset, .unset] [(.int (2 : Int32))])) rfl (hb hby at_43) rfl (by decide) (cap := 2) (by decide) (by decide) (by decide) (by decide)
    obtain ⟨b19, g19⟩ : ∃ z, z = h0.size := ⟨_, rfl⟩
    rw [← g19] at A19 st19
    have gn19 : n0 ≤ b19 := Nat.le_trans Z0 (Nat.le_of_eq g19.symm)
    have Z19 := Nat.le_trans Z0 E19.1
    have V19_b19 : Arv Z h19 b19 k19 .byte (2 : Int32) [(.int (0 : Int32)), (.int (0 : Int32))] (.int (0 : Int32)) := (Arv.new A19 (by decide)).pad (pad_rep [] (.int (0 : Int32)) 2)
    refine own_step (fun _ k => st19 _ k) ?_
    show own_Ends _ _ _ _ _ _ _ (T19.setTop (mkF m 45 #[.val (.int p0), .val (.int p1), .val (.int p2), .val (.int p3), .val (.int p4), .val (.int p5), .val (.int (2 : Int32)), .val (.int c0_), .val (.int c1_), .val (.int c2_), .val (.int c3_), .val (.int c4_), .unset, .unset, .unset, .unset, .unset, .unset] [(.ref b19)]))
    refine own_step (fun _ k => XS.astore X19.here hx rfl (hb hby at_45) rfl rfl (l' := #[.val (.int p0), .val (.int p1), .val (.int p2), .val (.int p3), .val (.int p4), .val (.int p5), .val (.int (2 : Int32)), .val (.int c0_), .val (.int c1_), .val (.int c2_), .val (.int c3_), .val (.int c4_), .val (.ref b19), .unset, .unset, .unset, .unset, .unset]) rfl k) ?_
    show own_Ends _ _ _ _ _ _ _ (T19.setTop (mkF m 47 #[.val (.int p0), .val (.int p1), .val (.int p2), .val (.int p3), .val (.int p4), .val (.int p5), .val (.int (2 : Int32)), .val (.int c0_), .val (.int c1_), .val (.int c2_), .val (.int c3_), .val (.int c4_), .val (.ref b19), .unset, .unset, .unset, .unset, .unset] []))
    refine own_step (fun _ k => XS.iload X19.here hx rfl (hb hby at_47) rfl k) ?_
    show own_Ends _ _ _ _ _ _ _ (T19.setTop (mkF m 49 #[.val (.int p0), .val (.int p1), .val (.int p2), .val (.int p3), .val (.int p4), .val (.int p5), .val (.int (2 : Int32)), .val (.int c0_), .val (.int c1_), .val (.int c2_), .val (.int c3_), .val (.int c4_), .val (.ref b19), .unset, .unset, .unset, .unset, .unset] [(.int (2 : Int32))]))
    refine own_step (fun _ k => XS.ifNo X19.here hx rfl (hb hby at_49) rfl ((if0 _ _).trans (tlt (by decide)).2.2.2) k) ?_
    show own_Ends _ _ _ _ _ _ _ (T19.setTop (mkF m 52 #[.val (.int p0), .val (.int p1), .val (.int p2), .val (.int p3), .val (.int p4), .val (.int p5), .val (.int (2 : Int32)), .val (.int c0_), .val (.int c1_), .val (.int c2_), .val (.int c3_), .val (.int c4_), .val (.ref b19), .unset, .unset, .unset, .unset, .unset] []))
    refine own_step (fun _ k => XS.aload X19.here hx rfl (hb hby at_52) rfl rfl k) ?_
    show own_Ends _ _ _ _ _ _ _ (T19.setTop (mkF m 54 #[.val (.int p0), .val (.int p1), .val (.int p2), .val (.int p3), .val (.int p4), .val (.int p5), .val (.int (2 : Int32)), .val (.int c0_), .val (.int c1_), .val (.int c2_), .val (.int c3_), .val (.int c4_), .val (.ref b19), .unset, .unset, .unset, .unset, .unset] [(.ref b19)]))
    refine own_step (fun _ k => XS.iconst X19.here hx rfl (hb hby at_54) k) ?_
    show own_Ends _ _ _ _ _ _ _ (T19.setTop (mkF m 55 #[.val (.int p0), .val (.int p1), .val (.int p2), .val (.int p3), .val (.int p4), .val (.int p5), .val (.int (2 : Int32)), .val (.int c0_), .val (.int c1_), .val (.int c2_), .val (.int c3_), .val (.int c4_), .val (.ref b19), .unset, .unset, .unset, .unset, .unset] [(.int (0 : Int32)), (.ref b19)]))
    refine own_step (fun _ k => XS.iload X19.here hx rfl (hb hby at_55) rfl k) ?_
    show own_Ends _ _ _ _ _ _ _ (T19.setTop (mkF m 57 #[.val (.int p0), .val (.int p1), .val (.int p2), .val (.int p3), .val (.int p4), .val (.int p5), .val (.int (2 : Int32)), .val (.int c0_), .val (.int c1_), .val (.int c2_), .val (.int c3_), .val (.int c4_), .val (.ref b19), .unset, .unset, .unset, .unset, .unset] [(.int c0_), (.int (0 : Int32)), (.ref b19)]))
    obtain ⟨cl20, Ar20, qq20, S20, M20, H20, G20⟩ := id V19_b19
    have hin20 : ¬ ((0 : Int32) < 0 ∨ cl20.slots.size ≤ ((0 : Int32)).toNatClampNeg) := inb_of S20 ⟨by decide, by decide⟩
    obtain ⟨T20, h20, X20, e20, W20, st20⟩ := stB X19 hx hZ e19 Ar20 (j := (0 : Int32)) hin20 (g := (mkF m 57 #[.val (.int p0), .val (.int p1), .val (.int p2), .val (.int p3), .val (.int p4), .val (.int p5), .val (.int (2 : Int32)), .val (.int c0_), .val (.int c1_), .val (.int c2_), .val (.int c3_), .val (.int c4_), .val (.ref b19), .unset, .unset, .unset, .unset, .unset] [(.int c0_), (.int (0 : Int32)), (.ref b19)])) rfl rfl (hb hby at_57)
    have N20 := Fr.snoc X20 N7 gn19
    rw [nb0] at W20
    have V20_b19 : Arv Z h20 b19 k19 .byte (2 : Int32) [(.int c0_), (.int (0 : Int32))] (.int (0 : Int32)) := Arv.set Ar20 qq20 S20 M20 H20 G20 (by have := fits_nar_byte c0_; rw [show (c0_).toInt8.toInt32 = c0_ from nb0] at this; exact this) W20 0 (by decide) (by simp)
    have Z20 := Nat.le_trans Z19 (Keep.of_wr W20).1
    refine own_step (fun _ k => st20 _ k) ?_
    show own_Ends _ _ _ _ _ _ _ (T20.setTop (mkF m 58 #[.val (.int p0), .val (.int p1), .val (.int p2), .val (.int p3), .val (.int p4), .val (.int p5), .val (.int (2 : Int32)), .val (.int c0_), .val (.int c1_), .val (.int c2_), .val (.int c3_), .val (.int c4_), .val (.ref b19), .unset, .unset, .unset, .unset, .unset] []))
    refine own_step (fun _ k => XS.iload X20.here hx rfl (hb hby at_58) rfl k) ?_
    show own_Ends _ _ _ _ _ _ _ (T20.setTop (mkF m 60 #[.val (.int p0), .val (.int p1), .val (.int p2), .val (.int p3), .val (.int p4), .val (.int p5), .val (.int (2 : Int32)), .val (.int c0_), .val (.int c1_), .val (.int c2_), .val (.int c3_), .val (.int c4_), .val (.ref b19), .unset, .unset, .unset, .unset, .unset] [(.int (2 : Int32))]))
    refine own_step (fun _ k => XS.iconst X20.here hx rfl (hb hby at_60) k) ?_
    show own_Ends _ _ _ _ _ _ _ (T20.setTop (mkF m 61 #[.val (.int p0), .val (.int p1), .val (.int p2), .val (.int p3), .val (.int p4), .val (.int p5), .val (.int (2 : Int32)), .val (.int c0_), .val (.int c1_), .val (.int c2_), .val (.int c3_), .val (.int c4_), .val (.ref b19), .unset, .unset, .unset, .unset, .unset] [(.int (1 : Int32)), (.int (2 : Int32))]))
    refine own_step (fun _ k => XS.icmpNo X20.here hx rfl (hb hby at_61) rfl (tlt (by decide)).2.2.2 k) ?_
    show own_Ends _ _ _ _ _ _ _ (T20.setTop (mkF m 64 #[.val (.int p0), .val (.int p1), .val (.int p2), .val (.int p3), .val (.int p4), .val (.int p5), .val (.int (2 : Int32)), .val (.int c0_), .val (.int c1_), .val (.int c2_), .val (.int c3_), .val (.int c4_), .val (.ref b19), .unset, .unset, .unset, .unset, .unset] []))
    refine own_step (fun _ k => XS.aload X20.here hx rfl (hb hby at_64) rfl rfl k) ?_
    show own_Ends _ _ _ _ _ _ _ (T20.setTop (mkF m 66 #[.val (.int p0), .val (.int p1), .val (.int p2), .val (.int p3), .val (.int p4), .val (.int p5), .val (.int (2 : Int32)), .val (.int c0_), .val (.int c1_), .val (.int c2_), .val (.int c3_), .val (.int c4_), .val (.ref b19), .unset, .unset, .unset, .unset, .unset] [(.ref b19)]))
    refine own_step (fun _ k => XS.iconst X20.here hx rfl (hb hby at_66) k) ?_
    show own_Ends _ _ _ _ _ _ _ (T20.setTop (mkF m 67 #[.val (.int p0), .val (.int p1), .val (.int p2), .val (.int p3), .val (.int p4), .val (.int p5), .val (.int (2 : Int32)), .val (.int c0_), .val (.int c1_), .val (.int c2_), .val (.int c3_), .val (.int c4_), .val (.ref b19), .unset, .unset, .unset, .unset, .unset] [(.int (1 : Int32)), (.ref b19)]))
    refine own_step (fun _ k => XS.iload X20.here hx rfl (hb hby at_67) rfl k) ?_
    show own_Ends _ _ _ _ _ _ _ (T20.setTop (mkF m 69 #[.val (.int p0), .val (.int p1), .val (.int p2), .val (.int p3), .val (.int p4), .val (.int p5), .val (.int (2 : Int32)), .val (.int c0_), .val (.int c1_), .val (.int c2_), .val (.int c3_), .val (.int c4_), .val (.ref b19), .unset, .unset, .unset, .unset, .unset] [(.int c1_), (.int (1 : Int32)), (.ref b19)]))
    obtain ⟨cl21, Ar21, qq21, S21, M21, H21, G21⟩ := id V20_b19
    have hin21 : ¬ ((1 : Int32) < 0 ∨ cl21.slots.size ≤ ((1 : Int32)).toNatClampNeg) := inb_of S21 ⟨by decide, by decide⟩
    obtain ⟨T21, h21, X21, e21, W21, st21⟩ := stB X20 hx hZ e20 Ar21 (j := (1 : Int32)) hin21 (g := (mkF m 69 #[.val (.int p0), .val (.int p1), .val (.int p2), .val (.int p3), .val (.int p4), .val (.int p5), .val (.int (2 : Int32)), .val (.int c0_), .val (.int c1_), .val (.int c2_), .val (.int c3_), .val (.int c4_), .val (.ref b19), .unset, .unset, .unset, .unset, .unset] [(.int c1_), (.int (1 : Int32)), (.ref b19)])) rfl rfl (hb hby at_69)
    have N21 := Fr.snoc X21 N20 gn19
    rw [nb1] at W21
    have V21_b19 : Arv Z h21 b19 k19 .byte (2 : Int32) [(.int c0_), (.int c1_)] (.int (0 : Int32)) := Arv.set Ar21 qq21 S21 M21 H21 G21 (by have := fits_nar_byte c1_; rw [show (c1_).toInt8.toInt32 = c1_ from nb1] at this; exact this) W21 1 (by decide) (by simp)
    have Z21 := Nat.le_trans Z20 (Keep.of_wr W21).1
    refine own_step (fun _ k => st21 _ k) ?_
    show own_Ends _ _ _ _ _ _ _ (T21.setTop (mkF m 70 #[.val (.int p0), .val (.int p1), .val (.int p2), .val (.int p3), .val (.int p4), .val (.int p5), .val (.int (2 : Int32)), .val (.int c0_), .val (.int c1_), .val (.int c2_), .val (.int c3_), .val (.int c4_), .val (.ref b19), .unset, .unset, .unset, .unset, .unset] []))
    refine own_step (fun _ k => XS.iload X21.here hx rfl (hb hby at_70) rfl k) ?_
    show own_Ends _ _ _ _ _ _ _ (T21.setTop (mkF m 72 #[.val (.int p0), .val (.int p1), .val (.int p2), .val (.int p3), .val (.int p4), .val (.int p5), .val (.int (2 : Int32)), .val (.int c0_), .val (.int c1_), .val (.int c2_), .val (.int c3_), .val (.int c4_), .val (.ref b19), .unset, .unset, .unset, .unset, .unset] [(.int (2 : Int32))]))
    refine own_step (fun _ k => XS.iconst X21.here hx rfl (hb hby at_72) k) ?_
    show own_Ends _ _ _ _ _ _ _ (T21.setTop (mkF m 73 #[.val (.int p0), .val (.int p1), .val (.int p2), .val (.int p3), .val (.int p4), .val (.int p5), .val (.int (2 : Int32)), .val (.int c0_), .val (.int c1_), .val (.int c2_), .val (.int c3_), .val (.int c4_), .val (.ref b19), .unset, .unset, .unset, .unset, .unset] [(.int (2 : Int32)), (.int (2 : Int32))]))
    refine own_step (fun _ k => XS.icmpYes X21.here hx rfl (pc0 := 73) (pc' := 82) rfl (hb hby at_73) rfl (flt (by decide)).2.2.2 (by decide) (by decide) k) ?_
    show own_Ends _ _ _ _ _ _ _ (T21.setTop (mkF m 82 #[.val (.int p0), .val (.int p1), .val (.int p2), .val (.int p3), .val (.int p4), .val (.int p5), .val (.int (2 : Int32)), .val (.int c0_), .val (.int c1_), .val (.int c2_), .val (.int c3_), .val (.int c4_), .val (.ref b19), .unset, .unset, .unset, .unset, .unset] []))
    refine own_step (fun _ k => XS.iload X21.here hx rfl (hb hby at_82) rfl k) ?_
    show own_Ends _ _ _ _ _ _ _ (T21.setTop (mkF m 84 #[.val (.int p0), .val (.int p1), .val (.int p2), .val (.int p3), .val (.int p4), .val (.int p5), .val (.int (2 : Int32)), .val (.int c0_), .val (.int c1_), .val (.int c2_), .val (.int c3_), .val (.int c4_), .val (.ref b19), .unset, .unset, .unset, .unset, .unset] [(.int (2 : Int32))]))
    refine own_step (fun _ k => XS.iconst X21.here hx rfl (hb hby at_84) k) ?_
    show own_Ends _ _ _ _ _ _ _ (T21.setTop (mkF m 85 #[.val (.int p0), .val (.int p1), .val (.int p2), .val (.int p3), .val (.int p4), .val (.int p5), .val (.int (2 : Int32)), .val (.int c0_), .val (.int c1_), .val (.int c2_), .val (.int c3_), .val (.int c4_), .val (.ref b19), .unset, .unset, .unset, .unset, .unset] [(.int (3 : Int32)), (.int (2 : Int32))]))
    refine own_step (fun _ k => XS.icmpYes X21.here hx rfl (pc0 := 85) (pc' := 94) rfl (hb hby at_85) rfl (flt (by decide)).2.2.2 (by decide) (by decide) k) ?_
    show own_Ends _ _ _ _ _ _ _ (T21.setTop (mkF m 94 #[.val (.int p0), .val (.int p1), .val (.int p2), .val (.int p3), .val (.int p4), .val (.int p5), .val (.int (2 : Int32)), .val (.int c0_), .val (.int c1_), .val (.int c2_), .val (.int c3_), .val (.int c4_), .val (.ref b19), .unset, .unset, .unset, .unset, .unset] []))
    refine own_step (fun _ k => XS.iload X21.here hx rfl (hb hby at_94) rfl k) ?_
    show own_Ends _ _ _ _ _ _ _ (T21.setTop (mkF m 96 #[.val (.int p0), .val (.int p1), .val (.int p2), .val (.int p3), .val (.int p4), .val (.int p5), .val (.int (2 : Int32)), .val (.int c0_), .val (.int c1_), .val (.int c2_), .val (.int c3_), .val (.int c4_), .val (.ref b19), .unset, .unset, .unset, .unset, .unset] [(.int (2 : Int32))]))
    refine own_step (fun _ k => XS.iconst X21.here hx rfl (hb hby at_96) k) ?_
    show own_Ends _ _ _ _ _ _ _ (T21.setTop (mkF m 97 #[.val (.int p0), .val (.int p1), .val (.int p2), .val (.int p3), .val (.int p4), .val (.int p5), .val (.int (2 : Int32)), .val (.int c0_), .val (.int c1_), .val (.int c2_), .val (.int c3_), .val (.int c4_), .val (.ref b19), .unset, .unset, .unset, .unset, .unset] [(.int (4 : Int32)), (.int (2 : Int32))]))
    refine own_step (fun _ k => XS.icmpYes X21.here hx rfl (pc0 := 97) (pc' := 106) rfl (hb hby at_97) rfl (flt (by decide)).2.2.2 (by decide) (by decide) k) ?_
    show own_Ends _ _ _ _ _ _ _ (T21.setTop (mkF m 106 #[.val (.int p0), .val (.int p1), .val (.int p2), .val (.int p3), .val (.int p4), .val (.int p5), .val (.int (2 : Int32)), .val (.int c0_), .val (.int c1_), .val (.int c2_), .val (.int c3_), .val (.int c4_), .val (.ref b19), .unset, .unset, .unset, .unset, .unset] []))
    refine own_step (fun _ k => XS.iload X21.here hx rfl (hb hby at_106) rfl k) ?_
    show own_Ends _ _ _ _ _ _ _ (T21.setTop (mkF m 108 #[.val (.int p0), .val (.int p1), .val (.int p2), .val (.int p3), .val (.int p4), .val (.int p5), .val (.int (2 : Int32)), .val (.int c0_), .val (.int c1_), .val (.int c2_), .val (.int c3_), .val (.int c4_), .val (.ref b19), .unset, .unset, .unset, .unset, .unset] [(.int (2 : Int32))]))
    refine own_step (fun _ k => XS.iconst X21.here hx rfl (hb hby at_108) k) ?_
    show own_Ends _ _ _ _ _ _ _ (T21.setTop (mkF m 109 #[.val (.int p0), .val (.int p1), .val (.int p2), .val (.int p3), .val (.int p4), .val (.int p5), .val (.int (2 : Int32)), .val (.int c0_), .val (.int c1_), .val (.int c2_), .val (.int c3_), .val (.int c4_), .val (.ref b19), .unset, .unset, .unset, .unset, .unset] [(.int (3 : Int32)), (.int (2 : Int32))]))
    refine own_step (fun _ k => XS.icmpYes X21.here hx rfl (pc0 := 109) (pc' := 137) rfl (hb hby at_109) rfl (tlt (by decide)).1 (by decide) (by decide) k) ?_
    show own_Ends _ _ _ _ _ _ _ (T21.setTop (mkF m 137 #[.val (.int p0), .val (.int p1), .val (.int p2), .val (.int p3), .val (.int p4), .val (.int p5), .val (.int (2 : Int32)), .val (.int c0_), .val (.int c1_), .val (.int c2_), .val (.int c3_), .val (.int c4_), .val (.ref b19), .unset, .unset, .unset, .unset, .unset] []))
    refine own_step (fun _ k => XS.iconst X21.here hx rfl (hb hby at_137) k) ?_
    show own_Ends _ _ _ _ _ _ _ (T21.setTop (mkF m 138 #[.val (.int p0), .val (.int p1), .val (.int p2), .val (.int p3), .val (.int p4), .val (.int p5), .val (.int (2 : Int32)), .val (.int c0_), .val (.int c1_), .val (.int c2_), .val (.int c3_), .val (.int c4_), .val (.ref b19), .unset, .unset, .unset, .unset, .unset] [(.int (0 : Int32))]))
    have hst : own_start [c0_, c1_] = 0 := rfl
    refine own_step (fun _ k => XS.istore X21.here hx rfl (hb hby at_138) rfl (l' := #[.val (.int p0), .val (.int p1), .val (.int p2), .val (.int p3), .val (.int p4), .val (.int p5), .val (.int (2 : Int32)), .val (.int c0_), .val (.int c1_), .val (.int c2_), .val (.int c3_), .val (.int c4_), .val (.ref b19), .val (.int (0 : Int32)), .unset, .unset, .unset, .unset]) rfl k) ?_
    show own_Ends _ _ _ _ _ _ _ (T21.setTop (mkF m 140 #[.val (.int p0), .val (.int p1), .val (.int p2), .val (.int p3), .val (.int p4), .val (.int p5), .val (.int (2 : Int32)), .val (.int c0_), .val (.int c1_), .val (.int c2_), .val (.int c3_), .val (.int c4_), .val (.ref b19), .val (.int (0 : Int32)), .unset, .unset, .unset, .unset] []))
    refine own_step (fun _ k => XS.iload X21.here hx rfl (hb hby at_140) rfl k) ?_
    show own_Ends _ _ _ _ _ _ _ (T21.setTop (mkF m 142 #[.val (.int p0), .val (.int p1), .val (.int p2), .val (.int p3), .val (.int p4), .val (.int p5), .val (.int (2 : Int32)), .val (.int c0_), .val (.int c1_), .val (.int c2_), .val (.int c3_), .val (.int c4_), .val (.ref b19), .val (.int (0 : Int32)), .unset, .unset, .unset, .unset] [(.int (0 : Int32))]))
    refine own_step (fun _ k => XS.ifYes X21.here hx rfl (pc0 := 142) (pc' := 149) rfl (hb hby at_142) rfl ((if0 _ _).trans (teq rfl).1) (by decide) (by decide) k) ?_
    show own_Ends _ _ _ _ _ _ _ (T21.setTop (mkF m 149 #[.val (.int p0), .val (.int p1), .val (.int p2), .val (.int p3), .val (.int p4), .val (.int p5), .val (.int (2 : Int32)), .val (.int c0_), .val (.int c1_), .val (.int c2_), .val (.int c3_), .val (.int c4_), .val (.ref b19), .val (.int (0 : Int32)), .unset, .unset, .unset, .unset] []))
    refine own_step (fun _ k => XS.iconst X21.here hx rfl (hb hby at_149) k) ?_
    show own_Ends _ _ _ _ _ _ _ (T21.setTop (mkF m 150 #[.val (.int p0), .val (.int p1), .val (.int p2), .val (.int p3), .val (.int p4), .val (.int p5), .val (.int (2 : Int32)), .val (.int c0_), .val (.int c1_), .val (.int c2_), .val (.int c3_), .val (.int c4_), .val (.ref b19), .val (.int (0 : Int32)), .unset, .unset, .unset, .unset] [(.int (0 : Int32))]))
    refine own_step (fun _ k => XS.istore X21.here hx rfl (hb hby at_150) rfl (l' := #[.val (.int p0), .val (.int p1), .val (.int p2), .val (.int p3), .val (.int p4), .val (.int p5), .val (.int (2 : Int32)), .val (.int c0_), .val (.int c1_), .val (.int c2_), .val (.int c3_), .val (.int c4_), .val (.ref b19), .val (.int (0 : Int32)), .val (.int (0 : Int32)), .unset, .unset, .unset]) rfl k) ?_
    show own_Ends _ _ _ _ _ _ _ (T21.setTop (mkF m 152 #[.val (.int p0), .val (.int p1), .val (.int p2), .val (.int p3), .val (.int p4), .val (.int p5), .val (.int (2 : Int32)), .val (.int c0_), .val (.int c1_), .val (.int c2_), .val (.int c3_), .val (.int c4_), .val (.ref b19), .val (.int (0 : Int32)), .val (.int (0 : Int32)), .unset, .unset, .unset] []))
    refine own_step (fun _ k => XS.iconst X21.here hx rfl (hb hby at_152) k) ?_
    show own_Ends _ _ _ _ _ _ _ (T21.setTop (mkF m 153 #[.val (.int p0), .val (.int p1), .val (.int p2), .val (.int p3), .val (.int p4), .val (.int p5), .val (.int (2 : Int32)), .val (.int c0_), .val (.int c1_), .val (.int c2_), .val (.int c3_), .val (.int c4_), .val (.ref b19), .val (.int (0 : Int32)), .val (.int (0 : Int32)), .unset, .unset, .unset] [(.int (-1 : Int32))]))
    refine own_step (fun _ k => XS.istore X21.here hx rfl (hb hby at_153) rfl (l' := #[.val (.int p0), .val (.int p1), .val (.int p2), .val (.int p3), .val (.int p4), .val (.int p5), .val (.int (2 : Int32)), .val (.int c0_), .val (.int c1_), .val (.int c2_), .val (.int c3_), .val (.int c4_), .val (.ref b19), .val (.int (0 : Int32)), .val (.int (0 : Int32)), .val (.int (-1 : Int32)), .unset, .unset]) rfl k) ?_
    show own_Ends _ _ _ _ _ _ _ (T21.setTop (mkF m 155 #[.val (.int p0), .val (.int p1), .val (.int p2), .val (.int p3), .val (.int p4), .val (.int p5), .val (.int (2 : Int32)), .val (.int c0_), .val (.int c1_), .val (.int c2_), .val (.int c3_), .val (.int c4_), .val (.ref b19), .val (.int (0 : Int32)), .val (.int (0 : Int32)), .val (.int (-1 : Int32)), .unset, .unset] []))
    refine own_step (fun _ k => XS.iconst X21.here hx rfl (hb hby at_155) k) ?_
    show own_Ends _ _ _ _ _ _ _ (T21.setTop (mkF m 156 #[.val (.int p0), .val (.int p1), .val (.int p2), .val (.int p3), .val (.int p4), .val (.int p5), .val (.int (2 : Int32)), .val (.int c0_), .val (.int c1_), .val (.int c2_), .val (.int c3_), .val (.int c4_), .val (.ref b19), .val (.int (0 : Int32)), .val (.int (0 : Int32)), .val (.int (-1 : Int32)), .unset, .unset] [(.int (0 : Int32))]))
    refine own_step (fun _ k => XS.istore X21.here hx rfl (hb hby at_156) rfl (l' := #[.val (.int p0), .val (.int p1), .val (.int p2), .val (.int p3), .val (.int p4), .val (.int p5), .val (.int (2 : Int32)), .val (.int c0_), .val (.int c1_), .val (.int c2_), .val (.int c3_), .val (.int c4_), .val (.ref b19), .val (.int (0 : Int32)), .val (.int (0 : Int32)), .val (.int (-1 : Int32)), .val (.int (0 : Int32)), .unset]) rfl k) ?_
    show own_Ends _ _ _ _ _ _ _ (T21.setTop (mkF m 158 #[.val (.int p0), .val (.int p1), .val (.int p2), .val (.int p3), .val (.int p4), .val (.int p5), .val (.int (2 : Int32)), .val (.int c0_), .val (.int c1_), .val (.int c2_), .val (.int c3_), .val (.int c4_), .val (.ref b19), .val (.int (0 : Int32)), .val (.int (0 : Int32)), .val (.int (-1 : Int32)), .val (.int (0 : Int32)), .unset] []))
    refine own_step (fun _ k => XS.iload X21.here hx rfl (hb hby at_158) rfl k) ?_
    show own_Ends _ _ _ _ _ _ _ (T21.setTop (mkF m 160 #[.val (.int p0), .val (.int p1), .val (.int p2), .val (.int p3), .val (.int p4), .val (.int p5), .val (.int (2 : Int32)), .val (.int c0_), .val (.int c1_), .val (.int c2_), .val (.int c3_), .val (.int c4_), .val (.ref b19), .val (.int (0 : Int32)), .val (.int (0 : Int32)), .val (.int (-1 : Int32)), .val (.int (0 : Int32)), .unset] [(.int (2 : Int32))]))
    refine own_step (fun _ k => XS.iconst X21.here hx rfl (hb hby at_160) k) ?_
    show own_Ends _ _ _ _ _ _ _ (T21.setTop (mkF m 161 #[.val (.int p0), .val (.int p1), .val (.int p2), .val (.int p3), .val (.int p4), .val (.int p5), .val (.int (2 : Int32)), .val (.int c0_), .val (.int c1_), .val (.int c2_), .val (.int c3_), .val (.int c4_), .val (.ref b19), .val (.int (0 : Int32)), .val (.int (0 : Int32)), .val (.int (-1 : Int32)), .val (.int (0 : Int32)), .unset] [(.int (4 : Int32)), (.int (2 : Int32))]))
    refine own_step (fun _ k => XS.icmpYes X21.here hx rfl (pc0 := 161) (pc' := 185) rfl (hb hby at_161) rfl (flt (by decide)).2.2.2 (by decide) (by decide) k) ?_
    show own_Ends _ _ _ _ _ _ _ (T21.setTop (mkF m 185 #[.val (.int p0), .val (.int p1), .val (.int p2), .val (.int p3), .val (.int p4), .val (.int p5), .val (.int (2 : Int32)), .val (.int c0_), .val (.int c1_), .val (.int c2_), .val (.int c3_), .val (.int c4_), .val (.ref b19), .val (.int (0 : Int32)), .val (.int (0 : Int32)), .val (.int (-1 : Int32)), .val (.int (0 : Int32)), .unset] []))
    refine own_step (fun _ k => XS.iload X21.here hx rfl (hb hby at_185) rfl k) ?_
    show own_Ends _ _ _ _ _ _ _ (T21.setTop (mkF m 187 #[.val (.int p0), .val (.int p1), .val (.int p2), .val (.int p3), .val (.int p4), .val (.int p5), .val (.int (2 : Int32)), .val (.int c0_), .val (.int c1_), .val (.int c2_), .val (.int c3_), .val (.int c4_), .val (.ref b19), .val (.int (0 : Int32)), .val (.int (0 : Int32)), .val (.int (-1 : Int32)), .val (.int (0 : Int32)), .unset] [(.int (2 : Int32))]))
    refine own_step (fun _ k => XS.iconst X21.here hx rfl (hb hby at_187) k) ?_
    show own_Ends _ _ _ _ _ _ _ (T21.setTop (mkF m 188 #[.val (.int p0), .val (.int p1), .val (.int p2), .val (.int p3), .val (.int p4), .val (.int p5), .val (.int (2 : Int32)), .val (.int c0_), .val (.int c1_), .val (.int c2_), .val (.int c3_), .val (.int c4_), .val (.ref b19), .val (.int (0 : Int32)), .val (.int (0 : Int32)), .val (.int (-1 : Int32)), .val (.int (0 : Int32)), .unset] [(.int (3 : Int32)), (.int (2 : Int32))]))
    refine own_step (fun _ k => XS.icmpYes X21.here hx rfl (pc0 := 188) (pc' := 212) rfl (hb hby at_188) rfl (flt (by decide)).2.2.2 (by decide) (by decide) k) ?_
    show own_Ends _ _ _ _ _ _ _ (T21.setTop (mkF m 212 #[.val (.int p0), .val (.int p1), .val (.int p2), .val (.int p3), .val (.int p4), .val (.int p5), .val (.int (2 : Int32)), .val (.int c0_), .val (.int c1_), .val (.int c2_), .val (.int c3_), .val (.int c4_), .val (.ref b19), .val (.int (0 : Int32)), .val (.int (0 : Int32)), .val (.int (-1 : Int32)), .val (.int (0 : Int32)), .unset] []))
    refine own_step (fun _ k => XS.iload X21.here hx rfl (hb hby at_212) rfl k) ?_
    show own_Ends _ _ _ _ _ _ _ (T21.setTop (mkF m 214 #[.val (.int p0), .val (.int p1), .val (.int p2), .val (.int p3), .val (.int p4), .val (.int p5), .val (.int (2 : Int32)), .val (.int c0_), .val (.int c1_), .val (.int c2_), .val (.int c3_), .val (.int c4_), .val (.ref b19), .val (.int (0 : Int32)), .val (.int (0 : Int32)), .val (.int (-1 : Int32)), .val (.int (0 : Int32)), .unset] [(.int (2 : Int32))]))
    refine own_step (fun _ k => XS.iconst X21.here hx rfl (hb hby at_214) k) ?_
    show own_Ends _ _ _ _ _ _ _ (T21.setTop (mkF m 215 #[.val (.int p0), .val (.int p1), .val (.int p2), .val (.int p3), .val (.int p4), .val (.int p5), .val (.int (2 : Int32)), .val (.int c0_), .val (.int c1_), .val (.int c2_), .val (.int c3_), .val (.int c4_), .val (.ref b19), .val (.int (0 : Int32)), .val (.int (0 : Int32)), .val (.int (-1 : Int32)), .val (.int (0 : Int32)), .unset] [(.int (2 : Int32)), (.int (2 : Int32))]))
    refine own_step (fun _ k => XS.icmpYes X21.here hx rfl (pc0 := 215) (pc' := 239) rfl (hb hby at_215) rfl (flt (by decide)).2.2.2 (by decide) (by decide) k) ?_
    show own_Ends _ _ _ _ _ _ _ (T21.setTop (mkF m 239 #[.val (.int p0), .val (.int p1), .val (.int p2), .val (.int p3), .val (.int p4), .val (.int p5), .val (.int (2 : Int32)), .val (.int c0_), .val (.int c1_), .val (.int c2_), .val (.int c3_), .val (.int c4_), .val (.ref b19), .val (.int (0 : Int32)), .val (.int (0 : Int32)), .val (.int (-1 : Int32)), .val (.int (0 : Int32)), .unset] []))
    refine own_step (fun _ k => XS.iload X21.here hx rfl (hb hby at_239) rfl k) ?_
    show own_Ends _ _ _ _ _ _ _ (T21.setTop (mkF m 241 #[.val (.int p0), .val (.int p1), .val (.int p2), .val (.int p3), .val (.int p4), .val (.int p5), .val (.int (2 : Int32)), .val (.int c0_), .val (.int c1_), .val (.int c2_), .val (.int c3_), .val (.int c4_), .val (.ref b19), .val (.int (0 : Int32)), .val (.int (0 : Int32)), .val (.int (-1 : Int32)), .val (.int (0 : Int32)), .unset] [(.int (2 : Int32))]))
    refine own_step (fun _ k => XS.iconst X21.here hx rfl (hb hby at_241) k) ?_
    show own_Ends _ _ _ _ _ _ _ (T21.setTop (mkF m 242 #[.val (.int p0), .val (.int p1), .val (.int p2), .val (.int p3), .val (.int p4), .val (.int p5), .val (.int (2 : Int32)), .val (.int c0_), .val (.int c1_), .val (.int c2_), .val (.int c3_), .val (.int c4_), .val (.ref b19), .val (.int (0 : Int32)), .val (.int (0 : Int32)), .val (.int (-1 : Int32)), .val (.int (0 : Int32)), .unset] [(.int (1 : Int32)), (.int (2 : Int32))]))
    refine own_step (fun _ k => XS.icmpNo X21.here hx rfl (hb hby at_242) rfl (tlt (by decide)).2.2.2 k) ?_
    show own_Ends _ _ _ _ _ _ _ (T21.setTop (mkF m 245 #[.val (.int p0), .val (.int p1), .val (.int p2), .val (.int p3), .val (.int p4), .val (.int p5), .val (.int (2 : Int32)), .val (.int c0_), .val (.int c1_), .val (.int c2_), .val (.int c3_), .val (.int c4_), .val (.ref b19), .val (.int (0 : Int32)), .val (.int (0 : Int32)), .val (.int (-1 : Int32)), .val (.int (0 : Int32)), .unset] []))
    refine own_step (fun _ k => XS.iload X21.here hx rfl (hb hby at_245) rfl k) ?_
    show own_Ends _ _ _ _ _ _ _ (T21.setTop (mkF m 247 #[.val (.int p0), .val (.int p1), .val (.int p2), .val (.int p3), .val (.int p4), .val (.int p5), .val (.int (2 : Int32)), .val (.int c0_), .val (.int c1_), .val (.int c2_), .val (.int c3_), .val (.int c4_), .val (.ref b19), .val (.int (0 : Int32)), .val (.int (0 : Int32)), .val (.int (-1 : Int32)), .val (.int (0 : Int32)), .unset] [(.int (0 : Int32))]))
    refine own_step (fun _ k => XS.iconst X21.here hx rfl (hb hby at_247) k) ?_
    show own_Ends _ _ _ _ _ _ _ (T21.setTop (mkF m 248 #[.val (.int p0), .val (.int p1), .val (.int p2), .val (.int p3), .val (.int p4), .val (.int p5), .val (.int (2 : Int32)), .val (.int c0_), .val (.int c1_), .val (.int c2_), .val (.int c3_), .val (.int c4_), .val (.ref b19), .val (.int (0 : Int32)), .val (.int (0 : Int32)), .val (.int (-1 : Int32)), .val (.int (0 : Int32)), .unset] [(.int (1 : Int32)), (.int (0 : Int32))]))
    refine own_step (fun _ k => XS.icmpNo X21.here hx rfl (hb hby at_248) rfl (flt (by decide)).2.2.1 k) ?_
    show own_Ends _ _ _ _ _ _ _ (T21.setTop (mkF m 251 #[.val (.int p0), .val (.int p1), .val (.int p2), .val (.int p3), .val (.int p4), .val (.int p5), .val (.int (2 : Int32)), .val (.int c0_), .val (.int c1_), .val (.int c2_), .val (.int c3_), .val (.int c4_), .val (.ref b19), .val (.int (0 : Int32)), .val (.int (0 : Int32)), .val (.int (-1 : Int32)), .val (.int (0 : Int32)), .unset] []))
    refine own_step (fun _ k => XS.iload X21.here hx rfl (hb hby at_251) rfl k) ?_
    show own_Ends _ _ _ _ _ _ _ (T21.setTop (mkF m 253 #[.val (.int p0), .val (.int p1), .val (.int p2), .val (.int p3), .val (.int p4), .val (.int p5), .val (.int (2 : Int32)), .val (.int c0_), .val (.int c1_), .val (.int c2_), .val (.int c3_), .val (.int c4_), .val (.ref b19), .val (.int (0 : Int32)), .val (.int (0 : Int32)), .val (.int (-1 : Int32)), .val (.int (0 : Int32)), .unset] [(.int c1_)]))
    obtain ⟨_, _, ⟨T22, L22, k22, n22⟩, -, X22, ⟨Lc22, hQ22, l22, y22, z22⟩, st22⟩ := Jvm.LawKit.callS X21 hx (y := (⟨"com/example/parley/parley/io/CompetitionXmlLooksLikeXmlPinLaw", "ws", "(B)Z"⟩ : MethodName)) hown (mvT hZ (hw _ (List.mem_of_getElem? (i := 10) rfl))) (mvT hZ (hw _ (List.mem_of_getElem? (i := 11) rfl))) (mvT hZ (hw _ (List.mem_of_getElem? (i := 3) rfl))) (mvT hZ (hw _ (List.mem_of_getElem? (i := 12) rfl))) (by decide) (backOf (W := 0) (own_rm2 l Z a0 hw [] c1_  h21 n0 Z21 ) hZ (hw _ (List.mem_of_getElem? (i := 12) rfl)) (hw _ (List.mem_of_getElem? (i := 3) rfl)) (by decide) (by decide)) (g := (mkF m 253 #[.val (.int p0), .val (.int p1), .val (.int p2), .val (.int p3), .val (.int p4), .val (.int p5), .val (.int (2 : Int32)), .val (.int c0_), .val (.int c1_), .val (.int c2_), .val (.int c3_), .val (.int c4_), .val (.ref b19), .val (.int (0 : Int32)), .val (.int (0 : Int32)), .val (.int (-1 : Int32)), .val (.int (0 : Int32)), .unset] [(.int c1_)])) rfl (by rw [hml]; rfl) (argsL := [(.int c1_)]) (rest := []) (lenOf own_pd2 rfl) rfl (by show 2 * 0 + _ ≤ _; exact Nat.le_of_eq rfl) (hb hby at_253) (fun _ _ => ⟨rfl, e21, (by decide : 1 + 0 ≤ _), (by decide : 2 + 0 ≤ _)⟩)
    dsimp only [Pt.U, Pt.locs, Pt.cells, Pt.slots] at X22 l22 y22 z22 st22 hQ22
    subst l22 y22 z22
    obtain ⟨rfl, Nq22, e22⟩ := hQ22
    have N22 := Fr.app N21 Nq22
    refine own_step (fun _ k => st22 _ k) ?_
    show own_Ends _ _ _ _ _ _ _ (T22.setTop (mkF m 256 #[.val (.int p0), .val (.int p1), .val (.int p2), .val (.int p3), .val (.int p4), .val (.int p5), .val (.int (2 : Int32)), .val (.int c0_), .val (.int c1_), .val (.int c2_), .val (.int c3_), .val (.int c4_), .val (.ref b19), .val (.int (0 : Int32)), .val (.int (0 : Int32)), .val (.int (-1 : Int32)), .val (.int (0 : Int32)), .unset] [(.int (own_ws c1_))]))
    have J266_23 : ∀ (lJ23 : List Loc) (NJ23 : Fr n0 lJ23) (TJ23 : State) (XJ23 : Stand p l e room_1 s m #[(.int p0), (.int p1), (.int p2), (.int p3), (.int p4), (.int p5)] below meth c TJ23 lJ23 1 2) (eJ23 : TJ23.heap = h21) (kv1 fv1 : Int32) (hE1 : own_res kv1 fv1 = own_first [c1_]), own_Ends p e below s 1 5 (own_Q0 Z p0 p1 p2 p3 p4 p5  h0 n0) (TJ23.setTop (mkF m 266 #[.val (.int p0), .val (.int p1), .val (.int p2), .val (.int p3), .val (.int p4), .val (.int p5), .val (.int (2 : Int32)), .val (.int c0_), .val (.int c1_), .val (.int c2_), .val (.int c3_), .val (.int c4_), .val (.ref b19), .val (.int (0 : Int32)), .val (.int (0 : Int32)), .val (.int kv1), .val (.int fv1), .unset] [])) := by
      intro lJ23 NJ23 TJ23 XJ23 eJ23 kv1 fv1 hE1
      show own_Ends _ _ _ _ _ _ _ (TJ23.setTop (mkF m 266 #[.val (.int p0), .val (.int p1), .val (.int p2), .val (.int p3), .val (.int p4), .val (.int p5), .val (.int (2 : Int32)), .val (.int c0_), .val (.int c1_), .val (.int c2_), .val (.int c3_), .val (.int c4_), .val (.ref b19), .val (.int (0 : Int32)), .val (.int (0 : Int32)), .val (.int kv1), .val (.int fv1), .unset] []))
      refine own_step (fun _ k => XS.iload XJ23.here hx rfl (hb hby at_266) rfl k) ?_
      show own_Ends _ _ _ _ _ _ _ (TJ23.setTop (mkF m 268 #[.val (.int p0), .val (.int p1), .val (.int p2), .val (.int p3), .val (.int p4), .val (.int p5), .val (.int (2 : Int32)), .val (.int c0_), .val (.int c1_), .val (.int c2_), .val (.int c3_), .val (.int c4_), .val (.ref b19), .val (.int (0 : Int32)), .val (.int (0 : Int32)), .val (.int kv1), .val (.int fv1), .unset] [(.int (2 : Int32))]))
      refine own_step (fun _ k => XS.ifNo XJ23.here hx rfl (hb hby at_268) rfl ((if0 _ _).trans (tlt (by decide)).2.2.2) k) ?_
      show own_Ends _ _ _ _ _ _ _ (TJ23.setTop (mkF m 271 #[.val (.int p0), .val (.int p1), .val (.int p2), .val (.int p3), .val (.int p4), .val (.int p5), .val (.int (2 : Int32)), .val (.int c0_), .val (.int c1_), .val (.int c2_), .val (.int c3_), .val (.int c4_), .val (.ref b19), .val (.int (0 : Int32)), .val (.int (0 : Int32)), .val (.int kv1), .val (.int fv1), .unset] []))
      refine own_step (fun _ k => XS.iload XJ23.here hx rfl (hb hby at_271) rfl k) ?_
      show own_Ends _ _ _ _ _ _ _ (TJ23.setTop (mkF m 273 #[.val (.int p0), .val (.int p1), .val (.int p2), .val (.int p3), .val (.int p4), .val (.int p5), .val (.int (2 : Int32)), .val (.int c0_), .val (.int c1_), .val (.int c2_), .val (.int c3_), .val (.int c4_), .val (.ref b19), .val (.int (0 : Int32)), .val (.int (0 : Int32)), .val (.int kv1), .val (.int fv1), .unset] [(.int (0 : Int32))]))
      refine own_step (fun _ k => XS.ifNo XJ23.here hx rfl (hb hby at_273) rfl ((if0 _ _).trans (flt (by decide)).2.2.1) k) ?_
      show own_Ends _ _ _ _ _ _ _ (TJ23.setTop (mkF m 276 #[.val (.int p0), .val (.int p1), .val (.int p2), .val (.int p3), .val (.int p4), .val (.int p5), .val (.int (2 : Int32)), .val (.int c0_), .val (.int c1_), .val (.int c2_), .val (.int c3_), .val (.int c4_), .val (.ref b19), .val (.int (0 : Int32)), .val (.int (0 : Int32)), .val (.int kv1), .val (.int fv1), .unset] []))
      refine own_step (fun _ k => XS.iload XJ23.here hx rfl (hb hby at_276) rfl k) ?_
      show own_Ends _ _ _ _ _ _ _ (TJ23.setTop (mkF m 278 #[.val (.int p0), .val (.int p1), .val (.int p2), .val (.int p3), .val (.int p4), .val (.int p5), .val (.int (2 : Int32)), .val (.int c0_), .val (.int c1_), .val (.int c2_), .val (.int c3_), .val (.int c4_), .val (.ref b19), .val (.int (0 : Int32)), .val (.int (0 : Int32)), .val (.int kv1), .val (.int fv1), .unset] [(.int c0_)]))
      obtain ⟨_, _, ⟨T24, L24, k24, n24⟩, -, X24, ⟨Lc24, hQ24, l24, y24, z24⟩, st24⟩ := Jvm.LawKit.callS XJ23 hx (y := (⟨"com/example/parley/parley/io/CompetitionXmlLooksLikeXmlPinLaw", "ws", "(B)Z"⟩ : MethodName)) hown (mvT hZ (hw _ (List.mem_of_getElem? (i := 10) rfl))) (mvT hZ (hw _ (List.mem_of_getElem? (i := 11) rfl))) (mvT hZ (hw _ (List.mem_of_getElem? (i := 3) rfl))) (mvT hZ (hw _ (List.mem_of_getElem? (i := 12) rfl))) (by decide) (backOf (W := 0) (own_rm2 l Z a0 hw [] c0_  h21 n0 Z21 ) hZ (hw _ (List.mem_of_getElem? (i := 12) rfl)) (hw _ (List.mem_of_getElem? (i := 3) rfl)) (by decide) (by decide)) (g := (mkF m 278 #[.val (.int p0), .val (.int p1), .val (.int p2), .val (.int p3), .val (.int p4), .val (.int p5), .val (.int (2 : Int32)), .val (.int c0_), .val (.int c1_), .val (.int c2_), .val (.int c3_), .val (.int c4_), .val (.ref b19), .val (.int (0 : Int32)), .val (.int (0 : Int32)), .val (.int kv1), .val (.int fv1), .unset] [(.int c0_)])) rfl (by rw [hml]; rfl) (argsL := [(.int c0_)]) (rest := []) (lenOf own_pd2 rfl) rfl (by show 2 * 0 + _ ≤ _; exact Nat.le_of_eq rfl) (hb hby at_278) (fun _ _ => ⟨rfl, eJ23, (by decide : 1 + 0 ≤ _), (by decide : 2 + 0 ≤ _)⟩)
      dsimp only [Pt.U, Pt.locs, Pt.cells, Pt.slots] at X24 l24 y24 z24 st24 hQ24
      subst l24 y24 z24
      obtain ⟨rfl, Nq24, e24⟩ := hQ24
      have N24 := Fr.app NJ23 Nq24
      refine own_step (fun _ k => st24 _ k) ?_
      show own_Ends _ _ _ _ _ _ _ (T24.setTop (mkF m 281 #[.val (.int p0), .val (.int p1), .val (.int p2), .val (.int p3), .val (.int p4), .val (.int p5), .val (.int (2 : Int32)), .val (.int c0_), .val (.int c1_), .val (.int c2_), .val (.int c3_), .val (.int c4_), .val (.ref b19), .val (.int (0 : Int32)), .val (.int (0 : Int32)), .val (.int kv1), .val (.int fv1), .unset] [(.int (own_ws c0_))]))
      have J291_25 : ∀ (lJ25 : List Loc) (NJ25 : Fr n0 lJ25) (TJ25 : State) (XJ25 : Stand p l e room_1 s m #[(.int p0), (.int p1), (.int p2), (.int p3), (.int p4), (.int p5)] below meth c TJ25 lJ25 1 2) (eJ25 : TJ25.heap = h21) (kv0 fv0 : Int32) (hE0 : own_res kv0 fv0 = own_first [c0_, c1_]), own_Ends p e below s 1 5 (own_Q0 Z p0 p1 p2 p3 p4 p5  h0 n0) (TJ25.setTop (mkF m 291 #[.val (.int p0), .val (.int p1), .val (.int p2), .val (.int p3), .val (.int p4), .val (.int p5), .val (.int (2 : Int32)), .val (.int c0_), .val (.int c1_), .val (.int c2_), .val (.int c3_), .val (.int c4_), .val (.ref b19), .val (.int (0 : Int32)), .val (.int (0 : Int32)), .val (.int kv0), .val (.int fv0), .unset] [])) := by
        intro lJ25 NJ25 TJ25 XJ25 eJ25 kv0 fv0 hE0
        show own_Ends _ _ _ _ _ _ _ (TJ25.setTop (mkF m 291 #[.val (.int p0), .val (.int p1), .val (.int p2), .val (.int p3), .val (.int p4), .val (.int p5), .val (.int (2 : Int32)), .val (.int c0_), .val (.int c1_), .val (.int c2_), .val (.int c3_), .val (.int c4_), .val (.ref b19), .val (.int (0 : Int32)), .val (.int (0 : Int32)), .val (.int kv0), .val (.int fv0), .unset] []))
        have J308_26 : ∀ (ex : Int32) (hex : ex = own_res kv0 fv0), own_Ends p e below s 1 5 (own_Q0 Z p0 p1 p2 p3 p4 p5  h0 n0) (TJ25.setTop (mkF m 308 #[.val (.int p0), .val (.int p1), .val (.int p2), .val (.int p3), .val (.int p4), .val (.int p5), .val (.int (2 : Int32)), .val (.int c0_), .val (.int c1_), .val (.int c2_), .val (.int c3_), .val (.int c4_), .val (.ref b19), .val (.int (0 : Int32)), .val (.int (0 : Int32)), .val (.int kv0), .val (.int fv0), .unset] [(.int ex)])) := by
          intro ex hex
          show own_Ends _ _ _ _ _ _ _ (TJ25.setTop (mkF m 308 #[.val (.int p0), .val (.int p1), .val (.int p2), .val (.int p3), .val (.int p4), .val (.int p5), .val (.int (2 : Int32)), .val (.int c0_), .val (.int c1_), .val (.int c2_), .val (.int c3_), .val (.int c4_), .val (.ref b19), .val (.int (0 : Int32)), .val (.int (0 : Int32)), .val (.int kv0), .val (.int fv0), .unset] [(.int ex)]))
          refine own_step (fun _ k => XS.istore XJ25.here hx rfl (hb hby at_308) rfl (l' := #[.val (.int p0), .val (.int p1), .val (.int p2), .val (.int p3), .val (.int p4), .val (.int p5), .val (.int (2 : Int32)), .val (.int c0_), .val (.int c1_), .val (.int c2_), .val (.int c3_), .val (.int c4_), .val (.ref b19), .val (.int (0 : Int32)), .val (.int (0 : Int32)), .val (.int kv0), .val (.int fv0), .val (.int ex)]) rfl k) ?_
          show own_Ends _ _ _ _ _ _ _ (TJ25.setTop (mkF m 310 #[.val (.int p0), .val (.int p1), .val (.int p2), .val (.int p3), .val (.int p4), .val (.int p5), .val (.int (2 : Int32)), .val (.int c0_), .val (.int c1_), .val (.int c2_), .val (.int c3_), .val (.int c4_), .val (.ref b19), .val (.int (0 : Int32)), .val (.int (0 : Int32)), .val (.int kv0), .val (.int fv0), .val (.int ex)] []))
          refine own_step (fun _ k => XS.aload XJ25.here hx rfl (hb hby at_310) rfl rfl k) ?_
          show own_Ends _ _ _ _ _ _ _ (TJ25.setTop (mkF m 312 #[.val (.int p0), .val (.int p1), .val (.int p2), .val (.int p3), .val (.int p4), .val (.int p5), .val (.int (2 : Int32)), .val (.int c0_), .val (.int c1_), .val (.int c2_), .val (.int c3_), .val (.int c4_), .val (.ref b19), .val (.int (0 : Int32)), .val (.int (0 : Int32)), .val (.int kv0), .val (.int fv0), .val (.int ex)] [(.ref b19)]))
          obtain ⟨cl27, Ar27, qq27, S27, M27, H27, G27⟩ := id V21_b19
          have hbb : ∀ b ∈ ([c0_, c1_] : List Int32), nar .byte b = b := by
            intro b hbl
            simp only [List.mem_cons, List.not_mem_nil, or_false] at hbl
            rcases hbl with rfl | rfl
            · exact nb0
            · exact nb1
          obtain ⟨_, _, ⟨T28, L28, k28, n28⟩, -, X28, ⟨Lc28, hQ28, l28, y28, z28⟩, st28⟩ := Jvm.LawKit.callS XJ25 hx (y := (⟨"com/example/parley/parley/io/CompetitionXml", "looksLikeXml", "([B)Z"⟩ : MethodName)) hown (mvT hZ (hw _ (List.mem_of_getElem? (i := 6) rfl))) (mvT hZ (hw _ (List.mem_of_getElem? (i := 7) rfl))) (mvT hZ (hw _ (List.mem_of_getElem? (i := 8) rfl))) (mvT hZ (hw _ (List.mem_of_getElem? (i := 9) rfl))) (by decide) (backOf (W := 0) (own_rm3 l Z a0 hw [] b19 cl27 [c0_, c1_] h21 n0 Z21 Ar27 (S27.trans (show ((2 : Int32)).toNatClampNeg = 2 by decide)) (by simp) (own_hat (bs := [c0_, c1_]) H27 (S27.trans (show ((2 : Int32)).toNatClampNeg = 2 by decide))) hbb) hZ (hw _ (List.mem_of_getElem? (i := 9) rfl)) (hw _ (List.mem_of_getElem? (i := 8) rfl)) (by decide) (by decide)) (g := (mkF m 312 #[.val (.int p0), .val (.int p1), .val (.int p2), .val (.int p3), .val (.int p4), .val (.int p5), .val (.int (2 : Int32)), .val (.int c0_), .val (.int c1_), .val (.int c2_), .val (.int c3_), .val (.int c4_), .val (.ref b19), .val (.int (0 : Int32)), .val (.int (0 : Int32)), .val (.int kv0), .val (.int fv0), .val (.int ex)] [(.ref b19)])) rfl (by rw [hml]; rfl) (argsL := [(.ref b19)]) (rest := []) (lenOf own_pd1 rfl) rfl (by show 2 * 0 + _ ≤ _; exact Nat.le_of_eq rfl) (hb hby at_312) (fun _ _ => ⟨rfl, eJ25, (by decide : 1 + 0 ≤ _), (by decide : 2 + 0 ≤ _)⟩)
          dsimp only [Pt.U, Pt.locs, Pt.cells, Pt.slots] at X28 l28 y28 z28 st28 hQ28
          subst l28 y28 z28
          obtain ⟨rfl, Nq28, e28⟩ := hQ28
          have N28 := Fr.app NJ25 Nq28
          refine own_step (fun _ k => st28 _ k) ?_
          show own_Ends _ _ _ _ _ _ _ (T28.setTop (mkF m 315 #[.val (.int p0), .val (.int p1), .val (.int p2), .val (.int p3), .val (.int p4), .val (.int p5), .val (.int (2 : Int32)), .val (.int c0_), .val (.int c1_), .val (.int c2_), .val (.int c3_), .val (.int c4_), .val (.ref b19), .val (.int (0 : Int32)), .val (.int (0 : Int32)), .val (.int kv0), .val (.int fv0), .val (.int ex)] [(.int (own_looks [c0_, c1_]))]))
          refine own_step (fun _ k => XS.iload X28.here hx rfl (hb hby at_315) rfl k) ?_
          show own_Ends _ _ _ _ _ _ _ (T28.setTop (mkF m 317 #[.val (.int p0), .val (.int p1), .val (.int p2), .val (.int p3), .val (.int p4), .val (.int p5), .val (.int (2 : Int32)), .val (.int c0_), .val (.int c1_), .val (.int c2_), .val (.int c3_), .val (.int c4_), .val (.ref b19), .val (.int (0 : Int32)), .val (.int (0 : Int32)), .val (.int kv0), .val (.int fv0), .val (.int ex)] [(.int ex), (.int (own_looks [c0_, c1_]))]))
          refine own_step (fun _ k => XS.icmpNo X28.here hx rfl (hb hby at_317) rfl (teq (by rw [own_looks, hst, hex]; exact (hE0).symm)).2 k) ?_
          show own_Ends _ _ _ _ _ _ _ (T28.setTop (mkF m 320 #[.val (.int p0), .val (.int p1), .val (.int p2), .val (.int p3), .val (.int p4), .val (.int p5), .val (.int (2 : Int32)), .val (.int c0_), .val (.int c1_), .val (.int c2_), .val (.int c3_), .val (.int c4_), .val (.ref b19), .val (.int (0 : Int32)), .val (.int (0 : Int32)), .val (.int kv0), .val (.int fv0), .val (.int ex)] []))
          refine own_step (fun _ k => XS.iconst X28.here hx rfl (hb hby at_320) k) ?_
          show own_Ends _ _ _ _ _ _ _ (T28.setTop (mkF m 321 #[.val (.int p0), .val (.int p1), .val (.int p2), .val (.int p3), .val (.int p4), .val (.int p5), .val (.int (2 : Int32)), .val (.int c0_), .val (.int c1_), .val (.int c2_), .val (.int c3_), .val (.int c4_), .val (.ref b19), .val (.int (0 : Int32)), .val (.int (0 : Int32)), .val (.int kv0), .val (.int fv0), .val (.int ex)] [(.int (1 : Int32))]))
          refine own_step (fun _ k => XS.goto X28.here hx rfl (pc0 := 321) (pc' := 325) rfl (hb hby at_321) (by decide) (by decide) k) ?_
          show own_Ends _ _ _ _ _ _ _ (T28.setTop (mkF m 325 #[.val (.int p0), .val (.int p1), .val (.int p2), .val (.int p3), .val (.int p4), .val (.int p5), .val (.int (2 : Int32)), .val (.int c0_), .val (.int c1_), .val (.int c2_), .val (.int c3_), .val (.int c4_), .val (.ref b19), .val (.int (0 : Int32)), .val (.int (0 : Int32)), .val (.int kv0), .val (.int fv0), .val (.int ex)] [(.int (1 : Int32))]))
          refine own_ret X28 (BodyLoose.notSynchronized Bd) (v := (some (.int (1 : Int32)))) (fun h => by rw [Bd.returns] at h; cases h) ?_ (by decide) (by decide) (fun fs hr => X28.ireturnOut hx Bd.returns rfl (by simp) (hb hby at_325) hr)
          show own_Q0 Z p0 p1 p2 p3 p4 p5  h0 n0 (some (.int (1 : Int32))) T28.heap _
          rw [e28]
          exact ⟨rfl, N28⟩
        refine own_step (fun _ k => XS.iload XJ25.here hx rfl (hb hby at_291) rfl k) ?_
        show own_Ends _ _ _ _ _ _ _ (TJ25.setTop (mkF m 293 #[.val (.int p0), .val (.int p1), .val (.int p2), .val (.int p3), .val (.int p4), .val (.int p5), .val (.int (2 : Int32)), .val (.int c0_), .val (.int c1_), .val (.int c2_), .val (.int c3_), .val (.int c4_), .val (.ref b19), .val (.int (0 : Int32)), .val (.int (0 : Int32)), .val (.int kv0), .val (.int fv0), .unset] [(.int kv0)]))
        by_cases u1 : kv0 < (0 : Int32)
        · refine own_step (fun _ k => XS.ifYes XJ25.here hx rfl (pc0 := 293) (pc' := 307) rfl (hb hby at_293) rfl ((if0 _ _).trans (tlt u1).1) (by decide) (by decide) k) ?_
          show own_Ends _ _ _ _ _ _ _ (TJ25.setTop (mkF m 307 #[.val (.int p0), .val (.int p1), .val (.int p2), .val (.int p3), .val (.int p4), .val (.int p5), .val (.int (2 : Int32)), .val (.int c0_), .val (.int c1_), .val (.int c2_), .val (.int c3_), .val (.int c4_), .val (.ref b19), .val (.int (0 : Int32)), .val (.int (0 : Int32)), .val (.int kv0), .val (.int fv0), .unset] []))
          refine own_step (fun _ k => XS.iconst XJ25.here hx rfl (hb hby at_307) k) ?_
          show own_Ends _ _ _ _ _ _ _ (TJ25.setTop (mkF m 308 #[.val (.int p0), .val (.int p1), .val (.int p2), .val (.int p3), .val (.int p4), .val (.int p5), .val (.int (2 : Int32)), .val (.int c0_), .val (.int c1_), .val (.int c2_), .val (.int c3_), .val (.int c4_), .val (.ref b19), .val (.int (0 : Int32)), .val (.int (0 : Int32)), .val (.int kv0), .val (.int fv0), .unset] [(.int (0 : Int32))]))
          exact J308_26 _ (by rw [own_res, if_pos u1])
        · refine own_step (fun _ k => XS.ifNo XJ25.here hx rfl (hb hby at_293) rfl ((if0 _ _).trans (flt u1).1) k) ?_
          show own_Ends _ _ _ _ _ _ _ (TJ25.setTop (mkF m 296 #[.val (.int p0), .val (.int p1), .val (.int p2), .val (.int p3), .val (.int p4), .val (.int p5), .val (.int (2 : Int32)), .val (.int c0_), .val (.int c1_), .val (.int c2_), .val (.int c3_), .val (.int c4_), .val (.ref b19), .val (.int (0 : Int32)), .val (.int (0 : Int32)), .val (.int kv0), .val (.int fv0), .unset] []))
          refine own_step (fun _ k => XS.iload XJ25.here hx rfl (hb hby at_296) rfl k) ?_
          show own_Ends _ _ _ _ _ _ _ (TJ25.setTop (mkF m 298 #[.val (.int p0), .val (.int p1), .val (.int p2), .val (.int p3), .val (.int p4), .val (.int p5), .val (.int (2 : Int32)), .val (.int c0_), .val (.int c1_), .val (.int c2_), .val (.int c3_), .val (.int c4_), .val (.ref b19), .val (.int (0 : Int32)), .val (.int (0 : Int32)), .val (.int kv0), .val (.int fv0), .unset] [(.int fv0)]))
          refine own_step (fun _ k => XS.bipush XJ25.here hx rfl (hb hby at_298) k) ?_
          show own_Ends _ _ _ _ _ _ _ (TJ25.setTop (mkF m 300 #[.val (.int p0), .val (.int p1), .val (.int p2), .val (.int p3), .val (.int p4), .val (.int p5), .val (.int (2 : Int32)), .val (.int c0_), .val (.int c1_), .val (.int c2_), .val (.int c3_), .val (.int c4_), .val (.ref b19), .val (.int (0 : Int32)), .val (.int (0 : Int32)), .val (.int kv0), .val (.int fv0), .unset] [(.int (60 : Int32)), (.int fv0)]))
          by_cases u2 : fv0 = (60 : Int32)
          · refine own_step (fun _ k => XS.icmpNo XJ25.here hx rfl (hb hby at_300) rfl (teq u2).2 k) ?_
            show own_Ends _ _ _ _ _ _ _ (TJ25.setTop (mkF m 303 #[.val (.int p0), .val (.int p1), .val (.int p2), .val (.int p3), .val (.int p4), .val (.int p5), .val (.int (2 : Int32)), .val (.int c0_), .val (.int c1_), .val (.int c2_), .val (.int c3_), .val (.int c4_), .val (.ref b19), .val (.int (0 : Int32)), .val (.int (0 : Int32)), .val (.int kv0), .val (.int fv0), .unset] []))
            refine own_step (fun _ k => XS.iconst XJ25.here hx rfl (hb hby at_303) k) ?_
            show own_Ends _ _ _ _ _ _ _ (TJ25.setTop (mkF m 304 #[.val (.int p0), .val (.int p1), .val (.int p2), .val (.int p3), .val (.int p4), .val (.int p5), .val (.int (2 : Int32)), .val (.int c0_), .val (.int c1_), .val (.int c2_), .val (.int c3_), .val (.int c4_), .val (.ref b19), .val (.int (0 : Int32)), .val (.int (0 : Int32)), .val (.int kv0), .val (.int fv0), .unset] [(.int (1 : Int32))]))
            refine own_step (fun _ k => XS.goto XJ25.here hx rfl (pc0 := 304) (pc' := 308) rfl (hb hby at_304) (by decide) (by decide) k) ?_
            show own_Ends _ _ _ _ _ _ _ (TJ25.setTop (mkF m 308 #[.val (.int p0), .val (.int p1), .val (.int p2), .val (.int p3), .val (.int p4), .val (.int p5), .val (.int (2 : Int32)), .val (.int c0_), .val (.int c1_), .val (.int c2_), .val (.int c3_), .val (.int c4_), .val (.ref b19), .val (.int (0 : Int32)), .val (.int (0 : Int32)), .val (.int kv0), .val (.int fv0), .unset] [(.int (1 : Int32))]))
            exact J308_26 _ (by rw [own_res, if_neg u1, if_pos u2])
          · refine own_step (fun _ k => XS.icmpYes XJ25.here hx rfl (pc0 := 300) (pc' := 307) rfl (hb hby at_300) rfl (feq u2).2 (by decide) (by decide) k) ?_
            show own_Ends _ _ _ _ _ _ _ (TJ25.setTop (mkF m 307 #[.val (.int p0), .val (.int p1), .val (.int p2), .val (.int p3), .val (.int p4), .val (.int p5), .val (.int (2 : Int32)), .val (.int c0_), .val (.int c1_), .val (.int c2_), .val (.int c3_), .val (.int c4_), .val (.ref b19), .val (.int (0 : Int32)), .val (.int (0 : Int32)), .val (.int kv0), .val (.int fv0), .unset] []))
            refine own_step (fun _ k => XS.iconst XJ25.here hx rfl (hb hby at_307) k) ?_
            show own_Ends _ _ _ _ _ _ _ (TJ25.setTop (mkF m 308 #[.val (.int p0), .val (.int p1), .val (.int p2), .val (.int p3), .val (.int p4), .val (.int p5), .val (.int (2 : Int32)), .val (.int c0_), .val (.int c1_), .val (.int c2_), .val (.int c3_), .val (.int c4_), .val (.ref b19), .val (.int (0 : Int32)), .val (.int (0 : Int32)), .val (.int kv0), .val (.int fv0), .unset] [(.int (0 : Int32))]))
            exact J308_26 _ (by rw [own_res, if_neg u1, if_neg u2])
      by_cases w0 : (own_ws c0_) = (0 : Int32)
      · refine own_step (fun _ k => XS.ifNo X24.here hx rfl (hb hby at_281) rfl ((if0 _ _).trans (teq w0).2) k) ?_
        show own_Ends _ _ _ _ _ _ _ (T24.setTop (mkF m 284 #[.val (.int p0), .val (.int p1), .val (.int p2), .val (.int p3), .val (.int p4), .val (.int p5), .val (.int (2 : Int32)), .val (.int c0_), .val (.int c1_), .val (.int c2_), .val (.int c3_), .val (.int c4_), .val (.ref b19), .val (.int (0 : Int32)), .val (.int (0 : Int32)), .val (.int kv1), .val (.int fv1), .unset] []))
        refine own_step (fun _ k => XS.iconst X24.here hx rfl (hb hby at_284) k) ?_
        show own_Ends _ _ _ _ _ _ _ (T24.setTop (mkF m 285 #[.val (.int p0), .val (.int p1), .val (.int p2), .val (.int p3), .val (.int p4), .val (.int p5), .val (.int (2 : Int32)), .val (.int c0_), .val (.int c1_), .val (.int c2_), .val (.int c3_), .val (.int c4_), .val (.ref b19), .val (.int (0 : Int32)), .val (.int (0 : Int32)), .val (.int kv1), .val (.int fv1), .unset] [(.int (0 : Int32))]))
        refine own_step (fun _ k => XS.istore X24.here hx rfl (hb hby at_285) rfl (l' := #[.val (.int p0), .val (.int p1), .val (.int p2), .val (.int p3), .val (.int p4), .val (.int p5), .val (.int (2 : Int32)), .val (.int c0_), .val (.int c1_), .val (.int c2_), .val (.int c3_), .val (.int c4_), .val (.ref b19), .val (.int (0 : Int32)), .val (.int (0 : Int32)), .val (.int (0 : Int32)), .val (.int fv1), .unset]) rfl k) ?_
        show own_Ends _ _ _ _ _ _ _ (T24.setTop (mkF m 287 #[.val (.int p0), .val (.int p1), .val (.int p2), .val (.int p3), .val (.int p4), .val (.int p5), .val (.int (2 : Int32)), .val (.int c0_), .val (.int c1_), .val (.int c2_), .val (.int c3_), .val (.int c4_), .val (.ref b19), .val (.int (0 : Int32)), .val (.int (0 : Int32)), .val (.int (0 : Int32)), .val (.int fv1), .unset] []))
        refine own_step (fun _ k => XS.iload X24.here hx rfl (hb hby at_287) rfl k) ?_
        show own_Ends _ _ _ _ _ _ _ (T24.setTop (mkF m 289 #[.val (.int p0), .val (.int p1), .val (.int p2), .val (.int p3), .val (.int p4), .val (.int p5), .val (.int (2 : Int32)), .val (.int c0_), .val (.int c1_), .val (.int c2_), .val (.int c3_), .val (.int c4_), .val (.ref b19), .val (.int (0 : Int32)), .val (.int (0 : Int32)), .val (.int (0 : Int32)), .val (.int fv1), .unset] [(.int c0_)]))
        refine own_step (fun _ k => XS.istore X24.here hx rfl (hb hby at_289) rfl (l' := #[.val (.int p0), .val (.int p1), .val (.int p2), .val (.int p3), .val (.int p4), .val (.int p5), .val (.int (2 : Int32)), .val (.int c0_), .val (.int c1_), .val (.int c2_), .val (.int c3_), .val (.int c4_), .val (.ref b19), .val (.int (0 : Int32)), .val (.int (0 : Int32)), .val (.int (0 : Int32)), .val (.int c0_), .unset]) rfl k) ?_
        show own_Ends _ _ _ _ _ _ _ (T24.setTop (mkF m 291 #[.val (.int p0), .val (.int p1), .val (.int p2), .val (.int p3), .val (.int p4), .val (.int p5), .val (.int (2 : Int32)), .val (.int c0_), .val (.int c1_), .val (.int c2_), .val (.int c3_), .val (.int c4_), .val (.ref b19), .val (.int (0 : Int32)), .val (.int (0 : Int32)), .val (.int (0 : Int32)), .val (.int c0_), .unset] []))
        exact J291_25 _ N24 _ X24 e24 _ _ (by rw [own_first, if_pos w0]; rfl)
      · refine own_step (fun _ k => XS.ifYes X24.here hx rfl (pc0 := 281) (pc' := 291) rfl (hb hby at_281) rfl ((if0 _ _).trans (feq w0).2) (by decide) (by decide) k) ?_
        show own_Ends _ _ _ _ _ _ _ (T24.setTop (mkF m 291 #[.val (.int p0), .val (.int p1), .val (.int p2), .val (.int p3), .val (.int p4), .val (.int p5), .val (.int (2 : Int32)), .val (.int c0_), .val (.int c1_), .val (.int c2_), .val (.int c3_), .val (.int c4_), .val (.ref b19), .val (.int (0 : Int32)), .val (.int (0 : Int32)), .val (.int kv1), .val (.int fv1), .unset] []))
        exact J291_25 _ N24 _ X24 e24 _ _ (by rw [own_first, if_neg w0]; exact hE1)
    by_cases w1 : (own_ws c1_) = (0 : Int32)
    · refine own_step (fun _ k => XS.ifNo X22.here hx rfl (hb hby at_256) rfl ((if0 _ _).trans (teq w1).2) k) ?_
      show own_Ends _ _ _ _ _ _ _ (T22.setTop (mkF m 259 #[.val (.int p0), .val (.int p1), .val (.int p2), .val (.int p3), .val (.int p4), .val (.int p5), .val (.int (2 : Int32)), .val (.int c0_), .val (.int c1_), .val (.int c2_), .val (.int c3_), .val (.int c4_), .val (.ref b19), .val (.int (0 : Int32)), .val (.int (0 : Int32)), .val (.int (-1 : Int32)), .val (.int (0 : Int32)), .unset] []))
      refine own_step (fun _ k => XS.iconst X22.here hx rfl (hb hby at_259) k) ?_
      show own_Ends _ _ _ _ _ _ _ (T22.setTop (mkF m 260 #[.val (.int p0), .val (.int p1), .val (.int p2), .val (.int p3), .val (.int p4), .val (.int p5), .val (.int (2 : Int32)), .val (.int c0_), .val (.int c1_), .val (.int c2_), .val (.int c3_), .val (.int c4_), .val (.ref b19), .val (.int (0 : Int32)), .val (.int (0 : Int32)), .val (.int (-1 : Int32)), .val (.int (0 : Int32)), .unset] [(.int (1 : Int32))]))
      refine own_step (fun _ k => XS.istore X22.here hx rfl (hb hby at_260) rfl (l' := #[.val (.int p0), .val (.int p1), .val (.int p2), .val (.int p3), .val (.int p4), .val (.int p5), .val (.int (2 : Int32)), .val (.int c0_), .val (.int c1_), .val (.int c2_), .val (.int c3_), .val (.int c4_), .val (.ref b19), .val (.int (0 : Int32)), .val (.int (0 : Int32)), .val (.int (1 : Int32)), .val (.int (0 : Int32)), .unset]) rfl k) ?_
      show own_Ends _ _ _ _ _ _ _ (T22.setTop (mkF m 262 #[.val (.int p0), .val (.int p1), .val (.int p2), .val (.int p3), .val (.int p4), .val (.int p5), .val (.int (2 : Int32)), .val (.int c0_), .val (.int c1_), .val (.int c2_), .val (.int c3_), .val (.int c4_), .val (.ref b19), .val (.int (0 : Int32)), .val (.int (0 : Int32)), .val (.int (1 : Int32)), .val (.int (0 : Int32)), .unset] []))
      refine own_step (fun _ k => XS.iload X22.here hx rfl (hb hby at_262) rfl k) ?_
      show own_Ends _ _ _ _ _ _ _ (T22.setTop (mkF m 264 #[.val (.int p0), .val (.int p1), .val (.int p2), .val (.int p3), .val (.int p4), .val (.int p5), .val (.int (2 : Int32)), .val (.int c0_), .val (.int c1_), .val (.int c2_), .val (.int c3_), .val (.int c4_), .val (.ref b19), .val (.int (0 : Int32)), .val (.int (0 : Int32)), .val (.int (1 : Int32)), .val (.int (0 : Int32)), .unset] [(.int c1_)]))
      refine own_step (fun _ k => XS.istore X22.here hx rfl (hb hby at_264) rfl (l' := #[.val (.int p0), .val (.int p1), .val (.int p2), .val (.int p3), .val (.int p4), .val (.int p5), .val (.int (2 : Int32)), .val (.int c0_), .val (.int c1_), .val (.int c2_), .val (.int c3_), .val (.int c4_), .val (.ref b19), .val (.int (0 : Int32)), .val (.int (0 : Int32)), .val (.int (1 : Int32)), .val (.int c1_), .unset]) rfl k) ?_
      show own_Ends _ _ _ _ _ _ _ (T22.setTop (mkF m 266 #[.val (.int p0), .val (.int p1), .val (.int p2), .val (.int p3), .val (.int p4), .val (.int p5), .val (.int (2 : Int32)), .val (.int c0_), .val (.int c1_), .val (.int c2_), .val (.int c3_), .val (.int c4_), .val (.ref b19), .val (.int (0 : Int32)), .val (.int (0 : Int32)), .val (.int (1 : Int32)), .val (.int c1_), .unset] []))
      exact J266_23 _ N22 _ X22 e22 _ _ (by rw [own_first, if_pos w1]; rfl)
    · refine own_step (fun _ k => XS.ifYes X22.here hx rfl (pc0 := 256) (pc' := 266) rfl (hb hby at_256) rfl ((if0 _ _).trans (feq w1).2) (by decide) (by decide) k) ?_
      show own_Ends _ _ _ _ _ _ _ (T22.setTop (mkF m 266 #[.val (.int p0), .val (.int p1), .val (.int p2), .val (.int p3), .val (.int p4), .val (.int p5), .val (.int (2 : Int32)), .val (.int c0_), .val (.int c1_), .val (.int c2_), .val (.int c3_), .val (.int c4_), .val (.ref b19), .val (.int (0 : Int32)), .val (.int (0 : Int32)), .val (.int (-1 : Int32)), .val (.int (0 : Int32)), .unset] []))
      exact J266_23 _ N22 _ X22 e22 _ _ (by rw [own_first, if_neg w1]; rfl)
  · show own_Ends _ _ _ _ _ _ _ (T7.setTop (mkF m 43 #[.val (.int p0), .val (.int p1), .val (.int p2), .val (.int p3), .val (.int p4), .val (.int p5), .val (.int (3 : Int32)), .val (.int c0_), .val (.int c1_), .val (.int c2_), .val (.int c3_), .val (.int c4_), .unset, .unset, .unset, .unset, .unset, .unset] [(.int (3 : Int32))]))
    obtain ⟨T29, h29, k29, X29, e29, E29, A29, st29⟩ := newP X7 hx hZ (hw _ (List.mem_of_getElem? (i := 5) rfl)) e7 (g := (mkF m 43 #[.val (.int p0), .val (.int p1), .val (.int p2), .val (.int p3), .val (.int p4), .val (.int p5), .val (.int (3 : Int32)), .val (.int c0_), .val (.int c1_), .val (.int c2_), .val (.int c3_), .val (.int c4_), .unset, .unset, .unset, .unset, .unset, .unset] [(.int (3 : Int32))])) rfl (hb hby at_43) rfl (by decide) (cap := 3) (by decide) (by decide) (by decide) (by decide)
    obtain ⟨b29, g29⟩ : ∃ z, z = h0.size := ⟨_, rfl⟩
    rw [← g29] at A29 st29
    have gn29 : n0 ≤ b29 := Nat.le_trans Z0 (Nat.le_of_eq g29.symm)
    have Z29 := Nat.le_trans Z0 E29.1
    have V29_b29 : Arv Z h29 b29 k29 .byte (3 : Int32) [(.int (0 : Int32)), (.int (0 : Int32)), (.int (0 : Int32))] (.int (0 : Int32)) := (Arv.new A29 (by decide)).pad (pad_rep [] (.int (0 : Int32)) 3)
    refine own_step (fun _ k => st29 _ k) ?_
    show own_Ends _ _ _ _ _ _ _ (T29.setTop (mkF m 45 #[.val (.int p0), .val (.int p1), .val (.int p2), .val (.int p3), .val (.int p4), .val (.int p5), .val (.int (3 : Int32)), .val (.int c0_), .val (.int c1_), .val (.int c2_), .val (.int c3_), .val (.int c4_), .unset, .unset, .unset, .unset, .unset, .unset] [(.ref b29)]))
    refine own_step (fun _ k => XS.astore X29.here hx rfl (hb hby at_45) rfl rfl (l' := #[.val (.int p0), .val (.int p1), .val (.int p2), .val (.int p3), .val (.int p4), .val (.int p5), .val (.int (3 : Int32)), .val (.int c0_), .val (.int c1_), .val (.int c2_), .val (.int c3_), .val (.int c4_), .val (.ref b29), .unset, .unset, .unset, .unset, .unset]) rfl k) ?_
    show own_Ends _ _ _ _ _ _ _ (T29.setTop (mkF m 47 #[.val (.int p0), .val (.int p1), .val (.int p2), .val (.int p3), .val (.int p4), .val (.int p5), .val (.int (3 : Int32)), .val (.int c0_), .val (.int c1_), .val (.int c2_), .val (.int c3_), .val (.int c4_), .val (.ref b29), .unset, .unset, .unset, .unset, .unset] []))
    refine own_step (fun _ k => XS.iload X29.here hx rfl (hb hby at_47) rfl k) ?_
    show own_Ends _ _ _ _ _ _ _ (T29.setTop (mkF m 49 #[.val (.int p0), .val (.int p1), .val (.int p2), .val (.int p3), .val (.int p4), .val (.int p5), .val (.int (3 : Int32)), .val (.int c0_), .val (.int c1_), .val (.int c2_), .val (.int c3_), .val (.int c4_), .val (.ref b29), .unset, .unset, .unset, .unset, .unset] [(.int (3 : Int32))]))
    refine own_step (fun _ k => XS.ifNo X29.here hx rfl (hb hby at_49) rfl ((if0 _ _).trans (tlt (by decide)).2.2.2) k) ?_
    show own_Ends _ _ _ _ _ _ _ (T29.setTop (mkF m 52 #[.val (.int p0), .val (.int p1), .val (.int p2), .val (.int p3), .val (.int p4), .val (.int p5), .val (.int (3 : Int32)), .val (.int c0_), .val (.int c1_), .val (.int c2_), .val (.int c3_), .val (.int c4_), .val (.ref b29), .unset, .unset, .unset, .unset, .unset] []))
    refine own_step (fun _ k => XS.aload X29.here hx rfl (hb hby at_52) rfl rfl k) ?_
    show own_Ends _ _ _ _ _ _ _ (T29.setTop (mkF m 54 #[.val (.int p0), .val (.int p1), .val (.int p2), .val (.int p3), .val (.int p4), .val (.int p5), .val (.int (3 : Int32)), .val (.int c0_), .val (.int c1_), .val (.int c2_), .val (.int c3_), .val (.int c4_), .val (.ref b29), .unset, .unset, .unset, .unset, .unset] [(.ref b29)]))
    refine own_step (fun _ k => XS.iconst X29.here hx rfl (hb hby at_54) k) ?_
    show own_Ends _ _ _ _ _ _ _ (T29.setTop (mkF m 55 #[.val (.int p0), .val (.int p1), .val (.int p2), .val (.int p3), .val (.int p4), .val (.int p5), .val (.int (3 : Int32)), .val (.int c0_), .val (.int c1_), .val (.int c2_), .val (.int c3_), .val (.int c4_), .val (.ref b29), .unset, .unset, .unset, .unset, .unset] [(.int (0 : Int32)), (.ref b29)]))
    refine own_step (fun _ k => XS.iload X29.here hx rfl (hb hby at_55) rfl k) ?_
    show own_Ends _ _ _ _ _ _ _ (T29.setTop (mkF m 57 #[.val (.int p0), .val (.int p1), .val (.int p2), .val (.int p3), .val (.int p4), .val (.int p5), .val (.int (3 : Int32)), .val (.int c0_), .val (.int c1_), .val (.int c2_), .val (.int c3_), .val (.int c4_), .val (.ref b29), .unset, .unset, .unset, .unset, .unset] [(.int c0_), (.int (0 : Int32)), (.ref b29)]))
    obtain ⟨cl30, Ar30, qq30, S30, M30, H30, G30⟩ := id V29_b29
    have hin30 : ¬ ((0 : Int32) < 0 ∨ cl30.slots.size ≤ ((0 : Int32)).toNatClampNeg) := inb_of S30 ⟨by decide, by decide⟩
    obtain ⟨T30, h30, X30, e30, W30, st30⟩ := stB X29 hx hZ e29 Ar30 (j := (0 : Int32)) hin30 (g := (mkF m 57 #[.val (.int p0), .val (.int p1), .val (.int p2), .val (.int p3), .val (.int p4), .val (.int p5), .val (.int (3 : Int32)), .val (.int c0_), .val (.int c1_), .val (.int c2_), .val (.int c3_), .val (.int c4_), .val (.ref b29), .unset, .unset, .unset, .unset, .unset] [(.int c0_), (.int (0 : Int32)), (.ref b29)])) rfl rfl (hb hby at_57)
    have N30 := Fr.snoc X30 N7 gn29
    rw [nb0] at W30
    have V30_b29 : Arv Z h30 b29 k29 .byte (3 : Int32) [(.int c0_), (.int (0 : Int32)), (.int (0 : Int32))] (.int (0 : Int32)) := Arv.set Ar30 qq30 S30 M30 H30 G30 (by have := fits_nar_byte c0_; rw [show (c0_).toInt8.toInt32 = c0_ from nb0] at this; exact this) W30 0 (by decide) (by simp)
    have Z30 := Nat.le_trans Z29 (Keep.of_wr W30).1
    refine own_step (fun _ k => st30 _ k) ?_
    show own_Ends _ _ _ _ _ _ _ (T30.setTop (mkF m 58 #[.val (.int p0), .val (.int p1), .val (.int p2), .val (.int p3), .val (.int p4), .val (.int p5), .val (.int (3 : Int32)), .val (.int c0_), .val (.int c1_), .val (.int c2_), .val (.int c3_), .val (.int c4_), .val (.ref b29), .unset, .unset, .unset, .unset, .unset] []))
    refine own_step (fun _ k => XS.iload X30.here hx rfl (hb hby at_58) rfl k) ?_
    show own_Ends _ _ _ _ _ _ _ (T30.setTop (mkF m 60 #[.val (.int p0), .val (.int p1), .val (.int p2), .val (.int p3), .val (.int p4), .val (.int p5), .val (.int (3 : Int32)), .val (.int c0_), .val (.int c1_), .val (.int c2_), .val (.int c3_), .val (.int c4_), .val (.ref b29), .unset, .unset, .unset, .unset, .unset] [(.int (3 : Int32))]))
    refine own_step (fun _ k => XS.iconst X30.here hx rfl (hb hby at_60) k) ?_
    show own_Ends _ _ _ _ _ _ _ (T30.setTop (mkF m 61 #[.val (.int p0), .val (.int p1), .val (.int p2), .val (.int p3), .val (.int p4), .val (.int p5), .val (.int (3 : Int32)), .val (.int c0_), .val (.int c1_), .val (.int c2_), .val (.int c3_), .val (.int c4_), .val (.ref b29), .unset, .unset, .unset, .unset, .unset] [(.int (1 : Int32)), (.int (3 : Int32))]))
    refine own_step (fun _ k => XS.icmpNo X30.here hx rfl (hb hby at_61) rfl (tlt (by decide)).2.2.2 k) ?_
    show own_Ends _ _ _ _ _ _ _ (T30.setTop (mkF m 64 #[.val (.int p0), .val (.int p1), .val (.int p2), .val (.int p3), .val (.int p4), .val (.int p5), .val (.int (3 : Int32)), .val (.int c0_), .val (.int c1_), .val (.int c2_), .val (.int c3_), .val (.int c4_), .val (.ref b29), .unset, .unset, .unset, .unset, .unset] []))
    refine own_step (fun _ k => XS.aload X30.here hx rfl (hb hby at_64) rfl rfl k) ?_
    show own_Ends _ _ _ _ _ _ _ (T30.setTop (mkF m 66 #[.val (.int p0), .val (.int p1), .val (.int p2), .val (.int p3), .val (.int p4), .val (.int p5), .val (.int (3 : Int32)), .val (.int c0_), .val (.int c1_), .val (.int c2_), .val (.int c3_), .val (.int c4_), .val (.ref b29), .unset, .unset, .unset, .unset, .unset] [(.ref b29)]))
    refine own_step (fun _ k => XS.iconst X30.here hx rfl (hb hby at_66) k) ?_
    show own_Ends _ _ _ _ _ _ _ (T30.setTop (mkF m 67 #[.val (.int p0), .val (.int p1), .val (.int p2), .val (.int p3), .val (.int p4), .val (.int p5), .val (.int (3 : Int32)), .val (.int c0_), .val (.int c1_), .val (.int c2_), .val (.int c3_), .val (.int c4_), .val (.ref b29), .unset, .unset, .unset, .unset, .unset] [(.int (1 : Int32)), (.ref b29)]))
    refine own_step (fun _ k => XS.iload X30.here hx rfl (hb hby at_67) rfl k) ?_
    show own_Ends _ _ _ _ _ _ _ (T30.setTop (mkF m 69 #[.val (.int p0), .val (.int p1), .val (.int p2), .val (.int p3), .val (.int p4), .val (.int p5), .val (.int (3 : Int32)), .val (.int c0_), .val (.int c1_), .val (.int c2_), .val (.int c3_), .val (.int c4_), .val (.ref b29), .unset, .unset, .unset, .unset, .unset] [(.int c1_), (.int (1 : Int32)), (.ref b29)]))
    obtain ⟨cl31, Ar31, qq31, S31, M31, H31, G31⟩ := id V30_b29
    have hin31 : ¬ ((1 : Int32) < 0 ∨ cl31.slots.size ≤ ((1 : Int32)).toNatClampNeg) := inb_of S31 ⟨by decide, by decide⟩
    obtain ⟨T31, h31, X31, e31, W31, st31⟩ := stB X30 hx hZ e30 Ar31 (j := (1 : Int32)) hin31 (g := (mkF m 69 #[.val (.int p0), .val (.int p1), .val (.int p2), .val (.int p3), .val (.int p4), .val (.int p5), .val (.int (3 : Int32)), .val (.int c0_), .val (.int c1_), .val (.int c2_), .val (.int c3_), .val (.int c4_), .val (.ref b29), .unset, .unset, .unset, .unset, .unset] [(.int c1_), (.int (1 : Int32)), (.ref b29)])) rfl rfl (hb hby at_69)
    have N31 := Fr.snoc X31 N30 gn29
    rw [nb1] at W31
    have V31_b29 : Arv Z h31 b29 k29 .byte (3 : Int32) [(.int c0_), (.int c1_), (.int (0 : Int32))] (.int (0 : Int32)) := Arv.set Ar31 qq31 S31 M31 H31 G31 (by have := fits_nar_byte c1_; rw [show (c1_).toInt8.toInt32 = c1_ from nb1] at this; exact this) W31 1 (by decide) (by simp)
    have Z31 := Nat.le_trans Z30 (Keep.of_wr W31).1
    refine own_step (fun _ k => st31 _ k) ?_
    show own_Ends _ _ _ _ _ _ _ (T31.setTop (mkF m 70 #[.val (.int p0), .val (.int p1), .val (.int p2), .val (.int p3), .val (.int p4), .val (.int p5), .val (.int (3 : Int32)), .val (.int c0_), .val (.int c1_), .val (.int c2_), .val (.int c3_), .val (.int c4_), .val (.ref b29), .unset, .unset, .unset, .unset, .unset] []))
    refine own_step (fun _ k => XS.iload X31.here hx rfl (hb hby at_70) rfl k) ?_
    show own_Ends _ _ _ _ _ _ _ (T31.setTop (mkF m 72 #[.val (.int p0), .val (.int p1), .val (.int p2), .val (.int p3), .val (.int p4), .val (.int p5), .val (.int (3 : Int32)), .val (.int c0_), .val (.int c1_), .val (.int c2_), .val (.int c3_), .val (.int c4_), .val (.ref b29), .unset, .unset, .unset, .unset, .unset] [(.int (3 : Int32))]))
    refine own_step (fun _ k => XS.iconst X31.here hx rfl (hb hby at_72) k) ?_
    show own_Ends _ _ _ _ _ _ _ (T31.setTop (mkF m 73 #[.val (.int p0), .val (.int p1), .val (.int p2), .val (.int p3), .val (.int p4), .val (.int p5), .val (.int (3 : Int32)), .val (.int c0_), .val (.int c1_), .val (.int c2_), .val (.int c3_), .val (.int c4_), .val (.ref b29), .unset, .unset, .unset, .unset, .unset] [(.int (2 : Int32)), (.int (3 : Int32))]))
    refine own_step (fun _ k => XS.icmpNo X31.here hx rfl (hb hby at_73) rfl (tlt (by decide)).2.2.2 k) ?_
    show own_Ends _ _ _ _ _ _ _ (T31.setTop (mkF m 76 #[.val (.int p0), .val (.int p1), .val (.int p2), .val (.int p3), .val (.int p4), .val (.int p5), .val (.int (3 : Int32)), .val (.int c0_), .val (.int c1_), .val (.int c2_), .val (.int c3_), .val (.int c4_), .val (.ref b29), .unset, .unset, .unset, .unset, .unset] []))
    refine own_step (fun _ k => XS.aload X31.here hx rfl (hb hby at_76) rfl rfl k) ?_
    show own_Ends _ _ _ _ _ _ _ (T31.setTop (mkF m 78 #[.val (.int p0), .val (.int p1), .val (.int p2), .val (.int p3), .val (.int p4), .val (.int p5), .val (.int (3 : Int32)), .val (.int c0_), .val (.int c1_), .val (.int c2_), .val (.int c3_), .val (.int c4_), .val (.ref b29), .unset, .unset, .unset, .unset, .unset] [(.ref b29)]))
    refine own_step (fun _ k => XS.iconst X31.here hx rfl (hb hby at_78) k) ?_
    show own_Ends _ _ _ _ _ _ _ (T31.setTop (mkF m 79 #[.val (.int p0), .val (.int p1), .val (.int p2), .val (.int p3), .val (.int p4), .val (.int p5), .val (.int (3 : Int32)), .val (.int c0_), .val (.int c1_), .val (.int c2_), .val (.int c3_), .val (.int c4_), .val (.ref b29), .unset, .unset, .unset, .unset, .unset] [(.int (2 : Int32)), (.ref b29)]))
    refine own_step (fun _ k => XS.iload X31.here hx rfl (hb hby at_79) rfl k) ?_
    show own_Ends _ _ _ _ _ _ _ (T31.setTop (mkF m 81 #[.val (.int p0), .val (.int p1), .val (.int p2), .val (.int p3), .val (.int p4), .val (.int p5), .val (.int (3 : Int32)), .val (.int c0_), .val (.int c1_), .val (.int c2_), .val (.int c3_), .val (.int c4_), .val (.ref b29), .unset, .unset, .unset, .unset, .unset] [(.int c2_), (.int (2 : Int32)), (.ref b29)]))
    obtain ⟨cl32, Ar32, qq32, S32, M32, H32, G32⟩ := id V31_b29
    have hin32 : ¬ ((2 : Int32) < 0 ∨ cl32.slots.size ≤ ((2 : Int32)).toNatClampNeg) := inb_of S32 ⟨by decide, by decide⟩
    obtain ⟨T32, h32, X32, e32, W32, st32⟩ := stB X31 hx hZ e31 Ar32 (j := (2 : Int32)) hin32 (g := (mkF m 81 #[.val (.int p0), .val (.int p1), .val (.int p2), .val (.int p3), .val (.int p4), .val (.int p5), .val (.int (3 : Int32)), .val (.int c0_), .val (.int c1_), .val (.int c2_), .val (.int c3_), .val (.int c4_), .val (.ref b29), .unset, .unset, .unset, .unset, .unset] [(.int c2_), (.int (2 : Int32)), (.ref b29)])) rfl rfl (hb hby at_81)
    have N32 := Fr.snoc X32 N31 gn29
    rw [nb2] at W32
    have V32_b29 : Arv Z h32 b29 k29 .byte (3 : Int32) [(.int c0_), (.int c1_), (.int c2_)] (.int (0 : Int32)) := Arv.set Ar32 qq32 S32 M32 H32 G32 (by have := fits_nar_byte c2_; rw [show (c2_).toInt8.toInt32 = c2_ from nb2] at this; exact this) W32 2 (by decide) (by simp)
    have Z32 := Nat.le_trans Z31 (Keep.of_wr W32).1
    refine own_step (fun _ k => st32 _ k) ?_
    show own_Ends _ _ _ _ _ _ _ (T32.setTop (mkF m 82 #[.val (.int p0), .val (.int p1), .val (.int p2), .val (.int p3), .val (.int p4), .val (.int p5), .val (.int (3 : Int32)), .val (.int c0_), .val (.int c1_), .val (.int c2_), .val (.int c3_), .val (.int c4_), .val (.ref b29), .unset, .unset, .unset, .unset, .unset] []))
    refine own_step (fun _ k => XS.iload X32.here hx rfl (hb hby at_82) rfl k) ?_
    show own_Ends _ _ _ _ _ _ _ (T32.setTop (mkF m 84 #[.val (.int p0), .val (.int p1), .val (.int p2), .val (.int p3), .val (.int p4), .val (.int p5), .val (.int (3 : Int32)), .val (.int c0_), .val (.int c1_), .val (.int c2_), .val (.int c3_), .val (.int c4_), .val (.ref b29), .unset, .unset, .unset, .unset, .unset] [(.int (3 : Int32))]))
    refine own_step (fun _ k => XS.iconst X32.here hx rfl (hb hby at_84) k) ?_
    show own_Ends _ _ _ _ _ _ _ (T32.setTop (mkF m 85 #[.val (.int p0), .val (.int p1), .val (.int p2), .val (.int p3), .val (.int p4), .val (.int p5), .val (.int (3 : Int32)), .val (.int c0_), .val (.int c1_), .val (.int c2_), .val (.int c3_), .val (.int c4_), .val (.ref b29), .unset, .unset, .unset, .unset, .unset] [(.int (3 : Int32)), (.int (3 : Int32))]))
    refine own_step (fun _ k => XS.icmpYes X32.here hx rfl (pc0 := 85) (pc' := 94) rfl (hb hby at_85) rfl (flt (by decide)).2.2.2 (by decide) (by decide) k) ?_
    show own_Ends _ _ _ _ _ _ _ (T32.setTop (mkF m 94 #[.val (.int p0), .val (.int p1), .val (.int p2), .val (.int p3), .val (.int p4), .val (.int p5), .val (.int (3 : Int32)), .val (.int c0_), .val (.int c1_), .val (.int c2_), .val (.int c3_), .val (.int c4_), .val (.ref b29), .unset, .unset, .unset, .unset, .unset] []))
    refine own_step (fun _ k => XS.iload X32.here hx rfl (hb hby at_94) rfl k) ?_
    show own_Ends _ _ _ _ _ _ _ (T32.setTop (mkF m 96 #[.val (.int p0), .val (.int p1), .val (.int p2), .val (.int p3), .val (.int p4), .val (.int p5), .val (.int (3 : Int32)), .val (.int c0_), .val (.int c1_), .val (.int c2_), .val (.int c3_), .val (.int c4_), .val (.ref b29), .unset, .unset, .unset, .unset, .unset] [(.int (3 : Int32))]))
    refine own_step (fun _ k => XS.iconst X32.here hx rfl (hb hby at_96) k) ?_
    show own_Ends _ _ _ _ _ _ _ (T32.setTop (mkF m 97 #[.val (.int p0), .val (.int p1), .val (.int p2), .val (.int p3), .val (.int p4), .val (.int p5), .val (.int (3 : Int32)), .val (.int c0_), .val (.int c1_), .val (.int c2_), .val (.int c3_), .val (.int c4_), .val (.ref b29), .unset, .unset, .unset, .unset, .unset] [(.int (4 : Int32)), (.int (3 : Int32))]))
    refine own_step (fun _ k => XS.icmpYes X32.here hx rfl (pc0 := 97) (pc' := 106) rfl (hb hby at_97) rfl (flt (by decide)).2.2.2 (by decide) (by decide) k) ?_
    show own_Ends _ _ _ _ _ _ _ (T32.setTop (mkF m 106 #[.val (.int p0), .val (.int p1), .val (.int p2), .val (.int p3), .val (.int p4), .val (.int p5), .val (.int (3 : Int32)), .val (.int c0_), .val (.int c1_), .val (.int c2_), .val (.int c3_), .val (.int c4_), .val (.ref b29), .unset, .unset, .unset, .unset, .unset] []))
    refine own_step (fun _ k => XS.iload X32.here hx rfl (hb hby at_106) rfl k) ?_
    show own_Ends _ _ _ _ _ _ _ (T32.setTop (mkF m 108 #[.val (.int p0), .val (.int p1), .val (.int p2), .val (.int p3), .val (.int p4), .val (.int p5), .val (.int (3 : Int32)), .val (.int c0_), .val (.int c1_), .val (.int c2_), .val (.int c3_), .val (.int c4_), .val (.ref b29), .unset, .unset, .unset, .unset, .unset] [(.int (3 : Int32))]))
    refine own_step (fun _ k => XS.iconst X32.here hx rfl (hb hby at_108) k) ?_
    show own_Ends _ _ _ _ _ _ _ (T32.setTop (mkF m 109 #[.val (.int p0), .val (.int p1), .val (.int p2), .val (.int p3), .val (.int p4), .val (.int p5), .val (.int (3 : Int32)), .val (.int c0_), .val (.int c1_), .val (.int c2_), .val (.int c3_), .val (.int c4_), .val (.ref b29), .unset, .unset, .unset, .unset, .unset] [(.int (3 : Int32)), (.int (3 : Int32))]))
    have J138_33 : ∀ (hst : own_start [c0_, c1_, c2_] = 0), own_Ends p e below s 1 5 (own_Q0 Z p0 p1 p2 p3 p4 p5  h0 n0) (T32.setTop (mkF m 138 #[.val (.int p0), .val (.int p1), .val (.int p2), .val (.int p3), .val (.int p4), .val (.int p5), .val (.int (3 : Int32)), .val (.int c0_), .val (.int c1_), .val (.int c2_), .val (.int c3_), .val (.int c4_), .val (.ref b29), .unset, .unset, .unset, .unset, .unset] [(.int (0 : Int32))])) := by
      intro hst
      show own_Ends _ _ _ _ _ _ _ (T32.setTop (mkF m 138 #[.val (.int p0), .val (.int p1), .val (.int p2), .val (.int p3), .val (.int p4), .val (.int p5), .val (.int (3 : Int32)), .val (.int c0_), .val (.int c1_), .val (.int c2_), .val (.int c3_), .val (.int c4_), .val (.ref b29), .unset, .unset, .unset, .unset, .unset] [(.int (0 : Int32))]))
      refine own_step (fun _ k => XS.istore X32.here hx rfl (hb hby at_138) rfl (l' := #[.val (.int p0), .val (.int p1), .val (.int p2), .val (.int p3), .val (.int p4), .val (.int p5), .val (.int (3 : Int32)), .val (.int c0_), .val (.int c1_), .val (.int c2_), .val (.int c3_), .val (.int c4_), .val (.ref b29), .val (.int (0 : Int32)), .unset, .unset, .unset, .unset]) rfl k) ?_
      show own_Ends _ _ _ _ _ _ _ (T32.setTop (mkF m 140 #[.val (.int p0), .val (.int p1), .val (.int p2), .val (.int p3), .val (.int p4), .val (.int p5), .val (.int (3 : Int32)), .val (.int c0_), .val (.int c1_), .val (.int c2_), .val (.int c3_), .val (.int c4_), .val (.ref b29), .val (.int (0 : Int32)), .unset, .unset, .unset, .unset] []))
      refine own_step (fun _ k => XS.iload X32.here hx rfl (hb hby at_140) rfl k) ?_
      show own_Ends _ _ _ _ _ _ _ (T32.setTop (mkF m 142 #[.val (.int p0), .val (.int p1), .val (.int p2), .val (.int p3), .val (.int p4), .val (.int p5), .val (.int (3 : Int32)), .val (.int c0_), .val (.int c1_), .val (.int c2_), .val (.int c3_), .val (.int c4_), .val (.ref b29), .val (.int (0 : Int32)), .unset, .unset, .unset, .unset] [(.int (0 : Int32))]))
      refine own_step (fun _ k => XS.ifYes X32.here hx rfl (pc0 := 142) (pc' := 149) rfl (hb hby at_142) rfl ((if0 _ _).trans (teq rfl).1) (by decide) (by decide) k) ?_
      show own_Ends _ _ _ _ _ _ _ (T32.setTop (mkF m 149 #[.val (.int p0), .val (.int p1), .val (.int p2), .val (.int p3), .val (.int p4), .val (.int p5), .val (.int (3 : Int32)), .val (.int c0_), .val (.int c1_), .val (.int c2_), .val (.int c3_), .val (.int c4_), .val (.ref b29), .val (.int (0 : Int32)), .unset, .unset, .unset, .unset] []))
      refine own_step (fun _ k => XS.iconst X32.here hx rfl (hb hby at_149) k) ?_
      show own_Ends _ _ _ _ _ _ _ (T32.setTop (mkF m 150 #[.val (.int p0), .val (.int p1), .val (.int p2), .val (.int p3), .val (.int p4), .val (.int p5), .val (.int (3 : Int32)), .val (.int c0_), .val (.int c1_), .val (.int c2_), .val (.int c3_), .val (.int c4_), .val (.ref b29), .val (.int (0 : Int32)), .unset, .unset, .unset, .unset] [(.int (0 : Int32))]))
      refine own_step (fun _ k => XS.istore X32.here hx rfl (hb hby at_150) rfl (l' := #[.val (.int p0), .val (.int p1), .val (.int p2), .val (.int p3), .val (.int p4), .val (.int p5), .val (.int (3 : Int32)), .val (.int c0_), .val (.int c1_), .val (.int c2_), .val (.int c3_), .val (.int c4_), .val (.ref b29), .val (.int (0 : Int32)), .val (.int (0 : Int32)), .unset, .unset, .unset]) rfl k) ?_
      show own_Ends _ _ _ _ _ _ _ (T32.setTop (mkF m 152 #[.val (.int p0), .val (.int p1), .val (.int p2), .val (.int p3), .val (.int p4), .val (.int p5), .val (.int (3 : Int32)), .val (.int c0_), .val (.int c1_), .val (.int c2_), .val (.int c3_), .val (.int c4_), .val (.ref b29), .val (.int (0 : Int32)), .val (.int (0 : Int32)), .unset, .unset, .unset] []))
      refine own_step (fun _ k => XS.iconst X32.here hx rfl (hb hby at_152) k) ?_
      show own_Ends _ _ _ _ _ _ _ (T32.setTop (mkF m 153 #[.val (.int p0), .val (.int p1), .val (.int p2), .val (.int p3), .val (.int p4), .val (.int p5), .val (.int (3 : Int32)), .val (.int c0_), .val (.int c1_), .val (.int c2_), .val (.int c3_), .val (.int c4_), .val (.ref b29), .val (.int (0 : Int32)), .val (.int (0 : Int32)), .unset, .unset, .unset] [(.int (-1 : Int32))]))
      refine own_step (fun _ k => XS.istore X32.here hx rfl (hb hby at_153) rfl (l' := #[.val (.int p0), .val (.int p1), .val (.int p2), .val (.int p3), .val (.int p4), .val (.int p5), .val (.int (3 : Int32)), .val (.int c0_), .val (.int c1_), .val (.int c2_), .val (.int c3_), .val (.int c4_), .val (.ref b29), .val (.int (0 : Int32)), .val (.int (0 : Int32)), .val (.int (-1 : Int32)), .unset, .unset]) rfl k) ?_
      show own_Ends _ _ _ _ _ _ _ (T32.setTop (mkF m 155 #[.val (.int p0), .val (.int p1), .val (.int p2), .val (.int p3), .val (.int p4), .val (.int p5), .val (.int (3 : Int32)), .val (.int c0_), .val (.int c1_), .val (.int c2_), .val (.int c3_), .val (.int c4_), .val (.ref b29), .val (.int (0 : Int32)), .val (.int (0 : Int32)), .val (.int (-1 : Int32)), .unset, .unset] []))
      refine own_step (fun _ k => XS.iconst X32.here hx rfl (hb hby at_155) k) ?_
      show own_Ends _ _ _ _ _ _ _ (T32.setTop (mkF m 156 #[.val (.int p0), .val (.int p1), .val (.int p2), .val (.int p3), .val (.int p4), .val (.int p5), .val (.int (3 : Int32)), .val (.int c0_), .val (.int c1_), .val (.int c2_), .val (.int c3_), .val (.int c4_), .val (.ref b29), .val (.int (0 : Int32)), .val (.int (0 : Int32)), .val (.int (-1 : Int32)), .unset, .unset] [(.int (0 : Int32))]))
      refine own_step (fun _ k => XS.istore X32.here hx rfl (hb hby at_156) rfl (l' := #[.val (.int p0), .val (.int p1), .val (.int p2), .val (.int p3), .val (.int p4), .val (.int p5), .val (.int (3 : Int32)), .val (.int c0_), .val (.int c1_), .val (.int c2_), .val (.int c3_), .val (.int c4_), .val (.ref b29), .val (.int (0 : Int32)), .val (.int (0 : Int32)), .val (.int (-1 : Int32)), .val (.int (0 : Int32)), .unset]) rfl k) ?_
      show own_Ends _ _ _ _ _ _ _ (T32.setTop (mkF m 158 #[.val (.int p0), .val (.int p1), .val (.int p2), .val (.int p3), .val (.int p4), .val (.int p5), .val (.int (3 : Int32)), .val (.int c0_), .val (.int c1_), .val (.int c2_), .val (.int c3_), .val (.int c4_), .val (.ref b29), .val (.int (0 : Int32)), .val (.int (0 : Int32)), .val (.int (-1 : Int32)), .val (.int (0 : Int32)), .unset] []))
      refine own_step (fun _ k => XS.iload X32.here hx rfl (hb hby at_158) rfl k) ?_
      show own_Ends _ _ _ _ _ _ _ (T32.setTop (mkF m 160 #[.val (.int p0), .val (.int p1), .val (.int p2), .val (.int p3), .val (.int p4), .val (.int p5), .val (.int (3 : Int32)), .val (.int c0_), .val (.int c1_), .val (.int c2_), .val (.int c3_), .val (.int c4_), .val (.ref b29), .val (.int (0 : Int32)), .val (.int (0 : Int32)), .val (.int (-1 : Int32)), .val (.int (0 : Int32)), .unset] [(.int (3 : Int32))]))
      refine own_step (fun _ k => XS.iconst X32.here hx rfl (hb hby at_160) k) ?_
      show own_Ends _ _ _ _ _ _ _ (T32.setTop (mkF m 161 #[.val (.int p0), .val (.int p1), .val (.int p2), .val (.int p3), .val (.int p4), .val (.int p5), .val (.int (3 : Int32)), .val (.int c0_), .val (.int c1_), .val (.int c2_), .val (.int c3_), .val (.int c4_), .val (.ref b29), .val (.int (0 : Int32)), .val (.int (0 : Int32)), .val (.int (-1 : Int32)), .val (.int (0 : Int32)), .unset] [(.int (4 : Int32)), (.int (3 : Int32))]))
      refine own_step (fun _ k => XS.icmpYes X32.here hx rfl (pc0 := 161) (pc' := 185) rfl (hb hby at_161) rfl (flt (by decide)).2.2.2 (by decide) (by decide) k) ?_
      show own_Ends _ _ _ _ _ _ _ (T32.setTop (mkF m 185 #[.val (.int p0), .val (.int p1), .val (.int p2), .val (.int p3), .val (.int p4), .val (.int p5), .val (.int (3 : Int32)), .val (.int c0_), .val (.int c1_), .val (.int c2_), .val (.int c3_), .val (.int c4_), .val (.ref b29), .val (.int (0 : Int32)), .val (.int (0 : Int32)), .val (.int (-1 : Int32)), .val (.int (0 : Int32)), .unset] []))
      refine own_step (fun _ k => XS.iload X32.here hx rfl (hb hby at_185) rfl k) ?_
      show own_Ends _ _ _ _ _ _ _ (T32.setTop (mkF m 187 #[.val (.int p0), .val (.int p1), .val (.int p2), .val (.int p3), .val (.int p4), .val (.int p5), .val (.int (3 : Int32)), .val (.int c0_), .val (.int c1_), .val (.int c2_), .val (.int c3_), .val (.int c4_), .val (.ref b29), .val (.int (0 : Int32)), .val (.int (0 : Int32)), .val (.int (-1 : Int32)), .val (.int (0 : Int32)), .unset] [(.int (3 : Int32))]))
      refine own_step (fun _ k => XS.iconst X32.here hx rfl (hb hby at_187) k) ?_
      show own_Ends _ _ _ _ _ _ _ (T32.setTop (mkF m 188 #[.val (.int p0), .val (.int p1), .val (.int p2), .val (.int p3), .val (.int p4), .val (.int p5), .val (.int (3 : Int32)), .val (.int c0_), .val (.int c1_), .val (.int c2_), .val (.int c3_), .val (.int c4_), .val (.ref b29), .val (.int (0 : Int32)), .val (.int (0 : Int32)), .val (.int (-1 : Int32)), .val (.int (0 : Int32)), .unset] [(.int (3 : Int32)), (.int (3 : Int32))]))
      refine own_step (fun _ k => XS.icmpYes X32.here hx rfl (pc0 := 188) (pc' := 212) rfl (hb hby at_188) rfl (flt (by decide)).2.2.2 (by decide) (by decide) k) ?_
      show own_Ends _ _ _ _ _ _ _ (T32.setTop (mkF m 212 #[.val (.int p0), .val (.int p1), .val (.int p2), .val (.int p3), .val (.int p4), .val (.int p5), .val (.int (3 : Int32)), .val (.int c0_), .val (.int c1_), .val (.int c2_), .val (.int c3_), .val (.int c4_), .val (.ref b29), .val (.int (0 : Int32)), .val (.int (0 : Int32)), .val (.int (-1 : Int32)), .val (.int (0 : Int32)), .unset] []))
      refine own_step (fun _ k => XS.iload X32.here hx rfl (hb hby at_212) rfl k) ?_
      show own_Ends _ _ _ _ _ _ _ (T32.setTop (mkF m 214 #[.val (.int p0), .val (.int p1), .val (.int p2), .val (.int p3), .val (.int p4), .val (.int p5), .val (.int (3 : Int32)), .val (.int c0_), .val (.int c1_), .val (.int c2_), .val (.int c3_), .val (.int c4_), .val (.ref b29), .val (.int (0 : Int32)), .val (.int (0 : Int32)), .val (.int (-1 : Int32)), .val (.int (0 : Int32)), .unset] [(.int (3 : Int32))]))
      refine own_step (fun _ k => XS.iconst X32.here hx rfl (hb hby at_214) k) ?_
      show own_Ends _ _ _ _ _ _ _ (T32.setTop (mkF m 215 #[.val (.int p0), .val (.int p1), .val (.int p2), .val (.int p3), .val (.int p4), .val (.int p5), .val (.int (3 : Int32)), .val (.int c0_), .val (.int c1_), .val (.int c2_), .val (.int c3_), .val (.int c4_), .val (.ref b29), .val (.int (0 : Int32)), .val (.int (0 : Int32)), .val (.int (-1 : Int32)), .val (.int (0 : Int32)), .unset] [(.int (2 : Int32)), (.int (3 : Int32))]))
      refine own_step (fun _ k => XS.icmpNo X32.here hx rfl (hb hby at_215) rfl (tlt (by decide)).2.2.2 k) ?_
      show own_Ends _ _ _ _ _ _ _ (T32.setTop (mkF m 218 #[.val (.int p0), .val (.int p1), .val (.int p2), .val (.int p3), .val (.int p4), .val (.int p5), .val (.int (3 : Int32)), .val (.int c0_), .val (.int c1_), .val (.int c2_), .val (.int c3_), .val (.int c4_), .val (.ref b29), .val (.int (0 : Int32)), .val (.int (0 : Int32)), .val (.int (-1 : Int32)), .val (.int (0 : Int32)), .unset] []))
      refine own_step (fun _ k => XS.iload X32.here hx rfl (hb hby at_218) rfl k) ?_
      show own_Ends _ _ _ _ _ _ _ (T32.setTop (mkF m 220 #[.val (.int p0), .val (.int p1), .val (.int p2), .val (.int p3), .val (.int p4), .val (.int p5), .val (.int (3 : Int32)), .val (.int c0_), .val (.int c1_), .val (.int c2_), .val (.int c3_), .val (.int c4_), .val (.ref b29), .val (.int (0 : Int32)), .val (.int (0 : Int32)), .val (.int (-1 : Int32)), .val (.int (0 : Int32)), .unset] [(.int (0 : Int32))]))
      refine own_step (fun _ k => XS.iconst X32.here hx rfl (hb hby at_220) k) ?_
      show own_Ends _ _ _ _ _ _ _ (T32.setTop (mkF m 221 #[.val (.int p0), .val (.int p1), .val (.int p2), .val (.int p3), .val (.int p4), .val (.int p5), .val (.int (3 : Int32)), .val (.int c0_), .val (.int c1_), .val (.int c2_), .val (.int c3_), .val (.int c4_), .val (.ref b29), .val (.int (0 : Int32)), .val (.int (0 : Int32)), .val (.int (-1 : Int32)), .val (.int (0 : Int32)), .unset] [(.int (2 : Int32)), (.int (0 : Int32))]))
      refine own_step (fun _ k => XS.icmpNo X32.here hx rfl (hb hby at_221) rfl (flt (by decide)).2.2.1 k) ?_
      show own_Ends _ _ _ _ _ _ _ (T32.setTop (mkF m 224 #[.val (.int p0), .val (.int p1), .val (.int p2), .val (.int p3), .val (.int p4), .val (.int p5), .val (.int (3 : Int32)), .val (.int c0_), .val (.int c1_), .val (.int c2_), .val (.int c3_), .val (.int c4_), .val (.ref b29), .val (.int (0 : Int32)), .val (.int (0 : Int32)), .val (.int (-1 : Int32)), .val (.int (0 : Int32)), .unset] []))
      refine own_step (fun _ k => XS.iload X32.here hx rfl (hb hby at_224) rfl k) ?_
      show own_Ends _ _ _ _ _ _ _ (T32.setTop (mkF m 226 #[.val (.int p0), .val (.int p1), .val (.int p2), .val (.int p3), .val (.int p4), .val (.int p5), .val (.int (3 : Int32)), .val (.int c0_), .val (.int c1_), .val (.int c2_), .val (.int c3_), .val (.int c4_), .val (.ref b29), .val (.int (0 : Int32)), .val (.int (0 : Int32)), .val (.int (-1 : Int32)), .val (.int (0 : Int32)), .unset] [(.int c2_)]))
      obtain ⟨_, _, ⟨T34, L34, k34, n34⟩, -, X34, ⟨Lc34, hQ34, l34, y34, z34⟩, st34⟩ := Jvm.LawKit.callS X32 hx (y := (⟨"com/example/parley/parley/io/CompetitionXmlLooksLikeXmlPinLaw", "ws", "(B)Z"⟩ : MethodName)) hown (mvT hZ (hw _ (List.mem_of_getElem? (i := 10) rfl))) (mvT hZ (hw _ (List.mem_of_getElem? (i := 11) rfl))) (mvT hZ (hw _ (List.mem_of_getElem? (i := 3) rfl))) (mvT hZ (hw _ (List.mem_of_getElem? (i := 12) rfl))) (by decide) (backOf (W := 0) (own_rm2 l Z a0 hw [] c2_  h32 n0 Z32 ) hZ (hw _ (List.mem_of_getElem? (i := 12) rfl)) (hw _ (List.mem_of_getElem? (i := 3) rfl)) (by decide) (by decide)) (g := (mkF m 226 #[.val (.int p0), .val (.int p1), .val (.int p2), .val (.int p3), .val (.int p4), .val (.int p5), .val (.int (3 : Int32)), .val (.int c0_), .val (.int c1_), .val (.int c2_), .val (.int c3_), .val (.int c4_), .val (.ref b29), .val (.int (0 : Int32)), .val (.int (0 : Int32)), .val (.int (-1 : Int32)), .val (.int (0 : Int32)), .unset] [(.int c2_)])) rfl (by rw [hml]; rfl) (argsL := [(.int c2_)]) (rest := []) (lenOf own_pd2 rfl) rfl (by show 2 * 0 + _ ≤ _; exact Nat.le_of_eq rfl) (hb hby at_226) (fun _ _ => ⟨rfl, e32, (by decide : 1 + 0 ≤ _), (by decide : 3 + 0 ≤ _)⟩)
      dsimp only [Pt.U, Pt.locs, Pt.cells, Pt.slots] at X34 l34 y34 z34 st34 hQ34
      subst l34 y34 z34
      obtain ⟨rfl, Nq34, e34⟩ := hQ34
      have N34 := Fr.app N32 Nq34
      refine own_step (fun _ k => st34 _ k) ?_
      show own_Ends _ _ _ _ _ _ _ (T34.setTop (mkF m 229 #[.val (.int p0), .val (.int p1), .val (.int p2), .val (.int p3), .val (.int p4), .val (.int p5), .val (.int (3 : Int32)), .val (.int c0_), .val (.int c1_), .val (.int c2_), .val (.int c3_), .val (.int c4_), .val (.ref b29), .val (.int (0 : Int32)), .val (.int (0 : Int32)), .val (.int (-1 : Int32)), .val (.int (0 : Int32)), .unset] [(.int (own_ws c2_))]))
      have J239_35 : ∀ (lJ35 : List Loc) (NJ35 : Fr n0 lJ35) (TJ35 : State) (XJ35 : Stand p l e room_1 s m #[(.int p0), (.int p1), (.int p2), (.int p3), (.int p4), (.int p5)] below meth c TJ35 lJ35 1 3) (eJ35 : TJ35.heap = h32) (kv2 fv2 : Int32) (hE2 : own_res kv2 fv2 = own_first [c2_]), own_Ends p e below s 1 5 (own_Q0 Z p0 p1 p2 p3 p4 p5  h0 n0) (TJ35.setTop (mkF m 239 #[.val (.int p0), .val (.int p1), .val (.int p2), .val (.int p3), .val (.int p4), .val (.int p5), .val (.int (3 : Int32)), .val (.int c0_), .val (.int c1_), .val (.int c2_), .val (.int c3_), .val (.int c4_), .val (.ref b29), .val (.int (0 : Int32)), .val (.int (0 : Int32)), .val (.int kv2), .val (.int fv2), .unset] [])) := by
        intro lJ35 NJ35 TJ35 XJ35 eJ35 kv2 fv2 hE2
        show own_Ends _ _ _ _ _ _ _ (TJ35.setTop (mkF m 239 #[.val (.int p0), .val (.int p1), .val (.int p2), .val (.int p3), .val (.int p4), .val (.int p5), .val (.int (3 : Int32)), .val (.int c0_), .val (.int c1_), .val (.int c2_), .val (.int c3_), .val (.int c4_), .val (.ref b29), .val (.int (0 : Int32)), .val (.int (0 : Int32)), .val (.int kv2), .val (.int fv2), .unset] []))
        refine own_step (fun _ k => XS.iload XJ35.here hx rfl (hb hby at_239) rfl k) ?_
        show own_Ends _ _ _ _ _ _ _ (TJ35.setTop (mkF m 241 #[.val (.int p0), .val (.int p1), .val (.int p2), .val (.int p3), .val (.int p4), .val (.int p5), .val (.int (3 : Int32)), .val (.int c0_), .val (.int c1_), .val (.int c2_), .val (.int c3_), .val (.int c4_), .val (.ref b29), .val (.int (0 : Int32)), .val (.int (0 : Int32)), .val (.int kv2), .val (.int fv2), .unset] [(.int (3 : Int32))]))
        refine own_step (fun _ k => XS.iconst XJ35.here hx rfl (hb hby at_241) k) ?_
        show own_Ends _ _ _ _ _ _ _ (TJ35.setTop (mkF m 242 #[.val (.int p0), .val (.int p1), .val (.int p2), .val (.int p3), .val (.int p4), .val (.int p5), .val (.int (3 : Int32)), .val (.int c0_), .val (.int c1_), .val (.int c2_), .val (.int c3_), .val (.int c4_), .val (.ref b29), .val (.int (0 : Int32)), .val (.int (0 : Int32)), .val (.int kv2), .val (.int fv2), .unset] [(.int (1 : Int32)), (.int (3 : Int32))]))
        refine own_step (fun _ k => XS.icmpNo XJ35.here hx rfl (hb hby at_242) rfl (tlt (by decide)).2.2.2 k) ?_
        show own_Ends _ _ _ _ _ _ _ (TJ35.setTop (mkF m 245 #[.val (.int p0), .val (.int p1), .val (.int p2), .val (.int p3), .val (.int p4), .val (.int p5), .val (.int (3 : Int32)), .val (.int c0_), .val (.int c1_), .val (.int c2_), .val (.int c3_), .val (.int c4_), .val (.ref b29), .val (.int (0 : Int32)), .val (.int (0 : Int32)), .val (.int kv2), .val (.int fv2), .unset] []))
        refine own_step (fun _ k => XS.iload XJ35.here hx rfl (hb hby at_245) rfl k) ?_
        show own_Ends _ _ _ _ _ _ _ (TJ35.setTop (mkF m 247 #[.val (.int p0), .val (.int p1), .val (.int p2), .val (.int p3), .val (.int p4), .val (.int p5), .val (.int (3 : Int32)), .val (.int c0_), .val (.int c1_), .val (.int c2_), .val (.int c3_), .val (.int c4_), .val (.ref b29), .val (.int (0 : Int32)), .val (.int (0 : Int32)), .val (.int kv2), .val (.int fv2), .unset] [(.int (0 : Int32))]))
        refine own_step (fun _ k => XS.iconst XJ35.here hx rfl (hb hby at_247) k) ?_
        show own_Ends _ _ _ _ _ _ _ (TJ35.setTop (mkF m 248 #[.val (.int p0), .val (.int p1), .val (.int p2), .val (.int p3), .val (.int p4), .val (.int p5), .val (.int (3 : Int32)), .val (.int c0_), .val (.int c1_), .val (.int c2_), .val (.int c3_), .val (.int c4_), .val (.ref b29), .val (.int (0 : Int32)), .val (.int (0 : Int32)), .val (.int kv2), .val (.int fv2), .unset] [(.int (1 : Int32)), (.int (0 : Int32))]))
        refine own_step (fun _ k => XS.icmpNo XJ35.here hx rfl (hb hby at_248) rfl (flt (by decide)).2.2.1 k) ?_
        show own_Ends _ _ _ _ _ _ _ (TJ35.setTop (mkF m 251 #[.val (.int p0), .val (.int p1), .val (.int p2), .val (.int p3), .val (.int p4), .val (.int p5), .val (.int (3 : Int32)), .val (.int c0_), .val (.int c1_), .val (.int c2_), .val (.int c3_), .val (.int c4_), .val (.ref b29), .val (.int (0 : Int32)), .val (.int (0 : Int32)), .val (.int kv2), .val (.int fv2), .unset] []))
        refine own_step (fun _ k => XS.iload XJ35.here hx rfl (hb hby at_251) rfl k) ?_
        show own_Ends _ _ _ _ _ _ _ (TJ35.setTop (mkF m 253 #[.val (.int p0), .val (.int p1), .val (.int p2), .val (.int p3), .val (.int p4), .val (.int p5), .val (.int (3 : Int32)), .val (.int c0_), .val (.int c1_), .val (.int c2_), .val (.int c3_), .val (.int c4_), .val (.ref b29), .val (.int (0 : Int32)), .val (.int (0 : Int32)), .val (.int kv2), .val (.int fv2), .unset] [(.int c1_)]))
        obtain ⟨_, _, ⟨T36, L36, k36, n36⟩, -, X36, ⟨Lc36, hQ36, l36, y36, z36⟩, st36⟩ := Jvm.LawKit.callS XJ35 hx (y := (⟨"com/example/parley/parley/io/CompetitionXmlLooksLikeXmlPinLaw", "ws", "(B)Z"⟩ : MethodName)) hown (mvT hZ (hw _ (List.mem_of_getElem? (i := 10) rfl))) (mvT hZ (hw _ (List.mem_of_getElem? (i := 11) rfl))) (mvT hZ (hw _ (List.mem_of_getElem? (i := 3) rfl))) (mvT hZ (hw _ (List.mem_of_getElem? (i := 12) rfl))) (by decide) (backOf (W := 0) (own_rm2 l Z a0 hw [] c1_  h32 n0 Z32 ) hZ (hw _ (List.mem_of_getElem? (i := 12) rfl)) (hw _ (List.mem_of_getElem? (i := 3) rfl)) (by decide) (by decide)) (g := (mkF m 253 #[.val (.int p0), .val (.int p1), .val (.int p2), .val (.int p3), .val (.int p4), .val (.int p5), .val (.int (3 : Int32)), .val (.int c0_), .val (.int c1_), .val (.int c2_), .val (.int c3_), .val (.int c4_), .val (.ref b29), .val (.int (0 : Int32)), .val (.int (0 : Int32)), .val (.int kv2), .val (.int fv2), .unset] [(.int c1_)])) rfl (by rw [hml]; rfl) (argsL := [(.int c1_)]) (rest := []) (lenOf own_pd2 rfl) rfl (by show 2 * 0 + _ ≤ _; exact Nat.le_of_eq rfl) (hb hby at_253) (fun _ _ => ⟨rfl, eJ35, (by decide : 1 + 0 ≤ _), (by decide : 3 + 0 ≤ _)⟩)
        dsimp only [Pt.U, Pt.locs, Pt.cells, Pt.slots] at X36 l36 y36 z36 st36 hQ36
        subst l36 y36 z36
        obtain ⟨rfl, Nq36, e36⟩ := hQ36
        have N36 := Fr.app NJ35 Nq36
        refine own_step (fun _ k => st36 _ k) ?_
        show own_Ends _ _ _ _ _ _ _ (T36.setTop (mkF m 256 #[.val (.int p0), .val (.int p1), .val (.int p2), .val (.int p3), .val (.int p4), .val (.int p5), .val (.int (3 : Int32)), .val (.int c0_), .val (.int c1_), .val (.int c2_), .val (.int c3_), .val (.int c4_), .val (.ref b29), .val (.int (0 : Int32)), .val (.int (0 : Int32)), .val (.int kv2), .val (.int fv2), .unset] [(.int (own_ws c1_))]))
        have J266_37 : ∀ (lJ37 : List Loc) (NJ37 : Fr n0 lJ37) (TJ37 : State) (XJ37 : Stand p l e room_1 s m #[(.int p0), (.int p1), (.int p2), (.int p3), (.int p4), (.int p5)] below meth c TJ37 lJ37 1 3) (eJ37 : TJ37.heap = h32) (kv1 fv1 : Int32) (hE1 : own_res kv1 fv1 = own_first [c1_, c2_]), own_Ends p e below s 1 5 (own_Q0 Z p0 p1 p2 p3 p4 p5  h0 n0) (TJ37.setTop (mkF m 266 #[.val (.int p0), .val (.int p1), .val (.int p2), .val (.int p3), .val (.int p4), .val (.int p5), .val (.int (3 : Int32)), .val (.int c0_), .val (.int c1_), .val (.int c2_), .val (.int c3_), .val (.int c4_), .val (.ref b29), .val (.int (0 : Int32)), .val (.int (0 : Int32)), .val (.int kv1), .val (.int fv1), .unset] [])) := by
          intro lJ37 NJ37 TJ37 XJ37 eJ37 kv1 fv1 hE1
          show own_Ends _ _ _ _ _ _ _ (TJ37.setTop (mkF m 266 #[.val (.int p0), .val (.int p1), .val (.int p2), .val (.int p3), .val (.int p4), .val (.int p5), .val (.int (3 : Int32)), .val (.int c0_), .val (.int c1_), .val (.int c2_), .val (.int c3_), .val (.int c4_), .val (.ref b29), .val (.int (0 : Int32)), .val (.int (0 : Int32)), .val (.int kv1), .val (.int fv1), .unset] []))
          refine own_step (fun _ k => XS.iload XJ37.here hx rfl (hb hby at_266) rfl k) ?_
          show own_Ends _ _ _ _ _ _ _ (TJ37.setTop (mkF m 268 #[.val (.int p0), .val (.int p1), .val (.int p2), .val (.int p3), .val (.int p4), .val (.int p5), .val (.int (3 : Int32)), .val (.int c0_), .val (.int c1_), .val (.int c2_), .val (.int c3_), .val (.int c4_), .val (.ref b29), .val (.int (0 : Int32)), .val (.int (0 : Int32)), .val (.int kv1), .val (.int fv1), .unset] [(.int (3 : Int32))]))
          refine own_step (fun _ k => XS.ifNo XJ37.here hx rfl (hb hby at_268) rfl ((if0 _ _).trans (tlt (by decide)).2.2.2) k) ?_
          show own_Ends _ _ _ _ _ _ _ (TJ37.setTop (mkF m 271 #[.val (.int p0), .val (.int p1), .val (.int p2), .val (.int p3), .val (.int p4), .val (.int p5), .val (.int (3 : Int32)), .val (.int c0_), .val (.int c1_), .val (.int c2_), .val (.int c3_), .val (.int c4_), .val (.ref b29), .val (.int (0 : Int32)), .val (.int (0 : Int32)), .val (.int kv1), .val (.int fv1), .unset] []))
          refine own_step (fun _ k => XS.iload XJ37.here hx rfl (hb hby at_271) rfl k) ?_
          show own_Ends _ _ _ _ _ _ _ (TJ37.setTop (mkF m 273 #[.val (.int p0), .val (.int p1), .val (.int p2), .val (.int p3), .val (.int p4), .val (.int p5), .val (.int (3 : Int32)), .val (.int c0_), .val (.int c1_), .val (.int c2_), .val (.int c3_), .val (.int c4_), .val (.ref b29), .val (.int (0 : Int32)), .val (.int (0 : Int32)), .val (.int kv1), .val (.int fv1), .unset] [(.int (0 : Int32))]))
          refine own_step (fun _ k => XS.ifNo XJ37.here hx rfl (hb hby at_273) rfl ((if0 _ _).trans (flt (by decide)).2.2.1) k) ?_
          show own_Ends _ _ _ _ _ _ _ (TJ37.setTop (mkF m 276 #[.val (.int p0), .val (.int p1), .val (.int p2), .val (.int p3), .val (.int p4), .val (.int p5), .val (.int (3 : Int32)), .val (.int c0_), .val (.int c1_), .val (.int c2_), .val (.int c3_), .val (.int c4_), .val (.ref b29), .val (.int (0 : Int32)), .val (.int (0 : Int32)), .val (.int kv1), .val (.int fv1), .unset] []))
          refine own_step (fun _ k => XS.iload XJ37.here hx rfl (hb hby at_276) rfl k) ?_
          show own_Ends _ _ _ _ _ _ _ (TJ37.setTop (mkF m 278 #[.val (.int p0), .val (.int p1), .val (.int p2), .val (.int p3), .val (.int p4), .val (.int p5), .val (.int (3 : Int32)), .val (.int c0_), .val (.int c1_), .val (.int c2_), .val (.int c3_), .val (.int c4_), .val (.ref b29), .val (.int (0 : Int32)), .val (.int (0 : Int32)), .val (.int kv1), .val (.int fv1), .unset] [(.int c0_)]))
          obtain ⟨_, _, ⟨T38, L38, k38, n38⟩, -, X38, ⟨Lc38, hQ38, l38, y38, z38⟩, st38⟩ := Jvm.LawKit.callS XJ37 hx (y := (⟨"com/example/parley/parley/io/CompetitionXmlLooksLikeXmlPinLaw", "ws", "(B)Z"⟩ : MethodName)) hown (mvT hZ (hw _ (List.mem_of_getElem? (i := 10) rfl))) (mvT hZ (hw _ (List.mem_of_getElem? (i := 11) rfl))) (mvT hZ (hw _ (List.mem_of_getElem? (i := 3) rfl))) (mvT hZ (hw _ (List.mem_of_getElem? (i := 12) rfl))) (by decide) (backOf (W := 0) (own_rm2 l Z a0 hw [] c0_  h32 n0 Z32 ) hZ (hw _ (List.mem_of_getElem? (i := 12) rfl)) (hw _ (List.mem_of_getElem? (i := 3) rfl)) (by decide) (by decide)) (g := (mkF m 278 #[.val (.int p0), .val (.int p1), .val (.int p2), .val (.int p3), .val (.int p4), .val (.int p5), .val (.int (3 : Int32)), .val (.int c0_), .val (.int c1_), .val (.int c2_), .val (.int c3_), .val (.int c4_), .val (.ref b29), .val (.int (0 : Int32)), .val (.int (0 : Int32)), .val (.int kv1), .val (.int fv1), .unset] [(.int c0_)])) rfl (by rw [hml]; rfl) (argsL := [(.int c0_)]) (rest := []) (lenOf own_pd2 rfl) rfl (by show 2 * 0 + _ ≤ _; exact Nat.le_of_eq rfl) (hb hby at_278) (fun _ _ => ⟨rfl, eJ37, (by decide : 1 + 0 ≤ _), (by decide : 3 + 0 ≤ _)⟩)
          dsimp only [Pt.U, Pt.locs, Pt.cells, Pt.slots] at X38 l38 y38 z38 st38 hQ38
          subst l38 y38 z38
          obtain ⟨rfl, Nq38, e38⟩ := hQ38
          have N38 := Fr.app NJ37 Nq38
          refine own_step (fun _ k => st38 _ k) ?_
          show own_Ends _ _ _ _ _ _ _ (T38.setTop (mkF m 281 #[.val (.int p0), .val (.int p1), .val (.int p2), .val (.int p3), .val (.int p4), .val (.int p5), .val (.int (3 : Int32)), .val (.int c0_), .val (.int c1_), .val (.int c2_), .val (.int c3_), .val (.int c4_), .val (.ref b29), .val (.int (0 : Int32)), .val (.int (0 : Int32)), .val (.int kv1), .val (.int fv1), .unset] [(.int (own_ws c0_))]))
          have J291_39 : ∀ (lJ39 : List Loc) (NJ39 : Fr n0 lJ39) (TJ39 : State) (XJ39 : Stand p l e room_1 s m #[(.int p0), (.int p1), (.int p2), (.int p3), (.int p4), (.int p5)] below meth c TJ39 lJ39 1 3) (eJ39 : TJ39.heap = h32) (kv0 fv0 : Int32) (hE0 : own_res kv0 fv0 = own_first [c0_, c1_, c2_]), own_Ends p e below s 1 5 (own_Q0 Z p0 p1 p2 p3 p4 p5  h0 n0) (TJ39.setTop (mkF m 291 #[.val (.int p0), .val (.int p1), .val (.int p2), .val (.int p3), .val (.int p4), .val (.int p5), .val (.int (3 : Int32)), .val (.int c0_), .val (.int c1_), .val (.int c2_), .val (.int c3_), .val (.int c4_), .val (.ref b29), .val (.int (0 : Int32)), .val (.int (0 : Int32)), .val (.int kv0), .val (.int fv0), .unset] [])) := by
            intro lJ39 NJ39 TJ39 XJ39 eJ39 kv0 fv0 hE0
            show own_Ends _ _ _ _ _ _ _ (TJ39.setTop (mkF m 291 #[.val (.int p0), .val (.int p1), .val (.int p2), .val (.int p3), .val (.int p4), .val (.int p5), .val (.int (3 : Int32)), .val (.int c0_), .val (.int c1_), .val (.int c2_), .val (.int c3_), .val (.int c4_), .val (.ref b29), .val (.int (0 : Int32)), .val (.int (0 : Int32)), .val (.int kv0), .val (.int fv0), .unset] []))
            have J308_40 : ∀ (ex : Int32) (hex : ex = own_res kv0 fv0), own_Ends p e below s 1 5 (own_Q0 Z p0 p1 p2 p3 p4 p5  h0 n0) (TJ39.setTop (mkF m 308 #[.val (.int p0), .val (.int p1), .val (.int p2), .val (.int p3), .val (.int p4), .val (.int p5), .val (.int (3 : Int32)), .val (.int c0_), .val (.int c1_), .val (.int c2_), .val (.int c3_), .val (.int c4_), .val (.ref b29), .val (.int (0 : Int32)), .val (.int (0 : Int32)), .val (.int kv0), .val (.int fv0), .unset] [(.int ex)])) := by
              intro ex hex
              show own_Ends _ _ _ _ _ _ _ (TJ39.setTop (mkF m 308 #[.val (.int p0), .val (.int p1), .val (.int p2), .val (.int p3), .val (.int p4), .val (.int p5), .val (.int (3 : Int32)), .val (.int c0_), .val (.int c1_), .val (.int c2_), .val (.int c3_), .val (.int c4_), .val (.ref b29), .val (.int (0 : Int32)), .val (.int (0 : Int32)), .val (.int kv0), .val (.int fv0), .unset] [(.int ex)]))
              refine own_step (fun _ k => XS.istore XJ39.here hx rfl (hb hby at_308) rfl (l' := #[.val (.int p0), .val (.int p1), .val (.int p2), .val (.int p3), .val (.int p4), .val (.int p5), .val (.int (3 : Int32)), .val (.int c0_), .val (.int c1_), .val (.int c2_), .val (.int c3_), .val (.int c4_), .val (.ref b29), .val (.int (0 : Int32)), .val (.int (0 : Int32)), .val (.int kv0), .val (.int fv0), .val (.int ex)]) rfl k) ?_
              show own_Ends _ _ _ _ _ _ _ (TJ39.setTop (mkF m 310 #[.val (.int p0), .val (.int p1), .val (.int p2), .val (.int p3), .val (.int p4), .val (.int p5), .val (.int (3 : Int32)), .val (.int c0_), .val (.int c1_), .val (.int c2_), .val (.int c3_), .val (.int c4_), .val (.ref b29), .val (.int (0 : Int32)), .val (.int (0 : Int32)), .val (.int kv0), .val (.int fv0), .val (.int ex)] []))
              refine own_step (fun _ k => XS.aload XJ39.here hx rfl (hb hby at_310) rfl rfl k) ?_
              show own_Ends _ _ _ _ _ _ _ (TJ39.setTop (mkF m 312 #[.val (.int p0), .val (.int p1), .val (.int p2), .val (.int p3), .val (.int p4), .val (.int p5), .val (.int (3 : Int32)), .val (.int c0_), .val (.int c1_), .val (.int c2_), .val (.int c3_), .val (.int c4_), .val (.ref b29), .val (.int (0 : Int32)), .val (.int (0 : Int32)), .val (.int kv0), .val (.int fv0), .val (.int ex)] [(.ref b29)]))
              obtain ⟨cl41, Ar41, qq41, S41, M41, H41, G41⟩ := id V32_b29
              have hbb : ∀ b ∈ ([c0_, c1_, c2_] : List Int32), nar .byte b = b := by
                intro b hbl
                simp only [List.mem_cons, List.not_mem_nil, or_false] at hbl
                rcases hbl with rfl | rfl | rfl
                · exact nb0
                · exact nb1
                · exact nb2
              obtain ⟨_, _, ⟨T42, L42, k42, n42⟩, -, X42, ⟨Lc42, hQ42, l42, y42, z42⟩, st42⟩ := Jvm.LawKit.callS XJ39 hx (y := (⟨"com/example/parley/parley/io/CompetitionXml", "looksLikeXml", "([B)Z"⟩ : MethodName)) hown (mvT hZ (hw _ (List.mem_of_getElem? (i := 6) rfl))) (mvT hZ (hw _ (List.mem_of_getElem? (i := 7) rfl))) (mvT hZ (hw _ (List.mem_of_getElem? (i := 8) rfl))) (mvT hZ (hw _ (List.mem_of_getElem? (i := 9) rfl))) (by decide) (backOf (W := 0) (own_rm3 l Z a0 hw [] b29 cl41 [c0_, c1_, c2_] h32 n0 Z32 Ar41 (S41.trans (show ((3 : Int32)).toNatClampNeg = 3 by decide)) (by simp) (own_hat (bs := [c0_, c1_, c2_]) H41 (S41.trans (show ((3 : Int32)).toNatClampNeg = 3 by decide))) hbb) hZ (hw _ (List.mem_of_getElem? (i := 9) rfl)) (hw _ (List.mem_of_getElem? (i := 8) rfl)) (by decide) (by decide)) (g := (mkF m 312 #[.val (.int p0), .val (.int p1), .val (.int p2), .val (.int p3), .val (.int p4), .val (.int p5), .val (.int (3 : Int32)), .val (.int c0_), .val (.int c1_), .val (.int c2_), .val (.int c3_), .val (.int c4_), .val (.ref b29), .val (.int (0 : Int32)), .val (.int (0 : Int32)), .val (.int kv0), .val (.int fv0), .val (.int ex)] [(.ref b29)])) rfl (by rw [hml]; rfl) (argsL := [(.ref b29)]) (rest := []) (lenOf own_pd1 rfl) rfl (by show 2 * 0 + _ ≤ _; exact Nat.le_of_eq rfl) (hb hby at_312) (fun _ _ => ⟨rfl, eJ39, (by decide : 1 + 0 ≤ _), (by decide : 3 + 0 ≤ _)⟩)
              dsimp only [Pt.U, Pt.locs, Pt.cells, Pt.slots] at X42 l42 y42 z42 st42 hQ42
              subst l42 y42 z42
              obtain ⟨rfl, Nq42, e42⟩ := hQ42
              have N42 := Fr.app NJ39 Nq42
              refine own_step (fun _ k => st42 _ k) ?_
              show own_Ends _ _ _ _ _ _ _ (T42.setTop (mkF m 315 #[.val (.int p0), .val (.int p1), .val (.int p2), .val (.int p3), .val (.int p4), .val (.int p5), .val (.int (3 : Int32)), .val (.int c0_), .val (.int c1_), .val (.int c2_), .val (.int c3_), .val (.int c4_), .val (.ref b29), .val (.int (0 : Int32)), .val (.int (0 : Int32)), .val (.int kv0), .val (.int fv0), .val (.int ex)] [(.int (own_looks [c0_, c1_, c2_]))]))
              refine own_step (fun _ k => XS.iload X42.here hx rfl (hb hby at_315) rfl k) ?_
              show own_Ends _ _ _ _ _ _ _ (T42.setTop (mkF m 317 #[.val (.int p0), .val (.int p1), .val (.int p2), .val (.int p3), .val (.int p4), .val (.int p5), .val (.int (3 : Int32)), .val (.int c0_), .val (.int c1_), .val (.int c2_), .val (.int c3_), .val (.int c4_), .val (.ref b29), .val (.int (0 : Int32)), .val (.int (0 : Int32)), .val (.int kv0), .val (.int fv0), .val (.int ex)] [(.int ex), (.int (own_looks [c0_, c1_, c2_]))]))
              refine own_step (fun _ k => XS.icmpNo X42.here hx rfl (hb hby at_317) rfl (teq (by rw [own_looks, hst, hex]; exact (hE0).symm)).2 k) ?_
              show own_Ends _ _ _ _ _ _ _ (T42.setTop (mkF m 320 #[.val (.int p0), .val (.int p1), .val (.int p2), .val (.int p3), .val (.int p4), .val (.int p5), .val (.int (3 : Int32)), .val (.int c0_), .val (.int c1_), .val (.int c2_), .val (.int c3_), .val (.int c4_), .val (.ref b29), .val (.int (0 : Int32)), .val (.int (0 : Int32)), .val (.int kv0), .val (.int fv0), .val (.int ex)] []))
              refine own_step (fun _ k => XS.iconst X42.here hx rfl (hb hby at_320) k) ?_
              show own_Ends _ _ _ _ _ _ _ (T42.setTop (mkF m 321 #[.val (.int p0), .val (.int p1), .val (.int p2), .val (.int p3), .val (.int p4), .val (.int p5), .val (.int (3 : Int32)), .val (.int c0_), .val (.int c1_), .val (.int c2_), .val (.int c3_), .val (.int c4_), .val (.ref b29), .val (.int (0 : Int32)), .val (.int (0 : Int32)), .val (.int kv0), .val (.int fv0), .val (.int ex)] [(.int (1 : Int32))]))
              refine own_step (fun _ k => XS.goto X42.here hx rfl (pc0 := 321) (pc' := 325) rfl (hb hby at_321) (by decide) (by decide) k) ?_
              show own_Ends _ _ _ _ _ _ _ (T42.setTop (mkF m 325 #[.val (.int p0), .val (.int p1), .val (.int p2), .val (.int p3), .val (.int p4), .val (.int p5), .val (.int (3 : Int32)), .val (.int c0_), .val (.int c1_), .val (.int c2_), .val (.int c3_), .val (.int c4_), .val (.ref b29), .val (.int (0 : Int32)), .val (.int (0 : Int32)), .val (.int kv0), .val (.int fv0), .val (.int ex)] [(.int (1 : Int32))]))
              refine own_ret X42 (BodyLoose.notSynchronized Bd) (v := (some (.int (1 : Int32)))) (fun h => by rw [Bd.returns] at h; cases h) ?_ (by decide) (by decide) (fun fs hr => X42.ireturnOut hx Bd.returns rfl (by simp) (hb hby at_325) hr)
              show own_Q0 Z p0 p1 p2 p3 p4 p5  h0 n0 (some (.int (1 : Int32))) T42.heap _
              rw [e42]
              exact ⟨rfl, N42⟩
            refine own_step (fun _ k => XS.iload XJ39.here hx rfl (hb hby at_291) rfl k) ?_
            show own_Ends _ _ _ _ _ _ _ (TJ39.setTop (mkF m 293 #[.val (.int p0), .val (.int p1), .val (.int p2), .val (.int p3), .val (.int p4), .val (.int p5), .val (.int (3 : Int32)), .val (.int c0_), .val (.int c1_), .val (.int c2_), .val (.int c3_), .val (.int c4_), .val (.ref b29), .val (.int (0 : Int32)), .val (.int (0 : Int32)), .val (.int kv0), .val (.int fv0), .unset] [(.int kv0)]))
            by_cases u1 : kv0 < (0 : Int32)
            · refine own_step (fun _ k => XS.ifYes XJ39.here hx rfl (pc0 := 293) (pc' := 307) rfl (hb hby at_293) rfl ((if0 _ _).trans (tlt u1).1) (by decide) (by decide) k) ?_
              show own_Ends _ _ _ _ _ _ _ (TJ39.setTop (mkF m 307 #[.val (.int p0), .val (.int p1), .val (.int p2), .val (.int p3), .val (.int p4), .val (.int p5), .val (.int (3 : Int32)), .val (.int c0_), .val (.int c1_), .val (.int c2_), .val (.int c3_), .val (.int c4_), .val (.ref b29), .val (.int (0 : Int32)), .val (.int (0 : Int32)), .val (.int kv0), .val (.int fv0), .unset] []))
              refine own_step (fun _ k => XS.iconst XJ39.here hx rfl (hb hby at_307) k) ?_
              show own_Ends _ _ _ _ _ _ _ (TJ39.setTop (mkF m 308 #[.val (.int p0), .val (.int p1), .val (.int p2), .val (.int p3), .val (.int p4), .val (.int p5), .val (.int (3 : Int32)), .val (.int c0_), .val (.int c1_), .val (.int c2_), .val (.int c3_), .val (.int c4_), .val (.ref b29), .val (.int (0 : Int32)), .val (.int (0 : Int32)), .val (.int kv0), .val (.int fv0), .unset] [(.int (0 : Int32))]))
              exact J308_40 _ (by rw [own_res, if_pos u1])
            · refine own_step (fun _ k => XS.ifNo XJ39.here hx rfl (hb hby at_293) rfl ((if0 _ _).trans (flt u1).1) k) ?_
              show own_Ends _ _ _ _ _ _ _ (TJ39.setTop (mkF m 296 #[.val (.int p0), .val (.int p1), .val (.int p2), .val (.int p3), .val (.int p4), .val (.int p5), .val (.int (3 : Int32)), .val (.int c0_), .val (.int c1_), .val (.int c2_), .val (.int c3_), .val (.int c4_), .val (.ref b29), .val (.int (0 : Int32)), .val (.int (0 : Int32)), .val (.int kv0), .val (.int fv0), .unset] []))
              refine own_step (fun _ k => XS.iload XJ39.here hx rfl (hb hby at_296) rfl k) ?_
              show own_Ends _ _ _ _ _ _ _ (TJ39.setTop (mkF m 298 #[.val (.int p0), .val (.int p1), .val (.int p2), .val (.int p3), .val (.int p4), .val (.int p5), .val (.int (3 : Int32)), .val (.int c0_), .val (.int c1_), .val (.int c2_), .val (.int c3_), .val (.int c4_), .val (.ref b29), .val (.int (0 : Int32)), .val (.int (0 : Int32)), .val (.int kv0), .val (.int fv0), .unset] [(.int fv0)]))
              refine own_step (fun _ k => XS.bipush XJ39.here hx rfl (hb hby at_298) k) ?_
              show own_Ends _ _ _ _ _ _ _ (TJ39.setTop (mkF m 300 #[.val (.int p0), .val (.int p1), .val (.int p2), .val (.int p3), .val (.int p4), .val (.int p5), .val (.int (3 : Int32)), .val (.int c0_), .val (.int c1_), .val (.int c2_), .val (.int c3_), .val (.int c4_), .val (.ref b29), .val (.int (0 : Int32)), .val (.int (0 : Int32)), .val (.int kv0), .val (.int fv0), .unset] [(.int (60 : Int32)), (.int fv0)]))
              by_cases u2 : fv0 = (60 : Int32)
              · refine own_step (fun _ k => XS.icmpNo XJ39.here hx rfl (hb hby at_300) rfl (teq u2).2 k) ?_
                show own_Ends _ _ _ _ _ _ _ (TJ39.setTop (mkF m 303 #[.val (.int p0), .val (.int p1), .val (.int p2), .val (.int p3), .val (.int p4), .val (.int p5), .val (.int (3 : Int32)), .val (.int c0_), .val (.int c1_), .val (.int c2_), .val (.int c3_), .val (.int c4_), .val (.ref b29), .val (.int (0 : Int32)), .val (.int (0 : Int32)), .val (.int kv0), .val (.int fv0), .unset] []))
                refine own_step (fun _ k => XS.iconst XJ39.here hx rfl (hb hby at_303) k) ?_
                show own_Ends _ _ _ _ _ _ _ (TJ39.setTop (mkF m 304 #[.val (.int p0), .val (.int p1), .val (.int p2), .val (.int p3), .val (.int p4), .val (.int p5), .val (.int (3 : Int32)), .val (.int c0_), .val (.int c1_), .val (.int c2_), .val (.int c3_), .val (.int c4_), .val (.ref b29), .val (.int (0 : Int32)), .val (.int (0 : Int32)), .val (.int kv0), .val (.int fv0), .unset] [(.int (1 : Int32))]))
                refine own_step (fun _ k => XS.goto XJ39.here hx rfl (pc0 := 304) (pc' := 308) rfl (hb hby at_304) (by decide) (by decide) k) ?_
                show own_Ends _ _ _ _ _ _ _ (TJ39.setTop (mkF m 308 #[.val (.int p0), .val (.int p1), .val (.int p2), .val (.int p3), .val (.int p4), .val (.int p5), .val (.int (3 : Int32)), .val (.int c0_), .val (.int c1_), .val (.int c2_), .val (.int c3_), .val (.int c4_), .val (.ref b29), .val (.int (0 : Int32)), .val (.int (0 : Int32)), .val (.int kv0), .val (.int fv0), .unset] [(.int (1 : Int32))]))
                exact J308_40 _ (by rw [own_res, if_neg u1, if_pos u2])
              · refine own_step (fun _ k => XS.icmpYes XJ39.here hx rfl (pc0 := 300) (pc' := 307) rfl (hb hby at_300) rfl (feq u2).2 (by decide) (by decide) k) ?_
                show own_Ends _ _ _ _ _ _ _ (TJ39.setTop (mkF m 307 #[.val (.int p0), .val (.int p1), .val (.int p2), .val (.int p3), .val (.int p4), .val (.int p5), .val (.int (3 : Int32)), .val (.int c0_), .val (.int c1_), .val (.int c2_), .val (.int c3_), .val (.int c4_), .val (.ref b29), .val (.int (0 : Int32)), .val (.int (0 : Int32)), .val (.int kv0), .val (.int fv0), .unset] []))
                refine own_step (fun _ k => XS.iconst XJ39.here hx rfl (hb hby at_307) k) ?_
                show own_Ends _ _ _ _ _ _ _ (TJ39.setTop (mkF m 308 #[.val (.int p0), .val (.int p1), .val (.int p2), .val (.int p3), .val (.int p4), .val (.int p5), .val (.int (3 : Int32)), .val (.int c0_), .val (.int c1_), .val (.int c2_), .val (.int c3_), .val (.int c4_), .val (.ref b29), .val (.int (0 : Int32)), .val (.int (0 : Int32)), .val (.int kv0), .val (.int fv0), .unset] [(.int (0 : Int32))]))
                exact J308_40 _ (by rw [own_res, if_neg u1, if_neg u2])
          by_cases w0 : (own_ws c0_) = (0 : Int32)
          · refine own_step (fun _ k => XS.ifNo X38.here hx rfl (hb hby at_281) rfl ((if0 _ _).trans (teq w0).2) k) ?_
            show own_Ends _ _ _ _ _ _ _ (T38.setTop (mkF m 284 #[.val (.int p0), .val (.int p1), .val (.int p2), .val (.int p3), .val (.int p4), .val (.int p5), .val (.int (3 : Int32)), .val (.int c0_), .val (.int c1_), .val (.int c2_), .val (.int c3_), .val (.int c4_), .val (.ref b29), .val (.int (0 : Int32)), .val (.int (0 : Int32)), .val (.int kv1), .val (.int fv1), .unset] []))
            refine own_step (fun _ k => XS.iconst X38.here hx rfl (hb hby at_284) k) ?_
            show own_Ends _ _ _ _ _ _ _ (T38.setTop (mkF m 285 #[.val (.int p0), .val (.int p1), .val (.int p2), .val (.int p3), .val (.int p4), .val (.int p5), .val (.int (3 : Int32)), .val (.int c0_), .val (.int c1_), .val (.int c2_), .val (.int c3_), .val (.int c4_), .val (.ref b29), .val (.int (0 : Int32)), .val (.int (0 : Int32)), .val (.int kv1), .val (.int fv1), .unset] [(.int (0 : Int32))]))
            refine own_step (fun _ k => XS.istore X38.here hx rfl (hb hby at_285) rfl (l' := #[.val (.int p0), .val (.int p1), .val (.int p2), .val (.int p3), .val (.int p4), .val (.int p5), .val (.int (3 : Int32)), .val (.int c0_), .val (.int c1_), .val (.int c2_), .val (.int c3_), .val (.int c4_), .val (.ref b29), .val (.int (0 : Int32)), .val (.int (0 : Int32)), .val (.int (0 : Int32)), .val (.int fv1), .unset]) rfl k) ?_
            show own_Ends _ _ _ _ _ _ _ (T38.setTop (mkF m 287 #[.val (.int p0), .val (.int p1), .val (.int p2), .val (.int p3), .val (.int p4), .val (.int p5), .val (.int (3 : Int32)), .val (.int c0_), .val (.int c1_), .val (.int c2_), .val (.int c3_), .val (.int c4_), .val (.ref b29), .val (.int (0 : Int32)), .val (.int (0 : Int32)), .val (.int (0 : Int32)), .val (.int fv1), .unset] []))
            refine own_step (fun _ k => XS.iload X38.here hx rfl (hb hby at_287) rfl k) ?_
            show own_Ends _ _ _ _ _ _ _ (T38.setTop (mkF m 289 #[.val (.int p0), .val (.int p1), .val (.int p2), .val (.int p3), .val (.int p4), .val (.int p5), .val (.int (3 : Int32)), .val (.int c0_), .val (.int c1_), .val (.int c2_), .val (.int c3_), .val (.int c4_), .val (.ref b29), .val (.int (0 : Int32)), .val (.int (0 : Int32)), .val (.int (0 : Int32)), .val (.int fv1), .unset] [(.int c0_)]))
            refine own_step (fun _ k => XS.istore X38.here hx rfl (hb hby at_289) rfl (l' := #[.val (.int p0), .val (.int p1), .val (.int p2), .val (.int p3), .val (.int p4), .val (.int p5), .val (.int (3 : Int32)), .val (.int c0_), .val (.int c1_), .val (.int c2_), .val (.int c3_), .val (.int c4_), .val (.ref b29), .val (.int (0 : Int32)), .val (.int (0 : Int32)), .val (.int (0 : Int32)), .val (.int c0_), .unset]) rfl k) ?_
            show own_Ends _ _ _ _ _ _ _ (T38.setTop (mkF m 291 #[.val (.int p0), .val (.int p1), .val (.int p2), .val (.int p3), .val (.int p4), .val (.int p5), .val (.int (3 : Int32)), .val (.int c0_), .val (.int c1_), .val (.int c2_), .val (.int c3_), .val (.int c4_), .val (.ref b29), .val (.int (0 : Int32)), .val (.int (0 : Int32)), .val (.int (0 : Int32)), .val (.int c0_), .unset] []))
            exact J291_39 _ N38 _ X38 e38 _ _ (by rw [own_first, if_pos w0]; rfl)
          · refine own_step (fun _ k => XS.ifYes X38.here hx rfl (pc0 := 281) (pc' := 291) rfl (hb hby at_281) rfl ((if0 _ _).trans (feq w0).2) (by decide) (by decide) k) ?_
            show own_Ends _ _ _ _ _ _ _ (T38.setTop (mkF m 291 #[.val (.int p0), .val (.int p1), .val (.int p2), .val (.int p3), .val (.int p4), .val (.int p5), .val (.int (3 : Int32)), .val (.int c0_), .val (.int c1_), .val (.int c2_), .val (.int c3_), .val (.int c4_), .val (.ref b29), .val (.int (0 : Int32)), .val (.int (0 : Int32)), .val (.int kv1), .val (.int fv1), .unset] []))
            exact J291_39 _ N38 _ X38 e38 _ _ (by rw [own_first, if_neg w0]; exact hE1)
        by_cases w1 : (own_ws c1_) = (0 : Int32)
        · refine own_step (fun _ k => XS.ifNo X36.here hx rfl (hb hby at_256) rfl ((if0 _ _).trans (teq w1).2) k) ?_
          show own_Ends _ _ _ _ _ _ _ (T36.setTop (mkF m 259 #[.val (.int p0), .val (.int p1), .val (.int p2), .val (.int p3), .val (.int p4), .val (.int p5), .val (.int (3 : Int32)), .val (.int c0_), .val (.int c1_), .val (.int c2_), .val (.int c3_), .val (.int c4_), .val (.ref b29), .val (.int (0 : Int32)), .val (.int (0 : Int32)), .val (.int kv2), .val (.int fv2), .unset] []))
          refine own_step (fun _ k => XS.iconst X36.here hx rfl (hb hby at_259) k) ?_
          show own_Ends _ _ _ _ _ _ _ (T36.setTop (mkF m 260 #[.val (.int p0), .val (.int p1), .val (.int p2), .val (.int p3), .val (.int p4), .val (.int p5), .val (.int (3 : Int32)), .val (.int c0_), .val (.int c1_), .val (.int c2_), .val (.int c3_), .val (.int c4_), .val (.ref b29), .val (.int (0 : Int32)), .val (.int (0 : Int32)), .val (.int kv2), .val (.int fv2), .unset] [(.int (1 : Int32))]))
          refine own_step (fun _ k => XS.istore X36.here hx rfl (hb hby at_260) rfl (l' := #[.val (.int p0), .val (.int p1), .val (.int p2), .val (.int p3), .val (.int p4), .val (.int p5), .val (.int (3 : Int32)), .val (.int c0_), .val (.int c1_), .val (.int c2_), .val (.int c3_), .val (.int c4_), .val (.ref b29), .val (.int (0 : Int32)), .val (.int (0 : Int32)), .val (.int (1 : Int32)), .val (.int fv2), .unset]) rfl k) ?_
          show own_Ends _ _ _ _ _ _ _ (T36.setTop (mkF m 262 #[.val (.int p0), .val (.int p1), .val (.int p2), .val (.int p3), .val (.int p4), .val (.int p5), .val (.int (3 : Int32)), .val (.int c0_), .val (.int c1_), .val (.int c2_), .val (.int c3_), .val (.int c4_), .val (.ref b29), .val (.int (0 : Int32)), .val (.int (0 : Int32)), .val (.int (1 : Int32)), .val (.int fv2), .unset] []))
          refine own_step (fun _ k => XS.iload X36.here hx rfl (hb hby at_262) rfl k) ?_
          show own_Ends _ _ _ _ _ _ _ (T36.setTop (mkF m 264 #[.val (.int p0), .val (.int p1), .val (.int p2), .val (.int p3), .val (.int p4), .val (.int p5), .val (.int (3 : Int32)), .val (.int c0_), .val (.int c1_), .val (.int c2_), .val (.int c3_), .val (.int c4_), .val (.ref b29), .val (.int (0 : Int32)), .val (.int (0 : Int32)), .val (.int (1 : Int32)), .val (.int fv2), .unset] [(.int c1_)]))
          refine own_step (fun _ k => XS.istore X36.here hx rfl (hb hby at_264) rfl (l' := #[.val (.int p0), .val (.int p1), .val (.int p2), .val (.int p3), .val (.int p4), .val (.int p5), .val (.int (3 : Int32)), .val (.int c0_), .val (.int c1_), .val (.int c2_), .val (.int c3_), .val (.int c4_), .val (.ref b29), .val (.int (0 : Int32)), .val (.int (0 : Int32)), .val (.int (1 : Int32)), .val (.int c1_), .unset]) rfl k) ?_
          show own_Ends _ _ _ _ _ _ _ (T36.setTop (mkF m 266 #[.val (.int p0), .val (.int p1), .val (.int p2), .val (.int p3), .val (.int p4), .val (.int p5), .val (.int (3 : Int32)), .val (.int c0_), .val (.int c1_), .val (.int c2_), .val (.int c3_), .val (.int c4_), .val (.ref b29), .val (.int (0 : Int32)), .val (.int (0 : Int32)), .val (.int (1 : Int32)), .val (.int c1_), .unset] []))
          exact J266_37 _ N36 _ X36 e36 _ _ (by rw [own_first, if_pos w1]; rfl)
        · refine own_step (fun _ k => XS.ifYes X36.here hx rfl (pc0 := 256) (pc' := 266) rfl (hb hby at_256) rfl ((if0 _ _).trans (feq w1).2) (by decide) (by decide) k) ?_
          show own_Ends _ _ _ _ _ _ _ (T36.setTop (mkF m 266 #[.val (.int p0), .val (.int p1), .val (.int p2), .val (.int p3), .val (.int p4), .val (.int p5), .val (.int (3 : Int32)), .val (.int c0_), .val (.int c1_), .val (.int c2_), .val (.int c3_), .val (.int c4_), .val (.ref b29), .val (.int (0 : Int32)), .val (.int (0 : Int32)), .val (.int kv2), .val (.int fv2), .unset] []))
          exact J266_37 _ N36 _ X36 e36 _ _ (by rw [own_first, if_neg w1]; exact hE2)
      by_cases w2 : (own_ws c2_) = (0 : Int32)
      · refine own_step (fun _ k => XS.ifNo X34.here hx rfl (hb hby at_229) rfl ((if0 _ _).trans (teq w2).2) k) ?_
        show own_Ends _ _ _ _ _ _ _ (T34.setTop (mkF m 232 #[.val (.int p0), .val (.int p1), .val (.int p2), .val (.int p3), .val (.int p4), .val (.int p5), .val (.int (3 : Int32)), .val (.int c0_), .val (.int c1_), .val (.int c2_), .val (.int c3_), .val (.int c4_), .val (.ref b29), .val (.int (0 : Int32)), .val (.int (0 : Int32)), .val (.int (-1 : Int32)), .val (.int (0 : Int32)), .unset] []))
        refine own_step (fun _ k => XS.iconst X34.here hx rfl (hb hby at_232) k) ?_
        show own_Ends _ _ _ _ _ _ _ (T34.setTop (mkF m 233 #[.val (.int p0), .val (.int p1), .val (.int p2), .val (.int p3), .val (.int p4), .val (.int p5), .val (.int (3 : Int32)), .val (.int c0_), .val (.int c1_), .val (.int c2_), .val (.int c3_), .val (.int c4_), .val (.ref b29), .val (.int (0 : Int32)), .val (.int (0 : Int32)), .val (.int (-1 : Int32)), .val (.int (0 : Int32)), .unset] [(.int (2 : Int32))]))
        refine own_step (fun _ k => XS.istore X34.here hx rfl (hb hby at_233) rfl (l' := #[.val (.int p0), .val (.int p1), .val (.int p2), .val (.int p3), .val (.int p4), .val (.int p5), .val (.int (3 : Int32)), .val (.int c0_), .val (.int c1_), .val (.int c2_), .val (.int c3_), .val (.int c4_), .val (.ref b29), .val (.int (0 : Int32)), .val (.int (0 : Int32)), .val (.int (2 : Int32)), .val (.int (0 : Int32)), .unset]) rfl k) ?_
        show own_Ends _ _ _ _ _ _ _ (T34.setTop (mkF m 235 #[.val (.int p0), .val (.int p1), .val (.int p2), .val (.int p3), .val (.int p4), .val (.int p5), .val (.int (3 : Int32)), .val (.int c0_), .val (.int c1_), .val (.int c2_), .val (.int c3_), .val (.int c4_), .val (.ref b29), .val (.int (0 : Int32)), .val (.int (0 : Int32)), .val (.int (2 : Int32)), .val (.int (0 : Int32)), .unset] []))
        refine own_step (fun _ k => XS.iload X34.here hx rfl (hb hby at_235) rfl k) ?_
        show own_Ends _ _ _ _ _ _ _ (T34.setTop (mkF m 237 #[.val (.int p0), .val (.int p1), .val (.int p2), .val (.int p3), .val (.int p4), .val (.int p5), .val (.int (3 : Int32)), .val (.int c0_), .val (.int c1_), .val (.int c2_), .val (.int c3_), .val (.int c4_), .val (.ref b29), .val (.int (0 : Int32)), .val (.int (0 : Int32)), .val (.int (2 : Int32)), .val (.int (0 : Int32)), .unset] [(.int c2_)]))
        refine own_step (fun _ k => XS.istore X34.here hx rfl (hb hby at_237) rfl (l' := #[.val (.int p0), .val (.int p1), .val (.int p2), .val (.int p3), .val (.int p4), .val (.int p5), .val (.int (3 : Int32)), .val (.int c0_), .val (.int c1_), .val (.int c2_), .val (.int c3_), .val (.int c4_), .val (.ref b29), .val (.int (0 : Int32)), .val (.int (0 : Int32)), .val (.int (2 : Int32)), .val (.int c2_), .unset]) rfl k) ?_
        show own_Ends _ _ _ _ _ _ _ (T34.setTop (mkF m 239 #[.val (.int p0), .val (.int p1), .val (.int p2), .val (.int p3), .val (.int p4), .val (.int p5), .val (.int (3 : Int32)), .val (.int c0_), .val (.int c1_), .val (.int c2_), .val (.int c3_), .val (.int c4_), .val (.ref b29), .val (.int (0 : Int32)), .val (.int (0 : Int32)), .val (.int (2 : Int32)), .val (.int c2_), .unset] []))
        exact J239_35 _ N34 _ X34 e34 _ _ (by rw [own_first, if_pos w2]; rfl)
      · refine own_step (fun _ k => XS.ifYes X34.here hx rfl (pc0 := 229) (pc' := 239) rfl (hb hby at_229) rfl ((if0 _ _).trans (feq w2).2) (by decide) (by decide) k) ?_
        show own_Ends _ _ _ _ _ _ _ (T34.setTop (mkF m 239 #[.val (.int p0), .val (.int p1), .val (.int p2), .val (.int p3), .val (.int p4), .val (.int p5), .val (.int (3 : Int32)), .val (.int c0_), .val (.int c1_), .val (.int c2_), .val (.int c3_), .val (.int c4_), .val (.ref b29), .val (.int (0 : Int32)), .val (.int (0 : Int32)), .val (.int (-1 : Int32)), .val (.int (0 : Int32)), .unset] []))
        exact J239_35 _ N34 _ X34 e34 _ _ (by rw [own_first, if_neg w2]; rfl)
    refine own_step (fun _ k => XS.icmpNo X32.here hx rfl (hb hby at_109) rfl (flt (by decide)).1 k) ?_
    show own_Ends _ _ _ _ _ _ _ (T32.setTop (mkF m 112 #[.val (.int p0), .val (.int p1), .val (.int p2), .val (.int p3), .val (.int p4), .val (.int p5), .val (.int (3 : Int32)), .val (.int c0_), .val (.int c1_), .val (.int c2_), .val (.int c3_), .val (.int c4_), .val (.ref b29), .unset, .unset, .unset, .unset, .unset] []))
    refine own_step (fun _ k => XS.iload X32.here hx rfl (hb hby at_112) rfl k) ?_
    show own_Ends _ _ _ _ _ _ _ (T32.setTop (mkF m 114 #[.val (.int p0), .val (.int p1), .val (.int p2), .val (.int p3), .val (.int p4), .val (.int p5), .val (.int (3 : Int32)), .val (.int c0_), .val (.int c1_), .val (.int c2_), .val (.int c3_), .val (.int c4_), .val (.ref b29), .unset, .unset, .unset, .unset, .unset] [(.int c0_)]))
    refine own_step (fun _ k => XS.bipush X32.here hx rfl (hb hby at_114) k) ?_
    show own_Ends _ _ _ _ _ _ _ (T32.setTop (mkF m 116 #[.val (.int p0), .val (.int p1), .val (.int p2), .val (.int p3), .val (.int p4), .val (.int p5), .val (.int (3 : Int32)), .val (.int c0_), .val (.int c1_), .val (.int c2_), .val (.int c3_), .val (.int c4_), .val (.ref b29), .unset, .unset, .unset, .unset, .unset] [(.int (-17 : Int32)), (.int c0_)]))
    by_cases k0 : c0_ = (-17 : Int32)
    · refine own_step (fun _ k => XS.icmpNo X32.here hx rfl (hb hby at_116) rfl (teq k0).2 k) ?_
      show own_Ends _ _ _ _ _ _ _ (T32.setTop (mkF m 119 #[.val (.int p0), .val (.int p1), .val (.int p2), .val (.int p3), .val (.int p4), .val (.int p5), .val (.int (3 : Int32)), .val (.int c0_), .val (.int c1_), .val (.int c2_), .val (.int c3_), .val (.int c4_), .val (.ref b29), .unset, .unset, .unset, .unset, .unset] []))
      refine own_step (fun _ k => XS.iload X32.here hx rfl (hb hby at_119) rfl k) ?_
      show own_Ends _ _ _ _ _ _ _ (T32.setTop (mkF m 121 #[.val (.int p0), .val (.int p1), .val (.int p2), .val (.int p3), .val (.int p4), .val (.int p5), .val (.int (3 : Int32)), .val (.int c0_), .val (.int c1_), .val (.int c2_), .val (.int c3_), .val (.int c4_), .val (.ref b29), .unset, .unset, .unset, .unset, .unset] [(.int c1_)]))
      refine own_step (fun _ k => XS.bipush X32.here hx rfl (hb hby at_121) k) ?_
      show own_Ends _ _ _ _ _ _ _ (T32.setTop (mkF m 123 #[.val (.int p0), .val (.int p1), .val (.int p2), .val (.int p3), .val (.int p4), .val (.int p5), .val (.int (3 : Int32)), .val (.int c0_), .val (.int c1_), .val (.int c2_), .val (.int c3_), .val (.int c4_), .val (.ref b29), .unset, .unset, .unset, .unset, .unset] [(.int (-69 : Int32)), (.int c1_)]))
      by_cases k1 : c1_ = (-69 : Int32)
      · refine own_step (fun _ k => XS.icmpNo X32.here hx rfl (hb hby at_123) rfl (teq k1).2 k) ?_
        show own_Ends _ _ _ _ _ _ _ (T32.setTop (mkF m 126 #[.val (.int p0), .val (.int p1), .val (.int p2), .val (.int p3), .val (.int p4), .val (.int p5), .val (.int (3 : Int32)), .val (.int c0_), .val (.int c1_), .val (.int c2_), .val (.int c3_), .val (.int c4_), .val (.ref b29), .unset, .unset, .unset, .unset, .unset] []))
        refine own_step (fun _ k => XS.iload X32.here hx rfl (hb hby at_126) rfl k) ?_
        show own_Ends _ _ _ _ _ _ _ (T32.setTop (mkF m 128 #[.val (.int p0), .val (.int p1), .val (.int p2), .val (.int p3), .val (.int p4), .val (.int p5), .val (.int (3 : Int32)), .val (.int c0_), .val (.int c1_), .val (.int c2_), .val (.int c3_), .val (.int c4_), .val (.ref b29), .unset, .unset, .unset, .unset, .unset] [(.int c2_)]))
        refine own_step (fun _ k => XS.bipush X32.here hx rfl (hb hby at_128) k) ?_
        show own_Ends _ _ _ _ _ _ _ (T32.setTop (mkF m 130 #[.val (.int p0), .val (.int p1), .val (.int p2), .val (.int p3), .val (.int p4), .val (.int p5), .val (.int (3 : Int32)), .val (.int c0_), .val (.int c1_), .val (.int c2_), .val (.int c3_), .val (.int c4_), .val (.ref b29), .unset, .unset, .unset, .unset, .unset] [(.int (-65 : Int32)), (.int c2_)]))
        by_cases k2 : c2_ = (-65 : Int32)
        · refine own_step (fun _ k => XS.icmpNo X32.here hx rfl (hb hby at_130) rfl (teq k2).2 k) ?_
          show own_Ends _ _ _ _ _ _ _ (T32.setTop (mkF m 133 #[.val (.int p0), .val (.int p1), .val (.int p2), .val (.int p3), .val (.int p4), .val (.int p5), .val (.int (3 : Int32)), .val (.int c0_), .val (.int c1_), .val (.int c2_), .val (.int c3_), .val (.int c4_), .val (.ref b29), .unset, .unset, .unset, .unset, .unset] []))
          refine own_step (fun _ k => XS.iconst X32.here hx rfl (hb hby at_133) k) ?_
          show own_Ends _ _ _ _ _ _ _ (T32.setTop (mkF m 134 #[.val (.int p0), .val (.int p1), .val (.int p2), .val (.int p3), .val (.int p4), .val (.int p5), .val (.int (3 : Int32)), .val (.int c0_), .val (.int c1_), .val (.int c2_), .val (.int c3_), .val (.int c4_), .val (.ref b29), .unset, .unset, .unset, .unset, .unset] [(.int (1 : Int32))]))
          refine own_step (fun _ k => XS.goto X32.here hx rfl (pc0 := 134) (pc' := 138) rfl (hb hby at_134) (by decide) (by decide) k) ?_
          show own_Ends _ _ _ _ _ _ _ (T32.setTop (mkF m 138 #[.val (.int p0), .val (.int p1), .val (.int p2), .val (.int p3), .val (.int p4), .val (.int p5), .val (.int (3 : Int32)), .val (.int c0_), .val (.int c1_), .val (.int c2_), .val (.int c3_), .val (.int c4_), .val (.ref b29), .unset, .unset, .unset, .unset, .unset] [(.int (1 : Int32))]))
          have hst : own_start [c0_, c1_, c2_] = 3 := by simp [own_start, k0, k1, k2]
          refine own_step (fun _ k => XS.istore X32.here hx rfl (hb hby at_138) rfl (l' := #[.val (.int p0), .val (.int p1), .val (.int p2), .val (.int p3), .val (.int p4), .val (.int p5), .val (.int (3 : Int32)), .val (.int c0_), .val (.int c1_), .val (.int c2_), .val (.int c3_), .val (.int c4_), .val (.ref b29), .val (.int (1 : Int32)), .unset, .unset, .unset, .unset]) rfl k) ?_
          show own_Ends _ _ _ _ _ _ _ (T32.setTop (mkF m 140 #[.val (.int p0), .val (.int p1), .val (.int p2), .val (.int p3), .val (.int p4), .val (.int p5), .val (.int (3 : Int32)), .val (.int c0_), .val (.int c1_), .val (.int c2_), .val (.int c3_), .val (.int c4_), .val (.ref b29), .val (.int (1 : Int32)), .unset, .unset, .unset, .unset] []))
          refine own_step (fun _ k => XS.iload X32.here hx rfl (hb hby at_140) rfl k) ?_
          show own_Ends _ _ _ _ _ _ _ (T32.setTop (mkF m 142 #[.val (.int p0), .val (.int p1), .val (.int p2), .val (.int p3), .val (.int p4), .val (.int p5), .val (.int (3 : Int32)), .val (.int c0_), .val (.int c1_), .val (.int c2_), .val (.int c3_), .val (.int c4_), .val (.ref b29), .val (.int (1 : Int32)), .unset, .unset, .unset, .unset] [(.int (1 : Int32))]))
          refine own_step (fun _ k => XS.ifNo X32.here hx rfl (hb hby at_142) rfl ((if0 _ _).trans (feq (by decide)).1) k) ?_
          show own_Ends _ _ _ _ _ _ _ (T32.setTop (mkF m 145 #[.val (.int p0), .val (.int p1), .val (.int p2), .val (.int p3), .val (.int p4), .val (.int p5), .val (.int (3 : Int32)), .val (.int c0_), .val (.int c1_), .val (.int c2_), .val (.int c3_), .val (.int c4_), .val (.ref b29), .val (.int (1 : Int32)), .unset, .unset, .unset, .unset] []))
          refine own_step (fun _ k => XS.iconst X32.here hx rfl (hb hby at_145) k) ?_
          show own_Ends _ _ _ _ _ _ _ (T32.setTop (mkF m 146 #[.val (.int p0), .val (.int p1), .val (.int p2), .val (.int p3), .val (.int p4), .val (.int p5), .val (.int (3 : Int32)), .val (.int c0_), .val (.int c1_), .val (.int c2_), .val (.int c3_), .val (.int c4_), .val (.ref b29), .val (.int (1 : Int32)), .unset, .unset, .unset, .unset] [(.int (3 : Int32))]))
          refine own_step (fun _ k => XS.goto X32.here hx rfl (pc0 := 146) (pc' := 150) rfl (hb hby at_146) (by decide) (by decide) k) ?_
          show own_Ends _ _ _ _ _ _ _ (T32.setTop (mkF m 150 #[.val (.int p0), .val (.int p1), .val (.int p2), .val (.int p3), .val (.int p4), .val (.int p5), .val (.int (3 : Int32)), .val (.int c0_), .val (.int c1_), .val (.int c2_), .val (.int c3_), .val (.int c4_), .val (.ref b29), .val (.int (1 : Int32)), .unset, .unset, .unset, .unset] [(.int (3 : Int32))]))
          refine own_step (fun _ k => XS.istore X32.here hx rfl (hb hby at_150) rfl (l' := #[.val (.int p0), .val (.int p1), .val (.int p2), .val (.int p3), .val (.int p4), .val (.int p5), .val (.int (3 : Int32)), .val (.int c0_), .val (.int c1_), .val (.int c2_), .val (.int c3_), .val (.int c4_), .val (.ref b29), .val (.int (1 : Int32)), .val (.int (3 : Int32)), .unset, .unset, .unset]) rfl k) ?_
          show own_Ends _ _ _ _ _ _ _ (T32.setTop (mkF m 152 #[.val (.int p0), .val (.int p1), .val (.int p2), .val (.int p3), .val (.int p4), .val (.int p5), .val (.int (3 : Int32)), .val (.int c0_), .val (.int c1_), .val (.int c2_), .val (.int c3_), .val (.int c4_), .val (.ref b29), .val (.int (1 : Int32)), .val (.int (3 : Int32)), .unset, .unset, .unset] []))
          refine own_step (fun _ k => XS.iconst X32.here hx rfl (hb hby at_152) k) ?_
          show own_Ends _ _ _ _ _ _ _ (T32.setTop (mkF m 153 #[.val (.int p0), .val (.int p1), .val (.int p2), .val (.int p3), .val (.int p4), .val (.int p5), .val (.int (3 : Int32)), .val (.int c0_), .val (.int c1_), .val (.int c2_), .val (.int c3_), .val (.int c4_), .val (.ref b29), .val (.int (1 : Int32)), .val (.int (3 : Int32)), .unset, .unset, .unset] [(.int (-1 : Int32))]))
          refine own_step (fun _ k => XS.istore X32.here hx rfl (hb hby at_153) rfl (l' := #[.val (.int p0), .val (.int p1), .val (.int p2), .val (.int p3), .val (.int p4), .val (.int p5), .val (.int (3 : Int32)), .val (.int c0_), .val (.int c1_), .val (.int c2_), .val (.int c3_), .val (.int c4_), .val (.ref b29), .val (.int (1 : Int32)), .val (.int (3 : Int32)), .val (.int (-1 : Int32)), .unset, .unset]) rfl k) ?_
          show own_Ends _ _ _ _ _ _ _ (T32.setTop (mkF m 155 #[.val (.int p0), .val (.int p1), .val (.int p2), .val (.int p3), .val (.int p4), .val (.int p5), .val (.int (3 : Int32)), .val (.int c0_), .val (.int c1_), .val (.int c2_), .val (.int c3_), .val (.int c4_), .val (.ref b29), .val (.int (1 : Int32)), .val (.int (3 : Int32)), .val (.int (-1 : Int32)), .unset, .unset] []))
          refine own_step (fun _ k => XS.iconst X32.here hx rfl (hb hby at_155) k) ?_
          show own_Ends _ _ _ _ _ _ _ (T32.setTop (mkF m 156 #[.val (.int p0), .val (.int p1), .val (.int p2), .val (.int p3), .val (.int p4), .val (.int p5), .val (.int (3 : Int32)), .val (.int c0_), .val (.int c1_), .val (.int c2_), .val (.int c3_), .val (.int c4_), .val (.ref b29), .val (.int (1 : Int32)), .val (.int (3 : Int32)), .val (.int (-1 : Int32)), .unset, .unset] [(.int (0 : Int32))]))
          refine own_step (fun _ k => XS.istore X32.here hx rfl (hb hby at_156) rfl (l' := #[.val (.int p0), .val (.int p1), .val (.int p2), .val (.int p3), .val (.int p4), .val (.int p5), .val (.int (3 : Int32)), .val (.int c0_), .val (.int c1_), .val (.int c2_), .val (.int c3_), .val (.int c4_), .val (.ref b29), .val (.int (1 : Int32)), .val (.int (3 : Int32)), .val (.int (-1 : Int32)), .val (.int (0 : Int32)), .unset]) rfl k) ?_
          show own_Ends _ _ _ _ _ _ _ (T32.setTop (mkF m 158 #[.val (.int p0), .val (.int p1), .val (.int p2), .val (.int p3), .val (.int p4), .val (.int p5), .val (.int (3 : Int32)), .val (.int c0_), .val (.int c1_), .val (.int c2_), .val (.int c3_), .val (.int c4_), .val (.ref b29), .val (.int (1 : Int32)), .val (.int (3 : Int32)), .val (.int (-1 : Int32)), .val (.int (0 : Int32)), .unset] []))
          refine own_step (fun _ k => XS.iload X32.here hx rfl (hb hby at_158) rfl k) ?_
          show own_Ends _ _ _ _ _ _ _ (T32.setTop (mkF m 160 #[.val (.int p0), .val (.int p1), .val (.int p2), .val (.int p3), .val (.int p4), .val (.int p5), .val (.int (3 : Int32)), .val (.int c0_), .val (.int c1_), .val (.int c2_), .val (.int c3_), .val (.int c4_), .val (.ref b29), .val (.int (1 : Int32)), .val (.int (3 : Int32)), .val (.int (-1 : Int32)), .val (.int (0 : Int32)), .unset] [(.int (3 : Int32))]))
          refine own_step (fun _ k => XS.iconst X32.here hx rfl (hb hby at_160) k) ?_
          show own_Ends _ _ _ _ _ _ _ (T32.setTop (mkF m 161 #[.val (.int p0), .val (.int p1), .val (.int p2), .val (.int p3), .val (.int p4), .val (.int p5), .val (.int (3 : Int32)), .val (.int c0_), .val (.int c1_), .val (.int c2_), .val (.int c3_), .val (.int c4_), .val (.ref b29), .val (.int (1 : Int32)), .val (.int (3 : Int32)), .val (.int (-1 : Int32)), .val (.int (0 : Int32)), .unset] [(.int (4 : Int32)), (.int (3 : Int32))]))
          refine own_step (fun _ k => XS.icmpYes X32.here hx rfl (pc0 := 161) (pc' := 185) rfl (hb hby at_161) rfl (flt (by decide)).2.2.2 (by decide) (by decide) k) ?_
          show own_Ends _ _ _ _ _ _ _ (T32.setTop (mkF m 185 #[.val (.int p0), .val (.int p1), .val (.int p2), .val (.int p3), .val (.int p4), .val (.int p5), .val (.int (3 : Int32)), .val (.int c0_), .val (.int c1_), .val (.int c2_), .val (.int c3_), .val (.int c4_), .val (.ref b29), .val (.int (1 : Int32)), .val (.int (3 : Int32)), .val (.int (-1 : Int32)), .val (.int (0 : Int32)), .unset] []))
          refine own_step (fun _ k => XS.iload X32.here hx rfl (hb hby at_185) rfl k) ?_
          show own_Ends _ _ _ _ _ _ _ (T32.setTop (mkF m 187 #[.val (.int p0), .val (.int p1), .val (.int p2), .val (.int p3), .val (.int p4), .val (.int p5), .val (.int (3 : Int32)), .val (.int c0_), .val (.int c1_), .val (.int c2_), .val (.int c3_), .val (.int c4_), .val (.ref b29), .val (.int (1 : Int32)), .val (.int (3 : Int32)), .val (.int (-1 : Int32)), .val (.int (0 : Int32)), .unset] [(.int (3 : Int32))]))
          refine own_step (fun _ k => XS.iconst X32.here hx rfl (hb hby at_187) k) ?_
          show own_Ends _ _ _ _ _ _ _ (T32.setTop (mkF m 188 #[.val (.int p0), .val (.int p1), .val (.int p2), .val (.int p3), .val (.int p4), .val (.int p5), .val (.int (3 : Int32)), .val (.int c0_), .val (.int c1_), .val (.int c2_), .val (.int c3_), .val (.int c4_), .val (.ref b29), .val (.int (1 : Int32)), .val (.int (3 : Int32)), .val (.int (-1 : Int32)), .val (.int (0 : Int32)), .unset] [(.int (3 : Int32)), (.int (3 : Int32))]))
          refine own_step (fun _ k => XS.icmpYes X32.here hx rfl (pc0 := 188) (pc' := 212) rfl (hb hby at_188) rfl (flt (by decide)).2.2.2 (by decide) (by decide) k) ?_
          show own_Ends _ _ _ _ _ _ _ (T32.setTop (mkF m 212 #[.val (.int p0), .val (.int p1), .val (.int p2), .val (.int p3), .val (.int p4), .val (.int p5), .val (.int (3 : Int32)), .val (.int c0_), .val (.int c1_), .val (.int c2_), .val (.int c3_), .val (.int c4_), .val (.ref b29), .val (.int (1 : Int32)), .val (.int (3 : Int32)), .val (.int (-1 : Int32)), .val (.int (0 : Int32)), .unset] []))
          refine own_step (fun _ k => XS.iload X32.here hx rfl (hb hby at_212) rfl k) ?_
          show own_Ends _ _ _ _ _ _ _ (T32.setTop (mkF m 214 #[.val (.int p0), .val (.int p1), .val (.int p2), .val (.int p3), .val (.int p4), .val (.int p5), .val (.int (3 : Int32)), .val (.int c0_), .val (.int c1_), .val (.int c2_), .val (.int c3_), .val (.int c4_), .val (.ref b29), .val (.int (1 : Int32)), .val (.int (3 : Int32)), .val (.int (-1 : Int32)), .val (.int (0 : Int32)), .unset] [(.int (3 : Int32))]))
          refine own_step (fun _ k => XS.iconst X32.here hx rfl (hb hby at_214) k) ?_
          show own_Ends _ _ _ _ _ _ _ (T32.setTop (mkF m 215 #[.val (.int p0), .val (.int p1), .val (.int p2), .val (.int p3), .val (.int p4), .val (.int p5), .val (.int (3 : Int32)), .val (.int c0_), .val (.int c1_), .val (.int c2_), .val (.int c3_), .val (.int c4_), .val (.ref b29), .val (.int (1 : Int32)), .val (.int (3 : Int32)), .val (.int (-1 : Int32)), .val (.int (0 : Int32)), .unset] [(.int (2 : Int32)), (.int (3 : Int32))]))
          refine own_step (fun _ k => XS.icmpNo X32.here hx rfl (hb hby at_215) rfl (tlt (by decide)).2.2.2 k) ?_
          show own_Ends _ _ _ _ _ _ _ (T32.setTop (mkF m 218 #[.val (.int p0), .val (.int p1), .val (.int p2), .val (.int p3), .val (.int p4), .val (.int p5), .val (.int (3 : Int32)), .val (.int c0_), .val (.int c1_), .val (.int c2_), .val (.int c3_), .val (.int c4_), .val (.ref b29), .val (.int (1 : Int32)), .val (.int (3 : Int32)), .val (.int (-1 : Int32)), .val (.int (0 : Int32)), .unset] []))
          refine own_step (fun _ k => XS.iload X32.here hx rfl (hb hby at_218) rfl k) ?_
          show own_Ends _ _ _ _ _ _ _ (T32.setTop (mkF m 220 #[.val (.int p0), .val (.int p1), .val (.int p2), .val (.int p3), .val (.int p4), .val (.int p5), .val (.int (3 : Int32)), .val (.int c0_), .val (.int c1_), .val (.int c2_), .val (.int c3_), .val (.int c4_), .val (.ref b29), .val (.int (1 : Int32)), .val (.int (3 : Int32)), .val (.int (-1 : Int32)), .val (.int (0 : Int32)), .unset] [(.int (3 : Int32))]))
          refine own_step (fun _ k => XS.iconst X32.here hx rfl (hb hby at_220) k) ?_
          show own_Ends _ _ _ _ _ _ _ (T32.setTop (mkF m 221 #[.val (.int p0), .val (.int p1), .val (.int p2), .val (.int p3), .val (.int p4), .val (.int p5), .val (.int (3 : Int32)), .val (.int c0_), .val (.int c1_), .val (.int c2_), .val (.int c3_), .val (.int c4_), .val (.ref b29), .val (.int (1 : Int32)), .val (.int (3 : Int32)), .val (.int (-1 : Int32)), .val (.int (0 : Int32)), .unset] [(.int (2 : Int32)), (.int (3 : Int32))]))
          refine own_step (fun _ k => XS.icmpYes X32.here hx rfl (pc0 := 221) (pc' := 239) rfl (hb hby at_221) rfl (tlt (by decide)).2.2.1 (by decide) (by decide) k) ?_
          show own_Ends _ _ _ _ _ _ _ (T32.setTop (mkF m 239 #[.val (.int p0), .val (.int p1), .val (.int p2), .val (.int p3), .val (.int p4), .val (.int p5), .val (.int (3 : Int32)), .val (.int c0_), .val (.int c1_), .val (.int c2_), .val (.int c3_), .val (.int c4_), .val (.ref b29), .val (.int (1 : Int32)), .val (.int (3 : Int32)), .val (.int (-1 : Int32)), .val (.int (0 : Int32)), .unset] []))
          refine own_step (fun _ k => XS.iload X32.here hx rfl (hb hby at_239) rfl k) ?_
          show own_Ends _ _ _ _ _ _ _ (T32.setTop (mkF m 241 #[.val (.int p0), .val (.int p1), .val (.int p2), .val (.int p3), .val (.int p4), .val (.int p5), .val (.int (3 : Int32)), .val (.int c0_), .val (.int c1_), .val (.int c2_), .val (.int c3_), .val (.int c4_), .val (.ref b29), .val (.int (1 : Int32)), .val (.int (3 : Int32)), .val (.int (-1 : Int32)), .val (.int (0 : Int32)), .unset] [(.int (3 : Int32))]))
          refine own_step (fun _ k => XS.iconst X32.here hx rfl (hb hby at_241) k) ?_
          show own_Ends _ _ _ _ _ _ _ (T32.setTop (mkF m 242 #[.val (.int p0), .val (.int p1), .val (.int p2), .val (.int p3), .val (.int p4), .val (.int p5), .val (.int (3 : Int32)), .val (.int c0_), .val (.int c1_), .val (.int c2_), .val (.int c3_), .val (.int c4_), .val (.ref b29), .val (.int (1 : Int32)), .val (.int (3 : Int32)), .val (.int (-1 : Int32)), .val (.int (0 : Int32)), .unset] [(.int (1 : Int32)), (.int (3 : Int32))]))
          refine own_step (fun _ k => XS.icmpNo X32.here hx rfl (hb hby at_242) rfl (tlt (by decide)).2.2.2 k) ?_
          show own_Ends _ _ _ _ _ _ _ (T32.setTop (mkF m 245 #[.val (.int p0), .val (.int p1), .val (.int p2), .val (.int p3), .val (.int p4), .val (.int p5), .val (.int (3 : Int32)), .val (.int c0_), .val (.int c1_), .val (.int c2_), .val (.int c3_), .val (.int c4_), .val (.ref b29), .val (.int (1 : Int32)), .val (.int (3 : Int32)), .val (.int (-1 : Int32)), .val (.int (0 : Int32)), .unset] []))
          refine own_step (fun _ k => XS.iload X32.here hx rfl (hb hby at_245) rfl k) ?_
          show own_Ends _ _ _ _ _ _ _ (T32.setTop (mkF m 247 #[.val (.int p0), .val (.int p1), .val (.int p2), .val (.int p3), .val (.int p4), .val (.int p5), .val (.int (3 : Int32)), .val (.int c0_), .val (.int c1_), .val (.int c2_), .val (.int c3_), .val (.int c4_), .val (.ref b29), .val (.int (1 : Int32)), .val (.int (3 : Int32)), .val (.int (-1 : Int32)), .val (.int (0 : Int32)), .unset] [(.int (3 : Int32))]))
          refine own_step (fun _ k => XS.iconst X32.here hx rfl (hb hby at_247) k) ?_
          show own_Ends _ _ _ _ _ _ _ (T32.setTop (mkF m 248 #[.val (.int p0), .val (.int p1), .val (.int p2), .val (.int p3), .val (.int p4), .val (.int p5), .val (.int (3 : Int32)), .val (.int c0_), .val (.int c1_), .val (.int c2_), .val (.int c3_), .val (.int c4_), .val (.ref b29), .val (.int (1 : Int32)), .val (.int (3 : Int32)), .val (.int (-1 : Int32)), .val (.int (0 : Int32)), .unset] [(.int (1 : Int32)), (.int (3 : Int32))]))
          refine own_step (fun _ k => XS.icmpYes X32.here hx rfl (pc0 := 248) (pc' := 266) rfl (hb hby at_248) rfl (tlt (by decide)).2.2.1 (by decide) (by decide) k) ?_
          show own_Ends _ _ _ _ _ _ _ (T32.setTop (mkF m 266 #[.val (.int p0), .val (.int p1), .val (.int p2), .val (.int p3), .val (.int p4), .val (.int p5), .val (.int (3 : Int32)), .val (.int c0_), .val (.int c1_), .val (.int c2_), .val (.int c3_), .val (.int c4_), .val (.ref b29), .val (.int (1 : Int32)), .val (.int (3 : Int32)), .val (.int (-1 : Int32)), .val (.int (0 : Int32)), .unset] []))
          refine own_step (fun _ k => XS.iload X32.here hx rfl (hb hby at_266) rfl k) ?_
          show own_Ends _ _ _ _ _ _ _ (T32.setTop (mkF m 268 #[.val (.int p0), .val (.int p1), .val (.int p2), .val (.int p3), .val (.int p4), .val (.int p5), .val (.int (3 : Int32)), .val (.int c0_), .val (.int c1_), .val (.int c2_), .val (.int c3_), .val (.int c4_), .val (.ref b29), .val (.int (1 : Int32)), .val (.int (3 : Int32)), .val (.int (-1 : Int32)), .val (.int (0 : Int32)), .unset] [(.int (3 : Int32))]))
          refine own_step (fun _ k => XS.ifNo X32.here hx rfl (hb hby at_268) rfl ((if0 _ _).trans (tlt (by decide)).2.2.2) k) ?_
          show own_Ends _ _ _ _ _ _ _ (T32.setTop (mkF m 271 #[.val (.int p0), .val (.int p1), .val (.int p2), .val (.int p3), .val (.int p4), .val (.int p5), .val (.int (3 : Int32)), .val (.int c0_), .val (.int c1_), .val (.int c2_), .val (.int c3_), .val (.int c4_), .val (.ref b29), .val (.int (1 : Int32)), .val (.int (3 : Int32)), .val (.int (-1 : Int32)), .val (.int (0 : Int32)), .unset] []))
          refine own_step (fun _ k => XS.iload X32.here hx rfl (hb hby at_271) rfl k) ?_
          show own_Ends _ _ _ _ _ _ _ (T32.setTop (mkF m 273 #[.val (.int p0), .val (.int p1), .val (.int p2), .val (.int p3), .val (.int p4), .val (.int p5), .val (.int (3 : Int32)), .val (.int c0_), .val (.int c1_), .val (.int c2_), .val (.int c3_), .val (.int c4_), .val (.ref b29), .val (.int (1 : Int32)), .val (.int (3 : Int32)), .val (.int (-1 : Int32)), .val (.int (0 : Int32)), .unset] [(.int (3 : Int32))]))
          refine own_step (fun _ k => XS.ifYes X32.here hx rfl (pc0 := 273) (pc' := 291) rfl (hb hby at_273) rfl ((if0 _ _).trans (tlt (by decide)).2.2.1) (by decide) (by decide) k) ?_
          show own_Ends _ _ _ _ _ _ _ (T32.setTop (mkF m 291 #[.val (.int p0), .val (.int p1), .val (.int p2), .val (.int p3), .val (.int p4), .val (.int p5), .val (.int (3 : Int32)), .val (.int c0_), .val (.int c1_), .val (.int c2_), .val (.int c3_), .val (.int c4_), .val (.ref b29), .val (.int (1 : Int32)), .val (.int (3 : Int32)), .val (.int (-1 : Int32)), .val (.int (0 : Int32)), .unset] []))
          have J308_43 : ∀ (ex : Int32) (hex : ex = own_res (-1 : Int32) (0 : Int32)), own_Ends p e below s 1 5 (own_Q0 Z p0 p1 p2 p3 p4 p5  h0 n0) (T32.setTop (mkF m 308 #[.val (.int p0), .val (.int p1), .val (.int p2), .val (.int p3), .val (.int p4), .val (.int p5), .val (.int (3 : Int32)), .val (.int c0_), .val (.int c1_), .val (.int c2_), .val (.int c3_), .val (.int c4_), .val (.ref b29), .val (.int (1 : Int32)), .val (.int (3 : Int32)), .val (.int (-1 : Int32)), .val (.int (0 : Int32)), .unset] [(.int ex)])) := by
            intro ex hex
            show own_Ends _ _ _ _ _ _ _ (T32.setTop (mkF m 308 #[.val (.int p0), .val (.int p1), .val (.int p2), .val (.int p3), .val (.int p4), .val (.int p5), .val (.int (3 : Int32)), .val (.int c0_), .val (.int c1_), .val (.int c2_), .val (.int c3_), .val (.int c4_), .val (.ref b29), .val (.int (1 : Int32)), .val (.int (3 : Int32)), .val (.int (-1 : Int32)), .val (.int (0 : Int32)), .unset] [(.int ex)]))
            refine own_step (fun _ k => XS.istore X32.here hx rfl (hb hby at_308) rfl (l' := #[.val (.int p0), .val (.int p1), .val (.int p2), .val (.int p3), .val (.int p4), .val (.int p5), .val (.int (3 : Int32)), .val (.int c0_), .val (.int c1_), .val (.int c2_), .val (.int c3_), .val (.int c4_), .val (.ref b29), .val (.int (1 : Int32)), .val (.int (3 : Int32)), .val (.int (-1 : Int32)), .val (.int (0 : Int32)), .val (.int ex)]) rfl k) ?_
            show own_Ends _ _ _ _ _ _ _ (T32.setTop (mkF m 310 #[.val (.int p0), .val (.int p1), .val (.int p2), .val (.int p3), .val (.int p4), .val (.int p5), .val (.int (3 : Int32)), .val (.int c0_), .val (.int c1_), .val (.int c2_), .val (.int c3_), .val (.int c4_), .val (.ref b29), .val (.int (1 : Int32)), .val (.int (3 : Int32)), .val (.int (-1 : Int32)), .val (.int (0 : Int32)), .val (.int ex)] []))
            refine own_step (fun _ k => XS.aload X32.here hx rfl (hb hby at_310) rfl rfl k) ?_
            show own_Ends _ _ _ _ _ _ _ (T32.setTop (mkF m 312 #[.val (.int p0), .val (.int p1), .val (.int p2), .val (.int p3), .val (.int p4), .val (.int p5), .val (.int (3 : Int32)), .val (.int c0_), .val (.int c1_), .val (.int c2_), .val (.int c3_), .val (.int c4_), .val (.ref b29), .val (.int (1 : Int32)), .val (.int (3 : Int32)), .val (.int (-1 : Int32)), .val (.int (0 : Int32)), .val (.int ex)] [(.ref b29)]))
            obtain ⟨cl44, Ar44, qq44, S44, M44, H44, G44⟩ := id V32_b29
            have hbb : ∀ b ∈ ([c0_, c1_, c2_] : List Int32), nar .byte b = b := by
              intro b hbl
              simp only [List.mem_cons, List.not_mem_nil, or_false] at hbl
              rcases hbl with rfl | rfl | rfl
              · exact nb0
              · exact nb1
              · exact nb2
            obtain ⟨_, _, ⟨T45, L45, k45, n45⟩, -, X45, ⟨Lc45, hQ45, l45, y45, z45⟩, st45⟩ := Jvm.LawKit.callS X32 hx (y := (⟨"com/example/parley/parley/io/CompetitionXml", "looksLikeXml", "([B)Z"⟩ : MethodName)) hown (mvT hZ (hw _ (List.mem_of_getElem? (i := 6) rfl))) (mvT hZ (hw _ (List.mem_of_getElem? (i := 7) rfl))) (mvT hZ (hw _ (List.mem_of_getElem? (i := 8) rfl))) (mvT hZ (hw _ (List.mem_of_getElem? (i := 9) rfl))) (by decide) (backOf (W := 0) (own_rm3 l Z a0 hw [] b29 cl44 [c0_, c1_, c2_] h32 n0 Z32 Ar44 (S44.trans (show ((3 : Int32)).toNatClampNeg = 3 by decide)) (by simp) (own_hat (bs := [c0_, c1_, c2_]) H44 (S44.trans (show ((3 : Int32)).toNatClampNeg = 3 by decide))) hbb) hZ (hw _ (List.mem_of_getElem? (i := 9) rfl)) (hw _ (List.mem_of_getElem? (i := 8) rfl)) (by decide) (by decide)) (g := (mkF m 312 #[.val (.int p0), .val (.int p1), .val (.int p2), .val (.int p3), .val (.int p4), .val (.int p5), .val (.int (3 : Int32)), .val (.int c0_), .val (.int c1_), .val (.int c2_), .val (.int c3_), .val (.int c4_), .val (.ref b29), .val (.int (1 : Int32)), .val (.int (3 : Int32)), .val (.int (-1 : Int32)), .val (.int (0 : Int32)), .val (.int ex)] [(.ref b29)])) rfl (by rw [hml]; rfl) (argsL := [(.ref b29)]) (rest := []) (lenOf own_pd1 rfl) rfl (by show 2 * 0 + _ ≤ _; exact Nat.le_of_eq rfl) (hb hby at_312) (fun _ _ => ⟨rfl, e32, (by decide : 1 + 0 ≤ _), (by decide : 3 + 0 ≤ _)⟩)
            dsimp only [Pt.U, Pt.locs, Pt.cells, Pt.slots] at X45 l45 y45 z45 st45 hQ45
            subst l45 y45 z45
            obtain ⟨rfl, Nq45, e45⟩ := hQ45
            have N45 := Fr.app N32 Nq45
            refine own_step (fun _ k => st45 _ k) ?_
            show own_Ends _ _ _ _ _ _ _ (T45.setTop (mkF m 315 #[.val (.int p0), .val (.int p1), .val (.int p2), .val (.int p3), .val (.int p4), .val (.int p5), .val (.int (3 : Int32)), .val (.int c0_), .val (.int c1_), .val (.int c2_), .val (.int c3_), .val (.int c4_), .val (.ref b29), .val (.int (1 : Int32)), .val (.int (3 : Int32)), .val (.int (-1 : Int32)), .val (.int (0 : Int32)), .val (.int ex)] [(.int (own_looks [c0_, c1_, c2_]))]))
            refine own_step (fun _ k => XS.iload X45.here hx rfl (hb hby at_315) rfl k) ?_
            show own_Ends _ _ _ _ _ _ _ (T45.setTop (mkF m 317 #[.val (.int p0), .val (.int p1), .val (.int p2), .val (.int p3), .val (.int p4), .val (.int p5), .val (.int (3 : Int32)), .val (.int c0_), .val (.int c1_), .val (.int c2_), .val (.int c3_), .val (.int c4_), .val (.ref b29), .val (.int (1 : Int32)), .val (.int (3 : Int32)), .val (.int (-1 : Int32)), .val (.int (0 : Int32)), .val (.int ex)] [(.int ex), (.int (own_looks [c0_, c1_, c2_]))]))
            refine own_step (fun _ k => XS.icmpNo X45.here hx rfl (hb hby at_317) rfl (teq (by rw [own_looks, hst, hex]; exact ((rfl : own_res _ _ = own_first [])).symm)).2 k) ?_
            show own_Ends _ _ _ _ _ _ _ (T45.setTop (mkF m 320 #[.val (.int p0), .val (.int p1), .val (.int p2), .val (.int p3), .val (.int p4), .val (.int p5), .val (.int (3 : Int32)), .val (.int c0_), .val (.int c1_), .val (.int c2_), .val (.int c3_), .val (.int c4_), .val (.ref b29), .val (.int (1 : Int32)), .val (.int (3 : Int32)), .val (.int (-1 : Int32)), .val (.int (0 : Int32)), .val (.int ex)] []))
            refine own_step (fun _ k => XS.iconst X45.here hx rfl (hb hby at_320) k) ?_
            show own_Ends _ _ _ _ _ _ _ (T45.setTop (mkF m 321 #[.val (.int p0), .val (.int p1), .val (.int p2), .val (.int p3), .val (.int p4), .val (.int p5), .val (.int (3 : Int32)), .val (.int c0_), .val (.int c1_), .val (.int c2_), .val (.int c3_), .val (.int c4_), .val (.ref b29), .val (.int (1 : Int32)), .val (.int (3 : Int32)), .val (.int (-1 : Int32)), .val (.int (0 : Int32)), .val (.int ex)] [(.int (1 : Int32))]))
            refine own_step (fun _ k => XS.goto X45.here hx rfl (pc0 := 321) (pc' := 325) rfl (hb hby at_321) (by decide) (by decide) k) ?_
            show own_Ends _ _ _ _ _ _ _ (T45.setTop (mkF m 325 #[.val (.int p0), .val (.int p1), .val (.int p2), .val (.int p3), .val (.int p4), .val (.int p5), .val (.int (3 : Int32)), .val (.int c0_), .val (.int c1_), .val (.int c2_), .val (.int c3_), .val (.int c4_), .val (.ref b29), .val (.int (1 : Int32)), .val (.int (3 : Int32)), .val (.int (-1 : Int32)), .val (.int (0 : Int32)), .val (.int ex)] [(.int (1 : Int32))]))
            refine own_ret X45 (BodyLoose.notSynchronized Bd) (v := (some (.int (1 : Int32)))) (fun h => by rw [Bd.returns] at h; cases h) ?_ (by decide) (by decide) (fun fs hr => X45.ireturnOut hx Bd.returns rfl (by simp) (hb hby at_325) hr)
            show own_Q0 Z p0 p1 p2 p3 p4 p5  h0 n0 (some (.int (1 : Int32))) T45.heap _
            rw [e45]
            exact ⟨rfl, N45⟩
          refine own_step (fun _ k => XS.iload X32.here hx rfl (hb hby at_291) rfl k) ?_
          show own_Ends _ _ _ _ _ _ _ (T32.setTop (mkF m 293 #[.val (.int p0), .val (.int p1), .val (.int p2), .val (.int p3), .val (.int p4), .val (.int p5), .val (.int (3 : Int32)), .val (.int c0_), .val (.int c1_), .val (.int c2_), .val (.int c3_), .val (.int c4_), .val (.ref b29), .val (.int (1 : Int32)), .val (.int (3 : Int32)), .val (.int (-1 : Int32)), .val (.int (0 : Int32)), .unset] [(.int (-1 : Int32))]))
          by_cases u1 : (-1 : Int32) < (0 : Int32)
          · refine own_step (fun _ k => XS.ifYes X32.here hx rfl (pc0 := 293) (pc' := 307) rfl (hb hby at_293) rfl ((if0 _ _).trans (tlt u1).1) (by decide) (by decide) k) ?_
            show own_Ends _ _ _ _ _ _ _ (T32.setTop (mkF m 307 #[.val (.int p0), .val (.int p1), .val (.int p2), .val (.int p3), .val (.int p4), .val (.int p5), .val (.int (3 : Int32)), .val (.int c0_), .val (.int c1_), .val (.int c2_), .val (.int c3_), .val (.int c4_), .val (.ref b29), .val (.int (1 : Int32)), .val (.int (3 : Int32)), .val (.int (-1 : Int32)), .val (.int (0 : Int32)), .unset] []))
            refine own_step (fun _ k => XS.iconst X32.here hx rfl (hb hby at_307) k) ?_
            show own_Ends _ _ _ _ _ _ _ (T32.setTop (mkF m 308 #[.val (.int p0), .val (.int p1), .val (.int p2), .val (.int p3), .val (.int p4), .val (.int p5), .val (.int (3 : Int32)), .val (.int c0_), .val (.int c1_), .val (.int c2_), .val (.int c3_), .val (.int c4_), .val (.ref b29), .val (.int (1 : Int32)), .val (.int (3 : Int32)), .val (.int (-1 : Int32)), .val (.int (0 : Int32)), .unset] [(.int (0 : Int32))]))
            exact J308_43 _ (by rw [own_res, if_pos u1])
          · refine own_step (fun _ k => XS.ifNo X32.here hx rfl (hb hby at_293) rfl ((if0 _ _).trans (flt u1).1) k) ?_
            show own_Ends _ _ _ _ _ _ _ (T32.setTop (mkF m 296 #[.val (.int p0), .val (.int p1), .val (.int p2), .val (.int p3), .val (.int p4), .val (.int p5), .val (.int (3 : Int32)), .val (.int c0_), .val (.int c1_), .val (.int c2_), .val (.int c3_), .val (.int c4_), .val (.ref b29), .val (.int (1 : Int32)), .val (.int (3 : Int32)), .val (.int (-1 : Int32)), .val (.int (0 : Int32)), .unset] []))
            refine own_step (fun _ k => XS.iload X32.here hx rfl (hb hby at_296) rfl k) ?_
            show own_Ends _ _ _ _ _ _ _ (T32.setTop (mkF m 298 #[.val (.int p0), .val (.int p1), .val (.int p2), .val (.int p3), .val (.int p4), .val (.int p5), .val (.int (3 : Int32)), .val (.int c0_), .val (.int c1_), .val (.int c2_), .val (.int c3_), .val (.int c4_), .val (.ref b29), .val (.int (1 : Int32)), .val (.int (3 : Int32)), .val (.int (-1 : Int32)), .val (.int (0 : Int32)), .unset] [(.int (0 : Int32))]))
            refine own_step (fun _ k => XS.bipush X32.here hx rfl (hb hby at_298) k) ?_
            show own_Ends _ _ _ _ _ _ _ (T32.setTop (mkF m 300 #[.val (.int p0), .val (.int p1), .val (.int p2), .val (.int p3), .val (.int p4), .val (.int p5), .val (.int (3 : Int32)), .val (.int c0_), .val (.int c1_), .val (.int c2_), .val (.int c3_), .val (.int c4_), .val (.ref b29), .val (.int (1 : Int32)), .val (.int (3 : Int32)), .val (.int (-1 : Int32)), .val (.int (0 : Int32)), .unset] [(.int (60 : Int32)), (.int (0 : Int32))]))
            by_cases u2 : (0 : Int32) = (60 : Int32)
            · refine own_step (fun _ k => XS.icmpNo X32.here hx rfl (hb hby at_300) rfl (teq u2).2 k) ?_
              show own_Ends _ _ _ _ _ _ _ (T32.setTop (mkF m 303 #[.val (.int p0), .val (.int p1), .val (.int p2), .val (.int p3), .val (.int p4), .val (.int p5), .val (.int (3 : Int32)), .val (.int c0_), .val (.int c1_), .val (.int c2_), .val (.int c3_), .val (.int c4_), .val (.ref b29), .val (.int (1 : Int32)), .val (.int (3 : Int32)), .val (.int (-1 : Int32)), .val (.int (0 : Int32)), .unset] []))
              refine own_step (fun _ k => XS.iconst X32.here hx rfl (hb hby at_303) k) ?_
              show own_Ends _ _ _ _ _ _ _ (T32.setTop (mkF m 304 #[.val (.int p0), .val (.int p1), .val (.int p2), .val (.int p3), .val (.int p4), .val (.int p5), .val (.int (3 : Int32)), .val (.int c0_), .val (.int c1_), .val (.int c2_), .val (.int c3_), .val (.int c4_), .val (.ref b29), .val (.int (1 : Int32)), .val (.int (3 : Int32)), .val (.int (-1 : Int32)), .val (.int (0 : Int32)), .unset] [(.int (1 : Int32))]))
              refine own_step (fun _ k => XS.goto X32.here hx rfl (pc0 := 304) (pc' := 308) rfl (hb hby at_304) (by decide) (by decide) k) ?_
              show own_Ends _ _ _ _ _ _ _ (T32.setTop (mkF m 308 #[.val (.int p0), .val (.int p1), .val (.int p2), .val (.int p3), .val (.int p4), .val (.int p5), .val (.int (3 : Int32)), .val (.int c0_), .val (.int c1_), .val (.int c2_), .val (.int c3_), .val (.int c4_), .val (.ref b29), .val (.int (1 : Int32)), .val (.int (3 : Int32)), .val (.int (-1 : Int32)), .val (.int (0 : Int32)), .unset] [(.int (1 : Int32))]))
              exact J308_43 _ (by rw [own_res, if_neg u1, if_pos u2])
            · refine own_step (fun _ k => XS.icmpYes X32.here hx rfl (pc0 := 300) (pc' := 307) rfl (hb hby at_300) rfl (feq u2).2 (by decide) (by decide) k) ?_
              show own_Ends _ _ _ _ _ _ _ (T32.setTop (mkF m 307 #[.val (.int p0), .val (.int p1), .val (.int p2), .val (.int p3), .val (.int p4), .val (.int p5), .val (.int (3 : Int32)), .val (.int c0_), .val (.int c1_), .val (.int c2_), .val (.int c3_), .val (.int c4_), .val (.ref b29), .val (.int (1 : Int32)), .val (.int (3 : Int32)), .val (.int (-1 : Int32)), .val (.int (0 : Int32)), .unset] []))
              refine own_step (fun _ k => XS.iconst X32.here hx rfl (hb hby at_307) k) ?_
              show own_Ends _ _ _ _ _ _ _ (T32.setTop (mkF m 308 #[.val (.int p0), .val (.int p1), .val (.int p2), .val (.int p3), .val (.int p4), .val (.int p5), .val (.int (3 : Int32)), .val (.int c0_), .val (.int c1_), .val (.int c2_), .val (.int c3_), .val (.int c4_), .val (.ref b29), .val (.int (1 : Int32)), .val (.int (3 : Int32)), .val (.int (-1 : Int32)), .val (.int (0 : Int32)), .unset] [(.int (0 : Int32))]))
              exact J308_43 _ (by rw [own_res, if_neg u1, if_neg u2])
        · refine own_step (fun _ k => XS.icmpYes X32.here hx rfl (pc0 := 130) (pc' := 137) rfl (hb hby at_130) rfl (feq k2).2 (by decide) (by decide) k) ?_
          show own_Ends _ _ _ _ _ _ _ (T32.setTop (mkF m 137 #[.val (.int p0), .val (.int p1), .val (.int p2), .val (.int p3), .val (.int p4), .val (.int p5), .val (.int (3 : Int32)), .val (.int c0_), .val (.int c1_), .val (.int c2_), .val (.int c3_), .val (.int c4_), .val (.ref b29), .unset, .unset, .unset, .unset, .unset] []))
          refine own_step (fun _ k => XS.iconst X32.here hx rfl (hb hby at_137) k) ?_
          show own_Ends _ _ _ _ _ _ _ (T32.setTop (mkF m 138 #[.val (.int p0), .val (.int p1), .val (.int p2), .val (.int p3), .val (.int p4), .val (.int p5), .val (.int (3 : Int32)), .val (.int c0_), .val (.int c1_), .val (.int c2_), .val (.int c3_), .val (.int c4_), .val (.ref b29), .unset, .unset, .unset, .unset, .unset] [(.int (0 : Int32))]))
          exact J138_33 (by simp [own_start, k0, k1, k2])
      · refine own_step (fun _ k => XS.icmpYes X32.here hx rfl (pc0 := 123) (pc' := 137) rfl (hb hby at_123) rfl (feq k1).2 (by decide) (by decide) k) ?_
        show own_Ends _ _ _ _ _ _ _ (T32.setTop (mkF m 137 #[.val (.int p0), .val (.int p1), .val (.int p2), .val (.int p3), .val (.int p4), .val (.int p5), .val (.int (3 : Int32)), .val (.int c0_), .val (.int c1_), .val (.int c2_), .val (.int c3_), .val (.int c4_), .val (.ref b29), .unset, .unset, .unset, .unset, .unset] []))
        refine own_step (fun _ k => XS.iconst X32.here hx rfl (hb hby at_137) k) ?_
        show own_Ends _ _ _ _ _ _ _ (T32.setTop (mkF m 138 #[.val (.int p0), .val (.int p1), .val (.int p2), .val (.int p3), .val (.int p4), .val (.int p5), .val (.int (3 : Int32)), .val (.int c0_), .val (.int c1_), .val (.int c2_), .val (.int c3_), .val (.int c4_), .val (.ref b29), .unset, .unset, .unset, .unset, .unset] [(.int (0 : Int32))]))
        exact J138_33 (by simp [own_start, k0, k1])
    · refine own_step (fun _ k => XS.icmpYes X32.here hx rfl (pc0 := 116) (pc' := 137) rfl (hb hby at_116) rfl (feq k0).2 (by decide) (by decide) k) ?_
      show own_Ends _ _ _ _ _ _ _ (T32.setTop (mkF m 137 #[.val (.int p0), .val (.int p1), .val (.int p2), .val (.int p3), .val (.int p4), .val (.int p5), .val (.int (3 : Int32)), .val (.int c0_), .val (.int c1_), .val (.int c2_), .val (.int c3_), .val (.int c4_), .val (.ref b29), .unset, .unset, .unset, .unset, .unset] []))
      refine own_step (fun _ k => XS.iconst X32.here hx rfl (hb hby at_137) k) ?_
      show own_Ends _ _ _ _ _ _ _ (T32.setTop (mkF m 138 #[.val (.int p0), .val (.int p1), .val (.int p2), .val (.int p3), .val (.int p4), .val (.int p5), .val (.int (3 : Int32)), .val (.int c0_), .val (.int c1_), .val (.int c2_), .val (.int c3_), .val (.int c4_), .val (.ref b29), .unset, .unset, .unset, .unset, .unset] [(.int (0 : Int32))]))
      exact J138_33 (by simp [own_start, k0])
  · show own_Ends _ _ _ _ _ _ _ (T7.setTop (mkF m 43 #[.val (.int p0), .val (.int p1), .val (.int p2), .val (.int p3), .val (.int p4), .val (.int p5), .val (.int (4 : Int32)), .val (.int c0_), .val (.int c1_), .val (.int c2_), .val (.int c3_), .val (.int c4_), .unset, .unset, .unset, .unset, .unset, .unset] [(.int (4 : Int32))]))
    obtain ⟨T46, h46, k46, X46, e46, E46, A46, st46⟩ := newP X7 hx hZ (hw _ (List.mem_of_getElem? (i := 5) rfl)) e7 (g := (mkF m 43 #[.val (.int p0), .val (.int p1), .val (.int p2), .val (.int p3), .val (.int p4), .val (.int p5), .val (.int (4 : Int32)), .val (.int c0_), .val (.int c1_), .val (.int c2_), .val (.int c3_), .val (.int c4_), .unset, .unset, .unset, .unset, .unset, .unset] [(.int (4 : Int32))])) rfl (hb hby at_43) rfl (by decide) (cap := 4) (by decide) (by decide) (by decide) (by decide)
    obtain ⟨b46, g46⟩ : ∃ z, z = h0.size := ⟨_, rfl⟩
    rw [← g46] at A46 st46
    have gn46 : n0 ≤ b46 := Nat.le_trans Z0 (Nat.le_of_eq g46.symm)
    have Z46 := Nat.le_trans Z0 E46.1
    have V46_b46 : Arv Z h46 b46 k46 .byte (4 : Int32) [(.int (0 : Int32)), (.int (0 : Int32)), (.int (0 : Int32)), (.int (0 : Int32))] (.int (0 : Int32)) := (Arv.new A46 (by decide)).pad (pad_rep [] (.int (0 : Int32)) 4)
    refine own_step (fun _ k => st46 _ k) ?_
    show own_Ends _ _ _ _ _ _ _ (T46.setTop (mkF m 45 #[.val (.int p0), .val (.int p1), .val (.int p2), .val (.int p3), .val (.int p4), .val (.int p5), .val (.int (4 : Int32)), .val (.int c0_), .val (.int c1_), .val (.int c2_), .val (.int c3_), .val (.int c4_), .unset, .unset, .unset, .unset, .unset, .unset] [(.ref b46)]))
    refine own_step (fun _ k => XS.astore X46.here hx rfl (hb hby at_45) rfl rfl (l' := #[.val (.int p0), .val (.int p1), .val (.int p2), .val (.int p3), .val (.int p4), .val (.int p5), .val (.int (4 : Int32)), .val (.int c0_), .val (.int c1_), .val (.int c2_), .val (.int c3_), .val (.int c4_), .val (.ref b46), .unset, .unset, .unset, .unset, .unset]) rfl k) ?_
    show own_Ends _ _ _ _ _ _ _ (T46.setTop (mkF m 47 #[.val (.int p0), .val (.int p1), .val (.int p2), .val (.int p3), .val (.int p4), .val (.int p5), .val (.int (4 : Int32)), .val (.int c0_), .val (.int c1_), .val (.int c2_), .val (.int c3_), .val (.int c4_), .val (.ref b46), .unset, .unset, .unset, .unset, .unset] []))
    refine own_step (fun _ k => XS.iload X46.here hx rfl (hb hby at_47) rfl k) ?_
    show own_Ends _ _ _ _ _ _ _ (T46.setTop (mkF m 49 #[.val (.int p0), .val (.int p1), .val (.int p2), .val (.int p3), .val (.int p4), .val (.int p5), .val (.int (4 : Int32)), .val (.int c0_), .val (.int c1_), .val (.int c2_), .val (.int c3_), .val (.int c4_), .val (.ref b46), .unset, .unset, .unset, .unset, .unset] [(.int (4 : Int32))]))
    refine own_step (fun _ k => XS.ifNo X46.here hx rfl (hb hby at_49) rfl ((if0 _ _).trans (tlt (by decide)).2.2.2) k) ?_
    show own_Ends _ _ _ _ _ _ _ (T46.setTop (mkF m 52 #[.val (.int p0), .val (.int p1), .val (.int p2), .val (.int p3), .val (.int p4), .val (.int p5), .val (.int (4 : Int32)), .val (.int c0_), .val (.int c1_), .val (.int c2_), .val (.int c3_), .val (.int c4_), .val (.ref b46), .unset, .unset, .unset, .unset, .unset] []))
    refine own_step (fun _ k => XS.aload X46.here hx rfl (hb hby at_52) rfl rfl k) ?_
    show own_Ends _ _ _ _ _ _ _ (T46.setTop (mkF m 54 #[.val (.int p0), .val (.int p1), .val (.int p2), .val (.int p3), .val (.int p4), .val (.int p5), .val (.int (4 : Int32)), .val (.int c0_), .val (.int c1_), .val (.int c2_), .val (.int c3_), .val (.int c4_), .val (.ref b46), .unset, .unset, .unset, .unset, .unset] [(.ref b46)]))
    refine own_step (fun _ k => XS.iconst X46.here hx rfl (hb hby at_54) k) ?_
    show own_Ends _ _ _ _ _ _ _ (T46.setTop (mkF m 55 #[.val (.int p0), .val (.int p1), .val (.int p2), .val (.int p3), .val (.int p4), .val (.int p5), .val (.int (4 : Int32)), .val (.int c0_), .val (.int c1_), .val (.int c2_), .val (.int c3_), .val (.int c4_), .val (.ref b46), .unset, .unset, .unset, .unset, .unset] [(.int (0 : Int32)), (.ref b46)]))
    refine own_step (fun _ k => XS.iload X46.here hx rfl (hb hby at_55) rfl k) ?_
    show own_Ends _ _ _ _ _ _ _ (T46.setTop (mkF m 57 #[.val (.int p0), .val (.int p1), .val (.int p2), .val (.int p3), .val (.int p4), .val (.int p5), .val (.int (4 : Int32)), .val (.int c0_), .val (.int c1_), .val (.int c2_), .val (.int c3_), .val (.int c4_), .val (.ref b46), .unset, .unset, .unset, .unset, .unset] [(.int c0_), (.int (0 : Int32)), (.ref b46)]))
    obtain ⟨cl47, Ar47, qq47, S47, M47, H47, G47⟩ := id V46_b46
    have hin47 : ¬ ((0 : Int32) < 0 ∨ cl47.slots.size ≤ ((0 : Int32)).toNatClampNeg) := inb_of S47 ⟨by decide, by decide⟩
    obtain ⟨T47, h47, X47, e47, W47, st47⟩ := stB X46 hx hZ e46 Ar47 (j := (0 : Int32)) hin47 (g := (mkF m 57 #[.val (.int p0), .val (.int p1), .val (.int p2), .val (.int p3), .val (.int p4), .val (.int p5), .val (.int (4 : Int32)), .val (.int c0_), .val (.int c1_), .val (.int c2_), .val (.int c3_), .val (.int c4_), .val (.ref b46), .unset, .unset, .unset, .unset, .unset] [(.int c0_), (.int (0 : Int32)), (.ref b46)])) rfl rfl (hb hby at_57)
    have N47 := Fr.snoc X47 N7 gn46
    rw [nb0] at W47
    have V47_b46 : Arv Z h47 b46 k46 .byte (4 : Int32) [(.int c0_), (.int (0 : Int32)), (.int (0 : Int32)), (.int (0 : Int32))] (.int (0 : Int32)) := Arv.set Ar47 qq47 S47 M47 H47 G47 (by have := fits_nar_byte c0_; rw [show (c0_).toInt8.toInt32 = c0_ from nb0] at this; exact this) W47 0 (by decide) (by simp)
    have Z47 := Nat.le_trans Z46 (Keep.of_wr W47).1
    refine own_step (fun _ k => st47 _ k) ?_
    show own_Ends _ _ _ _ _ _ _ (T47.setTop (mkF m 58 #[.val (.int p0), .val (.int p1), .val (.int p2), .val (.int p3), .val (.int p4), .val (.int p5), .val (.int (4 : Int32)), .val (.int c0_), .val (.int c1_), .val (.int c2_), .val (.int c3_), .val (.int c4_), .val (.ref b46), .unset, .unset, .unset, .unset, .unset] []))
    refine own_step (fun _ k => XS.iload X47.here hx rfl (hb hby at_58) rfl k) ?_
    show own_Ends _ _ _ _ _ _ _ (T47.setTop (mkF m 60 #[.val (.int p0), .val (.int p1), .val (.int p2), .val (.int p3), .val (.int p4), .val (.int p5), .val (.int (4 : Int32)), .val (.int c0_), .val (.int c1_), .val (.int c2_), .val (.int c3_), .val (.int c4_), .val (.ref b46), .unset, .unset, .unset, .unset, .unset] [(.int (4 : Int32))]))
    refine own_step (fun _ k => XS.iconst X47.here hx rfl (hb hby at_60) k) ?_
    show own_Ends _ _ _ _ _ _ _ (T47.setTop (mkF m 61 #[.val (.int p0), .val (.int p1), .val (.int p2), .val (.int p3), .val (.int p4), .val (.int p5), .val (.int (4 : Int32)), .val (.int c0_), .val (.int c1_), .val (.int c2_), .val (.int c3_), .val (.int c4_), .val (.ref b46), .unset, .unset, .unset, .unset, .unset] [(.int (1 : Int32)), (.int (4 : Int32))]))
    refine own_step (fun _ k => XS.icmpNo X47.here hx rfl (hb hby at_61) rfl (tlt (by decide)).2.2.2 k) ?_
    show own_Ends _ _ _ _ _ _ _ (T47.setTop (mkF m 64 #[.val (.int p0), .val (.int p1), .val (.int p2), .val (.int p3), .val (.int p4), .val (.int p5), .val (.int (4 : Int32)), .val (.int c0_), .val (.int c1_), .val (.int c2_), .val (.int c3_), .val (.int c4_), .val (.ref b46), .unset, .unset, .unset, .unset, .unset] []))
    refine own_step (fun _ k => XS.aload X47.here hx rfl (hb hby at_64) rfl rfl k) ?_
    show own_Ends _ _ _ _ _ _ _ (T47.setTop (mkF m 66 #[.val (.int p0), .val (.int p1), .val (.int p2), .val (.int p3), .val (.int p4), .val (.int p5), .val (.int (4 : Int32)), .val (.int c0_), .val (.int c1_), .val (.int c2_), .val (.int c3_), .val (.int c4_), .val (.ref b46), .unset, .unset, .unset, .unset, .unset] [(.ref b46)]))
    refine own_step (fun _ k => XS.iconst X47.here hx rfl (hb hby at_66) k) ?_
    show own_Ends _ _ _ _ _ _ _ (T47.setTop (mkF m 67 #[.val (.int p0), .val (.int p1), .val (.int p2), .val (.int p3), .val (.int p4), .val (.int p5), .val (.int (4 : Int32)), .val (.int c0_), .val (.int c1_), .val (.int c2_), .val (.int c3_), .val (.int c4_), .val (.ref b46), .unset, .unset, .unset, .unset, .unset] [(.int (1 : Int32)), (.ref b46)]))
    refine own_step (fun _ k => XS.iload X47.here hx rfl (hb hby at_67) rfl k) ?_
    show own_Ends _ _ _ _ _ _ _ (T47.setTop (mkF m 69 #[.val (.int p0), .val (.int p1), .val (.int p2), .val (.int p3), .val (.int p4), .val (.int p5), .val (.int (4 : Int32)), .val (.int c0_), .val (.int c1_), .val (.int c2_), .val (.int c3_), .val (.int c4_), .val (.ref b46), .unset, .unset, .unset, .unset, .unset] [(.int c1_), (.int (1 : Int32)), (.ref b46)]))
    obtain ⟨cl48, Ar48, qq48, S48, M48, H48, G48⟩ := id V47_b46
    have hin48 : ¬ ((1 : Int32) < 0 ∨ cl48.slots.size ≤ ((1 : Int32)).toNatClampNeg) := inb_of S48 ⟨by decide, by decide⟩
    obtain ⟨T48, h48, X48, e48, W48, st48⟩ := stB X47 hx hZ e47 Ar48 (j := (1 : Int32)) hin48 (g := (mkF m 69 #[.val (.int p0), .val (.int p1), .val (.int p2), .val (.int p3), .val (.int p4), .val (.int p5), .val (.int (4 : Int32)), .val (.int c0_), .val (.int c1_), .val (.int c2_), .val (.int c3_), .val (.int c4_), .val (.ref b46), .unset, .unset, .unset, .unset, .unset] [(.int c1_), (.int (1 : Int32)), (.ref b46)])) rfl rfl (hb hby at_69)
    have N48 := Fr.snoc X48 N47 gn46
    rw [nb1] at W48
    have V48_b46 : Arv Z h48 b46 k46 .byte (4 : Int32) [(.int c0_), (.int c1_), (.int (0 : Int32)), (.int (0 : Int32))] (.int (0 : Int32)) := Arv.set Ar48 qq48 S48 M48 H48 G48 (by have := fits_nar_byte c1_; rw [show (c1_).toInt8.toInt32 = c1_ from nb1] at this; exact this) W48 1 (by decide) (by simp)
    have Z48 := Nat.le_trans Z47 (Keep.of_wr W48).1
    refine own_step (fun _ k => st48 _ k) ?_
    show own_Ends _ _ _ _ _ _ _ (T48.setTop (mkF m 70 #[.val (.int p0), .val (.int p1), .val (.int p2), .val (.int p3), .val (.int p4), .val (.int p5), .val (.int (4 : Int32)), .val (.int c0_), .val (.int c1_), .val (.int c2_), .val (.int c3_), .val (.int c4_), .val (.ref b46), .unset, .unset, .unset, .unset, .unset] []))
    refine own_step (fun _ k => XS.iload X48.here hx rfl (hb hby at_70) rfl k) ?_
    show own_Ends _ _ _ _ _ _ _ (T48.setTop (mkF m 72 #[.val (.int p0), .val (.int p1), .val (.int p2), .val (.int p3), .val (.int p4), .val (.int p5), .val (.int (4 : Int32)), .val (.int c0_), .val (.int c1_), .val (.int c2_), .val (.int c3_), .val (.int c4_), .val (.ref b46), .unset, .unset, .unset, .unset, .unset] [(.int (4 : Int32))]))
    refine own_step (fun _ k => XS.iconst X48.here hx rfl (hb hby at_72) k) ?_
    show own_Ends _ _ _ _ _ _ _ (T48.setTop (mkF m 73 #[.val (.int p0), .val (.int p1), .val (.int p2), .val (.int p3), .val (.int p4), .val (.int p5), .val (.int (4 : Int32)), .val (.int c0_), .val (.int c1_), .val (.int c2_), .val (.int c3_), .val (.int c4_), .val (.ref b46), .unset, .unset, .unset, .unset, .unset] [(.int (2 : Int32)), (.int (4 : Int32))]))
    refine own_step (fun _ k => XS.icmpNo X48.here hx rfl (hb hby at_73) rfl (tlt (by decide)).2.2.2 k) ?_
    show own_Ends _ _ _ _ _ _ _ (T48.setTop (mkF m 76 #[.val (.int p0), .val (.int p1), .val (.int p2), .val (.int p3), .val (.int p4), .val (.int p5), .val (.int (4 : Int32)), .val (.int c0_), .val (.int c1_), .val (.int c2_), .val (.int c3_), .val (.int c4_), .val (.ref b46), .unset, .unset, .unset, .unset, .unset] []))
    refine own_step (fun _ k => XS.aload X48.here hx rfl (hb hby at_76) rfl rfl k) ?_
    show own_Ends _ _ _ _ _ _ _ (T48.setTop (mkF m 78 #[.val (.int p0), .val (.int p1), .val (.int p2), .val (.int p3), .val (.int p4), .val (.int p5), .val (.int (4 : Int32)), .val (.int c0_), .val (.int c1_), .val (.int c2_), .val (.int c3_), .val (.int c4_), .val (.ref b46), .unset, .unset, .unset, .unset, .unset] [(.ref b46)]))
    refine own_step (fun _ k => XS.iconst X48.here hx rfl (hb hby at_78) k) ?_
    show own_Ends _ _ _ _ _ _ _ (T48.setTop (mkF m 79 #[.val (.int p0), .val (.int p1), .val (.int p2), .val (.int p3), .val (.int p4), .val (.int p5), .val (.int (4 : Int32)), .val (.int c0_), .val (.int c1_), .val (.int c2_), .val (.int c3_), .val (.int c4_), .val (.ref b46), .unset, .unset, .unset, .unset, .unset] [(.int (2 : Int32)), (.ref b46)]))
    refine own_step (fun _ k => XS.iload X48.here hx rfl (hb hby at_79) rfl k) ?_
    show own_Ends _ _ _ _ _ _ _ (T48.setTop (mkF m 81 #[.val (.int p0), .val (.int p1), .val (.int p2), .val (.int p3), .val (.int p4), .val (.int p5), .val (.int (4 : Int32)), .val (.int c0_), .val (.int c1_), .val (.int c2_), .val (.int c3_), .val (.int c4_), .val (.ref b46), .unset, .unset, .unset, .unset, .unset] [(.int c2_), (.int (2 : Int32)), (.ref b46)]))
    obtain ⟨cl49, Ar49, qq49, S49, M49, H49, G49⟩ := id V48_b46
    have hin49 : ¬ ((2 : Int32) < 0 ∨ cl49.slots.size ≤ ((2 : Int32)).toNatClampNeg) := inb_of S49 ⟨by decide, by decide⟩
    obtain ⟨T49, h49, X49, e49, W49, st49⟩ := stB X48 hx hZ e48 Ar49 (j := (2 : Int32)) hin49 (g := (mkF m 81 #[.val (.int p0), .val (.int p1), .val (.int p2), .val (.int p3), .val (.int p4), .val (.int p5), .val (.int (4 : Int32)), .val (.int c0_), .val (.int c1_), .val (.int c2_), .val (.int c3_), .val (.int c4_), .val (.ref b46), .unset, .unset, .unset, .unset, .unset] [(.int c2_), (.int (2 : Int32)), (.ref b46)])) rfl rfl (hb hby at_81)
    have N49 := Fr.snoc X49 N48 gn46
    rw [nb2] at W49
    have V49_b46 : Arv Z h49 b46 k46 .byte (4 : Int32) [(.int c0_), (.int c1_), (.int c2_), (.int (0 : Int32))] (.int (0 : Int32)) := Arv.set Ar49 qq49 S49 M49 H49 G49 (by have := fits_nar_byte c2_; rw [show (c2_).toInt8.toInt32 = c2_ from nb2] at this; exact this) W49 2 (by decide) (by simp)
    have Z49 := Nat.le_trans Z48 (Keep.of_wr W49).1
    refine own_step (fun _ k => st49 _ k) ?_
    show own_Ends _ _ _ _ _ _ _ (T49.setTop (mkF m 82 #[.val (.int p0), .val (.int p1), .val (.int p2), .val (.int p3), .val (.int p4), .val (.int p5), .val (.int (4 : Int32)), .val (.int c0_), .val (.int c1_), .val (.int c2_), .val (.int c3_), .val (.int c4_), .val (.ref b46), .unset, .unset, .unset, .unset, .unset] []))
    refine own_step (fun _ k => XS.iload X49.here hx rfl (hb hby at_82) rfl k) ?_
    show own_Ends _ _ _ _ _ _ _ (T49.setTop (mkF m 84 #[.val (.int p0), .val (.int p1), .val (.int p2), .val (.int p3), .val (.int p4), .val (.int p5), .val (.int (4 : Int32)), .val (.int c0_), .val (.int c1_), .val (.int c2_), .val (.int c3_), .val (.int c4_), .val (.ref b46), .unset, .unset, .unset, .unset, .unset] [(.int (4 : Int32))]))
    refine own_step (fun _ k => XS.iconst X49.here hx rfl (hb hby at_84) k) ?_
    show own_Ends _ _ _ _ _ _ _ (T49.setTop (mkF m 85 #[.val (.int p0), .val (.int p1), .val (.int p2), .val (.int p3), .val (.int p4), .val (.int p5), .val (.int (4 : Int32)), .val (.int c0_), .val (.int c1_), .val (.int c2_), .val (.int c3_), .val (.int c4_), .val (.ref b46), .unset, .unset, .unset, .unset, .unset] [(.int (3 : Int32)), (.int (4 : Int32))]))
    refine own_step (fun _ k => XS.icmpNo X49.here hx rfl (hb hby at_85) rfl (tlt (by decide)).2.2.2 k) ?_
    show own_Ends _ _ _ _ _ _ _ (T49.setTop (mkF m 88 #[.val (.int p0), .val (.int p1), .val (.int p2), .val (.int p3), .val (.int p4), .val (.int p5), .val (.int (4 : Int32)), .val (.int c0_), .val (.int c1_), .val (.int c2_), .val (.int c3_), .val (.int c4_), .val (.ref b46), .unset, .unset, .unset, .unset, .unset] []))
    refine own_step (fun _ k => XS.aload X49.here hx rfl (hb hby at_88) rfl rfl k) ?_
    show own_Ends _ _ _ _ _ _ _ (T49.setTop (mkF m 90 #[.val (.int p0), .val (.int p1), .val (.int p2), .val (.int p3), .val (.int p4), .val (.int p5), .val (.int (4 : Int32)), .val (.int c0_), .val (.int c1_), .val (.int c2_), .val (.int c3_), .val (.int c4_), .val (.ref b46), .unset, .unset, .unset, .unset, .unset] [(.ref b46)]))
    refine own_step (fun _ k => XS.iconst X49.here hx rfl (hb hby at_90) k) ?_
    show own_Ends _ _ _ _ _ _ _ (T49.setTop (mkF m 91 #[.val (.int p0), .val (.int p1), .val (.int p2), .val (.int p3), .val (.int p4), .val (.int p5), .val (.int (4 : Int32)), .val (.int c0_), .val (.int c1_), .val (.int c2_), .val (.int c3_), .val (.int c4_), .val (.ref b46), .unset, .unset, .unset, .unset, .unset] [(.int (3 : Int32)), (.ref b46)]))
    refine own_step (fun _ k => XS.iload X49.here hx rfl (hb hby at_91) rfl k) ?_
    show own_Ends _ _ _ _ _ _ _ (T49.setTop (mkF m 93 #[.val (.int p0), .val (.int p1), .val (.int p2), .val (.int p3), .val (.int p4), .val (.int p5), .val (.int (4 : Int32)), .val (.int c0_), .val (.int c1_), .val (.int c2_), .val (.int c3_), .val (.int c4_), .val (.ref b46), .unset, .unset, .unset, .unset, .unset] [(.int c3_), (.int (3 : Int32)), (.ref b46)]))
    obtain ⟨cl50, Ar50, qq50, S50, M50, H50, G50⟩ := id V49_b46
    have hin50 : ¬ ((3 : Int32) < 0 ∨ cl50.slots.size ≤ ((3 : Int32)).toNatClampNeg) := inb_of S50 ⟨by decide, by decide⟩
    obtain ⟨T50, h50, X50, e50, W50, st50⟩ := stB X49 hx hZ e49 Ar50 (j := (3 : Int32)) hin50 (g := (mkF m 93 #[.val (.int p0), .val (.int p1), .val (.int p2), .val (.int p3), .val (.int p4), .val (.int p5), .val (.int (4 : Int32)), .val (.int c0_), .val (.int c1_), .val (.int c2_), .val (.int c3_), .val (.int c4_), .val (.ref b46), .unset, .unset, .unset, .unset, .unset] [(.int c3_), (.int (3 : Int32)), (.ref b46)])) rfl rfl (hb hby at_93)
    have N50 := Fr.snoc X50 N49 gn46
    rw [nb3] at W50
    have V50_b46 : Arv Z h50 b46 k46 .byte (4 : Int32) [(.int c0_), (.int c1_), (.int c2_), (.int c3_)] (.int (0 : Int32)) := Arv.set Ar50 qq50 S50 M50 H50 G50 (by have := fits_nar_byte c3_; rw [show (c3_).toInt8.toInt32 = c3_ from nb3] at this; exact this) W50 3 (by decide) (by simp)
    have Z50 := Nat.le_trans Z49 (Keep.of_wr W50).1
    refine own_step (fun _ k => st50 _ k) ?_
    show own_Ends _ _ _ _ _ _ _ (T50.setTop (mkF m 94 #[.val (.int p0), .val (.int p1), .val (.int p2), .val (.int p3), .val (.int p4), .val (.int p5), .val (.int (4 : Int32)), .val (.int c0_), .val (.int c1_), .val (.int c2_), .val (.int c3_), .val (.int c4_), .val (.ref b46), .unset, .unset, .unset, .unset, .unset] []))
    refine own_step (fun _ k => XS.iload X50.here hx rfl (hb hby at_94) rfl k) ?_
    show own_Ends _ _ _ _ _ _ _ (T50.setTop (mkF m 96 #[.val (.int p0), .val (.int p1), .val (.int p2), .val (.int p3), .val (.int p4), .val (.int p5), .val (.int (4 : Int32)), .val (.int c0_), .val (.int c1_), .val (.int c2_), .val (.int c3_), .val (.int c4_), .val (.ref b46), .unset, .unset, .unset, .unset, .unset] [(.int (4 : Int32))]))
    refine own_step (fun _ k => XS.iconst X50.here hx rfl (hb hby at_96) k) ?_
    show own_Ends _ _ _ _ _ _ _ (T50.setTop (mkF m 97 #[.val (.int p0), .val (.int p1), .val (.int p2), .val (.int p3), .val (.int p4), .val (.int p5), .val (.int (4 : Int32)), .val (.int c0_), .val (.int c1_), .val (.int c2_), .val (.int c3_), .val (.int c4_), .val (.ref b46), .unset, .unset, .unset, .unset, .unset] [(.int (4 : Int32)), (.int (4 : Int32))]))
    refine own_step (fun _ k => XS.icmpYes X50.here hx rfl (pc0 := 97) (pc' := 106) rfl (hb hby at_97) rfl (flt (by decide)).2.2.2 (by decide) (by decide) k) ?_
    show own_Ends _ _ _ _ _ _ _ (T50.setTop (mkF m 106 #[.val (.int p0), .val (.int p1), .val (.int p2), .val (.int p3), .val (.int p4), .val (.int p5), .val (.int (4 : Int32)), .val (.int c0_), .val (.int c1_), .val (.int c2_), .val (.int c3_), .val (.int c4_), .val (.ref b46), .unset, .unset, .unset, .unset, .unset] []))
    refine own_step (fun _ k => XS.iload X50.here hx rfl (hb hby at_106) rfl k) ?_
    show own_Ends _ _ _ _ _ _ _ (T50.setTop (mkF m 108 #[.val (.int p0), .val (.int p1), .val (.int p2), .val (.int p3), .val (.int p4), .val (.int p5), .val (.int (4 : Int32)), .val (.int c0_), .val (.int c1_), .val (.int c2_), .val (.int c3_), .val (.int c4_), .val (.ref b46), .unset, .unset, .unset, .unset, .unset] [(.int (4 : Int32))]))
    refine own_step (fun _ k => XS.iconst X50.here hx rfl (hb hby at_108) k) ?_
    show own_Ends _ _ _ _ _ _ _ (T50.setTop (mkF m 109 #[.val (.int p0), .val (.int p1), .val (.int p2), .val (.int p3), .val (.int p4), .val (.int p5), .val (.int (4 : Int32)), .val (.int c0_), .val (.int c1_), .val (.int c2_), .val (.int c3_), .val (.int c4_), .val (.ref b46), .unset, .unset, .unset, .unset, .unset] [(.int (3 : Int32)), (.int (4 : Int32))]))
    have J138_51 : ∀ (hst : own_start [c0_, c1_, c2_, c3_] = 0), own_Ends p e below s 1 5 (own_Q0 Z p0 p1 p2 p3 p4 p5  h0 n0) (T50.setTop (mkF m 138 #[.val (.int p0), .val (.int p1), .val (.int p2), .val (.int p3), .val (.int p4), .val (.int p5), .val (.int (4 : Int32)), .val (.int c0_), .val (.int c1_), .val (.int c2_), .val (.int c3_), .val (.int c4_), .val (.ref b46), .unset, .unset, .unset, .unset, .unset] [(.int (0 : Int32))])) := by
      intro hst
      show own_Ends _ _ _ _ _ _ _ (T50.setTop (mkF m 138 #[.val (.int p0), .val (.int p1), .val (.int p2), .val (.int p3), .val (.int p4), .val (.int p5), .val (.int (4 : Int32)), .val (.int c0_), .val (.int c1_), .val (.int c2_), .val (.int c3_), .val (.int c4_), .val (.ref b46), .unset, .unset, .unset, .unset, .unset] [(.int (0 : Int32))]))
      refine own_step (fun _ k => XS.istore X50.here hx rfl (hb hby at_138) rfl (l' := #[.val (.int p0), .val (.int p1), .val (.int p2), .val (.int p3), .val (.int p4), .val (.int p5), .val (.int (4 : Int32)), .val (.int c0_), .val (.int c1_), .val (.int c2_), .val (.int c3_), .val (.int c4_), .val (.ref b46), .val (.int (0 : Int32)), .unset, .unset, .unset, .unset]) rfl k) ?_
      show own_Ends _ _ _ _ _ _ _ (T50.setTop (mkF m 140 #[.val (.int p0), .val (.int p1), .val (.int p2), .val (.int p3), .val (.int p4), .val (.int p5), .val (.int (4 : Int32)), .val (.int c0_), .val (.int c1_), .val (.int c2_), .val (.int c3_), .val (.int c4_), .val (.ref b46), .val (.int (0 : Int32)), .unset, .unset, .unset, .unset] []))
      refine own_step (fun _ k => XS.iload X50.here hx rfl (hb hby at_140) rfl k) ?_
      show own_Ends _ _ _ _ _ _ _ (T50.setTop (mkF m 142 #[.val (.int p0), .val (.int p1), .val (.int p2), .val (.int p3), .val (.int p4), .val (.int p5), .val (.int (4 : Int32)), .val (.int c0_), .val (.int c1_), .val (.int c2_), .val (.int c3_), .val (.int c4_), .val (.ref b46), .val (.int (0 : Int32)), .unset, .unset, .unset, .unset] [(.int (0 : Int32))]))
      refine own_step (fun _ k => XS.ifYes X50.here hx rfl (pc0 := 142) (pc' := 149) rfl (hb hby at_142) rfl ((if0 _ _).trans (teq rfl).1) (by decide) (by decide) k) ?_
      show own_Ends _ _ _ _ _ _ _ (T50.setTop (mkF m 149 #[.val (.int p0), .val (.int p1), .val (.int p2), .val (.int p3), .val (.int p4), .val (.int p5), .val (.int (4 : Int32)), .val (.int c0_), .val (.int c1_), .val (.int c2_), .val (.int c3_), .val (.int c4_), .val (.ref b46), .val (.int (0 : Int32)), .unset, .unset, .unset, .unset] []))
      refine own_step (fun _ k => XS.iconst X50.here hx rfl (hb hby at_149) k) ?_
      show own_Ends _ _ _ _ _ _ _ (T50.setTop (mkF m 150 #[.val (.int p0), .val (.int p1), .val (.int p2), .val (.int p3), .val (.int p4), .val (.int p5), .val (.int (4 : Int32)), .val (.int c0_), .val (.int c1_), .val (.int c2_), .val (.int c3_), .val (.int c4_), .val (.ref b46), .val (.int (0 : Int32)), .unset, .unset, .unset, .unset] [(.int (0 : Int32))]))
      refine own_step (fun _ k => XS.istore X50.here hx rfl (hb hby at_150) rfl (l' := #[.val (.int p0), .val (.int p1), .val (.int p2), .val (.int p3), .val (.int p4), .val (.int p5), .val (.int (4 : Int32)), .val (.int c0_), .val (.int c1_), .val (.int c2_), .val (.int c3_), .val (.int c4_), .val (.ref b46), .val (.int (0 : Int32)), .val (.int (0 : Int32)), .unset, .unset, .unset]) rfl k) ?_
      show own_Ends _ _ _ _ _ _ _ (T50.setTop (mkF m 152 #[.val (.int p0), .val (.int p1), .val (.int p2), .val (.int p3), .val (.int p4), .val (.int p5), .val (.int (4 : Int32)), .val (.int c0_), .val (.int c1_), .val (.int c2_), .val (.int c3_), .val (.int c4_), .val (.ref b46), .val (.int (0 : Int32)), .val (.int (0 : Int32)), .unset, .unset, .unset] []))
      refine own_step (fun _ k => XS.iconst X50.here hx rfl (hb hby at_152) k) ?_
      show own_Ends _ _ _ _ _ _ _ (T50.setTop (mkF m 153 #[.val (.int p0), .val (.int p1), .val (.int p2), .val (.int p3), .val (.int p4), .val (.int p5), .val (.int (4 : Int32)), .val (.int c0_), .val (.int c1_), .val (.int c2_), .val (.int c3_), .val (.int c4_), .val (.ref b46), .val (.int (0 : Int32)), .val (.int (0 : Int32)), .unset, .unset, .unset] [(.int (-1 : Int32))]))
      refine own_step (fun _ k => XS.istore X50.here hx rfl (hb hby at_153) rfl (l' := #[.val (.int p0), .val (.int p1), .val (.int p2), .val (.int p3), .val (.int p4), .val (.int p5), .val (.int (4 : Int32)), .val (.int c0_), .val (.int c1_), .val (.int c2_), .val (.int c3_), .val (.int c4_), .val (.ref b46), .val (.int (0 : Int32)), .val (.int (0 : Int32)), .val (.int (-1 : Int32)), .unset, .unset]) rfl k) ?_
      show own_Ends _ _ _ _ _ _ _ (T50.setTop (mkF m 155 #[.val (.int p0), .val (.int p1), .val (.int p2), .val (.int p3), .val (.int p4), .val (.int p5), .val (.int (4 : Int32)), .val (.int c0_), .val (.int c1_), .val (.int c2_), .val (.int c3_), .val (.int c4_), .val (.ref b46), .val (.int (0 : Int32)), .val (.int (0 : Int32)), .val (.int (-1 : Int32)), .unset, .unset] []))
      refine own_step (fun _ k => XS.iconst X50.here hx rfl (hb hby at_155) k) ?_
      show own_Ends _ _ _ _ _ _ _ (T50.setTop (mkF m 156 #[.val (.int p0), .val (.int p1), .val (.int p2), .val (.int p3), .val (.int p4), .val (.int p5), .val (.int (4 : Int32)), .val (.int c0_), .val (.int c1_), .val (.int c2_), .val (.int c3_), .val (.int c4_), .val (.ref b46), .val (.int (0 : Int32)), .val (.int (0 : Int32)), .val (.int (-1 : Int32)), .unset, .unset] [(.int (0 : Int32))]))
      refine own_step (fun _ k => XS.istore X50.here hx rfl (hb hby at_156) rfl (l' := #[.val (.int p0), .val (.int p1), .val (.int p2), .val (.int p3), .val (.int p4), .val (.int p5), .val (.int (4 : Int32)), .val (.int c0_), .val (.int c1_), .val (.int c2_), .val (.int c3_), .val (.int c4_), .val (.ref b46), .val (.int (0 : Int32)), .val (.int (0 : Int32)), .val (.int (-1 : Int32)), .val (.int (0 : Int32)), .unset]) rfl k) ?_
      show own_Ends _ _ _ _ _ _ _ (T50.setTop (mkF m 158 #[.val (.int p0), .val (.int p1), .val (.int p2), .val (.int p3), .val (.int p4), .val (.int p5), .val (.int (4 : Int32)), .val (.int c0_), .val (.int c1_), .val (.int c2_), .val (.int c3_), .val (.int c4_), .val (.ref b46), .val (.int (0 : Int32)), .val (.int (0 : Int32)), .val (.int (-1 : Int32)), .val (.int (0 : Int32)), .unset] []))
      refine own_step (fun _ k => XS.iload X50.here hx rfl (hb hby at_158) rfl k) ?_
      show own_Ends _ _ _ _ _ _ _ (T50.setTop (mkF m 160 #[.val (.int p0), .val (.int p1), .val (.int p2), .val (.int p3), .val (.int p4), .val (.int p5), .val (.int (4 : Int32)), .val (.int c0_), .val (.int c1_), .val (.int c2_), .val (.int c3_), .val (.int c4_), .val (.ref b46), .val (.int (0 : Int32)), .val (.int (0 : Int32)), .val (.int (-1 : Int32)), .val (.int (0 : Int32)), .unset] [(.int (4 : Int32))]))
      refine own_step (fun _ k => XS.iconst X50.here hx rfl (hb hby at_160) k) ?_
      show own_Ends _ _ _ _ _ _ _ (T50.setTop (mkF m 161 #[.val (.int p0), .val (.int p1), .val (.int p2), .val (.int p3), .val (.int p4), .val (.int p5), .val (.int (4 : Int32)), .val (.int c0_), .val (.int c1_), .val (.int c2_), .val (.int c3_), .val (.int c4_), .val (.ref b46), .val (.int (0 : Int32)), .val (.int (0 : Int32)), .val (.int (-1 : Int32)), .val (.int (0 : Int32)), .unset] [(.int (4 : Int32)), (.int (4 : Int32))]))
      refine own_step (fun _ k => XS.icmpYes X50.here hx rfl (pc0 := 161) (pc' := 185) rfl (hb hby at_161) rfl (flt (by decide)).2.2.2 (by decide) (by decide) k) ?_
      show own_Ends _ _ _ _ _ _ _ (T50.setTop (mkF m 185 #[.val (.int p0), .val (.int p1), .val (.int p2), .val (.int p3), .val (.int p4), .val (.int p5), .val (.int (4 : Int32)), .val (.int c0_), .val (.int c1_), .val (.int c2_), .val (.int c3_), .val (.int c4_), .val (.ref b46), .val (.int (0 : Int32)), .val (.int (0 : Int32)), .val (.int (-1 : Int32)), .val (.int (0 : Int32)), .unset] []))
      refine own_step (fun _ k => XS.iload X50.here hx rfl (hb hby at_185) rfl k) ?_
      show own_Ends _ _ _ _ _ _ _ (T50.setTop (mkF m 187 #[.val (.int p0), .val (.int p1), .val (.int p2), .val (.int p3), .val (.int p4), .val (.int p5), .val (.int (4 : Int32)), .val (.int c0_), .val (.int c1_), .val (.int c2_), .val (.int c3_), .val (.int c4_), .val (.ref b46), .val (.int (0 : Int32)), .val (.int (0 : Int32)), .val (.int (-1 : Int32)), .val (.int (0 : Int32)), .unset] [(.int (4 : Int32))]))
      refine own_step (fun _ k => XS.iconst X50.here hx rfl (hb hby at_187) k) ?_
      show own_Ends _ _ _ _ _ _ _ (T50.setTop (mkF m 188 #[.val (.int p0), .val (.int p1), .val (.int p2), .val (.int p3), .val (.int p4), .val (.int p5), .val (.int (4 : Int32)), .val (.int c0_), .val (.int c1_), .val (.int c2_), .val (.int c3_), .val (.int c4_), .val (.ref b46), .val (.int (0 : Int32)), .val (.int (0 : Int32)), .val (.int (-1 : Int32)), .val (.int (0 : Int32)), .unset] [(.int (3 : Int32)), (.int (4 : Int32))]))
      refine own_step (fun _ k => XS.icmpNo X50.here hx rfl (hb hby at_188) rfl (tlt (by decide)).2.2.2 k) ?_
      show own_Ends _ _ _ _ _ _ _ (T50.setTop (mkF m 191 #[.val (.int p0), .val (.int p1), .val (.int p2), .val (.int p3), .val (.int p4), .val (.int p5), .val (.int (4 : Int32)), .val (.int c0_), .val (.int c1_), .val (.int c2_), .val (.int c3_), .val (.int c4_), .val (.ref b46), .val (.int (0 : Int32)), .val (.int (0 : Int32)), .val (.int (-1 : Int32)), .val (.int (0 : Int32)), .unset] []))
      refine own_step (fun _ k => XS.iload X50.here hx rfl (hb hby at_191) rfl k) ?_
      show own_Ends _ _ _ _ _ _ _ (T50.setTop (mkF m 193 #[.val (.int p0), .val (.int p1), .val (.int p2), .val (.int p3), .val (.int p4), .val (.int p5), .val (.int (4 : Int32)), .val (.int c0_), .val (.int c1_), .val (.int c2_), .val (.int c3_), .val (.int c4_), .val (.ref b46), .val (.int (0 : Int32)), .val (.int (0 : Int32)), .val (.int (-1 : Int32)), .val (.int (0 : Int32)), .unset] [(.int (0 : Int32))]))
      refine own_step (fun _ k => XS.iconst X50.here hx rfl (hb hby at_193) k) ?_
      show own_Ends _ _ _ _ _ _ _ (T50.setTop (mkF m 194 #[.val (.int p0), .val (.int p1), .val (.int p2), .val (.int p3), .val (.int p4), .val (.int p5), .val (.int (4 : Int32)), .val (.int c0_), .val (.int c1_), .val (.int c2_), .val (.int c3_), .val (.int c4_), .val (.ref b46), .val (.int (0 : Int32)), .val (.int (0 : Int32)), .val (.int (-1 : Int32)), .val (.int (0 : Int32)), .unset] [(.int (3 : Int32)), (.int (0 : Int32))]))
      refine own_step (fun _ k => XS.icmpNo X50.here hx rfl (hb hby at_194) rfl (flt (by decide)).2.2.1 k) ?_
      show own_Ends _ _ _ _ _ _ _ (T50.setTop (mkF m 197 #[.val (.int p0), .val (.int p1), .val (.int p2), .val (.int p3), .val (.int p4), .val (.int p5), .val (.int (4 : Int32)), .val (.int c0_), .val (.int c1_), .val (.int c2_), .val (.int c3_), .val (.int c4_), .val (.ref b46), .val (.int (0 : Int32)), .val (.int (0 : Int32)), .val (.int (-1 : Int32)), .val (.int (0 : Int32)), .unset] []))
      refine own_step (fun _ k => XS.iload X50.here hx rfl (hb hby at_197) rfl k) ?_
      show own_Ends _ _ _ _ _ _ _ (T50.setTop (mkF m 199 #[.val (.int p0), .val (.int p1), .val (.int p2), .val (.int p3), .val (.int p4), .val (.int p5), .val (.int (4 : Int32)), .val (.int c0_), .val (.int c1_), .val (.int c2_), .val (.int c3_), .val (.int c4_), .val (.ref b46), .val (.int (0 : Int32)), .val (.int (0 : Int32)), .val (.int (-1 : Int32)), .val (.int (0 : Int32)), .unset] [(.int c3_)]))
      obtain ⟨_, _, ⟨T52, L52, k52, n52⟩, -, X52, ⟨Lc52, hQ52, l52, y52, z52⟩, st52⟩ := Jvm.LawKit.callS X50 hx (y := (⟨"com/example/parley/parley/io/CompetitionXmlLooksLikeXmlPinLaw", "ws", "(B)Z"⟩ : MethodName)) hown (mvT hZ (hw _ (List.mem_of_getElem? (i := 10) rfl))) (mvT hZ (hw _ (List.mem_of_getElem? (i := 11) rfl))) (mvT hZ (hw _ (List.mem_of_getElem? (i := 3) rfl))) (mvT hZ (hw _ (List.mem_of_getElem? (i := 12) rfl))) (by decide) (backOf (W := 0) (own_rm2 l Z a0 hw [] c3_  h50 n0 Z50 ) hZ (hw _ (List.mem_of_getElem? (i := 12) rfl)) (hw _ (List.mem_of_getElem? (i := 3) rfl)) (by decide) (by decide)) (g := (mkF m 199 #[.val (.int p0), .val (.int p1), .val (.int p2), .val (.int p3), .val (.int p4), .val (.int p5), .val (.int (4 : Int32)), .val (.int c0_), .val (.int c1_), .val (.int c2_), .val (.int c3_), .val (.int c4_), .val (.ref b46), .val (.int (0 : Int32)), .val (.int (0 : Int32)), .val (.int (-1 : Int32)), .val (.int (0 : Int32)), .unset] [(.int c3_)])) rfl (by rw [hml]; rfl) (argsL := [(.int c3_)]) (rest := []) (lenOf own_pd2 rfl) rfl (by show 2 * 0 + _ ≤ _; exact Nat.le_of_eq rfl) (hb hby at_199) (fun _ _ => ⟨rfl, e50, (by decide : 1 + 0 ≤ _), (by decide : 4 + 0 ≤ _)⟩)
      dsimp only [Pt.U, Pt.locs, Pt.cells, Pt.slots] at X52 l52 y52 z52 st52 hQ52
      subst l52 y52 z52
      obtain ⟨rfl, Nq52, e52⟩ := hQ52
      have N52 := Fr.app N50 Nq52
      refine own_step (fun _ k => st52 _ k) ?_
      show own_Ends _ _ _ _ _ _ _ (T52.setTop (mkF m 202 #[.val (.int p0), .val (.int p1), .val (.int p2), .val (.int p3), .val (.int p4), .val (.int p5), .val (.int (4 : Int32)), .val (.int c0_), .val (.int c1_), .val (.int c2_), .val (.int c3_), .val (.int c4_), .val (.ref b46), .val (.int (0 : Int32)), .val (.int (0 : Int32)), .val (.int (-1 : Int32)), .val (.int (0 : Int32)), .unset] [(.int (own_ws c3_))]))
      have J212_53 : ∀ (lJ53 : List Loc) (NJ53 : Fr n0 lJ53) (TJ53 : State) (XJ53 : Stand p l e room_1 s m #[(.int p0), (.int p1), (.int p2), (.int p3), (.int p4), (.int p5)] below meth c TJ53 lJ53 1 4) (eJ53 : TJ53.heap = h50) (kv3 fv3 : Int32) (hE3 : own_res kv3 fv3 = own_first [c3_]), own_Ends p e below s 1 5 (own_Q0 Z p0 p1 p2 p3 p4 p5  h0 n0) (TJ53.setTop (mkF m 212 #[.val (.int p0), .val (.int p1), .val (.int p2), .val (.int p3), .val (.int p4), .val (.int p5), .val (.int (4 : Int32)), .val (.int c0_), .val (.int c1_), .val (.int c2_), .val (.int c3_), .val (.int c4_), .val (.ref b46), .val (.int (0 : Int32)), .val (.int (0 : Int32)), .val (.int kv3), .val (.int fv3), .unset] [])) := by
        intro lJ53 NJ53 TJ53 XJ53 eJ53 kv3 fv3 hE3
        show own_Ends _ _ _ _ _ _ _ (TJ53.setTop (mkF m 212 #[.val (.int p0), .val (.int p1), .val (.int p2), .val (.int p3), .val (.int p4), .val (.int p5), .val (.int (4 : Int32)), .val (.int c0_), .val (.int c1_), .val (.int c2_), .val (.int c3_), .val (.int c4_), .val (.ref b46), .val (.int (0 : Int32)), .val (.int (0 : Int32)), .val (.int kv3), .val (.int fv3), .unset] []))
        refine own_step (fun _ k => XS.iload XJ53.here hx rfl (hb hby at_212) rfl k) ?_
        show own_Ends _ _ _ _ _ _ _ (TJ53.setTop (mkF m 214 #[.val (.int p0), .val (.int p1), .val (.int p2), .val (.int p3), .val (.int p4), .val (.int p5), .val (.int (4 : Int32)), .val (.int c0_), .val (.int c1_), .val (.int c2_), .val (.int c3_), .val (.int c4_), .val (.ref b46), .val (.int (0 : Int32)), .val (.int (0 : Int32)), .val (.int kv3), .val (.int fv3), .unset] [(.int (4 : Int32))]))
        refine own_step (fun _ k => XS.iconst XJ53.here hx rfl (hb hby at_214) k) ?_
        show own_Ends _ _ _ _ _ _ _ (TJ53.setTop (mkF m 215 #[.val (.int p0), .val (.int p1), .val (.int p2), .val (.int p3), .val (.int p4), .val (.int p5), .val (.int (4 : Int32)), .val (.int c0_), .val (.int c1_), .val (.int c2_), .val (.int c3_), .val (.int c4_), .val (.ref b46), .val (.int (0 : Int32)), .val (.int (0 : Int32)), .val (.int kv3), .val (.int fv3), .unset] [(.int (2 : Int32)), (.int (4 : Int32))]))
        refine own_step (fun _ k => XS.icmpNo XJ53.here hx rfl (hb hby at_215) rfl (tlt (by decide)).2.2.2 k) ?_
        show own_Ends _ _ _ _ _ _ _ (TJ53.setTop (mkF m 218 #[.val (.int p0), .val (.int p1), .val (.int p2), .val (.int p3), .val (.int p4), .val (.int p5), .val (.int (4 : Int32)), .val (.int c0_), .val (.int c1_), .val (.int c2_), .val (.int c3_), .val (.int c4_), .val (.ref b46), .val (.int (0 : Int32)), .val (.int (0 : Int32)), .val (.int kv3), .val (.int fv3), .unset] []))
        refine own_step (fun _ k => XS.iload XJ53.here hx rfl (hb hby at_218) rfl k) ?_
        show own_Ends _ _ _ _ _ _ _ (TJ53.setTop (mkF m 220 #[.val (.int p0), .val (.int p1), .val (.int p2), .val (.int p3), .val (.int p4), .val (.int p5), .val (.int (4 : Int32)), .val (.int c0_), .val (.int c1_), .val (.int c2_), .val (.int c3_), .val (.int c4_), .val (.ref b46), .val (.int (0 : Int32)), .val (.int (0 : Int32)), .val (.int kv3), .val (.int fv3), .unset] [(.int (0 : Int32))]))
        refine own_step (fun _ k => XS.iconst XJ53.here hx rfl (hb hby at_220) k) ?_
        show own_Ends _ _ _ _ _ _ _ (TJ53.setTop (mkF m 221 #[.val (.int p0), .val (.int p1), .val (.int p2), .val (.int p3), .val (.int p4), .val (.int p5), .val (.int (4 : Int32)), .val (.int c0_), .val (.int c1_), .val (.int c2_), .val (.int c3_), .val (.int c4_), .val (.ref b46), .val (.int (0 : Int32)), .val (.int (0 : Int32)), .val (.int kv3), .val (.int fv3), .unset] [(.int (2 : Int32)), (.int (0 : Int32))]))
        refine own_step (fun _ k => XS.icmpNo XJ53.here hx rfl (hb hby at_221) rfl (flt (by decide)).2.2.1 k) ?_
        show own_Ends _ _ _ _ _ _ _ (TJ53.setTop (mkF m 224 #[.val (.int p0), .val (.int p1), .val (.int p2), .val (.int p3), .val (.int p4), .val (.int p5), .val (.int (4 : Int32)), .val (.int c0_), .val (.int c1_), .val (.int c2_), .val (.int c3_), .val (.int c4_), .val (.ref b46), .val (.int (0 : Int32)), .val (.int (0 : Int32)), .val (.int kv3), .val (.int fv3), .unset] []))
        refine own_step (fun _ k => XS.iload XJ53.here hx rfl (hb hby at_224) rfl k) ?_
        show own_Ends _ _ _ _ _ _ _ (TJ53.setTop (mkF m 226 #[.val (.int p0), .val (.int p1), .val (.int p2), .val (.int p3), .val (.int p4), .val (.int p5), .val (.int (4 : Int32)), .val (.int c0_), .val (.int c1_), .val (.int c2_), .val (.int c3_), .val (.int c4_), .val (.ref b46), .val (.int (0 : Int32)), .val (.int (0 : Int32)), .val (.int kv3), .val (.int fv3), .unset] [(.int c2_)]))
        obtain ⟨_, _, ⟨T54, L54, k54, n54⟩, -, X54, ⟨Lc54, hQ54, l54, y54, z54⟩, st54⟩ := Jvm.LawKit.callS XJ53 hx (y := (⟨"com/example/parley/parley/io/CompetitionXmlLooksLikeXmlPinLaw", "ws", "(B)Z"⟩ : MethodName)) hown (mvT hZ (hw _ (List.mem_of_getElem? (i := 10) rfl))) (mvT hZ (hw _ (List.mem_of_getElem? (i := 11) rfl))) (mvT hZ (hw _ (List.mem_of_getElem? (i := 3) rfl))) (mvT hZ (hw _ (List.mem_of_getElem? (i := 12) rfl))) (by decide) (backOf (W := 0) (own_rm2 l Z a0 hw [] c2_  h50 n0 Z50 ) hZ (hw _ (List.mem_of_getElem? (i := 12) rfl)) (hw _ (List.mem_of_getElem? (i := 3) rfl)) (by decide) (by decide)) (g := (mkF m 226 #[.val (.int p0), .val (.int p1), .val (.int p2), .val (.int p3), .val (.int p4), .val (.int p5), .val (.int (4 : Int32)), .val (.int c0_), .val (.int c1_), .val (.int c2_), .val (.int c3_), .val (.int c4_), .val (.ref b46), .val (.int (0 : Int32)), .val (.int (0 : Int32)), .val (.int kv3), .val (.int fv3), .unset] [(.int c2_)])) rfl (by rw [hml]; rfl) (argsL := [(.int c2_)]) (rest := []) (lenOf own_pd2 rfl) rfl (by show 2 * 0 + _ ≤ _; exact Nat.le_of_eq rfl) (hb hby at_226) (fun _ _ => ⟨rfl, eJ53, (by decide : 1 + 0 ≤ _), (by decide : 4 + 0 ≤ _)⟩)
        dsimp only [Pt.U, Pt.locs, Pt.cells, Pt.slots] at X54 l54 y54 z54 st54 hQ54
        subst l54 y54 z54
        obtain ⟨rfl, Nq54, e54⟩ := hQ54
        have N54 := Fr.app NJ53 Nq54
        refine own_step (fun _ k => st54 _ k) ?_
        show own_Ends _ _ _ _ _ _ _ (T54.setTop (mkF m 229 #[.val (.int p0), .val (.int p1), .val (.int p2), .val (.int p3), .val (.int p4), .val (.int p5), .val (.int (4 : Int32)), .val (.int c0_), .val (.int c1_), .val (.int c2_), .val (.int c3_), .val (.int c4_), .val (.ref b46), .val (.int (0 : Int32)), .val (.int (0 : Int32)), .val (.int kv3), .val (.int fv3), .unset] [(.int (own_ws c2_))]))
        have J239_55 : ∀ (lJ55 : List Loc) (NJ55 : Fr n0 lJ55) (TJ55 : State) (XJ55 : Stand p l e room_1 s m #[(.int p0), (.int p1), (.int p2), (.int p3), (.int p4), (.int p5)] below meth c TJ55 lJ55 1 4) (eJ55 : TJ55.heap = h50) (kv2 fv2 : Int32) (hE2 : own_res kv2 fv2 = own_first [c2_, c3_]), own_Ends p e below s 1 5 (own_Q0 Z p0 p1 p2 p3 p4 p5  h0 n0) (TJ55.setTop (mkF m 239 #[.val (.int p0), .val (.int p1), .val (.int p2), .val (.int p3), .val (.int p4), .val (.int p5), .val (.int (4 : Int32)), .val (.int c0_), .val (.int c1_), .val (.int c2_), .val (.int c3_), .val (.int c4_), .val (.ref b46), .val (.int (0 : Int32)), .val (.int (0 : Int32)), .val (.int kv2), .val (.int fv2), .unset] [])) := by
          intro lJ55 NJ55 TJ55 XJ55 eJ55 kv2 fv2 hE2
          show own_Ends _ _ _ _ _ _ _ (TJ55.setTop (mkF m 239 #[.val (.int p0), .val (.int p1), .val (.int p2), .val (.int p3), .val (.int p4), .val (.int p5), .val (.int (4 : Int32)), .val (.int c0_), .val (.int c1_), .val (.int c2_), .val (.int c3_), .val (.int c4_), .val (.ref b46), .val (.int (0 : Int32)), .val (.int (0 : Int32)), .val (.int kv2), .val (.int fv2), .unset] []))
          refine own_step (fun _ k => XS.iload XJ55.here hx rfl (hb hby at_239) rfl k) ?_
          show own_Ends _ _ _ _ _ _ _ (TJ55.setTop (mkF m 241 #[.val (.int p0), .val (.int p1), .val (.int p2), .val (.int p3), .val (.int p4), .val (.int p5), .val (.int (4 : Int32)), .val (.int c0_), .val (.int c1_), .val (.int c2_), .val (.int c3_), .val (.int c4_), .val (.ref b46), .val (.int (0 : Int32)), .val (.int (0 : Int32)), .val (.int kv2), .val (.int fv2), .unset] [(.int (4 : Int32))]))
          refine own_step (fun _ k => XS.iconst XJ55.here hx rfl (hb hby at_241) k) ?_
          show own_Ends _ _ _ _ _ _ _ (TJ55.setTop (mkF m 242 #[.val (.int p0), .val (.int p1), .val (.int p2), .val (.int p3), .val (.int p4), .val (.int p5), .val (.int (4 : Int32)), .val (.int c0_), .val (.int c1_), .val (.int c2_), .val (.int c3_), .val (.int c4_), .val (.ref b46), .val (.int (0 : Int32)), .val (.int (0 : Int32)), .val (.int kv2), .val (.int fv2), .unset] [(.int (1 : Int32)), (.int (4 : Int32))]))
          refine own_step (fun _ k => XS.icmpNo XJ55.here hx rfl (hb hby at_242) rfl (tlt (by decide)).2.2.2 k) ?_
          show own_Ends _ _ _ _ _ _ _ (TJ55.setTop (mkF m 245 #[.val (.int p0), .val (.int p1), .val (.int p2), .val (.int p3), .val (.int p4), .val (.int p5), .val (.int (4 : Int32)), .val (.int c0_), .val (.int c1_), .val (.int c2_), .val (.int c3_), .val (.int c4_), .val (.ref b46), .val (.int (0 : Int32)), .val (.int (0 : Int32)), .val (.int kv2), .val (.int fv2), .unset] []))
          refine own_step (fun _ k => XS.iload XJ55.here hx rfl (hb hby at_245) rfl k) ?_
          show own_Ends _ _ _ _ _ _ _ (TJ55.setTop (mkF m 247 #[.val (.int p0), .val (.int p1), .val (.int p2), .val (.int p3), .val (.int p4), .val (.int p5), .val (.int (4 : Int32)), .val (.int c0_), .val (.int c1_), .val (.int c2_), .val (.int c3_), .val (.int c4_), .val (.ref b46), .val (.int (0 : Int32)), .val (.int (0 : Int32)), .val (.int kv2), .val (.int fv2), .unset] [(.int (0 : Int32))]))
          refine own_step (fun _ k => XS.iconst XJ55.here hx rfl (hb hby at_247) k) ?_
          show own_Ends _ _ _ _ _ _ _ (TJ55.setTop (mkF m 248 #[.val (.int p0), .val (.int p1), .val (.int p2), .val (.int p3), .val (.int p4), .val (.int p5), .val (.int (4 : Int32)), .val (.int c0_), .val (.int c1_), .val (.int c2_), .val (.int c3_), .val (.int c4_), .val (.ref b46), .val (.int (0 : Int32)), .val (.int (0 : Int32)), .val (.int kv2), .val (.int fv2), .unset] [(.int (1 : Int32)), (.int (0 : Int32))]))
          refine own_step (fun _ k => XS.icmpNo XJ55.here hx rfl (hb hby at_248) rfl (flt (by decide)).2.2.1 k) ?_
          show own_Ends _ _ _ _ _ _ _ (TJ55.setTop (mkF m 251 #[.val (.int p0), .val (.int p1), .val (.int p2), .val (.int p3), .val (.int p4), .val (.int p5), .val (.int (4 : Int32)), .val (.int c0_), .val (.int c1_), .val (.int c2_), .val (.int c3_), .val (.int c4_), .val (.ref b46), .val (.int (0 : Int32)), .val (.int (0 : Int32)), .val (.int kv2), .val (.int fv2), .unset] []))
          refine own_step (fun _ k => XS.iload XJ55.here hx rfl (hb hby at_251) rfl k) ?_
          show own_Ends _ _ _ _ _ _ _ (TJ55.setTop (mkF m 253 #[.val (.int p0), .val (.int p1), .val (.int p2), .val (.int p3), .val (.int p4), .val (.int p5), .val (.int (4 : Int32)), .val (.int c0_), .val (.int c1_), .val (.int c2_), .val (.int c3_), .val (.int c4_), .val (.ref b46), .val (.int (0 : Int32)), .val (.int (0 : Int32)), .val (.int kv2), .val (.int fv2), .unset] [(.int c1_)]))
          obtain ⟨_, _, ⟨T56, L56, k56, n56⟩, -, X56, ⟨Lc56, hQ56, l56, y56, z56⟩, st56⟩ := Jvm.LawKit.callS XJ55 hx (y := (⟨"com/example/parley/parley/io/CompetitionXmlLooksLikeXmlPinLaw", "ws", "(B)Z"⟩ : MethodName)) hown (mvT hZ (hw _ (List.mem_of_getElem? (i := 10) rfl))) (mvT hZ (hw _ (List.mem_of_getElem? (i := 11) rfl))) (mvT hZ (hw _ (List.mem_of_getElem? (i := 3) rfl))) (mvT hZ (hw _ (List.mem_of_getElem? (i := 12) rfl))) (by decide) (backOf (W := 0) (own_rm2 l Z a0 hw [] c1_  h50 n0 Z50 ) hZ (hw _ (List.mem_of_getElem? (i := 12) rfl)) (hw _ (List.mem_of_getElem? (i := 3) rfl)) (by decide) (by decide)) (g := (mkF m 253 #[.val (.int p0), .val (.int p1), .val (.int p2), .val (.int p3), .val (.int p4), .val (.int p5), .val (.int (4 : Int32)), .val (.int c0_), .val (.int c1_), .val (.int c2_), .val (.int c3_), .val (.int c4_), .val (.ref b46), .val (.int (0 : Int32)), .val (.int (0 : Int32)), .val (.int kv2), .val (.int fv2), .unset] [(.int c1_)])) rfl (by rw [hml]; rfl) (argsL := [(.int c1_)]) (rest := []) (lenOf own_pd2 rfl) rfl (by show 2 * 0 + _ ≤ _; exact Nat.le_of_eq rfl) (hb hby at_253) (fun _ _ => ⟨rfl, eJ55, (by decide : 1 + 0 ≤ _), (by decide : 4 + 0 ≤ _)⟩)
          dsimp only [Pt.U, Pt.locs, Pt.cells, Pt.slots] at X56 l56 y56 z56 st56 hQ56
          subst l56 y56 z56
          obtain ⟨rfl, Nq56, e56⟩ := hQ56
          have N56 := Fr.app NJ55 Nq56
          refine own_step (fun _ k => st56 _ k) ?_
          show own_Ends _ _ _ _ _ _ _ (T56.setTop (mkF m 256 #[.val (.int p0), .val (.int p1), .val (.int p2), .val (.int p3), .val (.int p4), .val (.int p5), .val (.int (4 : Int32)), .val (.int c0_), .val (.int c1_), .val (.int c2_), .val (.int c3_), .val (.int c4_), .val (.ref b46), .val (.int (0 : Int32)), .val (.int (0 : Int32)), .val (.int kv2), .val (.int fv2), .unset] [(.int (own_ws c1_))]))
          have J266_57 : ∀ (lJ57 : List Loc) (NJ57 : Fr n0 lJ57) (TJ57 : State) (XJ57 : Stand p l e room_1 s m #[(.int p0), (.int p1), (.int p2), (.int p3), (.int p4), (.int p5)] below meth c TJ57 lJ57 1 4) (eJ57 : TJ57.heap = h50) (kv1 fv1 : Int32) (hE1 : own_res kv1 fv1 = own_first [c1_, c2_, c3_]), own_Ends p e below s 1 5 (own_Q0 Z p0 p1 p2 p3 p4 p5  h0 n0) (TJ57.setTop (mkF m 266 #[.val (.int p0), .val (.int p1), .val (.int p2), .val (.int p3), .val (.int p4), .val (.int p5), .val (.int (4 : Int32)), .val (.int c0_), .val (.int c1_), .val (.int c2_), .val (.int c3_), .val (.int c4_), .val (.ref b46), .val (.int (0 : Int32)), .val (.int (0 : Int32)), .val (.int kv1), .val (.int fv1), .unset] [])) := by
            intro lJ57 NJ57 TJ57 XJ57 eJ57 kv1 fv1 hE1
            show own_Ends _ _ _ _ _ _ _ (TJ57.setTop (mkF m 266 #[.val (.int p0), .val (.int p1), .val (.int p2), .val (.int p3), .val (.int p4), .val (.int p5), .val (.int (4 : Int32)), .val (.int c0_), .val (.int c1_), .val (.int c2_), .val (.int c3_), .val (.int c4_), .val (.ref b46), .val (.int (0 : Int32)), .val (.int (0 : Int32)), .val (.int kv1), .val (.int fv1), .unset] []))
            refine own_step (fun _ k => XS.iload XJ57.here hx rfl (hb hby at_266) rfl k) ?_
            show own_Ends _ _ _ _ _ _ _ (TJ57.setTop (mkF m 268 #[.val (.int p0), .val (.int p1), .val (.int p2), .val (.int p3), .val (.int p4), .val (.int p5), .val (.int (4 : Int32)), .val (.int c0_), .val (.int c1_), .val (.int c2_), .val (.int c3_), .val (.int c4_), .val (.ref b46), .val (.int (0 : Int32)), .val (.int (0 : Int32)), .val (.int kv1), .val (.int fv1), .unset] [(.int (4 : Int32))]))
            refine own_step (fun _ k => XS.ifNo XJ57.here hx rfl (hb hby at_268) rfl ((if0 _ _).trans (tlt (by decide)).2.2.2) k) ?_
            show own_Ends _ _ _ _ _ _ _ (TJ57.setTop (mkF m 271 #[.val (.int p0), .val (.int p1), .val (.int p2), .val (.int p3), .val (.int p4), .val (.int p5), .val (.int (4 : Int32)), .val (.int c0_), .val (.int c1_), .val (.int c2_), .val (.int c3_), .val (.int c4_), .val (.ref b46), .val (.int (0 : Int32)), .val (.int (0 : Int32)), .val (.int kv1), .val (.int fv1), .unset] []))
            refine own_step (fun _ k => XS.iload XJ57.here hx rfl (hb hby at_271) rfl k) ?_
            show own_Ends _ _ _ _ _ _ _ (TJ57.setTop (mkF m 273 #[.val (.int p0), .val (.int p1), .val (.int p2), .val (.int p3), .val (.int p4), .val (.int p5), .val (.int (4 : Int32)), .val (.int c0_), .val (.int c1_), .val (.int c2_), .val (.int c3_), .val (.int c4_), .val (.ref b46), .val (.int (0 : Int32)), .val (.int (0 : Int32)), .val (.int kv1), .val (.int fv1), .unset] [(.int (0 : Int32))]))
            refine own_step (fun _ k => XS.ifNo XJ57.here hx rfl (hb hby at_273) rfl ((if0 _ _).trans (flt (by decide)).2.2.1) k) ?_
            show own_Ends _ _ _ _ _ _ _ (TJ57.setTop (mkF m 276 #[.val (.int p0), .val (.int p1), .val (.int p2), .val (.int p3), .val (.int p4), .val (.int p5), .val (.int (4 : Int32)), .val (.int c0_), .val (.int c1_), .val (.int c2_), .val (.int c3_), .val (.int c4_), .val (.ref b46), .val (.int (0 : Int32)), .val (.int (0 : Int32)), .val (.int kv1), .val (.int fv1), .unset] []))
            refine own_step (fun _ k => XS.iload XJ57.here hx rfl (hb hby at_276) rfl k) ?_
            show own_Ends _ _ _ _ _ _ _ (TJ57.setTop (mkF m 278 #[.val (.int p0), .val (.int p1), .val (.int p2), .val (.int p3), .val (.int p4), .val (.int p5), .val (.int (4 : Int32)), .val (.int c0_), .val (.int c1_), .val (.int c2_), .val (.int c3_), .val (.int c4_), .val (.ref b46), .val (.int (0 : Int32)), .val (.int (0 : Int32)), .val (.int kv1), .val (.int fv1), .unset] [(.int c0_)]))
            obtain ⟨_, _, ⟨T58, L58, k58, n58⟩, -, X58, ⟨Lc58, hQ58, l58, y58, z58⟩, st58⟩ := Jvm.LawKit.callS XJ57 hx (y := (⟨"com/example/parley/parley/io/CompetitionXmlLooksLikeXmlPinLaw", "ws", "(B)Z"⟩ : MethodName)) hown (mvT hZ (hw _ (List.mem_of_getElem? (i := 10) rfl))) (mvT hZ (hw _ (List.mem_of_getElem? (i := 11) rfl))) (mvT hZ (hw _ (List.mem_of_getElem? (i := 3) rfl))) (mvT hZ (hw _ (List.mem_of_getElem? (i := 12) rfl))) (by decide) (backOf (W := 0) (own_rm2 l Z a0 hw [] c0_  h50 n0 Z50 ) hZ (hw _ (List.mem_of_getElem? (i := 12) rfl)) (hw _ (List.mem_of_getElem? (i := 3) rfl)) (by decide) (by decide)) (g := (mkF m 278 #[.val (.int p0), .val (.int p1), .val (.int p2), .val (.int p3), .val (.int p4), .val (.int p5), .val (.int (4 : Int32)), .val (.int c0_), .val (.int c1_), .val (.int c2_), .val (.int c3_), .val (.int c4_), .val (.ref b46), .val (.int (0 : Int32)), .val (.int (0 : Int32)), .val (.int kv1), .val (.int fv1), .unset] [(.int c0_)])) rfl (by rw [hml]; rfl) (argsL := [(.int c0_)]) (rest := []) (lenOf own_pd2 rfl) rfl (by show 2 * 0 + _ ≤ _; exact Nat.le_of_eq rfl) (hb hby at_278) (fun _ _ => ⟨rfl, eJ57, (by decide : 1 + 0 ≤ _), (by decide : 4 + 0 ≤ _)⟩)
            dsimp only [Pt.U, Pt.locs, Pt.cells, Pt.slots] at X58 l58 y58 z58 st58 hQ58
            subst l58 y58 z58
            obtain ⟨rfl, Nq58, e58⟩ := hQ58
            have N58 := Fr.app NJ57 Nq58
            refine own_step (fun _ k => st58 _ k) ?_
            show own_Ends _ _ _ _ _ _ _ (T58.setTop (mkF m 281 #[.val (.int p0), .val (.int p1), .val (.int p2), .val (.int p3), .val (.int p4), .val (.int p5), .val (.int (4 : Int32)), .val (.int c0_), .val (.int c1_), .val (.int c2_), .val (.int c3_), .val (.int c4_), .val (.ref b46), .val (.int (0 : Int32)), .val (.int (0 : Int32)), .val (.int kv1), .val (.int fv1), .unset] [(.int (own_ws c0_))]))
            have J291_59 : ∀ (lJ59 : List Loc) (NJ59 : Fr n0 lJ59) (TJ59 : State) (XJ59 : Stand p l e room_1 s m #[(.int p0), (.int p1), (.int p2), (.int p3), (.int p4), (.int p5)] below meth c TJ59 lJ59 1 4) (eJ59 : TJ59.heap = h50) (kv0 fv0 : Int32) (hE0 : own_res kv0 fv0 = own_first [c0_, c1_, c2_, c3_]), own_Ends p e below s 1 5 (own_Q0 Z p0 p1 p2 p3 p4 p5  h0 n0) (TJ59.setTop (mkF m 291 #[.val (.int p0), .val (.int p1), .val (.int p2), .val (.int p3), .val (.int p4), .val (.int p5), .val (.int (4 : Int32)), .val (.int c0_), .val (.int c1_), .val (.int c2_), .val (.int c3_), .val (.int c4_), .val (.ref b46), .val (.int (0 : Int32)), .val (.int (0 : Int32)), .val (.int kv0), .val (.int fv0), .unset] [])) := by
              intro lJ59 NJ59 TJ59 XJ59 eJ59 kv0 fv0 hE0
              show own_Ends _ _ _ _ _ _ _ (TJ59.setTop (mkF m 291 #[.val (.int p0), .val (.int p1), .val (.int p2), .val (.int p3), .val (.int p4), .val (.int p5), .val (.int (4 : Int32)), .val (.int c0_), .val (.int c1_), .val (.int c2_), .val (.int c3_), .val (.int c4_), .val (.ref b46), .val (.int (0 : Int32)), .val (.int (0 : Int32)), .val (.int kv0), .val (.int fv0), .unset] []))
              have J308_60 : ∀ (ex : Int32) (hex : ex = own_res kv0 fv0), own_Ends p e below s 1 5 (own_Q0 Z p0 p1 p2 p3 p4 p5  h0 n0) (TJ59.setTop (mkF m 308 #[.val (.int p0), .val (.int p1), .val (.int p2), .val (.int p3), .val (.int p4), .val (.int p5), .val (.int (4 : Int32)), .val (.int c0_), .val (.int c1_), .val (.int c2_), .val (.int c3_), .val (.int c4_), .val (.ref b46), .val (.int (0 : Int32)), .val (.int (0 : Int32)), .val (.int kv0), .val (.int fv0), .unset] [(.int ex)])) := by
                intro ex hex
                show own_Ends _ _ _ _ _ _ _ (TJ59.setTop (mkF m 308 #[.val (.int p0), .val (.int p1), .val (.int p2), .val (.int p3), .val (.int p4), .val (.int p5), .val (.int (4 : Int32)), .val (.int c0_), .val (.int c1_), .val (.int c2_), .val (.int c3_), .val (.int c4_), .val (.ref b46), .val (.int (0 : Int32)), .val (.int (0 : Int32)), .val (.int kv0), .val (.int fv0), .unset] [(.int ex)]))
                refine own_step (fun _ k => XS.istore XJ59.here hx rfl (hb hby at_308) rfl (l' := #[.val (.int p0), .val (.int p1), .val (.int p2), .val (.int p3), .val (.int p4), .val (.int p5), .val (.int (4 : Int32)), .val (.int c0_), .val (.int c1_), .val (.int c2_), .val (.int c3_), .val (.int c4_), .val (.ref b46), .val (.int (0 : Int32)), .val (.int (0 : Int32)), .val (.int kv0), .val (.int fv0), .val (.int ex)]) rfl k) ?_
                show own_Ends _ _ _ _ _ _ _ (TJ59.setTop (mkF m 310 #[.val (.int p0), .val (.int p1), .val (.int p2), .val (.int p3), .val (.int p4), .val (.int p5), .val (.int (4 : Int32)), .val (.int c0_), .val (.int c1_), .val (.int c2_), .val (.int c3_), .val (.int c4_), .val (.ref b46), .val (.int (0 : Int32)), .val (.int (0 : Int32)), .val (.int kv0), .val (.int fv0), .val (.int ex)] []))
                refine own_step (fun _ k => XS.aload XJ59.here hx rfl (hb hby at_310) rfl rfl k) ?_
                show own_Ends _ _ _ _ _ _ _ (TJ59.setTop (mkF m 312 #[.val (.int p0), .val (.int p1), .val (.int p2), .val (.int p3), .val (.int p4), .val (.int p5), .val (.int (4 : Int32)), .val (.int c0_), .val (.int c1_), .val (.int c2_), .val (.int c3_), .val (.int c4_), .val (.ref b46), .val (.int (0 : Int32)), .val (.int (0 : Int32)), .val (.int kv0), .val (.int fv0), .val (.int ex)] [(.ref b46)]))
                obtain ⟨cl61, Ar61, qq61, S61, M61, H61, G61⟩ := id V50_b46
                have hbb : ∀ b ∈ ([c0_, c1_, c2_, c3_] : List Int32), nar .byte b = b := by
                  intro b hbl
                  simp only [List.mem_cons, List.not_mem_nil, or_false] at hbl
                  rcases hbl with rfl | rfl | rfl | rfl
                  · exact nb0
                  · exact nb1
                  · exact nb2
                  · exact nb3
                obtain ⟨_, _, ⟨T62, L62, k62, n62⟩, -, X62, ⟨Lc62, hQ62, l62, y62, z62⟩, st62⟩ := Jvm.LawKit.callS XJ59 hx (y := (⟨"com/example/parley/parley/io/CompetitionXml", "looksLikeXml", "([B)Z"⟩ : MethodName)) hown (mvT hZ (hw _ (List.mem_of_getElem? (i := 6) rfl))) (mvT hZ (hw _ (List.mem_of_getElem? (i := 7) rfl))) (mvT hZ (hw _ (List.mem_of_getElem? (i := 8) rfl))) (mvT hZ (hw _ (List.mem_of_getElem? (i := 9) rfl))) (by decide) (backOf (W := 0) (own_rm3 l Z a0 hw [] b46 cl61 [c0_, c1_, c2_, c3_] h50 n0 Z50 Ar61 (S61.trans (show ((4 : Int32)).toNatClampNeg = 4 by decide)) (by simp) (own_hat (bs := [c0_, c1_, c2_, c3_]) H61 (S61.trans (show ((4 : Int32)).toNatClampNeg = 4 by decide))) hbb) hZ (hw _ (List.mem_of_getElem? (i := 9) rfl)) (hw _ (List.mem_of_getElem? (i := 8) rfl)) (by decide) (by decide)) (g := (mkF m 312 #[.val (.int p0), .val (.int p1), .val (.int p2), .val (.int p3), .val (.int p4), .val (.int p5), .val (.int (4 : Int32)), .val (.int c0_), .val (.int c1_), .val (.int c2_), .val (.int c3_), .val (.int c4_), .val (.ref b46), .val (.int (0 : Int32)), .val (.int (0 : Int32)), .val (.int kv0), .val (.int fv0), .val (.int ex)] [(.ref b46)])) rfl (by rw [hml]; rfl) (argsL := [(.ref b46)]) (rest := []) (lenOf own_pd1 rfl) rfl (by show 2 * 0 + _ ≤ _; exact Nat.le_of_eq rfl) (hb hby at_312) (fun _ _ => ⟨rfl, eJ59, (by decide : 1 + 0 ≤ _), (by decide : 4 + 0 ≤ _)⟩)
                dsimp only [Pt.U, Pt.locs, Pt.cells, Pt.slots] at X62 l62 y62 z62 st62 hQ62
                subst l62 y62 z62
                obtain ⟨rfl, Nq62, e62⟩ := hQ62
                have N62 := Fr.app NJ59 Nq62
                refine own_step (fun _ k => st62 _ k) ?_
                show own_Ends _ _ _ _ _ _ _ (T62.setTop (mkF m 315 #[.val (.int p0), .val (.int p1), .val (.int p2), .val (.int p3), .val (.int p4), .val (.int p5), .val (.int (4 : Int32)), .val (.int c0_), .val (.int c1_), .val (.int c2_), .val (.int c3_), .val (.int c4_), .val (.ref b46), .val (.int (0 : Int32)), .val (.int (0 : Int32)), .val (.int kv0), .val (.int fv0), .val (.int ex)] [(.int (own_looks [c0_, c1_, c2_, c3_]))]))
                refine own_step (fun _ k => XS.iload X62.here hx rfl (hb hby at_315) rfl k) ?_
                show own_Ends _ _ _ _ _ _ _ (T62.setTop (mkF m 317 #[.val (.int p0), .val (.int p1), .val (.int p2), .val (.int p3), .val (.int p4), .val (.int p5), .val (.int (4 : Int32)), .val (.int c0_), .val (.int c1_), .val (.int c2_), .val (.int c3_), .val (.int c4_), .val (.ref b46), .val (.int (0 : Int32)), .val (.int (0 : Int32)), .val (.int kv0), .val (.int fv0), .val (.int ex)] [(.int ex), (.int (own_looks [c0_, c1_, c2_, c3_]))]))
                refine own_step (fun _ k => XS.icmpNo X62.here hx rfl (hb hby at_317) rfl (teq (by rw [own_looks, hst, hex]; exact (hE0).symm)).2 k) ?_
                show own_Ends _ _ _ _ _ _ _ (T62.setTop (mkF m 320 #[.val (.int p0), .val (.int p1), .val (.int p2), .val (.int p3), .val (.int p4), .val (.int p5), .val (.int (4 : Int32)), .val (.int c0_), .val (.int c1_), .val (.int c2_), .val (.int c3_), .val (.int c4_), .val (.ref b46), .val (.int (0 : Int32)), .val (.int (0 : Int32)), .val (.int kv0), .val (.int fv0), .val (.int ex)] []))
                refine own_step (fun _ k => XS.iconst X62.here hx rfl (hb hby at_320) k) ?_
                show own_Ends _ _ _ _ _ _ _ (T62.setTop (mkF m 321 #[.val (.int p0), .val (.int p1), .val (.int p2), .val (.int p3), .val (.int p4), .val (.int p5), .val (.int (4 : Int32)), .val (.int c0_), .val (.int c1_), .val (.int c2_), .val (.int c3_), .val (.int c4_), .val (.ref b46), .val (.int (0 : Int32)), .val (.int (0 : Int32)), .val (.int kv0), .val (.int fv0), .val (.int ex)] [(.int (1 : Int32))]))
                refine own_step (fun _ k => XS.goto X62.here hx rfl (pc0 := 321) (pc' := 325) rfl (hb hby at_321) (by decide) (by decide) k) ?_
                show own_Ends _ _ _ _ _ _ _ (T62.setTop (mkF m 325 #[.val (.int p0), .val (.int p1), .val (.int p2), .val (.int p3), .val (.int p4), .val (.int p5), .val (.int (4 : Int32)), .val (.int c0_), .val (.int c1_), .val (.int c2_), .val (.int c3_), .val (.int c4_), .val (.ref b46), .val (.int (0 : Int32)), .val (.int (0 : Int32)), .val (.int kv0), .val (.int fv0), .val (.int ex)] [(.int (1 : Int32))]))
                refine own_ret X62 (BodyLoose.notSynchronized Bd) (v := (some (.int (1 : Int32)))) (fun h => by rw [Bd.returns] at h; cases h) ?_ (by decide) (by decide) (fun fs hr => X62.ireturnOut hx Bd.returns rfl (by simp) (hb hby at_325) hr)
                show own_Q0 Z p0 p1 p2 p3 p4 p5  h0 n0 (some (.int (1 : Int32))) T62.heap _
                rw [e62]
                exact ⟨rfl, N62⟩
              refine own_step (fun _ k => XS.iload XJ59.here hx rfl (hb hby at_291) rfl k) ?_
              show own_Ends _ _ _ _ _ _ _ (TJ59.setTop (mkF m 293 #[.val (.int p0), .val (.int p1), .val (.int p2), .val (.int p3), .val (.int p4), .val (.int p5), .val (.int (4 : Int32)), .val (.int c0_), .val (.int c1_), .val (.int c2_), .val (.int c3_), .val (.int c4_), .val (.ref b46), .val (.int (0 : Int32)), .val (.int (0 : Int32)), .val (.int kv0), .val (.int fv0), .unset] [(.int kv0)]))
              by_cases u1 : kv0 < (0 : Int32)
              · refine own_step (fun _ k => XS.ifYes XJ59.here hx rfl (pc0 := 293) (pc' := 307) rfl (hb hby at_293) rfl ((if0 _ _).trans (tlt u1).1) (by decide) (by decide) k) ?_
                show own_Ends _ _ _ _ _ _ _ (TJ59.setTop (mkF m 307 #[.val (.int p0), .val (.int p1), .val (.int p2), .val (.int p3), .val (.int p4), .val (.int p5), .val (.int (4 : Int32)), .val (.int c0_), .val (.int c1_), .val (.int c2_), .val (.int c3_), .val (.int c4_), .val (.ref b46), .val (.int (0 : Int32)), .val (.int (0 : Int32)), .val (.int kv0), .val (.int fv0), .unset] []))
                refine own_step (fun _ k => XS.iconst XJ59.here hx rfl (hb hby at_307) k) ?_
                show own_Ends _ _ _ _ _ _ _ (TJ59.setTop (mkF m 308 #[.val (.int p0), .val (.int p1), .val (.int p2), .val (.int p3), .val (.int p4), .val (.int p5), .val (.int (4 : Int32)), .val (.int c0_), .val (.int c1_), .val (.int c2_), .val (.int c3_), .val (.int c4_), .val (.ref b46), .val (.int (0 : Int32)), .val (.int (0 : Int32)), .val (.int kv0), .val (.int fv0), .unset] [(.int (0 : Int32))]))
                exact J308_60 _ (by rw [own_res, if_pos u1])
              · refine own_step (fun _ k => XS.ifNo XJ59.here hx rfl (hb hby at_293) rfl ((if0 _ _).trans (flt u1).1) k) ?_
                show own_Ends _ _ _ _ _ _ _ (TJ59.setTop (mkF m 296 #[.val (.int p0), .val (.int p1), .val (.int p2), .val (.int p3), .val (.int p4), .val (.int p5), .val (.int (4 : Int32)), .val (.int c0_), .val (.int c1_), .val (.int c2_), .val (.int c3_), .val (.int c4_), .val (.ref b46), .val (.int (0 : Int32)), .val (.int (0 : Int32)), .val (.int kv0), .val (.int fv0), .unset] []))
                refine own_step (fun _ k => XS.iload XJ59.here hx rfl (hb hby at_296) rfl k) ?_
                show own_Ends _ _ _ _ _ _ _ (TJ59.setTop (mkF m 298 #[.val (.int p0), .val (.int p1), .val (.int p2), .val (.int p3), .val (.int p4), .val (.int p5), .val (.int (4 : Int32)), .val (.int c0_), .val (.int c1_), .val (.int c2_), .val (.int c3_), .val (.int c4_), .val (.ref b46), .val (.int (0 : Int32)), .val (.int (0 : Int32)), .val (.int kv0), .val (.int fv0), .unset] [(.int fv0)]))
                refine own_step (fun _ k => XS.bipush XJ59.here hx rfl (hb hby at_298) k) ?_
                show own_Ends _ _ _ _ _ _ _ (TJ59.setTop (mkF m 300 #[.val (.int p0), .val (.int p1), .val (.int p2), .val (.int p3), .val (.int p4), .val (.int p5), .val (.int (4 : Int32)), .val (.int c0_), .val (.int c1_), .val (.int c2_), .val (.int c3_), .val (.int c4_), .val (.ref b46), .val (.int (0 : Int32)), .val (.int (0 : Int32)), .val (.int kv0), .val (.int fv0), .unset] [(.int (60 : Int32)), (.int fv0)]))
                by_cases u2 : fv0 = (60 : Int32)
                · refine own_step (fun _ k => XS.icmpNo XJ59.here hx rfl (hb hby at_300) rfl (teq u2).2 k) ?_
                  show own_Ends _ _ _ _ _ _ _ (TJ59.setTop (mkF m 303 #[.val (.int p0), .val (.int p1), .val (.int p2), .val (.int p3), .val (.int p4), .val (.int p5), .val (.int (4 : Int32)), .val (.int c0_), .val (.int c1_), .val (.int c2_), .val (.int c3_), .val (.int c4_), .val (.ref b46), .val (.int (0 : Int32)), .val (.int (0 : Int32)), .val (.int kv0), .val (.int fv0), .unset] []))
                  refine own_step (fun _ k => XS.iconst XJ59.here hx rfl (hb hby at_303) k) ?_
                  show own_Ends _ _ _ _ _ _ _ (TJ59.setTop (mkF m 304 #[.val (.int p0), .val (.int p1), .val (.int p2), .val (.int p3), .val (.int p4), .val (.int p5), .val (.int (4 : Int32)), .val (.int c0_), .val (.int c1_), .val (.int c2_), .val (.int c3_), .val (.int c4_), .val (.ref b46), .val (.int (0 : Int32)), .val (.int (0 : Int32)), .val (.int kv0), .val (.int fv0), .unset] [(.int (1 : Int32))]))
                  refine own_step (fun _ k => XS.goto XJ59.here hx rfl (pc0 := 304) (pc' := 308) rfl (hb hby at_304) (by decide) (by decide) k) ?_
                  show own_Ends _ _ _ _ _ _ _ (TJ59.setTop (mkF m 308 #[.val (.int p0), .val (.int p1), .val (.int p2), .val (.int p3), .val (.int p4), .val (.int p5), .val (.int (4 : Int32)), .val (.int c0_), .val (.int c1_), .val (.int c2_), .val (.int c3_), .val (.int c4_), .val (.ref b46), .val (.int (0 : Int32)), .val (.int (0 : Int32)), .val (.int kv0), .val (.int fv0), .unset] [(.int (1 : Int32))]))
                  exact J308_60 _ (by rw [own_res, if_neg u1, if_pos u2])
                · refine own_step (fun _ k => XS.icmpYes XJ59.here hx rfl (pc0 := 300) (pc' := 307) rfl (hb hby at_300) rfl (feq u2).2 (by decide) (by decide) k) ?_
                  show own_Ends _ _ _ _ _ _ _ (TJ59.setTop (mkF m 307 #[.val (.int p0), .val (.int p1), .val (.int p2), .val (.int p3), .val (.int p4), .val (.int p5), .val (.int (4 : Int32)), .val (.int c0_), .val (.int c1_), .val (.int c2_), .val (.int c3_), .val (.int c4_), .val (.ref b46), .val (.int (0 : Int32)), .val (.int (0 : Int32)), .val (.int kv0), .val (.int fv0), .unset] []))
                  refine own_step (fun _ k => XS.iconst XJ59.here hx rfl (hb hby at_307) k) ?_
                  show own_Ends _ _ _ _ _ _ _ (TJ59.setTop (mkF m 308 #[.val (.int p0), .val (.int p1), .val (.int p2), .val (.int p3), .val (.int p4), .val (.int p5), .val (.int (4 : Int32)), .val (.int c0_), .val (.int c1_), .val (.int c2_), .val (.int c3_), .val (.int c4_), .val (.ref b46), .val (.int (0 : Int32)), .val (.int (0 : Int32)), .val (.int kv0), .val (.int fv0), .unset] [(.int (0 : Int32))]))
                  exact J308_60 _ (by rw [own_res, if_neg u1, if_neg u2])
            by_cases w0 : (own_ws c0_) = (0 : Int32)
            · refine own_step (fun _ k => XS.ifNo X58.here hx rfl (hb hby at_281) rfl ((if0 _ _).trans (teq w0).2) k) ?_
              show own_Ends _ _ _ _ _ _ _ (T58.setTop (mkF m 284 #[.val (.int p0), .val (.int p1), .val (.int p2), .val (.int p3), .val (.int p4), .val (.int p5), .val (.int (4 : Int32)), .val (.int c0_), .val (.int c1_), .val (.int c2_), .val (.int c3_), .val (.int c4_), .val (.ref b46), .val (.int (0 : Int32)), .val (.int (0 : Int32)), .val (.int kv1), .val (.int fv1), .unset] []))
              refine own_step (fun _ k => XS.iconst X58.here hx rfl (hb hby at_284) k) ?_
              show own_Ends _ _ _ _ _ _ _ (T58.setTop (mkF m 285 #[.val (.int p0), .val (.int p1), .val (.int p2), .val (.int p3), .val (.int p4), .val (.int p5), .val (.int (4 : Int32)), .val (.int c0_), .val (.int c1_), .val (.int c2_), .val (.int c3_), .val (.int c4_), .val (.ref b46), .val (.int (0 : Int32)), .val (.int (0 : Int32)), .val (.int kv1), .val (.int fv1), .unset] [(.int (0 : Int32))]))
              refine own_step (fun _ k => XS.istore X58.here hx rfl (hb hby at_285) rfl (l' := #[.val (.int p0), .val (.int p1), .val (.int p2), .val (.int p3), .val (.int p4), .val (.int p5), .val (.int (4 : Int32)), .val (.int c0_), .val (.int c1_), .val (.int c2_), .val (.int c3_), .val (.int c4_), .val (.ref b46), .val (.int (0 : Int32)), .val (.int (0 : Int32)), .val (.int (0 : Int32)), .val (.int fv1), .unset]) rfl k) ?_
              show own_Ends _ _ _ _ _ _ _ (T58.setTop (mkF m 287 #[.val (.int p0), .val (.int p1), .val (.int p2), .val (.int p3), .val (.int p4), .val (.int p5), .val (.int (4 : Int32)), .val (.int c0_), .val (.int c1_), .val (.int c2_), .val (.int c3_), .val (.int c4_), .val (.ref b46), .val (.int (0 : Int32)), .val (.int (0 : Int32)), .val (.int (0 : Int32)), .val (.int fv1), .unset] []))
              refine own_step (fun _ k => XS.iload X58.here hx rfl (hb hby at_287) rfl k) ?_
              show own_Ends _ _ _ _ _ _ _ (T58.setTop (mkF m 289 #[.val (.int p0), .val (.int p1), .val (.int p2), .val (.int p3), .val (.int p4), .val (.int p5), .val (.int (4 : Int32)), .val (.int c0_), .val (.int c1_), .val (.int c2_), .val (.int c3_), .val (.int c4_), .val (.ref b46), .val (.int (0 : Int32)), .val (.int (0 : Int32)), .val (.int (0 : Int32)), .val (.int fv1), .unset] [(.int c0_)]))
              refine own_step (fun _ k => XS.istore X58.here hx rfl (hb hby at_289) rfl (l' := #[.val (.int p0), .val (.int p1), .val (.int p2), .val (.int p3), .val (.int p4), .val (.int p5), .val (.int (4 : Int32)), .val (.int c0_), .val (.int c1_), .val (.int c2_), .val (.int c3_), .val (.int c4_), .val (.ref b46), .val (.int (0 : Int32)), .val (.int (0 : Int32)), .val (.int (0 : Int32)), .val (.int c0_), .unset]) rfl k) ?_
              show own_Ends _ _ _ _ _ _ _ (T58.setTop (mkF m 291 #[.val (.int p0), .val (.int p1), .val (.int p2), .val (.int p3), .val (.int p4), .val (.int p5), .val (.int (4 : Int32)), .val (.int c0_), .val (.int c1_), .val (.int c2_), .val (.int c3_), .val (.int c4_), .val (.ref b46), .val (.int (0 : Int32)), .val (.int (0 : Int32)), .val (.int (0 : Int32)), .val (.int c0_), .unset] []))
              exact J291_59 _ N58 _ X58 e58 _ _ (by rw [own_first, if_pos w0]; rfl)
            · refine own_step (fun _ k => XS.ifYes X58.here hx rfl (pc0 := 281) (pc' := 291) rfl (hb hby at_281) rfl ((if0 _ _).trans (feq w0).2) (by decide) (by decide) k) ?_
              show own_Ends _ _ _ _ _ _ _ (T58.setTop (mkF m 291 #[.val (.int p0), .val (.int p1), .val (.int p2), .val (.int p3), .val (.int p4), .val (.int p5), .val (.int (4 : Int32)), .val (.int c0_), .val (.int c1_), .val (.int c2_), .val (.int c3_), .val (.int c4_), .val (.ref b46), .val (.int (0 : Int32)), .val (.int (0 : Int32)), .val (.int kv1), .val (.int fv1), .unset] []))
              exact J291_59 _ N58 _ X58 e58 _ _ (by rw [own_first, if_neg w0]; exact hE1)
          by_cases w1 : (own_ws c1_) = (0 : Int32)
          · refine own_step (fun _ k => XS.ifNo X56.here hx rfl (hb hby at_256) rfl ((if0 _ _).trans (teq w1).2) k) ?_
            show own_Ends _ _ _ _ _ _ _ (T56.setTop (mkF m 259 #[.val (.int p0), .val (.int p1), .val (.int p2), .val (.int p3), .val (.int p4), .val (.int p5), .val (.int (4 : Int32)), .val (.int c0_), .val (.int c1_), .val (.int c2_), .val (.int c3_), .val (.int c4_), .val (.ref b46), .val (.int (0 : Int32)), .val (.int (0 : Int32)), .val (.int kv2), .val (.int fv2), .unset] []))
            refine own_step (fun _ k => XS.iconst X56.here hx rfl (hb hby at_259) k) ?_
            show own_Ends _ _ _ _ _ _ _ (T56.setTop (mkF m 260 #[.val (.int p0), .val (.int p1), .val (.int p2), .val (.int p3), .val (.int p4), .val (.int p5), .val (.int (4 : Int32)), .val (.int c0_), .val (.int c1_), .val (.int c2_), .val (.int c3_), .val (.int c4_), .val (.ref b46), .val (.int (0 : Int32)), .val (.int (0 : Int32)), .val (.int kv2), .val (.int fv2), .unset] [(.int (1 : Int32))]))
            refine own_step (fun _ k => XS.istore X56.here hx rfl (hb hby at_260) rfl (l' := #[.val (.int p0), .val (.int p1), .val (.int p2), .val (.int p3), .val (.int p4), .val (.int p5), .val (.int (4 : Int32)), .val (.int c0_), .val (.int c1_), .val (.int c2_), .val (.int c3_), .val (.int c4_), .val (.ref b46), .val (.int (0 : Int32)), .val (.int (0 : Int32)), .val (.int (1 : Int32)), .val (.int fv2), .unset]) rfl k) ?_
            show own_Ends _ _ _ _ _ _ _ (T56.setTop (mkF m 262 #[.val (.int p0), .val (.int p1), .val (.int p2), .val (.int p3), .val (.int p4), .val (.int p5), .val (.int (4 : Int32)), .val (.int c0_), .val (.int c1_), .val (.int c2_), .val (.int c3_), .val (.int c4_), .val (.ref b46), .val (.int (0 : Int32)), .val (.int (0 : Int32)), .val (.int (1 : Int32)), .val (.int fv2), .unset] []))
            refine own_step (fun _ k => XS.iload X56.here hx rfl (hb hby at_262) rfl k) ?_
            show own_Ends _ _ _ _ _ _ _ (T56.setTop (mkF m 264 #[.val (.int p0), .val (.int p1), .val (.int p2), .val (.int p3), .val (.int p4), .val (.int p5), .val (.int (4 : Int32)), .val (.int c0_), .val (.int c1_), .val (.int c2_), .val (.int c3_), .val (.int c4_), .val (.ref b46), .val (.int (0 : Int32)), .val (.int (0 : Int32)), .val (.int (1 : Int32)), .val (.int fv2), .unset] [(.int c1_)]))
            refine own_step (fun _ k => XS.istore X56.here hx rfl (hb hby at_264) rfl (l' := #[.val (.int p0), .val (.int p1), .val (.int p2), .val (.int p3), .val (.int p4), .val (.int p5), .val (.int (4 : Int32)), .val (.int c0_), .val (.int c1_), .val (.int c2_), .val (.int c3_), .val (.int c4_), .val (.ref b46), .val (.int (0 : Int32)), .val (.int (0 : Int32)), .val (.int (1 : Int32)), .val (.int c1_), .unset]) rfl k) ?_
            show own_Ends _ _ _ _ _ _ _ (T56.setTop (mkF m 266 #[.val (.int p0), .val (.int p1), .val (.int p2), .val (.int p3), .val (.int p4), .val (.int p5), .val (.int (4 : Int32)), .val (.int c0_), .val (.int c1_), .val (.int c2_), .val (.int c3_), .val (.int c4_), .val (.ref b46), .val (.int (0 : Int32)), .val (.int (0 : Int32)), .val (.int (1 : Int32)), .val (.int c1_), .unset] []))
            exact J266_57 _ N56 _ X56 e56 _ _ (by rw [own_first, if_pos w1]; rfl)
          · refine own_step (fun _ k => XS.ifYes X56.here hx rfl (pc0 := 256) (pc' := 266) rfl (hb hby at_256) rfl ((if0 _ _).trans (feq w1).2) (by decide) (by decide) k) ?_
            show own_Ends _ _ _ _ _ _ _ (T56.setTop (mkF m 266 #[.val (.int p0), .val (.int p1), .val (.int p2), .val (.int p3), .val (.int p4), .val (.int p5), .val (.int (4 : Int32)), .val (.int c0_), .val (.int c1_), .val (.int c2_), .val (.int c3_), .val (.int c4_), .val (.ref b46), .val (.int (0 : Int32)), .val (.int (0 : Int32)), .val (.int kv2), .val (.int fv2), .unset] []))
            exact J266_57 _ N56 _ X56 e56 _ _ (by rw [own_first, if_neg w1]; exact hE2)
        by_cases w2 : (own_ws c2_) = (0 : Int32)
        · refine own_step (fun _ k => XS.ifNo X54.here hx rfl (hb hby at_229) rfl ((if0 _ _).trans (teq w2).2) k) ?_
          show own_Ends _ _ _ _ _ _ _ (T54.setTop (mkF m 232 #[.val (.int p0), .val (.int p1), .val (.int p2), .val (.int p3), .val (.int p4), .val (.int p5), .val (.int (4 : Int32)), .val (.int c0_), .val (.int c1_), .val (.int c2_), .val (.int c3_), .val (.int c4_), .val (.ref b46), .val (.int (0 : Int32)), .val (.int (0 : Int32)), .val (.int kv3), .val (.int fv3), .unset] []))
          refine own_step (fun _ k => XS.iconst X54.here hx rfl (hb hby at_232) k) ?_
          show own_Ends _ _ _ _ _ _ _ (T54.setTop (mkF m 233 #[.val (.int p0), .val (.int p1), .val (.int p2), .val (.int p3), .val (.int p4), .val (.int p5), .val (.int (4 : Int32)), .val (.int c0_), .val (.int c1_), .val (.int c2_), .val (.int c3_), .val (.int c4_), .val (.ref b46), .val (.int (0 : Int32)), .val (.int (0 : Int32)), .val (.int kv3), .val (.int fv3), .unset] [(.int (2 : Int32))]))
          refine own_step (fun _ k => XS.istore X54.here hx rfl (hb hby at_233) rfl (l' := #[.val (.int p0), .val (.int p1), .val (.int p2), .val (.int p3), .val (.int p4), .val (.int p5), .val (.int (4 : Int32)), .val (.int c0_), .val (.int c1_), .val (.int c2_), .val (.int c3_), .val (.int c4_), .val (.ref b46), .val (.int (0 : Int32)), .val (.int (0 : Int32)), .val (.int (2 : Int32)), .val (.int fv3), .unset]) rfl k) ?_
          show own_Ends _ _ _ _ _ _ _ (T54.setTop (mkF m 235 #[.val (.int p0), .val (.int p1), .val (.int p2), .val (.int p3), .val (.int p4), .val (.int p5), .val (.int (4 : Int32)), .val (.int c0_), .val (.int c1_), .val (.int c2_), .val (.int c3_), .val (.int c4_), .val (.ref b46), .val (.int (0 : Int32)), .val (.int (0 : Int32)), .val (.int (2 : Int32)), .val (.int fv3), .unset] []))
          refine own_step (fun _ k => XS.iload X54.here hx rfl (hb hby at_235) rfl k) ?_
          show own_Ends _ _ _ _ _ _ _ (T54.setTop (mkF m 237 #[.val (.int p0), .val (.int p1), .val (.int p2), .val (.int p3), .val (.int p4), .val (.int p5), .val (.int (4 : Int32)), .val (.int c0_), .val (.int c1_), .val (.int c2_), .val (.int c3_), .val (.int c4_), .val (.ref b46), .val (.int (0 : Int32)), .val (.int (0 : Int32)), .val (.int (2 : Int32)), .val (.int fv3), .unset] [(.int c2_)]))
          refine own_step (fun _ k => XS.istore X54.here hx rfl (hb hby at_237) rfl (l' := #[.val (.int p0), .val (.int p1), .val (.int p2), .val (.int p3), .val (.int p4), .val (.int p5), .val (.int (4 : Int32)), .val (.int c0_), .val (.int c1_), .val (.int c2_), .val (.int c3_), .val (.int c4_), .val (.ref b46), .val (.int (0 : Int32)), .val (.int (0 : Int32)), .val (.int (2 : Int32)), .val (.int c2_), .unset]) rfl k) ?_
          show own_Ends _ _ _ _ _ _ _ (T54.setTop (mkF m 239 #[.val (.int p0), .val (.int p1), .val (.int p2), .val (.int p3), .val (.int p4), .val (.int p5), .val (.int (4 : Int32)), .val (.int c0_), .val (.int c1_), .val (.int c2_), .val (.int c3_), .val (.int c4_), .val (.ref b46), .val (.int (0 : Int32)), .val (.int (0 : Int32)), .val (.int (2 : Int32)), .val (.int c2_), .unset] []))
          exact J239_55 _ N54 _ X54 e54 _ _ (by rw [own_first, if_pos w2]; rfl)
        · refine own_step (fun _ k => XS.ifYes X54.here hx rfl (pc0 := 229) (pc' := 239) rfl (hb hby at_229) rfl ((if0 _ _).trans (feq w2).2) (by decide) (by decide) k) ?_
          show own_Ends _ _ _ _ _ _ _ (T54.setTop (mkF m 239 #[.val (.int p0), .val (.int p1), .val (.int p2), .val (.int p3), .val (.int p4), .val (.int p5), .val (.int (4 : Int32)), .val (.int c0_), .val (.int c1_), .val (.int c2_), .val (.int c3_), .val (.int c4_), .val (.ref b46), .val (.int (0 : Int32)), .val (.int (0 : Int32)), .val (.int kv3), .val (.int fv3), .unset] []))
          exact J239_55 _ N54 _ X54 e54 _ _ (by rw [own_first, if_neg w2]; exact hE3)
      by_cases w3 : (own_ws c3_) = (0 : Int32)
      · refine own_step (fun _ k => XS.ifNo X52.here hx rfl (hb hby at_202) rfl ((if0 _ _).trans (teq w3).2) k) ?_
        show own_Ends _ _ _ _ _ _ _ (T52.setTop (mkF m 205 #[.val (.int p0), .val (.int p1), .val (.int p2), .val (.int p3), .val (.int p4), .val (.int p5), .val (.int (4 : Int32)), .val (.int c0_), .val (.int c1_), .val (.int c2_), .val (.int c3_), .val (.int c4_), .val (.ref b46), .val (.int (0 : Int32)), .val (.int (0 : Int32)), .val (.int (-1 : Int32)), .val (.int (0 : Int32)), .unset] []))
        refine own_step (fun _ k => XS.iconst X52.here hx rfl (hb hby at_205) k) ?_
        show own_Ends _ _ _ _ _ _ _ (T52.setTop (mkF m 206 #[.val (.int p0), .val (.int p1), .val (.int p2), .val (.int p3), .val (.int p4), .val (.int p5), .val (.int (4 : Int32)), .val (.int c0_), .val (.int c1_), .val (.int c2_), .val (.int c3_), .val (.int c4_), .val (.ref b46), .val (.int (0 : Int32)), .val (.int (0 : Int32)), .val (.int (-1 : Int32)), .val (.int (0 : Int32)), .unset] [(.int (3 : Int32))]))
        refine own_step (fun _ k => XS.istore X52.here hx rfl (hb hby at_206) rfl (l' := #[.val (.int p0), .val (.int p1), .val (.int p2), .val (.int p3), .val (.int p4), .val (.int p5), .val (.int (4 : Int32)), .val (.int c0_), .val (.int c1_), .val (.int c2_), .val (.int c3_), .val (.int c4_), .val (.ref b46), .val (.int (0 : Int32)), .val (.int (0 : Int32)), .val (.int (3 : Int32)), .val (.int (0 : Int32)), .unset]) rfl k) ?_
        show own_Ends _ _ _ _ _ _ _ (T52.setTop (mkF m 208 #[.val (.int p0), .val (.int p1), .val (.int p2), .val (.int p3), .val (.int p4), .val (.int p5), .val (.int (4 : Int32)), .val (.int c0_), .val (.int c1_), .val (.int c2_), .val (.int c3_), .val (.int c4_), .val (.ref b46), .val (.int (0 : Int32)), .val (.int (0 : Int32)), .val (.int (3 : Int32)), .val (.int (0 : Int32)), .unset] []))
        refine own_step (fun _ k => XS.iload X52.here hx rfl (hb hby at_208) rfl k) ?_
        show own_Ends _ _ _ _ _ _ _ (T52.setTop (mkF m 210 #[.val (.int p0), .val (.int p1), .val (.int p2), .val (.int p3), .val (.int p4), .val (.int p5), .val (.int (4 : Int32)), .val (.int c0_), .val (.int c1_), .val (.int c2_), .val (.int c3_), .val (.int c4_), .val (.ref b46), .val (.int (0 : Int32)), .val (.int (0 : Int32)), .val (.int (3 : Int32)), .val (.int (0 : Int32)), .unset] [(.int c3_)]))
        refine own_step (fun _ k => XS.istore X52.here hx rfl (hb hby at_210) rfl (l' := #[.val (.int p0), .val (.int p1), .val (.int p2), .val (.int p3), .val (.int p4), .val (.int p5), .val (.int (4 : Int32)), .val (.int c0_), .val (.int c1_), .val (.int c2_), .val (.int c3_), .val (.int c4_), .val (.ref b46), .val (.int (0 : Int32)), .val (.int (0 : Int32)), .val (.int (3 : Int32)), .val (.int c3_), .unset]) rfl k) ?_
        show own_Ends _ _ _ _ _ _ _ (T52.setTop (mkF m 212 #[.val (.int p0), .val (.int p1), .val (.int p2), .val (.int p3), .val (.int p4), .val (.int p5), .val (.int (4 : Int32)), .val (.int c0_), .val (.int c1_), .val (.int c2_), .val (.int c3_), .val (.int c4_), .val (.ref b46), .val (.int (0 : Int32)), .val (.int (0 : Int32)), .val (.int (3 : Int32)), .val (.int c3_), .unset] []))
        exact J212_53 _ N52 _ X52 e52 _ _ (by rw [own_first, if_pos w3]; rfl)
      · refine own_step (fun _ k => XS.ifYes X52.here hx rfl (pc0 := 202) (pc' := 212) rfl (hb hby at_202) rfl ((if0 _ _).trans (feq w3).2) (by decide) (by decide) k) ?_
        show own_Ends _ _ _ _ _ _ _ (T52.setTop (mkF m 212 #[.val (.int p0), .val (.int p1), .val (.int p2), .val (.int p3), .val (.int p4), .val (.int p5), .val (.int (4 : Int32)), .val (.int c0_), .val (.int c1_), .val (.int c2_), .val (.int c3_), .val (.int c4_), .val (.ref b46), .val (.int (0 : Int32)), .val (.int (0 : Int32)), .val (.int (-1 : Int32)), .val (.int (0 : Int32)), .unset] []))
        exact J212_53 _ N52 _ X52 e52 _ _ (by rw [own_first, if_neg w3]; rfl)
    refine own_step (fun _ k => XS.icmpNo X50.here hx rfl (hb hby at_109) rfl (flt (by decide)).1 k) ?_
    show own_Ends _ _ _ _ _ _ _ (T50.setTop (mkF m 112 #[.val (.int p0), .val (.int p1), .val (.int p2), .val (.int p3), .val (.int p4), .val (.int p5), .val (.int (4 : Int32)), .val (.int c0_), .val (.int c1_), .val (.int c2_), .val (.int c3_), .val (.int c4_), .val (.ref b46), .unset, .unset, .unset, .unset, .unset] []))
    refine own_step (fun _ k => XS.iload X50.here hx rfl (hb hby at_112) rfl k) ?_
    show own_Ends _ _ _ _ _ _ _ (T50.setTop (mkF m 114 #[.val (.int p0), .val (.int p1), .val (.int p2), .val (.int p3), .val (.int p4), .val (.int p5), .val (.int (4 : Int32)), .val (.int c0_), .val (.int c1_), .val (.int c2_), .val (.int c3_), .val (.int c4_), .val (.ref b46), .unset, .unset, .unset, .unset, .unset] [(.int c0_)]))
    refine own_step (fun _ k => XS.bipush X50.here hx rfl (hb hby at_114) k) ?_
    show own_Ends _ _ _ _ _ _ _ (T50.setTop (mkF m 116 #[.val (.int p0), .val (.int p1), .val (.int p2), .val (.int p3), .val (.int p4), .val (.int p5), .val (.int (4 : Int32)), .val (.int c0_), .val (.int c1_), .val (.int c2_), .val (.int c3_), .val (.int c4_), .val (.ref b46), .unset, .unset, .unset, .unset, .unset] [(.int (-17 : Int32)), (.int c0_)]))
    by_cases k0 : c0_ = (-17 : Int32)
    · refine own_step (fun _ k => XS.icmpNo X50.here hx rfl (hb hby at_116) rfl (teq k0).2 k) ?_
      show own_Ends _ _ _ _ _ _ _ (T50.setTop (mkF m 119 #[.val (.int p0), .val (.int p1), .val (.int p2), .val (.int p3), .val (.int p4), .val (.int p5), .val (.int (4 : Int32)), .val (.int c0_), .val (.int c1_), .val (.int c2_), .val (.int c3_), .val (.int c4_), .val (.ref b46), .unset, .unset, .unset, .unset, .unset] []))
      refine own_step (fun _ k => XS.iload X50.here hx rfl (hb hby at_119) rfl k) ?_
      show own_Ends _ _ _ _ _ _ _ (T50.setTop (mkF m 121 #[.val (.int p0), .val (.int p1), .val (.int p2), .val (.int p3), .val (.int p4), .val (.int p5), .val (.int (4 : Int32)), .val (.int c0_), .val (.int c1_), .val (.int c2_), .val (.int c3_), .val (.int c4_), .val (.ref b46), .unset, .unset, .unset, .unset, .unset] [(.int c1_)]))
      refine own_step (fun _ k => XS.bipush X50.here hx rfl (hb hby at_121) k) ?_
      show own_Ends _ _ _ _ _ _ _ (T50.setTop (mkF m 123 #[.val (.int p0), .val (.int p1), .val (.int p2), .val (.int p3), .val (.int p4), .val (.int p5), .val (.int (4 : Int32)), .val (.int c0_), .val (.int c1_), .val (.int c2_), .val (.int c3_), .val (.int c4_), .val (.ref b46), .unset, .unset, .unset, .unset, .unset] [(.int (-69 : Int32)), (.int c1_)]))
      by_cases k1 : c1_ = (-69 : Int32)
      · refine own_step (fun _ k => XS.icmpNo X50.here hx rfl (hb hby at_123) rfl (teq k1).2 k) ?_
        show own_Ends _ _ _ _ _ _ _ (T50.setTop (mkF m 126 #[.val (.int p0), .val (.int p1), .val (.int p2), .val (.int p3), .val (.int p4), .val (.int p5), .val (.int (4 : Int32)), .val (.int c0_), .val (.int c1_), .val (.int c2_), .val (.int c3_), .val (.int c4_), .val (.ref b46), .unset, .unset, .unset, .unset, .unset] []))
        refine own_step (fun _ k => XS.iload X50.here hx rfl (hb hby at_126) rfl k) ?_
        show own_Ends _ _ _ _ _ _ _ (T50.setTop (mkF m 128 #[.val (.int p0), .val (.int p1), .val (.int p2), .val (.int p3), .val (.int p4), .val (.int p5), .val (.int (4 : Int32)), .val (.int c0_), .val (.int c1_), .val (.int c2_), .val (.int c3_), .val (.int c4_), .val (.ref b46), .unset, .unset, .unset, .unset, .unset] [(.int c2_)]))
        refine own_step (fun _ k => XS.bipush X50.here hx rfl (hb hby at_128) k) ?_
        show own_Ends _ _ _ _ _ _ _ (T50.setTop (mkF m 130 #[.val (.int p0), .val (.int p1), .val (.int p2), .val (.int p3), .val (.int p4), .val (.int p5), .val (.int (4 : Int32)), .val (.int c0_), .val (.int c1_), .val (.int c2_), .val (.int c3_), .val (.int c4_), .val (.ref b46), .unset, .unset, .unset, .unset, .unset] [(.int (-65 : Int32)), (.int c2_)]))
        by_cases k2 : c2_ = (-65 : Int32)
        · refine own_step (fun _ k => XS.icmpNo X50.here hx rfl (hb hby at_130) rfl (teq k2).2 k) ?_
          show own_Ends _ _ _ _ _ _ _ (T50.setTop (mkF m 133 #[.val (.int p0), .val (.int p1), .val (.int p2), .val (.int p3), .val (.int p4), .val (.int p5), .val (.int (4 : Int32)), .val (.int c0_), .val (.int c1_), .val (.int c2_), .val (.int c3_), .val (.int c4_), .val (.ref b46), .unset, .unset, .unset, .unset, .unset] []))
          refine own_step (fun _ k => XS.iconst X50.here hx rfl (hb hby at_133) k) ?_
          show own_Ends _ _ _ _ _ _ _ (T50.setTop (mkF m 134 #[.val (.int p0), .val (.int p1), .val (.int p2), .val (.int p3), .val (.int p4), .val (.int p5), .val (.int (4 : Int32)), .val (.int c0_), .val (.int c1_), .val (.int c2_), .val (.int c3_), .val (.int c4_), .val (.ref b46), .unset, .unset, .unset, .unset, .unset] [(.int (1 : Int32))]))
          refine own_step (fun _ k => XS.goto X50.here hx rfl (pc0 := 134) (pc' := 138) rfl (hb hby at_134) (by decide) (by decide) k) ?_
          show own_Ends _ _ _ _ _ _ _ (T50.setTop (mkF m 138 #[.val (.int p0), .val (.int p1), .val (.int p2), .val (.int p3), .val (.int p4), .val (.int p5), .val (.int (4 : Int32)), .val (.int c0_), .val (.int c1_), .val (.int c2_), .val (.int c3_), .val (.int c4_), .val (.ref b46), .unset, .unset, .unset, .unset, .unset] [(.int (1 : Int32))]))
          have hst : own_start [c0_, c1_, c2_, c3_] = 3 := by simp [own_start, k0, k1, k2]
          refine own_step (fun _ k => XS.istore X50.here hx rfl (hb hby at_138) rfl (l' := #[.val (.int p0), .val (.int p1), .val (.int p2), .val (.int p3), .val (.int p4), .val (.int p5), .val (.int (4 : Int32)), .val (.int c0_), .val (.int c1_), .val (.int c2_), .val (.int c3_), .val (.int c4_), .val (.ref b46), .val (.int (1 : Int32)), .unset, .unset, .unset, .unset]) rfl k) ?_
          show own_Ends _ _ _ _ _ _ _ (T50.setTop (mkF m 140 #[.val (.int p0), .val (.int p1), .val (.int p2), .val (.int p3), .val (.int p4), .val (.int p5), .val (.int (4 : Int32)), .val (.int c0_), .val (.int c1_), .val (.int c2_), .val (.int c3_), .val (.int c4_), .val (.ref b46), .val (.int (1 : Int32)), .unset, .unset, .unset, .unset] []))
          refine own_step (fun _ k => XS.iload X50.here hx rfl (hb hby at_140) rfl k) ?_
          show own_Ends _ _ _ _ _ _ _ (T50.setTop (mkF m 142 #[.val (.int p0), .val (.int p1), .val (.int p2), .val (.int p3), .val (.int p4), .val (.int p5), .val (.int (4 : Int32)), .val (.int c0_), .val (.int c1_), .val (.int c2_), .val (.int c3_), .val (.int c4_), .val (.ref b46), .val (.int (1 : Int32)), .unset, .unset, .unset, .unset] [(.int (1 : Int32))]))
          refine own_step (fun _ k => XS.ifNo X50.here hx rfl (hb hby at_142) rfl ((if0 _ _).trans (feq (by decide)).1) k) ?_
          show own_Ends _ _ _ _ _ _ _ (T50.setTop (mkF m 145 #[.val (.int p0), .val (.int p1), .val (.int p2), .val (.int p3), .val (.int p4), .val (.int p5), .val (.int (4 : Int32)), .val (.int c0_), .val (.int c1_), .val (.int c2_), .val (.int c3_), .val (.int c4_), .val (.ref b46), .val (.int (1 : Int32)), .unset, .unset, .unset, .unset] []))
          refine own_step (fun _ k => XS.iconst X50.here hx rfl (hb hby at_145) k) ?_
          show own_Ends _ _ _ _ _ _ _ (T50.setTop (mkF m 146 #[.val (.int p0), .val (.int p1), .val (.int p2), .val (.int p3), .val (.int p4), .val (.int p5), .val (.int (4 : Int32)), .val (.int c0_), .val (.int c1_), .val (.int c2_), .val (.int c3_), .val (.int c4_), .val (.ref b46), .val (.int (1 : Int32)), .unset, .unset, .unset, .unset] [(.int (3 : Int32))]))
          refine own_step (fun _ k => XS.goto X50.here hx rfl (pc0 := 146) (pc' := 150) rfl (hb hby at_146) (by decide) (by decide) k) ?_
          show own_Ends _ _ _ _ _ _ _ (T50.setTop (mkF m 150 #[.val (.int p0), .val (.int p1), .val (.int p2), .val (.int p3), .val (.int p4), .val (.int p5), .val (.int (4 : Int32)), .val (.int c0_), .val (.int c1_), .val (.int c2_), .val (.int c3_), .val (.int c4_), .val (.ref b46), .val (.int (1 : Int32)), .unset, .unset, .unset, .unset] [(.int (3 : Int32))]))
          refine own_step (fun _ k => XS.istore X50.here hx rfl (hb hby at_150) rfl (l' := #[.val (.int p0), .val (.int p1), .val (.int p2), .val (.int p3), .val (.int p4), .val (.int p5), .val (.int (4 : Int32)), .val (.int c0_), .val (.int c1_), .val (.int c2_), .val (.int c3_), .val (.int c4_), .val (.ref b46), .val (.int (1 : Int32)), .val (.int (3 : Int32)), .unset, .unset, .unset]) rfl k) ?_
          show own_Ends _ _ _ _ _ _ _ (T50.setTop (mkF m 152 #[.val (.int p0), .val (.int p1), .val (.int p2), .val (.int p3), .val (.int p4), .val (.int p5), .val (.int (4 : Int32)), .val (.int c0_), .val (.int c1_), .val (.int c2_), .val (.int c3_), .val (.int c4_), .val (.ref b46), .val (.int (1 : Int32)), .val (.int (3 : Int32)), .unset, .unset, .unset] []))
          refine own_step (fun _ k => XS.iconst X50.here hx rfl (hb hby at_152) k) ?_
          show own_Ends _ _ _ _ _ _ _ (T50.setTop (mkF m 153 #[.val (.int p0), .val (.int p1), .val (.int p2), .val (.int p3), .val (.int p4), .val (.int p5), .val (.int (4 : Int32)), .val (.int c0_), .val (.int c1_), .val (.int c2_), .val (.int c3_), .val (.int c4_), .val (.ref b46), .val (.int (1 : Int32)), .val (.int (3 : Int32)), .unset, .unset, .unset] [(.int (-1 : Int32))]))
          refine own_step (fun _ k => XS.istore X50.here hx rfl (hb hby at_153) rfl (l' := #[.val (.int p0), .val (.int p1), .val (.int p2), .val (.int p3), .val (.int p4), .val (.int p5), .val (.int (4 : Int32)), .val (.int c0_), .val (.int c1_), .val (.int c2_), .val (.int c3_), .val (.int c4_), .val (.ref b46), .val (.int (1 : Int32)), .val (.int (3 : Int32)), .val (.int (-1 : Int32)), .unset, .unset]) rfl k) ?_
          show own_Ends _ _ _ _ _ _ _ (T50.setTop (mkF m 155 #[.val (.int p0), .val (.int p1), .val (.int p2), .val (.int p3), .val (.int p4), .val (.int p5), .val (.int (4 : Int32)), .val (.int c0_), .val (.int c1_), .val (.int c2_), .val (.int c3_), .val (.int c4_), .val (.ref b46), .val (.int (1 : Int32)), .val (.int (3 : Int32)), .val (.int (-1 : Int32)), .unset, .unset] []))
          refine own_step (fun _ k => XS.iconst X50.here hx rfl (hb hby at_155) k) ?_
          show own_Ends _ _ _ _ _ _ _ (T50.setTop (mkF m 156 #[.val (.int p0), .val (.int p1), .val (.int p2), .val (.int p3), .val (.int p4), .val (.int p5), .val (.int (4 : Int32)), .val (.int c0_), .val (.int c1_), .val (.int c2_), .val (.int c3_), .val (.int c4_), .val (.ref b46), .val (.int (1 : Int32)), .val (.int (3 : Int32)), .val (.int (-1 : Int32)), .unset, .unset] [(.int (0 : Int32))]))
          refine own_step (fun _ k => XS.istore X50.here hx rfl (hb hby at_156) rfl (l' := #[.val (.int p0), .val (.int p1), .val (.int p2), .val (.int p3), .val (.int p4), .val (.int p5), .val (.int (4 : Int32)), .val (.int c0_), .val (.int c1_), .val (.int c2_), .val (.int c3_), .val (.int c4_), .val (.ref b46), .val (.int (1 : Int32)), .val (.int (3 : Int32)), .val (.int (-1 : Int32)), .val (.int (0 : Int32)), .unset]) rfl k) ?_
          show own_Ends _ _ _ _ _ _ _ (T50.setTop (mkF m 158 #[.val (.int p0), .val (.int p1), .val (.int p2), .val (.int p3), .val (.int p4), .val (.int p5), .val (.int (4 : Int32)), .val (.int c0_), .val (.int c1_), .val (.int c2_), .val (.int c3_), .val (.int c4_), .val (.ref b46), .val (.int (1 : Int32)), .val (.int (3 : Int32)), .val (.int (-1 : Int32)), .val (.int (0 : Int32)), .unset] []))
          refine own_step (fun _ k => XS.iload X50.here hx rfl (hb hby at_158) rfl k) ?_
          show own_Ends _ _ _ _ _ _ _ (T50.setTop (mkF m 160 #[.val (.int p0), .val (.int p1), .val (.int p2), .val (.int p3), .val (.int p4), .val (.int p5), .val (.int (4 : Int32)), .val (.int c0_), .val (.int c1_), .val (.int c2_), .val (.int c3_), .val (.int c4_), .val (.ref b46), .val (.int (1 : Int32)), .val (.int (3 : Int32)), .val (.int (-1 : Int32)), .val (.int (0 : Int32)), .unset] [(.int (4 : Int32))]))
          refine own_step (fun _ k => XS.iconst X50.here hx rfl (hb hby at_160) k) ?_
          show own_Ends _ _ _ _ _ _ _ (T50.setTop (mkF m 161 #[.val (.int p0), .val (.int p1), .val (.int p2), .val (.int p3), .val (.int p4), .val (.int p5), .val (.int (4 : Int32)), .val (.int c0_), .val (.int c1_), .val (.int c2_), .val (.int c3_), .val (.int c4_), .val (.ref b46), .val (.int (1 : Int32)), .val (.int (3 : Int32)), .val (.int (-1 : Int32)), .val (.int (0 : Int32)), .unset] [(.int (4 : Int32)), (.int (4 : Int32))]))
          refine own_step (fun _ k => XS.icmpYes X50.here hx rfl (pc0 := 161) (pc' := 185) rfl (hb hby at_161) rfl (flt (by decide)).2.2.2 (by decide) (by decide) k) ?_
          show own_Ends _ _ _ _ _ _ _ (T50.setTop (mkF m 185 #[.val (.int p0), .val (.int p1), .val (.int p2), .val (.int p3), .val (.int p4), .val (.int p5), .val (.int (4 : Int32)), .val (.int c0_), .val (.int c1_), .val (.int c2_), .val (.int c3_), .val (.int c4_), .val (.ref b46), .val (.int (1 : Int32)), .val (.int (3 : Int32)), .val (.int (-1 : Int32)), .val (.int (0 : Int32)), .unset] []))
          refine own_step (fun _ k => XS.iload X50.here hx rfl (hb hby at_185) rfl k) ?_
          show own_Ends _ _ _ _ _ _ _ (T50.setTop (mkF m 187 #[.val (.int p0), .val (.int p1), .val (.int p2), .val (.int p3), .val (.int p4), .val (.int p5), .val (.int (4 : Int32)), .val (.int c0_), .val (.int c1_), .val (.int c2_), .val (.int c3_), .val (.int c4_), .val (.ref b46), .val (.int (1 : Int32)), .val (.int (3 : Int32)), .val (.int (-1 : Int32)), .val (.int (0 : Int32)), .unset] [(.int (4 : Int32))]))
          refine own_step (fun _ k => XS.iconst X50.here hx rfl (hb hby at_187) k) ?_
          show own_Ends _ _ _ _ _ _ _ (T50.setTop (mkF m 188 #[.val (.int p0), .val (.int p1), .val (.int p2), .val (.int p3), .val (.int p4), .val (.int p5), .val (.int (4 : Int32)), .val (.int c0_), .val (.int c1_), .val (.int c2_), .val (.int c3_), .val (.int c4_), .val (.ref b46), .val (.int (1 : Int32)), .val (.int (3 : Int32)), .val (.int (-1 : Int32)), .val (.int (0 : Int32)), .unset] [(.int (3 : Int32)), (.int (4 : Int32))]))
          refine own_step (fun _ k => XS.icmpNo X50.here hx rfl (hb hby at_188) rfl (tlt (by decide)).2.2.2 k) ?_
          show own_Ends _ _ _ _ _ _ _ (T50.setTop (mkF m 191 #[.val (.int p0), .val (.int p1), .val (.int p2), .val (.int p3), .val (.int p4), .val (.int p5), .val (.int (4 : Int32)), .val (.int c0_), .val (.int c1_), .val (.int c2_), .val (.int c3_), .val (.int c4_), .val (.ref b46), .val (.int (1 : Int32)), .val (.int (3 : Int32)), .val (.int (-1 : Int32)), .val (.int (0 : Int32)), .unset] []))
          refine own_step (fun _ k => XS.iload X50.here hx rfl (hb hby at_191) rfl k) ?_
          show own_Ends _ _ _ _ _ _ _ (T50.setTop (mkF m 193 #[.val (.int p0), .val (.int p1), .val (.int p2), .val (.int p3), .val (.int p4), .val (.int p5), .val (.int (4 : Int32)), .val (.int c0_), .val (.int c1_), .val (.int c2_), .val (.int c3_), .val (.int c4_), .val (.ref b46), .val (.int (1 : Int32)), .val (.int (3 : Int32)), .val (.int (-1 : Int32)), .val (.int (0 : Int32)), .unset] [(.int (3 : Int32))]))
          refine own_step (fun _ k => XS.iconst X50.here hx rfl (hb hby at_193) k) ?_
          show own_Ends _ _ _ _ _ _ _ (T50.setTop (mkF m 194 #[.val (.int p0), .val (.int p1), .val (.int p2), .val (.int p3), .val (.int p4), .val (.int p5), .val (.int (4 : Int32)), .val (.int c0_), .val (.int c1_), .val (.int c2_), .val (.int c3_), .val (.int c4_), .val (.ref b46), .val (.int (1 : Int32)), .val (.int (3 : Int32)), .val (.int (-1 : Int32)), .val (.int (0 : Int32)), .unset] [(.int (3 : Int32)), (.int (3 : Int32))]))
          refine own_step (fun _ k => XS.icmpNo X50.here hx rfl (hb hby at_194) rfl (flt (by decide)).2.2.1 k) ?_
          show own_Ends _ _ _ _ _ _ _ (T50.setTop (mkF m 197 #[.val (.int p0), .val (.int p1), .val (.int p2), .val (.int p3), .val (.int p4), .val (.int p5), .val (.int (4 : Int32)), .val (.int c0_), .val (.int c1_), .val (.int c2_), .val (.int c3_), .val (.int c4_), .val (.ref b46), .val (.int (1 : Int32)), .val (.int (3 : Int32)), .val (.int (-1 : Int32)), .val (.int (0 : Int32)), .unset] []))
          refine own_step (fun _ k => XS.iload X50.here hx rfl (hb hby at_197) rfl k) ?_
          show own_Ends _ _ _ _ _ _ _ (T50.setTop (mkF m 199 #[.val (.int p0), .val (.int p1), .val (.int p2), .val (.int p3), .val (.int p4), .val (.int p5), .val (.int (4 : Int32)), .val (.int c0_), .val (.int c1_), .val (.int c2_), .val (.int c3_), .val (.int c4_), .val (.ref b46), .val (.int (1 : Int32)), .val (.int (3 : Int32)), .val (.int (-1 : Int32)), .val (.int (0 : Int32)), .unset] [(.int c3_)]))
          obtain ⟨_, _, ⟨T63, L63, k63, n63⟩, -, X63, ⟨Lc63, hQ63, l63, y63, z63⟩, st63⟩ := Jvm.LawKit.callS X50 hx (y := (⟨"com/example/parley/parley/io/CompetitionXmlLooksLikeXmlPinLaw", "ws", "(B)Z"⟩ : MethodName)) hown (mvT hZ (hw _ (List.mem_of_getElem? (i := 10) rfl))) (mvT hZ (hw _ (List.mem_of_getElem? (i := 11) rfl))) (mvT hZ (hw _ (List.mem_of_getElem? (i := 3) rfl))) (mvT hZ (hw _ (List.mem_of_getElem? (i := 12) rfl))) (by decide) (backOf (W := 0) (own_rm2 l Z a0 hw [] c3_  h50 n0 Z50 ) hZ (hw _ (List.mem_of_getElem? (i := 12) rfl)) (hw _ (List.mem_of_getElem? (i := 3) rfl)) (by decide) (by decide)) (g := (mkF m 199 #[.val (.int p0), .val (.int p1), .val (.int p2), .val (.int p3), .val (.int p4), .val (.int p5), .val (.int (4 : Int32)), .val (.int c0_), .val (.int c1_), .val (.int c2_), .val (.int c3_), .val (.int c4_), .val (.ref b46), .val (.int (1 : Int32)), .val (.int (3 : Int32)), .val (.int (-1 : Int32)), .val (.int (0 : Int32)), .unset] [(.int c3_)])) rfl (by rw [hml]; rfl) (argsL := [(.int c3_)]) (rest := []) (lenOf own_pd2 rfl) rfl (by show 2 * 0 + _ ≤ _; exact Nat.le_of_eq rfl) (hb hby at_199) (fun _ _ => ⟨rfl, e50, (by decide : 1 + 0 ≤ _), (by decide : 4 + 0 ≤ _)⟩)
          dsimp only [Pt.U, Pt.locs, Pt.cells, Pt.slots] at X63 l63 y63 z63 st63 hQ63
          subst l63 y63 z63
          obtain ⟨rfl, Nq63, e63⟩ := hQ63
          have N63 := Fr.app N50 Nq63
          refine own_step (fun _ k => st63 _ k) ?_
          show own_Ends _ _ _ _ _ _ _ (T63.setTop (mkF m 202 #[.val (.int p0), .val (.int p1), .val (.int p2), .val (.int p3), .val (.int p4), .val (.int p5), .val (.int (4 : Int32)), .val (.int c0_), .val (.int c1_), .val (.int c2_), .val (.int c3_), .val (.int c4_), .val (.ref b46), .val (.int (1 : Int32)), .val (.int (3 : Int32)), .val (.int (-1 : Int32)), .val (.int (0 : Int32)), .unset] [(.int (own_ws c3_))]))
          have J212_64 : ∀ (lJ64 : List Loc) (NJ64 : Fr n0 lJ64) (TJ64 : State) (XJ64 : Stand p l e room_1 s m #[(.int p0), (.int p1), (.int p2), (.int p3), (.int p4), (.int p5)] below meth c TJ64 lJ64 1 4) (eJ64 : TJ64.heap = h50) (kv3 fv3 : Int32) (hE3 : own_res kv3 fv3 = own_first [c3_]), own_Ends p e below s 1 5 (own_Q0 Z p0 p1 p2 p3 p4 p5  h0 n0) (TJ64.setTop (mkF m 212 #[.val (.int p0), .val (.int p1), .val (.int p2), .val (.int p3), .val (.int p4), .val (.int p5), .val (.int (4 : Int32)), .val (.int c0_), .val (.int c1_), .val (.int c2_), .val (.int c3_), .val (.int c4_), .val (.ref b46), .val (.int (1 : Int32)), .val (.int (3 : Int32)), .val (.int kv3), .val (.int fv3), .unset] [])) := by
            intro lJ64 NJ64 TJ64 XJ64 eJ64 kv3 fv3 hE3
            show own_Ends _ _ _ _ _ _ _ (TJ64.setTop (mkF m 212 #[.val (.int p0), .val (.int p1), .val (.int p2), .val (.int p3), .val (.int p4), .val (.int p5), .val (.int (4 : Int32)), .val (.int c0_), .val (.int c1_), .val (.int c2_), .val (.int c3_), .val (.int c4_), .val (.ref b46), .val (.int (1 : Int32)), .val (.int (3 : Int32)), .val (.int kv3), .val (.int fv3), .unset] []))
            refine own_step (fun _ k => XS.iload XJ64.here hx rfl (hb hby at_212) rfl k) ?_
            show own_Ends _ _ _ _ _ _ _ (TJ64.setTop (mkF m 214 #[.val (.int p0), .val (.int p1), .val (.int p2), .val (.int p3), .val (.int p4), .val (.int p5), .val (.int (4 : Int32)), .val (.int c0_), .val (.int c1_), .val (.int c2_), .val (.int c3_), .val (.int c4_), .val (.ref b46), .val (.int (1 : Int32)), .val (.int (3 : Int32)), .val (.int kv3), .val (.int fv3), .unset] [(.int (4 : Int32))]))
            refine own_step (fun _ k => XS.iconst XJ64.here hx rfl (hb hby at_214) k) ?_
            show own_Ends _ _ _ _ _ _ _ (TJ64.setTop (mkF m 215 #[.val (.int p0), .val (.int p1), .val (.int p2), .val (.int p3), .val (.int p4), .val (.int p5), .val (.int (4 : Int32)), .val (.int c0_), .val (.int c1_), .val (.int c2_), .val (.int c3_), .val (.int c4_), .val (.ref b46), .val (.int (1 : Int32)), .val (.int (3 : Int32)), .val (.int kv3), .val (.int fv3), .unset] [(.int (2 : Int32)), (.int (4 : Int32))]))
            refine own_step (fun _ k => XS.icmpNo XJ64.here hx rfl (hb hby at_215) rfl (tlt (by decide)).2.2.2 k) ?_
            show own_Ends _ _ _ _ _ _ _ (TJ64.setTop (mkF m 218 #[.val (.int p0), .val (.int p1), .val (.int p2), .val (.int p3), .val (.int p4), .val (.int p5), .val (.int (4 : Int32)), .val (.int c0_), .val (.int c1_), .val (.int c2_), .val (.int c3_), .val (.int c4_), .val (.ref b46), .val (.int (1 : Int32)), .val (.int (3 : Int32)), .val (.int kv3), .val (.int fv3), .unset] []))
            refine own_step (fun _ k => XS.iload XJ64.here hx rfl (hb hby at_218) rfl k) ?_
            show own_Ends _ _ _ _ _ _ _ (TJ64.setTop (mkF m 220 #[.val (.int p0), .val (.int p1), .val (.int p2), .val (.int p3), .val (.int p4), .val (.int p5), .val (.int (4 : Int32)), .val (.int c0_), .val (.int c1_), .val (.int c2_), .val (.int c3_), .val (.int c4_), .val (.ref b46), .val (.int (1 : Int32)), .val (.int (3 : Int32)), .val (.int kv3), .val (.int fv3), .unset] [(.int (3 : Int32))]))
            refine own_step (fun _ k => XS.iconst XJ64.here hx rfl (hb hby at_220) k) ?_
            show own_Ends _ _ _ _ _ _ _ (TJ64.setTop (mkF m 221 #[.val (.int p0), .val (.int p1), .val (.int p2), .val (.int p3), .val (.int p4), .val (.int p5), .val (.int (4 : Int32)), .val (.int c0_), .val (.int c1_), .val (.int c2_), .val (.int c3_), .val (.int c4_), .val (.ref b46), .val (.int (1 : Int32)), .val (.int (3 : Int32)), .val (.int kv3), .val (.int fv3), .unset] [(.int (2 : Int32)), (.int (3 : Int32))]))
            refine own_step (fun _ k => XS.icmpYes XJ64.here hx rfl (pc0 := 221) (pc' := 239) rfl (hb hby at_221) rfl (tlt (by decide)).2.2.1 (by decide) (by decide) k) ?_
            show own_Ends _ _ _ _ _ _ _ (TJ64.setTop (mkF m 239 #[.val (.int p0), .val (.int p1), .val (.int p2), .val (.int p3), .val (.int p4), .val (.int p5), .val (.int (4 : Int32)), .val (.int c0_), .val (.int c1_), .val (.int c2_), .val (.int c3_), .val (.int c4_), .val (.ref b46), .val (.int (1 : Int32)), .val (.int (3 : Int32)), .val (.int kv3), .val (.int fv3), .unset] []))
            refine own_step (fun _ k => XS.iload XJ64.here hx rfl (hb hby at_239) rfl k) ?_
            show own_Ends _ _ _ _ _ _ _ (TJ64.setTop (mkF m 241 #[.val (.int p0), .val (.int p1), .val (.int p2), .val (.int p3), .val (.int p4), .val (.int p5), .val (.int (4 : Int32)), .val (.int c0_), .val (.int c1_), .val (.int c2_), .val (.int c3_), .val (.int c4_), .val (.ref b46), .val (.int (1 : Int32)), .val (.int (3 : Int32)), .val (.int kv3), .val (.int fv3), .unset] [(.int (4 : Int32))]))
            refine own_step (fun _ k => XS.iconst XJ64.here hx rfl (hb hby at_241) k) ?_
            show own_Ends _ _ _ _ _ _ _ (TJ64.setTop (mkF m 242 #[.val (.int p0), .val (.int p1), .val (.int p2), .val (.int p3), .val (.int p4), .val (.int p5), .val (.int (4 : Int32)), .val (.int c0_), .val (.int c1_), .val (.int c2_), .val (.int c3_), .val (.int c4_), .val (.ref b46), .val (.int (1 : Int32)), .val (.int (3 : Int32)), .val (.int kv3), .val (.int fv3), .unset] [(.int (1 : Int32)), (.int (4 : Int32))]))
            refine own_step (fun _ k => XS.icmpNo XJ64.here hx rfl (hb hby at_242) rfl (tlt (by decide)).2.2.2 k) ?_
            show own_Ends _ _ _ _ _ _ _ (TJ64.setTop (mkF m 245 #[.val (.int p0), .val (.int p1), .val (.int p2), .val (.int p3), .val (.int p4), .val (.int p5), .val (.int (4 : Int32)), .val (.int c0_), .val (.int c1_), .val (.int c2_), .val (.int c3_), .val (.int c4_), .val (.ref b46), .val (.int (1 : Int32)), .val (.int (3 : Int32)), .val (.int kv3), .val (.int fv3), .unset] []))
            refine own_step (fun _ k => XS.iload XJ64.here hx rfl (hb hby at_245) rfl k) ?_
            show own_Ends _ _ _ _ _ _ _ (TJ64.setTop (mkF m 247 #[.val (.int p0), .val (.int p1), .val (.int p2), .val (.int p3), .val (.int p4), .val (.int p5), .val (.int (4 : Int32)), .val (.int c0_), .val (.int c1_), .val (.int c2_), .val (.int c3_), .val (.int c4_), .val (.ref b46), .val (.int (1 : Int32)), .val (.int (3 : Int32)), .val (.int kv3), .val (.int fv3), .unset] [(.int (3 : Int32))]))
            refine own_step (fun _ k => XS.iconst XJ64.here hx rfl (hb hby at_247) k) ?_
            show own_Ends _ _ _ _ _ _ _ (TJ64.setTop (mkF m 248 #[.val (.int p0), .val (.int p1), .val (.int p2), .val (.int p3), .val (.int p4), .val (.int p5), .val (.int (4 : Int32)), .val (.int c0_), .val (.int c1_), .val (.int c2_), .val (.int c3_), .val (.int c4_), .val (.ref b46), .val (.int (1 : Int32)), .val (.int (3 : Int32)), .val (.int kv3), .val (.int fv3), .unset] [(.int (1 : Int32)), (.int (3 : Int32))]))
            refine own_step (fun _ k => XS.icmpYes XJ64.here hx rfl (pc0 := 248) (pc' := 266) rfl (hb hby at_248) rfl (tlt (by decide)).2.2.1 (by decide) (by decide) k) ?_
            show own_Ends _ _ _ _ _ _ _ (TJ64.setTop (mkF m 266 #[.val (.int p0), .val (.int p1), .val (.int p2), .val (.int p3), .val (.int p4), .val (.int p5), .val (.int (4 : Int32)), .val (.int c0_), .val (.int c1_), .val (.int c2_), .val (.int c3_), .val (.int c4_), .val (.ref b46), .val (.int (1 : Int32)), .val (.int (3 : Int32)), .val (.int kv3), .val (.int fv3), .unset] []))
            refine own_step (fun _ k => XS.iload XJ64.here hx rfl (hb hby at_266) rfl k) ?_
            show own_Ends _ _ _ _ _ _ _ (TJ64.setTop (mkF m 268 #[.val (.int p0), .val (.int p1), .val (.int p2), .val (.int p3), .val (.int p4), .val (.int p5), .val (.int (4 : Int32)), .val (.int c0_), .val (.int c1_), .val (.int c2_), .val (.int c3_), .val (.int c4_), .val (.ref b46), .val (.int (1 : Int32)), .val (.int (3 : Int32)), .val (.int kv3), .val (.int fv3), .unset] [(.int (4 : Int32))]))
            refine own_step (fun _ k => XS.ifNo XJ64.here hx rfl (hb hby at_268) rfl ((if0 _ _).trans (tlt (by decide)).2.2.2) k) ?_
            show own_Ends _ _ _ _ _ _ _ (TJ64.setTop (mkF m 271 #[.val (.int p0), .val (.int p1), .val (.int p2), .val (.int p3), .val (.int p4), .val (.int p5), .val (.int (4 : Int32)), .val (.int c0_), .val (.int c1_), .val (.int c2_), .val (.int c3_), .val (.int c4_), .val (.ref b46), .val (.int (1 : Int32)), .val (.int (3 : Int32)), .val (.int kv3), .val (.int fv3), .unset] []))
            refine own_step (fun _ k => XS.iload XJ64.here hx rfl (hb hby at_271) rfl k) ?_
            show own_Ends _ _ _ _ _ _ _ (TJ64.setTop (mkF m 273 #[.val (.int p0), .val (.int p1), .val (.int p2), .val (.int p3), .val (.int p4), .val (.int p5), .val (.int (4 : Int32)), .val (.int c0_), .val (.int c1_), .val (.int c2_), .val (.int c3_), .val (.int c4_), .val (.ref b46), .val (.int (1 : Int32)), .val (.int (3 : Int32)), .val (.int kv3), .val (.int fv3), .unset] [(.int (3 : Int32))]))
            refine own_step (fun _ k => XS.ifYes XJ64.here hx rfl (pc0 := 273) (pc' := 291) rfl (hb hby at_273) rfl ((if0 _ _).trans (tlt (by decide)).2.2.1) (by decide) (by decide) k) ?_
            show own_Ends _ _ _ _ _ _ _ (TJ64.setTop (mkF m 291 #[.val (.int p0), .val (.int p1), .val (.int p2), .val (.int p3), .val (.int p4), .val (.int p5), .val (.int (4 : Int32)), .val (.int c0_), .val (.int c1_), .val (.int c2_), .val (.int c3_), .val (.int c4_), .val (.ref b46), .val (.int (1 : Int32)), .val (.int (3 : Int32)), .val (.int kv3), .val (.int fv3), .unset] []))
            have J308_65 : ∀ (ex : Int32) (hex : ex = own_res kv3 fv3), own_Ends p e below s 1 5 (own_Q0 Z p0 p1 p2 p3 p4 p5  h0 n0) (TJ64.setTop (mkF m 308 #[.val (.int p0), .val (.int p1), .val (.int p2), .val (.int p3), .val (.int p4), .val (.int p5), .val (.int (4 : Int32)), .val (.int c0_), .val (.int c1_), .val (.int c2_), .val (.int c3_), .val (.int c4_), .val (.ref b46), .val (.int (1 : Int32)), .val (.int (3 : Int32)), .val (.int kv3), .val (.int fv3), .unset] [(.int ex)])) := by
              intro ex hex
              show own_Ends _ _ _ _ _ _ _ (TJ64.setTop (mkF m 308 #[.val (.int p0), .val (.int p1), .val (.int p2), .val (.int p3), .val (.int p4), .val (.int p5), .val (.int (4 : Int32)), .val (.int c0_), .val (.int c1_), .val (.int c2_), .val (.int c3_), .val (.int c4_), .val (.ref b46), .val (.int (1 : Int32)), .val (.int (3 : Int32)), .val (.int kv3), .val (.int fv3), .unset] [(.int ex)]))
              refine own_step (fun _ k => XS.istore XJ64.here hx rfl (hb hby at_308) rfl (l' := #[.val (.int p0), .val (.int p1), .val (.int p2), .val (.int p3), .val (.int p4), .val (.int p5), .val (.int (4 : Int32)), .val (.int c0_), .val (.int c1_), .val (.int c2_), .val (.int c3_), .val (.int c4_), .val (.ref b46), .val (.int (1 : Int32)), .val (.int (3 : Int32)), .val (.int kv3), .val (.int fv3), .val (.int ex)]) rfl k) ?_
              show own_Ends _ _ _ _ _ _ _ (TJ64.setTop (mkF m 310 #[.val (.int p0), .val (.int p1), .val (.int p2), .val (.int p3), .val (.int p4), .val (.int p5), .val (.int (4 : Int32)), .val (.int c0_), .val (.int c1_), .val (.int c2_), .val (.int c3_), .val (.int c4_), .val (.ref b46), .val (.int (1 : Int32)), .val (.int (3 : Int32)), .val (.int kv3), .val (.int fv3), .val (.int ex)] []))
              refine own_step (fun _ k => XS.aload XJ64.here hx rfl (hb hby at_310) rfl rfl k) ?_
              show own_Ends _ _ _ _ _ _ _ (TJ64.setTop (mkF m 312 #[.val (.int p0), .val (.int p1), .val (.int p2), .val (.int p3), .val (.int p4), .val (.int p5), .val (.int (4 : Int32)), .val (.int c0_), .val (.int c1_), .val (.int c2_), .val (.int c3_), .val (.int c4_), .val (.ref b46), .val (.int (1 : Int32)), .val (.int (3 : Int32)), .val (.int kv3), .val (.int fv3), .val (.int ex)] [(.ref b46)]))
              obtain ⟨cl66, Ar66, qq66, S66, M66, H66, G66⟩ := id V50_b46
              have hbb : ∀ b ∈ ([c0_, c1_, c2_, c3_] : List Int32), nar .byte b = b := by
                intro b hbl
                simp only [List.mem_cons, List.not_mem_nil, or_false] at hbl
                rcases hbl with rfl | rfl | rfl | rfl
                · exact nb0
                · exact nb1
                · exact nb2
                · exact nb3
              obtain ⟨_, _, ⟨T67, L67, k67, n67⟩, -, X67, ⟨Lc67, hQ67, l67, y67, z67⟩, st67⟩ := Jvm.LawKit.callS XJ64 hx (y := (⟨"com/example/parley/parley/io/CompetitionXml", "looksLikeXml", "([B)Z"⟩ : MethodName)) hown (mvT hZ (hw _ (List.mem_of_getElem? (i := 6) rfl))) (mvT hZ (hw _ (List.mem_of_getElem? (i := 7) rfl))) (mvT hZ (hw _ (List.mem_of_getElem? (i := 8) rfl))) (mvT hZ (hw _ (List.mem_of_getElem? (i := 9) rfl))) (by decide) (backOf (W := 0) (own_rm3 l Z a0 hw [] b46 cl66 [c0_, c1_, c2_, c3_] h50 n0 Z50 Ar66 (S66.trans (show ((4 : Int32)).toNatClampNeg = 4 by decide)) (by simp) (own_hat (bs := [c0_, c1_, c2_, c3_]) H66 (S66.trans (show ((4 : Int32)).toNatClampNeg = 4 by decide))) hbb) hZ (hw _ (List.mem_of_getElem? (i := 9) rfl)) (hw _ (List.mem_of_getElem? (i := 8) rfl)) (by decide) (by decide)) (g := (mkF m 312 #[.val (.int p0), .val (.int p1), .val (.int p2), .val (.int p3), .val (.int p4), .val (.int p5), .val (.int (4 : Int32)), .val (.int c0_), .val (.int c1_), .val (.int c2_), .val (.int c3_), .val (.int c4_), .val (.ref b46), .val (.int (1 : Int32)), .val (.int (3 : Int32)), .val (.int kv3), .val (.int fv3), .val (.int ex)] [(.ref b46)])) rfl (by rw [hml]; rfl) (argsL := [(.ref b46)]) (rest := []) (lenOf own_pd1 rfl) rfl (by show 2 * 0 + _ ≤ _; exact Nat.le_of_eq rfl) (hb hby at_312) (fun _ _ => ⟨rfl, eJ64, (by decide : 1 + 0 ≤ _), (by decide : 4 + 0 ≤ _)⟩)
              dsimp only [Pt.U, Pt.locs, Pt.cells, Pt.slots] at X67 l67 y67 z67 st67 hQ67
              subst l67 y67 z67
              obtain ⟨rfl, Nq67, e67⟩ := hQ67
              have N67 := Fr.app NJ64 Nq67
              refine own_step (fun _ k => st67 _ k) ?_
              show own_Ends _ _ _ _ _ _ _ (T67.setTop (mkF m 315 #[.val (.int p0), .val (.int p1), .val (.int p2), .val (.int p3), .val (.int p4), .val (.int p5), .val (.int (4 : Int32)), .val (.int c0_), .val (.int c1_), .val (.int c2_), .val (.int c3_), .val (.int c4_), .val (.ref b46), .val (.int (1 : Int32)), .val (.int (3 : Int32)), .val (.int kv3), .val (.int fv3), .val (.int ex)] [(.int (own_looks [c0_, c1_, c2_, c3_]))]))
              refine own_step (fun _ k => XS.iload X67.here hx rfl (hb hby at_315) rfl k) ?_
              show own_Ends _ _ _ _ _ _ _ (T67.setTop (mkF m 317 #[.val (.int p0), .val (.int p1), .val (.int p2), .val (.int p3), .val (.int p4), .val (.int p5), .val (.int (4 : Int32)), .val (.int c0_), .val (.int c1_), .val (.int c2_), .val (.int c3_), .val (.int c4_), .val (.ref b46), .val (.int (1 : Int32)), .val (.int (3 : Int32)), .val (.int kv3), .val (.int fv3), .val (.int ex)] [(.int ex), (.int (own_looks [c0_, c1_, c2_, c3_]))]))
              refine own_step (fun _ k => XS.icmpNo X67.here hx rfl (hb hby at_317) rfl (teq (by rw [own_looks, hst, hex]; exact (hE3).symm)).2 k) ?_
              show own_Ends _ _ _ _ _ _ _ (T67.setTop (mkF m 320 #[.val (.int p0), .val (.int p1), .val (.int p2), .val (.int p3), .val (.int p4), .val (.int p5), .val (.int (4 : Int32)), .val (.int c0_), .val (.int c1_), .val (.int c2_), .val (.int c3_), .val (.int c4_), .val (.ref b46), .val (.int (1 : Int32)), .val (.int (3 : Int32)), .val (.int kv3), .val (.int fv3), .val (.int ex)] []))
              refine own_step (fun _ k => XS.iconst X67.here hx rfl (hb hby at_320) k) ?_
              show own_Ends _ _ _ _ _ _ _ (T67.setTop (mkF m 321 #[.val (.int p0), .val (.int p1), .val (.int p2), .val (.int p3), .val (.int p4), .val (.int p5), .val (.int (4 : Int32)), .val (.int c0_), .val (.int c1_), .val (.int c2_), .val (.int c3_), .val (.int c4_), .val (.ref b46), .val (.int (1 : Int32)), .val (.int (3 : Int32)), .val (.int kv3), .val (.int fv3), .val (.int ex)] [(.int (1 : Int32))]))
              refine own_step (fun _ k => XS.goto X67.here hx rfl (pc0 := 321) (pc' := 325) rfl (hb hby at_321) (by decide) (by decide) k) ?_
              show own_Ends _ _ _ _ _ _ _ (T67.setTop (mkF m 325 #[.val (.int p0), .val (.int p1), .val (.int p2), .val (.int p3), .val (.int p4), .val (.int p5), .val (.int (4 : Int32)), .val (.int c0_), .val (.int c1_), .val (.int c2_), .val (.int c3_), .val (.int c4_), .val (.ref b46), .val (.int (1 : Int32)), .val (.int (3 : Int32)), .val (.int kv3), .val (.int fv3), .val (.int ex)] [(.int (1 : Int32))]))
              refine own_ret X67 (BodyLoose.notSynchronized Bd) (v := (some (.int (1 : Int32)))) (fun h => by rw [Bd.returns] at h; cases h) ?_ (by decide) (by decide) (fun fs hr => X67.ireturnOut hx Bd.returns rfl (by simp) (hb hby at_325) hr)
              show own_Q0 Z p0 p1 p2 p3 p4 p5  h0 n0 (some (.int (1 : Int32))) T67.heap _
              rw [e67]
              exact ⟨rfl, N67⟩
            refine own_step (fun _ k => XS.iload XJ64.here hx rfl (hb hby at_291) rfl k) ?_
            show own_Ends _ _ _ _ _ _ _ (TJ64.setTop (mkF m 293 #[.val (.int p0), .val (.int p1), .val (.int p2), .val (.int p3), .val (.int p4), .val (.int p5), .val (.int (4 : Int32)), .val (.int c0_), .val (.int c1_), .val (.int c2_), .val (.int c3_), .val (.int c4_), .val (.ref b46), .val (.int (1 : Int32)), .val (.int (3 : Int32)), .val (.int kv3), .val (.int fv3), .unset] [(.int kv3)]))
            by_cases u1 : kv3 < (0 : Int32)
            · refine own_step (fun _ k => XS.ifYes XJ64.here hx rfl (pc0 := 293) (pc' := 307) rfl (hb hby at_293) rfl ((if0 _ _).trans (tlt u1).1) (by decide) (by decide) k) ?_
              show own_Ends _ _ _ _ _ _ _ (TJ64.setTop (mkF m 307 #[.val (.int p0), .val (.int p1), .val (.int p2), .val (.int p3), .val (.int p4), .val (.int p5), .val (.int (4 : Int32)), .val (.int c0_), .val (.int c1_), .val (.int c2_), .val (.int c3_), .val (.int c4_), .val (.ref b46), .val (.int (1 : Int32)), .val (.int (3 : Int32)), .val (.int kv3), .val (.int fv3), .unset] []))
              refine own_step (fun _ k => XS.iconst XJ64.here hx rfl (hb hby at_307) k) ?_
              show own_Ends _ _ _ _ _ _ _ (TJ64.setTop (mkF m 308 #[.val (.int p0), .val (.int p1), .val (.int p2), .val (.int p3), .val (.int p4), .val (.int p5), .val (.int (4 : Int32)), .val (.int c0_), .val (.int c1_), .val (.int c2_), .val (.int c3_), .val (.int c4_), .val (.ref b46), .val (.int (1 : Int32)), .val (.int (3 : Int32)), .val (.int kv3), .val (.int fv3), .unset] [(.int (0 : Int32))]))
              exact J308_65 _ (by rw [own_res, if_pos u1])
            · refine own_step (fun _ k => XS.ifNo XJ64.here hx rfl (hb hby at_293) rfl ((if0 _ _).trans (flt u1).1) k) ?_
              show own_Ends _ _ _ _ _ _ _ (TJ64.setTop (mkF m 296 #[.val (.int p0), .val (.int p1), .val (.int p2), .val (.int p3), .val (.int p4), .val (.int p5), .val (.int (4 : Int32)), .val (.int c0_), .val (.int c1_), .val (.int c2_), .val (.int c3_), .val (.int c4_), .val (.ref b46), .val (.int (1 : Int32)), .val (.int (3 : Int32)), .val (.int kv3), .val (.int fv3), .unset] []))
              refine own_step (fun _ k => XS.iload XJ64.here hx rfl (hb hby at_296) rfl k) ?_
              show own_Ends _ _ _ _ _ _ _ (TJ64.setTop (mkF m 298 #[.val (.int p0), .val (.int p1), .val (.int p2), .val (.int p3), .val (.int p4), .val (.int p5), .val (.int (4 : Int32)), .val (.int c0_), .val (.int c1_), .val (.int c2_), .val (.int c3_), .val (.int c4_), .val (.ref b46), .val (.int (1 : Int32)), .val (.int (3 : Int32)), .val (.int kv3), .val (.int fv3), .unset] [(.int fv3)]))
              refine own_step (fun _ k => XS.bipush XJ64.here hx rfl (hb hby at_298) k) ?_
              show own_Ends _ _ _ _ _ _ _ (TJ64.setTop (mkF m 300 #[.val (.int p0), .val (.int p1), .val (.int p2), .val (.int p3), .val (.int p4), .val (.int p5), .val (.int (4 : Int32)), .val (.int c0_), .val (.int c1_), .val (.int c2_), .val (.int c3_), .val (.int c4_), .val (.ref b46), .val (.int (1 : Int32)), .val (.int (3 : Int32)), .val (.int kv3), .val (.int fv3), .unset] [(.int (60 : Int32)), (.int fv3)]))
              by_cases u2 : fv3 = (60 : Int32)
              · refine own_step (fun _ k => XS.icmpNo XJ64.here hx rfl (hb hby at_300) rfl (teq u2).2 k) ?_
                show own_Ends _ _ _ _ _ _ _ (TJ64.setTop (mkF m 303 #[.val (.int p0), .val (.int p1), .val (.int p2), .val (.int p3), .val (.int p4), .val (.int p5), .val (.int (4 : Int32)), .val (.int c0_), .val (.int c1_), .val (.int c2_), .val (.int c3_), .val (.int c4_), .val (.ref b46), .val (.int (1 : Int32)), .val (.int (3 : Int32)), .val (.int kv3), .val (.int fv3), .unset] []))
                refine own_step (fun _ k => XS.iconst XJ64.here hx rfl (hb hby at_303) k) ?_
                show own_Ends _ _ _ _ _ _ _ (TJ64.setTop (mkF m 304 #[.val (.int p0), .val (.int p1), .val (.int p2), .val (.int p3), .val (.int p4), .val (.int p5), .val (.int (4 : Int32)), .val (.int c0_), .val (.int c1_), .val (.int c2_), .val (.int c3_), .val (.int c4_), .val (.ref b46), .val (.int (1 : Int32)), .val (.int (3 : Int32)), .val (.int kv3), .val (.int fv3), .unset] [(.int (1 : Int32))]))
                refine own_step (fun _ k => XS.goto XJ64.here hx rfl (pc0 := 304) (pc' := 308) rfl (hb hby at_304) (by decide) (by decide) k) ?_
                show own_Ends _ _ _ _ _ _ _ (TJ64.setTop (mkF m 308 #[.val (.int p0), .val (.int p1), .val (.int p2), .val (.int p3), .val (.int p4), .val (.int p5), .val (.int (4 : Int32)), .val (.int c0_), .val (.int c1_), .val (.int c2_), .val (.int c3_), .val (.int c4_), .val (.ref b46), .val (.int (1 : Int32)), .val (.int (3 : Int32)), .val (.int kv3), .val (.int fv3), .unset] [(.int (1 : Int32))]))
                exact J308_65 _ (by rw [own_res, if_neg u1, if_pos u2])
              · refine own_step (fun _ k => XS.icmpYes XJ64.here hx rfl (pc0 := 300) (pc' := 307) rfl (hb hby at_300) rfl (feq u2).2 (by decide) (by decide) k) ?_
                show own_Ends _ _ _ _ _ _ _ (TJ64.setTop (mkF m 307 #[.val (.int p0), .val (.int p1), .val (.int p2), .val (.int p3), .val (.int p4), .val (.int p5), .val (.int (4 : Int32)), .val (.int c0_), .val (.int c1_), .val (.int c2_), .val (.int c3_), .val (.int c4_), .val (.ref b46), .val (.int (1 : Int32)), .val (.int (3 : Int32)), .val (.int kv3), .val (.int fv3), .unset] []))
                refine own_step (fun _ k => XS.iconst XJ64.here hx rfl (hb hby at_307) k) ?_
                show own_Ends _ _ _ _ _ _ _ (TJ64.setTop (mkF m 308 #[.val (.int p0), .val (.int p1), .val (.int p2), .val (.int p3), .val (.int p4), .val (.int p5), .val (.int (4 : Int32)), .val (.int c0_), .val (.int c1_), .val (.int c2_), .val (.int c3_), .val (.int c4_), .val (.ref b46), .val (.int (1 : Int32)), .val (.int (3 : Int32)), .val (.int kv3), .val (.int fv3), .unset] [(.int (0 : Int32))]))
                exact J308_65 _ (by rw [own_res, if_neg u1, if_neg u2])
          by_cases w3 : (own_ws c3_) = (0 : Int32)
          · refine own_step (fun _ k => XS.ifNo X63.here hx rfl (hb hby at_202) rfl ((if0 _ _).trans (teq w3).2) k) ?_
            show own_Ends _ _ _ _ _ _ _ (T63.setTop (mkF m 205 #[.val (.int p0), .val (.int p1), .val (.int p2), .val (.int p3), .val (.int p4), .val (.int p5), .val (.int (4 : Int32)), .val (.int c0_), .val (.int c1_), .val (.int c2_), .val (.int c3_), .val (.int c4_), .val (.ref b46), .val (.int (1 : Int32)), .val (.int (3 : Int32)), .val (.int (-1 : Int32)), .val (.int (0 : Int32)), .unset] []))
            refine own_step (fun _ k => XS.iconst X63.here hx rfl (hb hby at_205) k) ?_
            show own_Ends _ _ _ _ _ _ _ (T63.setTop (mkF m 206 #[.val (.int p0), .val (.int p1), .val (.int p2), .val (.int p3), .val (.int p4), .val (.int p5), .val (.int (4 : Int32)), .val (.int c0_), .val (.int c1_), .val (.int c2_), .val (.int c3_), .val (.int c4_), .val (.ref b46), .val (.int (1 : Int32)), .val (.int (3 : Int32)), .val (.int (-1 : Int32)), .val (.int (0 : Int32)), .unset] [(.int (3 : Int32))]))
            refine own_step (fun _ k => XS.istore X63.here hx rfl (hb hby at_206) rfl (l' := #[.val (.int p0), .val (.int p1), .val (.int p2), .val (.int p3), .val (.int p4), .val (.int p5), .val (.int (4 : Int32)), .val (.int c0_), .val (.int c1_), .val (.int c2_), .val (.int c3_), .val (.int c4_), .val (.ref b46), .val (.int (1 : Int32)), .val (.int (3 : Int32)), .val (.int (3 : Int32)), .val (.int (0 : Int32)), .unset]) rfl k) ?_
            show own_Ends _ _ _ _ _ _ _ (T63.setTop (mkF m 208 #[.val (.int p0), .val (.int p1), .val (.int p2), .val (.int p3), .val (.int p4), .val (.int p5), .val (.int (4 : Int32)), .val (.int c0_), .val (.int c1_), .val (.int c2_), .val (.int c3_), .val (.int c4_), .val (.ref b46), .val (.int (1 : Int32)), .val (.int (3 : Int32)), .val (.int (3 : Int32)), .val (.int (0 : Int32)), .unset] []))
            refine own_step (fun _ k => XS.iload X63.here hx rfl (hb hby at_208) rfl k) ?_
            show own_Ends _ _ _ _ _ _ _ (T63.setTop (mkF m 210 #[.val (.int p0), .val (.int p1), .val (.int p2), .val (.int p3), .val (.int p4), .val (.int p5), .val (.int (4 : Int32)), .val (.int c0_), .val (.int c1_), .val (.int c2_), .val (.int c3_), .val (.int c4_), .val (.ref b46), .val (.int (1 : Int32)), .val (.int (3 : Int32)), .val (.int (3 : Int32)), .val (.int (0 : Int32)), .unset] [(.int c3_)]))
            refine own_step (fun _ k => XS.istore X63.here hx rfl (hb hby at_210) rfl (l' := #[.val (.int p0), .val (.int p1), .val (.int p2), .val (.int p3), .val (.int p4), .val (.int p5), .val (.int (4 : Int32)), .val (.int c0_), .val (.int c1_), .val (.int c2_), .val (.int c3_), .val (.int c4_), .val (.ref b46), .val (.int (1 : Int32)), .val (.int (3 : Int32)), .val (.int (3 : Int32)), .val (.int c3_), .unset]) rfl k) ?_
            show own_Ends _ _ _ _ _ _ _ (T63.setTop (mkF m 212 #[.val (.int p0), .val (.int p1), .val (.int p2), .val (.int p3), .val (.int p4), .val (.int p5), .val (.int (4 : Int32)), .val (.int c0_), .val (.int c1_), .val (.int c2_), .val (.int c3_), .val (.int c4_), .val (.ref b46), .val (.int (1 : Int32)), .val (.int (3 : Int32)), .val (.int (3 : Int32)), .val (.int c3_), .unset] []))
            exact J212_64 _ N63 _ X63 e63 _ _ (by rw [own_first, if_pos w3]; rfl)
          · refine own_step (fun _ k => XS.ifYes X63.here hx rfl (pc0 := 202) (pc' := 212) rfl (hb hby at_202) rfl ((if0 _ _).trans (feq w3).2) (by decide) (by decide) k) ?_
            show own_Ends _ _ _ _ _ _ _ (T63.setTop (mkF m 212 #[.val (.int p0), .val (.int p1), .val (.int p2), .val (.int p3), .val (.int p4), .val (.int p5), .val (.int (4 : Int32)), .val (.int c0_), .val (.int c1_), .val (.int c2_), .val (.int c3_), .val (.int c4_), .val (.ref b46), .val (.int (1 : Int32)), .val (.int (3 : Int32)), .val (.int (-1 : Int32)), .val (.int (0 : Int32)), .unset] []))
            exact J212_64 _ N63 _ X63 e63 _ _ (by rw [own_first, if_neg w3]; rfl)
        · refine own_step (fun _ k => XS.icmpYes X50.here hx rfl (pc0 := 130) (pc' := 137) rfl (hb hby at_130) rfl (feq k2).2 (by decide) (by decide) k) ?_
          show own_Ends _ _ _ _ _ _ _ (T50.setTop (mkF m 137 #[.val (.int p0), .val (.int p1), .val (.int p2), .val (.int p3), .val (.int p4), .val (.int p5), .val (.int (4 : Int32)), .val (.int c0_), .val (.int c1_), .val (.int c2_), .val (.int c3_), .val (.int c4_), .val (.ref b46), .unset, .unset, .unset, .unset, .unset] []))
          refine own_step (fun _ k => XS.iconst X50.here hx rfl (hb hby at_137) k) ?_
          show own_Ends _ _ _ _ _ _ _ (T50.setTop (mkF m 138 #[.val (.int p0), .val (.int p1), .val (.int p2), .val (.int p3), .val (.int p4), .val (.int p5), .val (.int (4 : Int32)), .val (.int c0_), .val (.int c1_), .val (.int c2_), .val (.int c3_), .val (.int c4_), .val (.ref b46), .unset, .unset, .unset, .unset, .unset] [(.int (0 : Int32))]))
          exact J138_51 (by simp [own_start, k0, k1, k2])
      · refine own_step (fun _ k => XS.icmpYes X50.here hx rfl (pc0 := 123) (pc' := 137) rfl (hb hby at_123) rfl (feq k1).2 (by decide) (by decide) k) ?_
        show own_Ends _ _ _ _ _ _ _ (T50.setTop (mkF m 137 #[.val (.int p0), .val (.int p1), .val (.int p2), .val (.int p3), .val (.int p4), .val (.int p5), .val (.int (4 : Int32)), .val (.int c0_), .val (.int c1_), .val (.int c2_), .val (.int c3_), .val (.int c4_), .val (.ref b46), .unset, .unset, .unset, .unset, .unset] []))
        refine own_step (fun _ k => XS.iconst X50.here hx rfl (hb hby at_137) k) ?_
        show own_Ends _ _ _ _ _ _ _ (T50.setTop (mkF m 138 #[.val (.int p0), .val (.int p1), .val (.int p2), .val (.int p3), .val (.int p4), .val (.int p5), .val (.int (4 : Int32)), .val (.int c0_), .val (.int c1_), .val (.int c2_), .val (.int c3_), .val (.int c4_), .val (.ref b46), .unset, .unset, .unset, .unset, .unset] [(.int (0 : Int32))]))
        exact J138_51 (by simp [own_start, k0, k1])
    · refine own_step (fun _ k => XS.icmpYes X50.here hx rfl (pc0 := 116) (pc' := 137) rfl (hb hby at_116) rfl (feq k0).2 (by decide) (by decide) k) ?_
      show own_Ends _ _ _ _ _ _ _ (T50.setTop (mkF m 137 #[.val (.int p0), .val (.int p1), .val (.int p2), .val (.int p3), .val (.int p4), .val (.int p5), .val (.int (4 : Int32)), .val (.int c0_), .val (.int c1_), .val (.int c2_), .val (.int c3_), .val (.int c4_), .val (.ref b46), .unset, .unset, .unset, .unset, .unset] []))
      refine own_step (fun _ k => XS.iconst X50.here hx rfl (hb hby at_137) k) ?_
      show own_Ends _ _ _ _ _ _ _ (T50.setTop (mkF m 138 #[.val (.int p0), .val (.int p1), .val (.int p2), .val (.int p3), .val (.int p4), .val (.int p5), .val (.int (4 : Int32)), .val (.int c0_), .val (.int c1_), .val (.int c2_), .val (.int c3_), .val (.int c4_), .val (.ref b46), .unset, .unset, .unset, .unset, .unset] [(.int (0 : Int32))]))
      exact J138_51 (by simp [own_start, k0])
  · show own_Ends _ _ _ _ _ _ _ (T7.setTop (mkF m 43 #[.val (.int p0), .val (.int p1), .val (.int p2), .val (.int p3), .val (.int p4), .val (.int p5), .val (.int (5 : Int32)), .val (.int c0_), .val (.int c1_), .val (.int c2_), .val (.int c3_), .val (.int c4_), .unset, .unset, .unset, .unset, .unset, .unset] [(.int (5 : Int32))]))
    obtain ⟨T68, h68, k68, X68, e68, E68, A68, st68⟩ := newP X7 hx hZ (hw _ (List.mem_of_getElem? (i := 5) rfl)) e7 (g := (mkF m 43 #[.val (.int p0), .val (.int p1), .val (.int p2), .val (.int p3), .val (.int p4), .val (.int p5), .val (.int (5 : Int32)), .val (.int c0_), .val (.int c1_), .val (.int c2_), .val (.int c3_), .val (.int c4_), .unset, .unset, .unset, .unset, .unset, .unset] [(.int (5 : Int32))])) rfl (hb hby at_43) rfl (by decide) (cap := 5) (by decide) (by decide) (by decide) (by decide)
    obtain ⟨b68, g68⟩ : ∃ z, z = h0.size := ⟨_, rfl⟩
    rw [← g68] at A68 st68
    have gn68 : n0 ≤ b68 := Nat.le_trans Z0 (Nat.le_of_eq g68.symm)
    have Z68 := Nat.le_trans Z0 E68.1
    have V68_b68 : Arv Z h68 b68 k68 .byte (5 : Int32) [(.int (0 : Int32)), (.int (0 : Int32)), (.int (0 : Int32)), (.int (0 : Int32)), (.int (0 : Int32))] (.int (0 : Int32)) := (Arv.new A68 (by decide)).pad (pad_rep [] (.int (0 : Int32)) 5)
    refine own_step (fun _ k => st68 _ k) ?_
    show own_Ends _ _ _ _ _ _ _ (T68.setTop (mkF m 45 #[.val (.int p0), .val (.int p1), .val (.int p2), .val (.int p3), .val (.int p4), .val (.int p5), .val (.int (5 : Int32)), .val (.int c0_), .val (.int c1_), .val (.int c2_), .val (.int c3_), .val (.int c4_), .unset, .unset, .unset, .unset, .unset, .unset] [(.ref b68)]))
    refine own_step (fun _ k => XS.astore X68.here hx rfl (hb hby at_45) rfl rfl (l' := #[.val (.int p0), .val (.int p1), .val (.int p2), .val (.int p3), .val (.int p4), .val (.int p5), .val (.int (5 : Int32)), .val (.int c0_), .val (.int c1_), .val (.int c2_), .val (.int c3_), .val (.int c4_), .val (.ref b68), .unset, .unset, .unset, .unset, .unset]) rfl k) ?_
    show own_Ends _ _ _ _ _ _ _ (T68.setTop (mkF m 47 #[.val (.int p0), .val (.int p1), .val (.int p2), .val (.int p3), .val (.int p4), .val (.int p5), .val (.int (5 : Int32)), .val (.int c0_), .val (.int c1_), .val (.int c2_), .val (.int c3_), .val (.int c4_), .val (.ref b68), .unset, .unset, .unset, .unset, .unset] []))
    refine own_step (fun _ k => XS.iload X68.here hx rfl (hb hby at_47) rfl k) ?_
    show own_Ends _ _ _ _ _ _ _ (T68.setTop (mkF m 49 #[.val (.int p0), .val (.int p1), .val (.int p2), .val (.int p3), .val (.int p4), .val (.int p5), .val (.int (5 : Int32)), .val (.int c0_), .val (.int c1_), .val (.int c2_), .val (.int c3_), .val (.int c4_), .val (.ref b68), .unset, .unset, .unset, .unset, .unset] [(.int (5 : Int32))]))
    refine own_step (fun _ k => XS.ifNo X68.here hx rfl (hb hby at_49) rfl ((if0 _ _).trans (tlt (by decide)).2.2.2) k) ?_
    show own_Ends _ _ _ _ _ _ _ (T68.setTop (mkF m 52 #[.val (.int p0), .val (.int p1), .val (.int p2), .val (.int p3), .val (.int p4), .val (.int p5), .val (.int (5 : Int32)), .val (.int c0_), .val (.int c1_), .val (.int c2_), .val (.int c3_), .val (.int c4_), .val (.ref b68), .unset, .unset, .unset, .unset, .unset] []))
    refine own_step (fun _ k => XS.aload X68.here hx rfl (hb hby at_52) rfl rfl k) ?_
    show own_Ends _ _ _ _ _ _ _ (T68.setTop (mkF m 54 #[.val (.int p0), .val (.int p1), .val (.int p2), .val (.int p3), .val (.int p4), .val (.int p5), .val (.int (5 : Int32)), .val (.int c0_), .val (.int c1_), .val (.int c2_), .val (.int c3_), .val (.int c4_), .val (.ref b68), .unset, .unset, .unset, .unset, .unset] [(.ref b68)]))
    refine own_step (fun _ k => XS.iconst X68.here hx rfl (hb hby at_54) k) ?_
    show own_Ends _ _ _ _ _ _ _ (T68.setTop (mkF m 55 #[.val (.int p0), .val (.int p1), .val (.int p2), .val (.int p3), .val (.int p4), .val (.int p5), .val (.int (5 : Int32)), .val (.int c0_), .val (.int c1_), .val (.int c2_), .val (.int c3_), .val (.int c4_), .val (.ref b68), .unset, .unset, .unset, .unset, .unset] [(.int (0 : Int32)), (.ref b68)]))
    refine own_step (fun _ k => XS.iload X68.here hx rfl (hb hby at_55) rfl k) ?_
    show own_Ends _ _ _ _ _ _ _ (T68.setTop (mkF m 57 #[.val (.int p0), .val (.int p1), .val (.int p2), .val (.int p3), .val (.int p4), .val (.int p5), .val (.int (5 : Int32)), .val (.int c0_), .val (.int c1_), .val (.int c2_), .val (.int c3_), .val (.int c4_), .val (.ref b68), .unset, .unset, .unset, .unset, .unset] [(.int c0_), (.int (0 : Int32)), (.ref b68)]))
    obtain ⟨cl69, Ar69, qq69, S69, M69, H69, G69⟩ := id V68_b68
    have hin69 : ¬ ((0 : Int32) < 0 ∨ cl69.slots.size ≤ ((0 : Int32)).toNatClampNeg) := inb_of S69 ⟨by decide, by decide⟩
    obtain ⟨T69, h69, X69, e69, W69, st69⟩ := stB X68 hx hZ e68 Ar69 (j := (0 : Int32)) hin69 (g := (mkF m 57 #[.val (.int p0), .val (.int p1), .val (.int p2), .val (.int p3), .val (.int p4), .val (.int p5), .val (.int (5 : Int32)), .val (.int c0_), .val (.int c1_), .val (.int c2_), .val (.int c3_), .val (.int c4_), .val (.ref b68), .unset, .unset, .unset, .unset, .unset] [(.int c0_), (.int (0 : Int32)), (.ref b68)])) rfl rfl (hb hby at_57)
    have N69 := Fr.snoc X69 N7 gn68
    rw [nb0] at W69
    have V69_b68 : Arv Z h69 b68 k68 .byte (5 : Int32) [(.int c0_), (.int (0 : Int32)), (.int (0 : Int32)), (.int (0 : Int32)), (.int (0 : Int32))] (.int (0 : Int32)) := Arv.set Ar69 qq69 S69 M69 H69 G69 (by have := fits_nar_byte c0_; rw [show (c0_).toInt8.toInt32 = c0_ from nb0] at this; exact this) W69 0 (by decide) (by simp)
    have Z69 := Nat.le_trans Z68 (Keep.of_wr W69).1
    refine own_step (fun _ k => st69 _ k) ?_
    show own_Ends _ _ _ _ _ _ _ (T69.setTop (mkF m 58 #[.val (.int p0), .val (.int p1), .val (.int p2), .val (.int p3), .val (.int p4), .val (.int p5), .val (.int (5 : Int32)), .val (.int c0_), .val (.int c1_), .val (.int c2_), .val (.int c3_), .val (.int c4_), .val (.ref b68), .unset, .unset, .unset, .unset, .unset] []))
    refine own_step (fun _ k => XS.iload X69.here hx rfl (hb hby at_58) rfl k) ?_
    show own_Ends _ _ _ _ _ _ _ (T69.setTop (mkF m 60 #[.val (.int p0), .val (.int p1), .val (.int p2), .val (.int p3), .val (.int p4), .val (.int p5), .val (.int (5 : Int32)), .val (.int c0_), .val (.int c1_), .val (.int c2_), .val (.int c3_), .val (.int c4_), .val (.ref b68), .unset, .unset, .unset, .unset, .unset] [(.int (5 : Int32))]))
    refine own_step (fun _ k => XS.iconst X69.here hx rfl (hb hby at_60) k) ?_
    show own_Ends _ _ _ _ _ _ _ (T69.setTop (mkF m 61 #[.val (.int p0), .val (.int p1), .val (.int p2), .val (.int p3), .val (.int p4), .val (.int p5), .val (.int (5 : Int32)), .val (.int c0_), .val (.int c1_), .val (.int c2_), .val (.int c3_), .val (.int c4_), .val (.ref b68), .unset, .unset, .unset, .unset, .unset] [(.int (1 : Int32)), (.int (5 : Int32))]))
    refine own_step (fun _ k => XS.icmpNo X69.here hx rfl (hb hby at_61) rfl (tlt (by decide)).2.2.2 k) ?_
    show own_Ends _ _ _ _ _ _ _ (T69.setTop (mkF m 64 #[.val (.int p0), .val (.int p1), .val (.int p2), .val (.int p3), .val (.int p4), .val (.int p5), .val (.int (5 : Int32)), .val (.int c0_), .val (.int c1_), .val (.int c2_), .val (.int c3_), .val (.int c4_), .val (.ref b68), .unset, .unset, .unset, .unset, .unset] []))
    refine own_step (fun _ k => XS.aload X69.here hx rfl (hb hby at_64) rfl rfl k) ?_
    show own_Ends _ _ _ _ _ _ _ (T69.setTop (mkF m 66 #[.val (.int p0), .val (.int p1), .val (.int p2), .val (.int p3), .val (.int p4), .val (.int p5), .val (.int (5 : Int32)), .val (.int c0_), .val (.int c1_), .val (.int c2_), .val (.int c3_), .val (.int c4_), .val (.ref b68), .unset, .unset, .unset, .unset, .unset] [(.ref b68)]))
    refine own_step (fun _ k => XS.iconst X69.here hx rfl (hb hby at_66) k) ?_
    show own_Ends _ _ _ _ _ _ _ (T69.setTop (mkF m 67 #[.val (.int p0), .val (.int p1), .val (.int p2), .val (.int p3), .val (.int p4), .val (.int p5), .val (.int (5 : Int32)), .val (.int c0_), .val (.int c1_), .val (.int c2_), .val (.int c3_), .val (.int c4_), .val (.ref b68), .unset, .unset, .unset, .unset, .unset] [(.int (1 : Int32)), (.ref b68)]))
    refine own_step (fun _ k => XS.iload X69.here hx rfl (hb hby at_67) rfl k) ?_
    show own_Ends _ _ _ _ _ _ _ (T69.setTop (mkF m 69 #[.val (.int p0), .val (.int p1), .val (.int p2), .val (.int p3), .val (.int p4), .val (.int p5), .val (.int (5 : Int32)), .val (.int c0_), .val (.int c1_), .val (.int c2_), .val (.int c3_), .val (.int c4_), .val (.ref b68), .unset, .unset, .unset, .unset, .unset] [(.int c1_), (.int (1 : Int32)), (.ref b68)]))
    obtain ⟨cl70, Ar70, qq70, S70, M70, H70, G70⟩ := id V69_b68
    have hin70 : ¬ ((1 : Int32) < 0 ∨ cl70.slots.size ≤ ((1 : Int32)).toNatClampNeg) := inb_of S70 ⟨by decide, by decide⟩
    obtain ⟨T70, h70, X70, e70, W70, st70⟩ := stB X69 hx hZ e69 Ar70 (j := (1 : Int32)) hin70 (g := (mkF m 69 #[.val (.int p0), .val (.int p1), .val (.int p2), .val (.int p3), .val (.int p4), .val (.int p5), .val (.int (5 : Int32)), .val (.int c0_), .val (.int c1_), .val (.int c2_), .val (.int c3_), .val (.int c4_), .val (.ref b68), .unset, .unset, .unset, .unset, .unset] [(.int c1_), (.int (1 : Int32)), (.ref b68)])) rfl rfl (hb hby at_69)
    have N70 := Fr.snoc X70 N69 gn68
    rw [nb1] at W70
    have V70_b68 : Arv Z h70 b68 k68 .byte (5 : Int32) [(.int c0_), (.int c1_), (.int (0 : Int32)), (.int (0 : Int32)), (.int (0 : Int32))] (.int (0 : Int32)) := Arv.set Ar70 qq70 S70 M70 H70 G70 (by have := fits_nar_byte c1_; rw [show (c1_).toInt8.toInt32 = c1_ from nb1] at this; exact this) W70 1 (by decide) (by simp)
    have Z70 := Nat.le_trans Z69 (Keep.of_wr W70).1
    refine own_step (fun _ k => st70 _ k) ?_
    show own_Ends _ _ _ _ _ _ _ (T70.setTop (mkF m 70 #[.val (.int p0), .val (.int p1), .val (.int p2), .val (.int p3), .val (.int p4), .val (.int p5), .val (.int (5 : Int32)), .val (.int c0_), .val (.int c1_), .val (.int c2_), .val (.int c3_), .val (.int c4_), .val (.ref b68), .unset, .unset, .unset, .unset, .unset] []))
    refine own_step (fun _ k => XS.iload X70.here hx rfl (hb hby at_70) rfl k) ?_
    show own_Ends _ _ _ _ _ _ _ (T70.setTop (mkF m 72 #[.val (.int p0), .val (.int p1), .val (.int p2), .val (.int p3), .val (.int p4), .val (.int p5), .val (.int (5 : Int32)), .val (.int c0_), .val (.int c1_), .val (.int c2_), .val (.int c3_), .val (.int c4_), .val (.ref b68), .unset, .unset, .unset, .unset, .unset] [(.int (5 : Int32))]))
    refine own_step (fun _ k => XS.iconst X70.here hx rfl (hb hby at_72) k) ?_
    show own_Ends _ _ _ _ _ _ _ (T70.setTop (mkF m 73 #[.val (.int p0), .val (.int p1), .val (.int p2), .val (.int p3), .val (.int p4), .val (.int p5), .val (.int (5 : Int32)), .val (.int c0_), .val (.int c1_), .val (.int c2_), .val (.int c3_), .val (.int c4_), .val (.ref b68), .unset, .unset, .unset, .unset, .unset] [(.int (2 : Int32)), (.int (5 : Int32))]))
    refine own_step (fun _ k => XS.icmpNo X70.here hx rfl (hb hby at_73) rfl (tlt (by decide)).2.2.2 k) ?_
    show own_Ends _ _ _ _ _ _ _ (T70.setTop (mkF m 76 #[.val (.int p0), .val (.int p1), .val (.int p2), .val (.int p3), .val (.int p4), .val (.int p5), .val (.int (5 : Int32)), .val (.int c0_), .val (.int c1_), .val (.int c2_), .val (.int c3_), .val (.int c4_), .val (.ref b68), .unset, .unset, .unset, .unset, .unset] []))
    refine own_step (fun _ k => XS.aload X70.here hx rfl (hb hby at_76) rfl rfl k) ?_
    show own_Ends _ _ _ _ _ _ _ (T70.setTop (mkF m 78 #[.val (.int p0), .val (.int p1), .val (.int p2), .val (.int p3), .val (.int p4), .val (.int p5), .val (.int (5 : Int32)), .val (.int c0_), .val (.int c1_), .val (.int c2_), .val (.int c3_), .val (.int c4_), .val (.ref b68), .unset, .unset, .unset, .unset, .unset] [(.ref b68)]))
    refine own_step (fun _ k => XS.iconst X70.here hx rfl (hb hby at_78) k) ?_
    show own_Ends _ _ _ _ _ _ _ (T70.setTop (mkF m 79 #[.val (.int p0), .val (.int p1), .val (.int p2), .val (.int p3), .val (.int p4), .val (.int p5), .val (.int (5 : Int32)), .val (.int c0_), .val (.int c1_), .val (.int c2_), .val (.int c3_), .val (.int c4_), .val (.ref b68), .unset, .unset, .unset, .unset, .unset] [(.int (2 : Int32)), (.ref b68)]))
    refine own_step (fun _ k => XS.iload X70.here hx rfl (hb hby at_79) rfl k) ?_
    show own_Ends _ _ _ _ _ _ _ (T70.setTop (mkF m 81 #[.val (.int p0), .val (.int p1), .val (.int p2), .val (.int p3), .val (.int p4), .val (.int p5), .val (.int (5 : Int32)), .val (.int c0_), .val (.int c1_), .val (.int c2_), .val (.int c3_), .val (.int c4_), .val (.ref b68), .unset, .unset, .unset, .unset, .unset] [(.int c2_), (.int (2 : Int32)), (.ref b68)]))
    obtain ⟨cl71, Ar71, qq71, S71, M71, H71, G71⟩ := id V70_b68
    have hin71 : ¬ ((2 : Int32) < 0 ∨ cl71.slots.size ≤ ((2 : Int32)).toNatClampNeg) := inb_of S71 ⟨by decide, by decide⟩
    obtain ⟨T71, h71, X71, e71, W71, st71⟩ := stB X70 hx hZ e70 Ar71 (j := (2 : Int32)) hin71 (g := (mkF m 81 #[.val (.int p0), .val (.int p1), .val (.int p2), .val (.int p3), .val (.int p4), .val (.int p5), .val (.int (5 : Int32)), .val (.int c0_), .val (.int c1_), .val (.int c2_), .val (.int c3_), .val (.int c4_), .val (.ref b68), .unset, .unset, .unset, .unset, .unset] [(.int c2_), (.int (2 : Int32)), (.ref b68)])) rfl rfl (hb hby at_81)
    have N71 := Fr.snoc X71 N70 gn68
    rw [nb2] at W71
    have V71_b68 : Arv Z h71 b68 k68 .byte (5 : Int32) [(.int c0_), (.int c1_), (.int c2_), (.int (0 : Int32)), (.int (0 : Int32))] (.int (0 : Int32)) := Arv.set Ar71 qq71 S71 M71 H71 G71 (by have := fits_nar_byte c2_; rw [show (c2_).toInt8.toInt32 = c2_ from nb2] at this; exact this) W71 2 (by decide) (by simp)
    have Z71 := Nat.le_trans Z70 (Keep.of_wr W71).1
    refine own_step (fun _ k => st71 _ k) ?_
    show own_Ends _ _ _ _ _ _ _ (T71.setTop (mkF m 82 #[.val (.int p0), .val (.int p1), .val (.int p2), .val (.int p3), .val (.int p4), .val (.int p5), .val (.int (5 : Int32)), .val (.int c0_), .val (.int c1_), .val (.int c2_), .val (.int c3_), .val (.int c4_), .val (.ref b68), .unset, .unset, .unset, .unset, .unset] []))
    refine own_step (fun _ k => XS.iload X71.here hx rfl (hb hby at_82) rfl k) ?_
    show own_Ends _ _ _ _ _ _ _ (T71.setTop (mkF m 84 #[.val (.int p0), .val (.int p1), .val (.int p2), .val (.int p3), .val (.int p4), .val (.int p5), .val (.int (5 : Int32)), .val (.int c0_), .val (.int c1_), .val (.int c2_), .val (.int c3_), .val (.int c4_), .val (.ref b68), .unset, .unset, .unset, .unset, .unset] [(.int (5 : Int32))]))
    refine own_step (fun _ k => XS.iconst X71.here hx rfl (hb hby at_84) k) ?_
    show own_Ends _ _ _ _ _ _ _ (T71.setTop (mkF m 85 #[.val (.int p0), .val (.int p1), .val (.int p2), .val (.int p3), .val (.int p4), .val (.int p5), .val (.int (5 : Int32)), .val (.int c0_), .val (.int c1_), .val (.int c2_), .val (.int c3_), .val (.int c4_), .val (.ref b68), .unset, .unset, .unset, .unset, .unset] [(.int (3 : Int32)), (.int (5 : Int32))]))
    refine own_step (fun _ k => XS.icmpNo X71.here hx rfl (hb hby at_85) rfl (tlt (by decide)).2.2.2 k) ?_
    show own_Ends _ _ _ _ _ _ _ (T71.setTop (mkF m 88 #[.val (.int p0), .val (.int p1), .val (.int p2), .val (.int p3), .val (.int p4), .val (.int p5), .val (.int (5 : Int32)), .val (.int c0_), .val (.int c1_), .val (.int c2_), .val (.int c3_), .val (.int c4_), .val (.ref b68), .unset, .unset, .unset, .unset, .unset] []))
    refine own_step (fun _ k => XS.aload X71.here hx rfl (hb hby at_88) rfl rfl k) ?_
    show own_Ends _ _ _ _ _ _ _ (T71.setTop (mkF m 90 #[.val (.int p0), .val (.int p1), .val (.int p2), .val (.int p3), .val (.int p4), .val (.int p5), .val (.int (5 : Int32)), .val (.int c0_), .val (.int c1_), .val (.int c2_), .val (.int c3_), .val (.int c4_), .val (.ref b68), .unset, .unset, .unset, .unset, .unset] [(.ref b68)]))
    refine own_step (fun _ k => XS.iconst X71.here hx rfl (hb hby at_90) k) ?_
    show own_Ends _ _ _ _ _ _ _ (T71.setTop (mkF m 91 #[.val (.int p0), .val (.int p1), .val (.int p2), .val (.int p3), .val (.int p4), .val (.int p5), .val (.int (5 : Int32)), .val (.int c0_), .val (.int c1_), .val (.int c2_), .val (.int c3_), .val (.int c4_), .val (.ref b68), .unset, .unset, .unset, .unset, .unset] [(.int (3 : Int32)), (.ref b68)]))
    refine own_step (fun _ k => XS.iload X71.here hx rfl (hb hby at_91) rfl k) ?_
    show own_Ends _ _ _ _ _ _ _ (T71.setTop (mkF m 93 #[.val (.int p0), .val (.int p1), .val (.int p2), .val (.int p3), .val (.int p4), .val (.int p5), .val (.int (5 : Int32)), .val (.int c0_), .val (.int c1_), .val (.int c2_), .val (.int c3_), .val (.int c4_), .val (.ref b68), .unset, .unset, .unset, .unset, .unset] [(.int c3_), (.int (3 : Int32)), (.ref b68)]))
    obtain ⟨cl72, Ar72, qq72, S72, M72, H72, G72⟩ := id V71_b68
    have hin72 : ¬ ((3 : Int32) < 0 ∨ cl72.slots.size ≤ ((3 : Int32)).toNatClampNeg) := inb_of S72 ⟨by decide, by decide⟩
    obtain ⟨T72, h72, X72, e72, W72, st72⟩ := stB X71 hx hZ e71 Ar72 (j := (3 : Int32)) hin72 (g := (mkF m 93 #[.val (.int p0), .val (.int p1), .val (.int p2), .val (.int p3), .val (.int p4), .val (.int p5), .val (.int (5 : Int32)), .val (.int c0_), .val (.int c1_), .val (.int c2_), .val (.int c3_), .val (.int c4_), .val (.ref b68), .unset, .unset, .unset, .unset, .unset] [(.int c3_), (.int (3 : Int32)), (.ref b68)])) rfl rfl (hb hby at_93)
    have N72 := Fr.snoc X72 N71 gn68
    rw [nb3] at W72
    have V72_b68 : Arv Z h72 b68 k68 .byte (5 : Int32) [(.int c0_), (.int c1_), (.int c2_), (.int c3_), (.int (0 : Int32))] (.int (0 : Int32)) := Arv.set Ar72 qq72 S72 M72 H72 G72 (by have := fits_nar_byte c3_; rw [show (c3_).toInt8.toInt32 = c3_ from nb3] at this; exact this) W72 3 (by decide) (by simp)
    have Z72 := Nat.le_trans Z71 (Keep.of_wr W72).1
    refine own_step (fun _ k => st72 _ k) ?_
    show own_Ends _ _ _ _ _ _ _ (T72.setTop (mkF m 94 #[.val (.int p0), .val (.int p1), .val (.int p2), .val (.int p3), .val (.int p4), .val (.int p5), .val (.int (5 : Int32)), .val (.int c0_), .val (.int c1_), .val (.int c2_), .val (.int c3_), .val (.int c4_), .val (.ref b68), .unset, .unset, .unset, .unset, .unset] []))
    refine own_step (fun _ k => XS.iload X72.here hx rfl (hb hby at_94) rfl k) ?_
    show own_Ends _ _ _ _ _ _ _ (T72.setTop (mkF m 96 #[.val (.int p0), .val (.int p1), .val (.int p2), .val (.int p3), .val (.int p4), .val (.int p5), .val (.int (5 : Int32)), .val (.int c0_), .val (.int c1_), .val (.int c2_), .val (.int c3_), .val (.int c4_), .val (.ref b68), .unset, .unset, .unset, .unset, .unset] [(.int (5 : Int32))]))
    refine own_step (fun _ k => XS.iconst X72.here hx rfl (hb hby at_96) k) ?_
    show own_Ends _ _ _ _ _ _ _ (T72.setTop (mkF m 97 #[.val (.int p0), .val (.int p1), .val (.int p2), .val (.int p3), .val (.int p4), .val (.int p5), .val (.int (5 : Int32)), .val (.int c0_), .val (.int c1_), .val (.int c2_), .val (.int c3_), .val (.int c4_), .val (.ref b68), .unset, .unset, .unset, .unset, .unset] [(.int (4 : Int32)), (.int (5 : Int32))]))
    refine own_step (fun _ k => XS.icmpNo X72.here hx rfl (hb hby at_97) rfl (tlt (by decide)).2.2.2 k) ?_
    show own_Ends _ _ _ _ _ _ _ (T72.setTop (mkF m 100 #[.val (.int p0), .val (.int p1), .val (.int p2), .val (.int p3), .val (.int p4), .val (.int p5), .val (.int (5 : Int32)), .val (.int c0_), .val (.int c1_), .val (.int c2_), .val (.int c3_), .val (.int c4_), .val (.ref b68), .unset, .unset, .unset, .unset, .unset] []))
    refine own_step (fun _ k => XS.aload X72.here hx rfl (hb hby at_100) rfl rfl k) ?_
    show own_Ends _ _ _ _ _ _ _ (T72.setTop (mkF m 102 #[.val (.int p0), .val (.int p1), .val (.int p2), .val (.int p3), .val (.int p4), .val (.int p5), .val (.int (5 : Int32)), .val (.int c0_), .val (.int c1_), .val (.int c2_), .val (.int c3_), .val (.int c4_), .val (.ref b68), .unset, .unset, .unset, .unset, .unset] [(.ref b68)]))
    refine own_step (fun _ k => XS.iconst X72.here hx rfl (hb hby at_102) k) ?_
    show own_Ends _ _ _ _ _ _ _ (T72.setTop (mkF m 103 #[.val (.int p0), .val (.int p1), .val (.int p2), .val (.int p3), .val (.int p4), .val (.int p5), .val (.int (5 : Int32)), .val (.int c0_), .val (.int c1_), .val (.int c2_), .val (.int c3_), .val (.int c4_), .val (.ref b68), .unset, .unset, .unset, .unset, .unset] [(.int (4 : Int32)), (.ref b68)]))
    refine own_step (fun _ k => XS.iload X72.here hx rfl (hb hby at_103) rfl k) ?_
    show own_Ends _ _ _ _ _ _ _ (T72.setTop (mkF m 105 #[.val (.int p0), .val (.int p1), .val (.int p2), .val (.int p3), .val (.int p4), .val (.int p5), .val (.int (5 : Int32)), .val (.int c0_), .val (.int c1_), .val (.int c2_), .val (.int c3_), .val (.int c4_), .val (.ref b68), .unset, .unset, .unset, .unset, .unset] [(.int c4_), (.int (4 : Int32)), (.ref b68)]))
    obtain ⟨cl73, Ar73, qq73, S73, M73, H73, G73⟩ := id V72_b68
    have hin73 : ¬ ((4 : Int32) < 0 ∨ cl73.slots.size ≤ ((4 : Int32)).toNatClampNeg) := inb_of S73 ⟨by decide, by decide⟩
    obtain ⟨T73, h73, X73, e73, W73, st73⟩ := stB X72 hx hZ e72 Ar73 (j := (4 : Int32)) hin73 (g := (mkF m 105 #[.val (.int p0), .val (.int p1), .val (.int p2), .val (.int p3), .val (.int p4), .val (.int p5), .val (.int (5 : Int32)), .val (.int c0_), .val (.int c1_), .val (.int c2_), .val (.int c3_), .val (.int c4_), .val (.ref b68), .unset, .unset, .unset, .unset, .unset] [(.int c4_), (.int (4 : Int32)), (.ref b68)])) rfl rfl (hb hby at_105)
    have N73 := Fr.snoc X73 N72 gn68
    rw [nb4] at W73
    have V73_b68 : Arv Z h73 b68 k68 .byte (5 : Int32) [(.int c0_), (.int c1_), (.int c2_), (.int c3_), (.int c4_)] (.int (0 : Int32)) := Arv.set Ar73 qq73 S73 M73 H73 G73 (by have := fits_nar_byte c4_; rw [show (c4_).toInt8.toInt32 = c4_ from nb4] at this; exact this) W73 4 (by decide) (by simp)
    have Z73 := Nat.le_trans Z72 (Keep.of_wr W73).1
    refine own_step (fun _ k => st73 _ k) ?_
    show own_Ends _ _ _ _ _ _ _ (T73.setTop (mkF m 106 #[.val (.int p0), .val (.int p1), .val (.int p2), .val (.int p3), .val (.int p4), .val (.int p5), .val (.int (5 : Int32)), .val (.int c0_), .val (.int c1_), .val (.int c2_), .val (.int c3_), .val (.int c4_), .val (.ref b68), .unset, .unset, .unset, .unset, .unset] []))
    refine own_step (fun _ k => XS.iload X73.here hx rfl (hb hby at_106) rfl k) ?_
    show own_Ends _ _ _ _ _ _ _ (T73.setTop (mkF m 108 #[.val (.int p0), .val (.int p1), .val (.int p2), .val (.int p3), .val (.int p4), .val (.int p5), .val (.int (5 : Int32)), .val (.int c0_), .val (.int c1_), .val (.int c2_), .val (.int c3_), .val (.int c4_), .val (.ref b68), .unset, .unset, .unset, .unset, .unset] [(.int (5 : Int32))]))
    refine own_step (fun _ k => XS.iconst X73.here hx rfl (hb hby at_108) k) ?_
    show own_Ends _ _ _ _ _ _ _ (T73.setTop (mkF m 109 #[.val (.int p0), .val (.int p1), .val (.int p2), .val (.int p3), .val (.int p4), .val (.int p5), .val (.int (5 : Int32)), .val (.int c0_), .val (.int c1_), .val (.int c2_), .val (.int c3_), .val (.int c4_), .val (.ref b68), .unset, .unset, .unset, .unset, .unset] [(.int (3 : Int32)), (.int (5 : Int32))]))
    have J138_74 : ∀ (hst : own_start [c0_, c1_, c2_, c3_, c4_] = 0), own_Ends p e below s 1 5 (own_Q0 Z p0 p1 p2 p3 p4 p5  h0 n0) (T73.setTop (mkF m 138 #[.val (.int p0), .val (.int p1), .val (.int p2), .val (.int p3), .val (.int p4), .val (.int p5), .val (.int (5 : Int32)), .val (.int c0_), .val (.int c1_), .val (.int c2_), .val (.int c3_), .val (.int c4_), .val (.ref b68), .unset, .unset, .unset, .unset, .unset] [(.int (0 : Int32))])) := by
      intro hst
      show own_Ends _ _ _ _ _ _ _ (T73.setTop (mkF m 138 #[.val (.int p0), .val (.int p1), .val (.int p2), .val (.int p3), .val (.int p4), .val (.int p5), .val (.int (5 : Int32)), .val (.int c0_), .val (.int c1_), .val (.int c2_), .val (.int c3_), .val (.int c4_), .val (.ref b68), .unset, .unset, .unset, .unset, .unset] [(.int (0 : Int32))]))
      refine own_step (fun _ k => XS.istore X73.here hx rfl (hb hby at_138) rfl (l' := #[.val (.int p0), .val (.int p1), .val (.int p2), .val (.int p3), .val (.int p4), .val (.int p5), .val (.int (5 : Int32)), .val (.int c0_), .val (.int c1_), .val (.int c2_), .val (.int c3_), .val (.int c4_), .val (.ref b68), .val (.int (0 : Int32)), .unset, .unset, .unset, .unset]) rfl k) ?_
      show own_Ends _ _ _ _ _ _ _ (T73.setTop (mkF m 140 #[.val (.int p0), .val (.int p1), .val (.int p2), .val (.int p3), .val (.int p4), .val (.int p5), .val (.int (5 : Int32)), .val (.int c0_), .val (.int c1_), .val (.int c2_), .val (.int c3_), .val (.int c4_), .val (.ref b68), .val (.int (0 : Int32)), .unset, .unset, .unset, .unset] []))
      refine own_step (fun _ k => XS.iload X73.here hx rfl (hb hby at_140) rfl k) ?_
      show own_Ends _ _ _ _ _ _ _ (T73.setTop (mkF m 142 #[.val (.int p0), .val (.int p1), .val (.int p2), .val (.int p3), .val (.int p4), .val (.int p5), .val (.int (5 : Int32)), .val (.int c0_), .val (.int c1_), .val (.int c2_), .val (.int c3_), .val (.int c4_), .val (.ref b68), .val (.int (0 : Int32)), .unset, .unset, .unset, .unset] [(.int (0 : Int32))]))
      refine own_step (fun _ k => XS.ifYes X73.here hx rfl (pc0 := 142) (pc' := 149) rfl (hb hby at_142) rfl ((if0 _ _).trans (teq rfl).1) (by decide) (by decide) k) ?_
      show own_Ends _ _ _ _ _ _ _ (T73.setTop (mkF m 149 #[.val (.int p0), .val (.int p1), .val (.int p2), .val (.int p3), .val (.int p4), .val (.int p5), .val (.int (5 : Int32)), .val (.int c0_), .val (.int c1_), .val (.int c2_), .val (.int c3_), .val (.int c4_), .val (.ref b68), .val (.int (0 : Int32)), .unset, .unset, .unset, .unset] []))
      refine own_step (fun _ k => XS.iconst X73.here hx rfl (hb hby at_149) k) ?_
      show own_Ends _ _ _ _ _ _ _ (T73.setTop (mkF m 150 #[.val (.int p0), .val (.int p1), .val (.int p2), .val (.int p3), .val (.int p4), .val (.int p5), .val (.int (5 : Int32)), .val (.int c0_), .val (.int c1_), .val (.int c2_), .val (.int c3_), .val (.int c4_), .val (.ref b68), .val (.int (0 : Int32)), .unset, .unset, .unset, .unset] [(.int (0 : Int32))]))
      refine own_step (fun _ k => XS.istore X73.here hx rfl (hb hby at_150) rfl (l' := #[.val (.int p0), .val (.int p1), .val (.int p2), .val (.int p3), .val (.int p4), .val (.int p5), .val (.int (5 : Int32)), .val (.int c0_), .val (.int c1_), .val (.int c2_), .val (.int c3_), .val (.int c4_), .val (.ref b68), .val (.int (0 : Int32)), .val (.int (0 : Int32)), .unset, .unset, .unset]) rfl k) ?_
      show own_Ends _ _ _ _ _ _ _ (T73.setTop (mkF m 152 #[.val (.int p0), .val (.int p1), .val (.int p2), .val (.int p3), .val (.int p4), .val (.int p5), .val (.int (5 : Int32)), .val (.int c0_), .val (.int c1_), .val (.int c2_), .val (.int c3_), .val (.int c4_), .val (.ref b68), .val (.int (0 : Int32)), .val (.int (0 : Int32)), .unset, .unset, .unset] []))
      refine own_step (fun _ k => XS.iconst X73.here hx rfl (hb hby at_152) k) ?_
      show own_Ends _ _ _ _ _ _ _ (T73.setTop (mkF m 153 #[.val (.int p0), .val (.int p1), .val (.int p2), .val (.int p3), .val (.int p4), .val (.int p5), .val (.int (5 : Int32)), .val (.int c0_), .val (.int c1_), .val (.int c2_), .val (.int c3_), .val (.int c4_), .val (.ref b68), .val (.int (0 : Int32)), .val (.int (0 : Int32)), .unset, .unset, .unset] [(.int (-1 : Int32))]))
      refine own_step (fun _ k => XS.istore X73.here hx rfl (hb hby at_153) rfl (l' := #[.val (.int p0), .val (.int p1), .val (.int p2), .val (.int p3), .val (.int p4), .val (.int p5), .val (.int (5 : Int32)), .val (.int c0_), .val (.int c1_), .val (.int c2_), .val (.int c3_), .val (.int c4_), .val (.ref b68), .val (.int (0 : Int32)), .val (.int (0 : Int32)), .val (.int (-1 : Int32)), .unset, .unset]) rfl k) ?_
      show own_Ends _ _ _ _ _ _ _ (T73.setTop (mkF m 155 #[.val (.int p0), .val (.int p1), .val (.int p2), .val (.int p3), .val (.int p4), .val (.int p5), .val (.int (5 : Int32)), .val (.int c0_), .val (.int c1_), .val (.int c2_), .val (.int c3_), .val (.int c4_), .val (.ref b68), .val (.int (0 : Int32)), .val (.int (0 : Int32)), .val (.int (-1 : Int32)), .unset, .unset] []))
      refine own_step (fun _ k => XS.iconst X73.here hx rfl (hb hby at_155) k) ?_
      show own_Ends _ _ _ _ _ _ _ (T73.setTop (mkF m 156 #[.val (.int p0), .val (.int p1), .val (.int p2), .val (.int p3), .val (.int p4), .val (.int p5), .val (.int (5 : Int32)), .val (.int c0_), .val (.int c1_), .val (.int c2_), .val (.int c3_), .val (.int c4_), .val (.ref b68), .val (.int (0 : Int32)), .val (.int (0 : Int32)), .val (.int (-1 : Int32)), .unset, .unset] [(.int (0 : Int32))]))
      refine own_step (fun _ k => XS.istore X73.here hx rfl (hb hby at_156) rfl (l' := #[.val (.int p0), .val (.int p1), .val (.int p2), .val (.int p3), .val (.int p4), .val (.int p5), .val (.int (5 : Int32)), .val (.int c0_), .val (.int c1_), .val (.int c2_), .val (.int c3_), .val (.int c4_), .val (.ref b68), .val (.int (0 : Int32)), .val (.int (0 : Int32)), .val (.int (-1 : Int32)), .val (.int (0 : Int32)), .unset]) rfl k) ?_
      show own_Ends _ _ _ _ _ _ _ (T73.setTop (mkF m 158 #[.val (.int p0), .val (.int p1), .val (.int p2), .val (.int p3), .val (.int p4), .val (.int p5), .val (.int (5 : Int32)), .val (.int c0_), .val (.int c1_), .val (.int c2_), .val (.int c3_), .val (.int c4_), .val (.ref b68), .val (.int (0 : Int32)), .val (.int (0 : Int32)), .val (.int (-1 : Int32)), .val (.int (0 : Int32)), .unset] []))
      refine own_step (fun _ k => XS.iload X73.here hx rfl (hb hby at_158) rfl k) ?_
      show own_Ends _ _ _ _ _ _ _ (T73.setTop (mkF m 160 #[.val (.int p0), .val (.int p1), .val (.int p2), .val (.int p3), .val (.int p4), .val (.int p5), .val (.int (5 : Int32)), .val (.int c0_), .val (.int c1_), .val (.int c2_), .val (.int c3_), .val (.int c4_), .val (.ref b68), .val (.int (0 : Int32)), .val (.int (0 : Int32)), .val (.int (-1 : Int32)), .val (.int (0 : Int32)), .unset] [(.int (5 : Int32))]))
      refine own_step (fun _ k => XS.iconst X73.here hx rfl (hb hby at_160) k) ?_
      show own_Ends _ _ _ _ _ _ _ (T73.setTop (mkF m 161 #[.val (.int p0), .val (.int p1), .val (.int p2), .val (.int p3), .val (.int p4), .val (.int p5), .val (.int (5 : Int32)), .val (.int c0_), .val (.int c1_), .val (.int c2_), .val (.int c3_), .val (.int c4_), .val (.ref b68), .val (.int (0 : Int32)), .val (.int (0 : Int32)), .val (.int (-1 : Int32)), .val (.int (0 : Int32)), .unset] [(.int (4 : Int32)), (.int (5 : Int32))]))
      refine own_step (fun _ k => XS.icmpNo X73.here hx rfl (hb hby at_161) rfl (tlt (by decide)).2.2.2 k) ?_
      show own_Ends _ _ _ _ _ _ _ (T73.setTop (mkF m 164 #[.val (.int p0), .val (.int p1), .val (.int p2), .val (.int p3), .val (.int p4), .val (.int p5), .val (.int (5 : Int32)), .val (.int c0_), .val (.int c1_), .val (.int c2_), .val (.int c3_), .val (.int c4_), .val (.ref b68), .val (.int (0 : Int32)), .val (.int (0 : Int32)), .val (.int (-1 : Int32)), .val (.int (0 : Int32)), .unset] []))
      refine own_step (fun _ k => XS.iload X73.here hx rfl (hb hby at_164) rfl k) ?_
      show own_Ends _ _ _ _ _ _ _ (T73.setTop (mkF m 166 #[.val (.int p0), .val (.int p1), .val (.int p2), .val (.int p3), .val (.int p4), .val (.int p5), .val (.int (5 : Int32)), .val (.int c0_), .val (.int c1_), .val (.int c2_), .val (.int c3_), .val (.int c4_), .val (.ref b68), .val (.int (0 : Int32)), .val (.int (0 : Int32)), .val (.int (-1 : Int32)), .val (.int (0 : Int32)), .unset] [(.int (0 : Int32))]))
      refine own_step (fun _ k => XS.iconst X73.here hx rfl (hb hby at_166) k) ?_
      show own_Ends _ _ _ _ _ _ _ (T73.setTop (mkF m 167 #[.val (.int p0), .val (.int p1), .val (.int p2), .val (.int p3), .val (.int p4), .val (.int p5), .val (.int (5 : Int32)), .val (.int c0_), .val (.int c1_), .val (.int c2_), .val (.int c3_), .val (.int c4_), .val (.ref b68), .val (.int (0 : Int32)), .val (.int (0 : Int32)), .val (.int (-1 : Int32)), .val (.int (0 : Int32)), .unset] [(.int (4 : Int32)), (.int (0 : Int32))]))
      refine own_step (fun _ k => XS.icmpNo X73.here hx rfl (hb hby at_167) rfl (flt (by decide)).2.2.1 k) ?_
      show own_Ends _ _ _ _ _ _ _ (T73.setTop (mkF m 170 #[.val (.int p0), .val (.int p1), .val (.int p2), .val (.int p3), .val (.int p4), .val (.int p5), .val (.int (5 : Int32)), .val (.int c0_), .val (.int c1_), .val (.int c2_), .val (.int c3_), .val (.int c4_), .val (.ref b68), .val (.int (0 : Int32)), .val (.int (0 : Int32)), .val (.int (-1 : Int32)), .val (.int (0 : Int32)), .unset] []))
      refine own_step (fun _ k => XS.iload X73.here hx rfl (hb hby at_170) rfl k) ?_
      show own_Ends _ _ _ _ _ _ _ (T73.setTop (mkF m 172 #[.val (.int p0), .val (.int p1), .val (.int p2), .val (.int p3), .val (.int p4), .val (.int p5), .val (.int (5 : Int32)), .val (.int c0_), .val (.int c1_), .val (.int c2_), .val (.int c3_), .val (.int c4_), .val (.ref b68), .val (.int (0 : Int32)), .val (.int (0 : Int32)), .val (.int (-1 : Int32)), .val (.int (0 : Int32)), .unset] [(.int c4_)]))
      obtain ⟨_, _, ⟨T75, L75, k75, n75⟩, -, X75, ⟨Lc75, hQ75, l75, y75, z75⟩, st75⟩ := Jvm.LawKit.callS X73 hx (y := (⟨"com/example/parley/parley/io/CompetitionXmlLooksLikeXmlPinLaw", "ws", "(B)Z"⟩ : MethodName)) hown (mvT hZ (hw _ (List.mem_of_getElem? (i := 10) rfl))) (mvT hZ (hw _ (List.mem_of_getElem? (i := 11) rfl))) (mvT hZ (hw _ (List.mem_of_getElem? (i := 3) rfl))) (mvT hZ (hw _ (List.mem_of_getElem? (i := 12) rfl))) (by decide) (backOf (W := 0) (own_rm2 l Z a0 hw [] c4_  h73 n0 Z73 ) hZ (hw _ (List.mem_of_getElem? (i := 12) rfl)) (hw _ (List.mem_of_getElem? (i := 3) rfl)) (by decide) (by decide)) (g := (mkF m 172 #[.val (.int p0), .val (.int p1), .val (.int p2), .val (.int p3), .val (.int p4), .val (.int p5), .val (.int (5 : Int32)), .val (.int c0_), .val (.int c1_), .val (.int c2_), .val (.int c3_), .val (.int c4_), .val (.ref b68), .val (.int (0 : Int32)), .val (.int (0 : Int32)), .val (.int (-1 : Int32)), .val (.int (0 : Int32)), .unset] [(.int c4_)])) rfl (by rw [hml]; rfl) (argsL := [(.int c4_)]) (rest := []) (lenOf own_pd2 rfl) rfl (by show 2 * 0 + _ ≤ _; exact Nat.le_of_eq rfl) (hb hby at_172) (fun _ _ => ⟨rfl, e73, (by decide : 1 + 0 ≤ _), (by decide : 5 + 0 ≤ _)⟩)
      dsimp only [Pt.U, Pt.locs, Pt.cells, Pt.slots] at X75 l75 y75 z75 st75 hQ75
      subst l75 y75 z75
      obtain ⟨rfl, Nq75, e75⟩ := hQ75
      have N75 := Fr.app N73 Nq75
      refine own_step (fun _ k => st75 _ k) ?_
      show own_Ends _ _ _ _ _ _ _ (T75.setTop (mkF m 175 #[.val (.int p0), .val (.int p1), .val (.int p2), .val (.int p3), .val (.int p4), .val (.int p5), .val (.int (5 : Int32)), .val (.int c0_), .val (.int c1_), .val (.int c2_), .val (.int c3_), .val (.int c4_), .val (.ref b68), .val (.int (0 : Int32)), .val (.int (0 : Int32)), .val (.int (-1 : Int32)), .val (.int (0 : Int32)), .unset] [(.int (own_ws c4_))]))
      have J185_76 : ∀ (lJ76 : List Loc) (NJ76 : Fr n0 lJ76) (TJ76 : State) (XJ76 : Stand p l e room_1 s m #[(.int p0), (.int p1), (.int p2), (.int p3), (.int p4), (.int p5)] below meth c TJ76 lJ76 1 5) (eJ76 : TJ76.heap = h73) (kv4 fv4 : Int32) (hE4 : own_res kv4 fv4 = own_first [c4_]), own_Ends p e below s 1 5 (own_Q0 Z p0 p1 p2 p3 p4 p5  h0 n0) (TJ76.setTop (mkF m 185 #[.val (.int p0), .val (.int p1), .val (.int p2), .val (.int p3), .val (.int p4), .val (.int p5), .val (.int (5 : Int32)), .val (.int c0_), .val (.int c1_), .val (.int c2_), .val (.int c3_), .val (.int c4_), .val (.ref b68), .val (.int (0 : Int32)), .val (.int (0 : Int32)), .val (.int kv4), .val (.int fv4), .unset] [])) := by
        intro lJ76 NJ76 TJ76 XJ76 eJ76 kv4 fv4 hE4
        show own_Ends _ _ _ _ _ _ _ (TJ76.setTop (mkF m 185 #[.val (.int p0), .val (.int p1), .val (.int p2), .val (.int p3), .val (.int p4), .val (.int p5), .val (.int (5 : Int32)), .val (.int c0_), .val (.int c1_), .val (.int c2_), .val (.int c3_), .val (.int c4_), .val (.ref b68), .val (.int (0 : Int32)), .val (.int (0 : Int32)), .val (.int kv4), .val (.int fv4), .unset] []))
        refine own_step (fun _ k => XS.iload XJ76.here hx rfl (hb hby at_185) rfl k) ?_
        show own_Ends _ _ _ _ _ _ _ (TJ76.setTop (mkF m 187 #[.val (.int p0), .val (.int p1), .val (.int p2), .val (.int p3), .val (.int p4), .val (.int p5), .val (.int (5 : Int32)), .val (.int c0_), .val (.int c1_), .val (.int c2_), .val (.int c3_), .val (.int c4_), .val (.ref b68), .val (.int (0 : Int32)), .val (.int (0 : Int32)), .val (.int kv4), .val (.int fv4), .unset] [(.int (5 : Int32))]))
        refine own_step (fun _ k => XS.iconst XJ76.here hx rfl (hb hby at_187) k) ?_
        show own_Ends _ _ _ _ _ _ _ (TJ76.setTop (mkF m 188 #[.val (.int p0), .val (.int p1), .val (.int p2), .val (.int p3), .val (.int p4), .val (.int p5), .val (.int (5 : Int32)), .val (.int c0_), .val (.int c1_), .val (.int c2_), .val (.int c3_), .val (.int c4_), .val (.ref b68), .val (.int (0 : Int32)), .val (.int (0 : Int32)), .val (.int kv4), .val (.int fv4), .unset] [(.int (3 : Int32)), (.int (5 : Int32))]))
        refine own_step (fun _ k => XS.icmpNo XJ76.here hx rfl (hb hby at_188) rfl (tlt (by decide)).2.2.2 k) ?_
        show own_Ends _ _ _ _ _ _ _ (TJ76.setTop (mkF m 191 #[.val (.int p0), .val (.int p1), .val (.int p2), .val (.int p3), .val (.int p4), .val (.int p5), .val (.int (5 : Int32)), .val (.int c0_), .val (.int c1_), .val (.int c2_), .val (.int c3_), .val (.int c4_), .val (.ref b68), .val (.int (0 : Int32)), .val (.int (0 : Int32)), .val (.int kv4), .val (.int fv4), .unset] []))
        refine own_step (fun _ k => XS.iload XJ76.here hx rfl (hb hby at_191) rfl k) ?_
        show own_Ends _ _ _ _ _ _ _ (TJ76.setTop (mkF m 193 #[.val (.int p0), .val (.int p1), .val (.int p2), .val (.int p3), .val (.int p4), .val (.int p5), .val (.int (5 : Int32)), .val (.int c0_), .val (.int c1_), .val (.int c2_), .val (.int c3_), .val (.int c4_), .val (.ref b68), .val (.int (0 : Int32)), .val (.int (0 : Int32)), .val (.int kv4), .val (.int fv4), .unset] [(.int (0 : Int32))]))
        refine own_step (fun _ k => XS.iconst XJ76.here hx rfl (hb hby at_193) k) ?_
        show own_Ends _ _ _ _ _ _ _ (TJ76.setTop (mkF m 194 #[.val (.int p0), .val (.int p1), .val (.int p2), .val (.int p3), .val (.int p4), .val (.int p5), .val (.int (5 : Int32)), .val (.int c0_), .val (.int c1_), .val (.int c2_), .val (.int c3_), .val (.int c4_), .val (.ref b68), .val (.int (0 : Int32)), .val (.int (0 : Int32)), .val (.int kv4), .val (.int fv4), .unset] [(.int (3 : Int32)), (.int (0 : Int32))]))
        refine own_step (fun _ k => XS.icmpNo XJ76.here hx rfl (hb hby at_194) rfl (flt (by decide)).2.2.1 k) ?_
        show own_Ends _ _ _ _ _ _ _ (TJ76.setTop (mkF m 197 #[.val (.int p0), .val (.int p1), .val (.int p2), .val (.int p3), .val (.int p4), .val (.int p5), .val (.int (5 : Int32)), .val (.int c0_), .val (.int c1_), .val (.int c2_), .val (.int c3_), .val (.int c4_), .val (.ref b68), .val (.int (0 : Int32)), .val (.int (0 : Int32)), .val (.int kv4), .val (.int fv4), .unset] []))
        refine own_step (fun _ k => XS.iload XJ76.here hx rfl (hb hby at_197) rfl k) ?_
        show own_Ends _ _ _ _ _ _ _ (TJ76.setTop (mkF m 199 #[.val (.int p0), .val (.int p1), .val (.int p2), .val (.int p3), .val (.int p4), .val (.int p5), .val (.int (5 : Int32)), .val (.int c0_), .val (.int c1_), .val (.int c2_), .val (.int c3_), .val (.int c4_), .val (.ref b68), .val (.int (0 : Int32)), .val (.int (0 : Int32)), .val (.int kv4), .val (.int fv4), .unset] [(.int c3_)]))
        obtain ⟨_, _, ⟨T77, L77, k77, n77⟩, -, X77, ⟨Lc77, hQ77, l77, y77, z77⟩, st77⟩ := Jvm.LawKit.callS XJ76 hx (y := (⟨"com/example/parley/parley/io/CompetitionXmlLooksLikeXmlPinLaw", "ws", "(B)Z"⟩ : MethodName)) hown (mvT hZ (hw _ (List.mem_of_getElem? (i := 10) rfl))) (mvT hZ (hw _ (List.mem_of_getElem? (i := 11) rfl))) (mvT hZ (hw _ (List.mem_of_getElem? (i := 3) rfl))) (mvT hZ (hw _ (List.mem_of_getElem? (i := 12) rfl))) (by decide) (backOf (W := 0) (own_rm2 l Z a0 hw [] c3_  h73 n0 Z73 ) hZ (hw _ (List.mem_of_getElem? (i := 12) rfl)) (hw _ (List.mem_of_getElem? (i := 3) rfl)) (by decide) (by decide)) (g := (mkF m 199 #[.val (.int p0), .val (.int p1), .val (.int p2), .val (.int p3), .val (.int p4), .val (.int p5), .val (.int (5 : Int32)), .val (.int c0_), .val (.int c1_), .val (.int c2_), .val (.int c3_), .val (.int c4_), .val (.ref b68), .val (.int (0 : Int32)), .val (.int (0 : Int32)), .val (.int kv4), .val (.int fv4), .unset] [(.int c3_)])) rfl (by rw [hml]; rfl) (argsL := [(.int c3_)]) (rest := []) (lenOf own_pd2 rfl) rfl (by show 2 * 0 + _ ≤ _; exact Nat.le_of_eq rfl) (hb hby at_199) (fun _ _ => ⟨rfl, eJ76, (by decide : 1 + 0 ≤ _), (by decide : 5 + 0 ≤ _)⟩)
        dsimp only [Pt.U, Pt.locs, Pt.cells, Pt.slots] at X77 l77 y77 z77 st77 hQ77
        subst l77 y77 z77
        obtain ⟨rfl, Nq77, e77⟩ := hQ77
        have N77 := Fr.app NJ76 Nq77
        refine own_step (fun _ k => st77 _ k) ?_
        show own_Ends _ _ _ _ _ _ _ (T77.setTop (mkF m 202 #[.val (.int p0), .val (.int p1), .val (.int p2), .val (.int p3), .val (.int p4), .val (.int p5), .val (.int (5 : Int32)), .val (.int c0_), .val (.int c1_), .val (.int c2_), .val (.int c3_), .val (.int c4_), .val (.ref b68), .val (.int (0 : Int32)), .val (.int (0 : Int32)), .val (.int kv4), .val (.int fv4), .unset] [(.int (own_ws c3_))]))
        have J212_78 : ∀ (lJ78 : List Loc) (NJ78 : Fr n0 lJ78) (TJ78 : State) (XJ78 : Stand p l e room_1 s m #[(.int p0), (.int p1), (.int p2), (.int p3), (.int p4), (.int p5)] below meth c TJ78 lJ78 1 5) (eJ78 : TJ78.heap = h73) (kv3 fv3 : Int32) (hE3 : own_res kv3 fv3 = own_first [c3_, c4_]), own_Ends p e below s 1 5 (own_Q0 Z p0 p1 p2 p3 p4 p5  h0 n0) (TJ78.setTop (mkF m 212 #[.val (.int p0), .val (.int p1), .val (.int p2), .val (.int p3), .val (.int p4), .val (.int p5), .val (.int (5 : Int32)), .val (.int c0_), .val (.int c1_), .val (.int c2_), .val (.int c3_), .val (.int c4_), .val (.ref b68), .val (.int (0 : Int32)), .val (.int (0 : Int32)), .val (.int kv3), .val (.int fv3), .unset] [])) := by
          intro lJ78 NJ78 TJ78 XJ78 eJ78 kv3 fv3 hE3
          show own_Ends _ _ _ _ _ _ _ (TJ78.setTop (mkF m 212 #[.val (.int p0), .val (.int p1), .val (.int p2), .val (.int p3), .val (.int p4), .val (.int p5), .val (.int (5 : Int32)), .val (.int c0_), .val (.int c1_), .val (.int c2_), .val (.int c3_), .val (.int c4_), .val (.ref b68), .val (.int (0 : Int32)), .val (.int (0 : Int32)), .val (.int kv3), .val (.int fv3), .unset] []))
          refine own_step (fun _ k => XS.iload XJ78.here hx rfl (hb hby at_212) rfl k) ?_
          show own_Ends _ _ _ _ _ _ _ (TJ78.setTop (mkF m 214 #[.val (.int p0), .val (.int p1), .val (.int p2), .val (.int p3), .val (.int p4), .val (.int p5), .val (.int (5 : Int32)), .val (.int c0_), .val (.int c1_), .val (.int c2_), .val (.int c3_), .val (.int c4_), .val (.ref b68), .val (.int (0 : Int32)), .val (.int (0 : Int32)), .val (.int kv3), .val (.int fv3), .unset] [(.int (5 : Int32))]))
          refine own_step (fun _ k => XS.iconst XJ78.here hx rfl (hb hby at_214) k) ?_
          show own_Ends _ _ _ _ _ _ _ (TJ78.setTop (mkF m 215 #[.val (.int p0), .val (.int p1), .val (.int p2), .val (.int p3), .val (.int p4), .val (.int p5), .val (.int (5 : Int32)), .val (.int c0_), .val (.int c1_), .val (.int c2_), .val (.int c3_), .val (.int c4_), .val (.ref b68), .val (.int (0 : Int32)), .val (.int (0 : Int32)), .val (.int kv3), .val (.int fv3), .unset] [(.int (2 : Int32)), (.int (5 : Int32))]))
          refine own_step (fun _ k => XS.icmpNo XJ78.here hx rfl (hb hby at_215) rfl (tlt (by decide)).2.2.2 k) ?_
          show own_Ends _ _ _ _ _ _ _ (TJ78.setTop (mkF m 218 #[.val (.int p0), .val (.int p1), .val (.int p2), .val (.int p3), .val (.int p4), .val (.int p5), .val (.int (5 : Int32)), .val (.int c0_), .val (.int c1_), .val (.int c2_), .val (.int c3_), .val (.int c4_), .val (.ref b68), .val (.int (0 : Int32)), .val (.int (0 : Int32)), .val (.int kv3), .val (.int fv3), .unset] []))
          refine own_step (fun _ k => XS.iload XJ78.here hx rfl (hb hby at_218) rfl k) ?_
          show own_Ends _ _ _ _ _ _ _ (TJ78.setTop (mkF m 220 #[.val (.int p0), .val (.int p1), .val (.int p2), .val (.int p3), .val (.int p4), .val (.int p5), .val (.int (5 : Int32)), .val (.int c0_), .val (.int c1_), .val (.int c2_), .val (.int c3_), .val (.int c4_), .val (.ref b68), .val (.int (0 : Int32)), .val (.int (0 : Int32)), .val (.int kv3), .val (.int fv3), .unset] [(.int (0 : Int32))]))
          refine own_step (fun _ k => XS.iconst XJ78.here hx rfl (hb hby at_220) k) ?_
          show own_Ends _ _ _ _ _ _ _ (TJ78.setTop (mkF m 221 #[.val (.int p0), .val (.int p1), .val (.int p2), .val (.int p3), .val (.int p4), .val (.int p5), .val (.int (5 : Int32)), .val (.int c0_), .val (.int c1_), .val (.int c2_), .val (.int c3_), .val (.int c4_), .val (.ref b68), .val (.int (0 : Int32)), .val (.int (0 : Int32)), .val (.int kv3), .val (.int fv3), .unset] [(.int (2 : Int32)), (.int (0 : Int32))]))
          refine own_step (fun _ k => XS.icmpNo XJ78.here hx rfl (hb hby at_221) rfl (flt (by decide)).2.2.1 k) ?_
          show own_Ends _ _ _ _ _ _ _ (TJ78.setTop (mkF m 224 #[.val (.int p0), .val (.int p1), .val (.int p2), .val (.int p3), .val (.int p4), .val (.int p5), .val (.int (5 : Int32)), .val (.int c0_), .val (.int c1_), .val (.int c2_), .val (.int c3_), .val (.int c4_), .val (.ref b68), .val (.int (0 : Int32)), .val (.int (0 : Int32)), .val (.int kv3), .val (.int fv3), .unset] []))
          refine own_step (fun _ k => XS.iload XJ78.here hx rfl (hb hby at_224) rfl k) ?_
          show own_Ends _ _ _ _ _ _ _ (TJ78.setTop (mkF m 226 #[.val (.int p0), .val (.int p1), .val (.int p2), .val (.int p3), .val (.int p4), .val (.int p5), .val (.int (5 : Int32)), .val (.int c0_), .val (.int c1_), .val (.int c2_), .val (.int c3_), .val (.int c4_), .val (.ref b68), .val (.int (0 : Int32)), .val (.int (0 : Int32)), .val (.int kv3), .val (.int fv3), .unset] [(.int c2_)]))
          obtain ⟨_, _, ⟨T79, L79, k79, n79⟩, -, X79, ⟨Lc79, hQ79, l79, y79, z79⟩, st79⟩ := Jvm.LawKit.callS XJ78 hx (y := (⟨"com/example/parley/parley/io/CompetitionXmlLooksLikeXmlPinLaw", "ws", "(B)Z"⟩ : MethodName)) hown (mvT hZ (hw _ (List.mem_of_getElem? (i := 10) rfl))) (mvT hZ (hw _ (List.mem_of_getElem? (i := 11) rfl))) (mvT hZ (hw _ (List.mem_of_getElem? (i := 3) rfl))) (mvT hZ (hw _ (List.mem_of_getElem? (i := 12) rfl))) (by decide) (backOf (W := 0) (own_rm2 l Z a0 hw [] c2_  h73 n0 Z73 ) hZ (hw _ (List.mem_of_getElem? (i := 12) rfl)) (hw _ (List.mem_of_getElem? (i := 3) rfl)) (by decide) (by decide)) (g := (mkF m 226 #[.val (.int p0), .val (.int p1), .val (.int p2), .val (.int p3), .val (.int p4), .val (.int p5), .val (.int (5 : Int32)), .val (.int c0_), .val (.int c1_), .val (.int c2_), .val (.int c3_), .val (.int c4_), .val (.ref b68), .val (.int (0 : Int32)), .val (.int (0 : Int32)), .val (.int kv3), .val (.int fv3), .unset] [(.int c2_)])) rfl (by rw [hml]; rfl) (argsL := [(.int c2_)]) (rest := []) (lenOf own_pd2 rfl) rfl (by show 2 * 0 + _ ≤ _; exact Nat.le_of_eq rfl) (hb hby at_226) (fun _ _ => ⟨rfl, eJ78, (by decide : 1 + 0 ≤ _), (by decide : 5 + 0 ≤ _)⟩)
          dsimp only [Pt.U, Pt.locs, Pt.cells, Pt.slots] at X79 l79 y79 z79 st79 hQ79
          subst l79 y79 z79
          obtain ⟨rfl, Nq79, e79⟩ := hQ79
          have N79 := Fr.app NJ78 Nq79
          refine own_step (fun _ k => st79 _ k) ?_
          show own_Ends _ _ _ _ _ _ _ (T79.setTop (mkF m 229 #[.val (.int p0), .val (.int p1), .val (.int p2), .val (.int p3), .val (.int p4), .val (.int p5), .val (.int (5 : Int32)), .val (.int c0_), .val (.int c1_), .val (.int c2_), .val (.int c3_), .val (.int c4_), .val (.ref b68), .val (.int (0 : Int32)), .val (.int (0 : Int32)), .val (.int kv3), .val (.int fv3), .unset] [(.int (own_ws c2_))]))
          have J239_80 : ∀ (lJ80 : List Loc) (NJ80 : Fr n0 lJ80) (TJ80 : State) (XJ80 : Stand p l e room_1 s m #[(.int p0), (.int p1), (.int p2), (.int p3), (.int p4), (.int p5)] below meth c TJ80 lJ80 1 5) (eJ80 : TJ80.heap = h73) (kv2 fv2 : Int32) (hE2 : own_res kv2 fv2 = own_first [c2_, c3_, c4_]), own_Ends p e below s 1 5 (own_Q0 Z p0 p1 p2 p3 p4 p5  h0 n0) (TJ80.setTop (mkF m 239 #[.val (.int p0), .val (.int p1), .val (.int p2), .val (.int p3), .val (.int p4), .val (.int p5), .val (.int (5 : Int32)), .val (.int c0_), .val (.int c1_), .val (.int c2_), .val (.int c3_), .val (.int c4_), .val (.ref b68), .val (.int (0 : Int32)), .val (.int (0 : Int32)), .val (.int kv2), .val (.int fv2), .unset] [])) := by
            intro lJ80 NJ80 TJ80 XJ80 eJ80 kv2 fv2 hE2
            show own_Ends _ _ _ _ _ _ _ (TJ80.setTop (mkF m 239 #[.val (.int p0), .val (.int p1), .val (.int p2), .val (.int p3), .val (.int p4), .val (.int p5), .val (.int (5 : Int32)), .val (.int c0_), .val (.int c1_), .val (.int c2_), .val (.int c3_), .val (.int c4_), .val (.ref b68), .val (.int (0 : Int32)), .val (.int (0 : Int32)), .val (.int kv2), .val (.int fv2), .unset] []))
            refine own_step (fun _ k => XS.iload XJ80.here hx rfl (hb hby at_239) rfl k) ?_
            show own_Ends _ _ _ _ _ _ _ (TJ80.setTop (mkF m 241 #[.val (.int p0), .val (.int p1), .val (.int p2), .val (.int p3), .val (.int p4), .val (.int p5), .val (.int (5 : Int32)), .val (.int c0_), .val (.int c1_), .val (.int c2_), .val (.int c3_), .val (.int c4_), .val (.ref b68), .val (.int (0 : Int32)), .val (.int (0 : Int32)), .val (.int kv2), .val (.int fv2), .unset] [(.int (5 : Int32))]))
            refine own_step (fun _ k => XS.iconst XJ80.here hx rfl (hb hby at_241) k) ?_
            show own_Ends _ _ _ _ _ _ _ (TJ80.setTop (mkF m 242 #[.val (.int p0), .val (.int p1), .val (.int p2), .val (.int p3), .val (.int p4), .val (.int p5), .val (.int (5 : Int32)), .val (.int c0_), .val (.int c1_), .val (.int c2_), .val (.int c3_), .val (.int c4_), .val (.ref b68), .val (.int (0 : Int32)), .val (.int (0 : Int32)), .val (.int kv2), .val (.int fv2), .unset] [(.int (1 : Int32)), (.int (5 : Int32))]))
            refine own_step (fun _ k => XS.icmpNo XJ80.here hx rfl (hb hby at_242) rfl (tlt (by decide)).2.2.2 k) ?_
            show own_Ends _ _ _ _ _ _ _ (TJ80.setTop (mkF m 245 #[.val (.int p0), .val (.int p1), .val (.int p2), .val (.int p3), .val (.int p4), .val (.int p5), .val (.int (5 : Int32)), .val (.int c0_), .val (.int c1_), .val (.int c2_), .val (.int c3_), .val (.int c4_), .val (.ref b68), .val (.int (0 : Int32)), .val (.int (0 : Int32)), .val (.int kv2), .val (.int fv2), .unset] []))
            refine own_step (fun _ k => XS.iload XJ80.here hx rfl (hb hby at_245) rfl k) ?_
            show own_Ends _ _ _ _ _ _ _ (TJ80.setTop (mkF m 247 #[.val (.int p0), .val (.int p1), .val (.int p2), .val (.int p3), .val (.int p4), .val (.int p5), .val (.int (5 : Int32)), .val (.int c0_), .val (.int c1_), .val (.int c2_), .val (.int c3_), .val (.int c4_), .val (.ref b68), .val (.int (0 : Int32)), .val (.int (0 : Int32)), .val (.int kv2), .val (.int fv2), .unset] [(.int (0 : Int32))]))
            refine own_step (fun _ k => XS.iconst XJ80.here hx rfl (hb hby at_247) k) ?_
            show own_Ends _ _ _ _ _ _ _ (TJ80.setTop (mkF m 248 #[.val (.int p0), .val (.int p1), .val (.int p2), .val (.int p3), .val (.int p4), .val (.int p5), .val (.int (5 : Int32)), .val (.int c0_), .val (.int c1_), .val (.int c2_), .val (.int c3_), .val (.int c4_), .val (.ref b68), .val (.int (0 : Int32)), .val (.int (0 : Int32)), .val (.int kv2), .val (.int fv2), .unset] [(.int (1 : Int32)), (.int (0 : Int32))]))
            refine own_step (fun _ k => XS.icmpNo XJ80.here hx rfl (hb hby at_248) rfl (flt (by decide)).2.2.1 k) ?_
            show own_Ends _ _ _ _ _ _ _ (TJ80.setTop (mkF m 251 #[.val (.int p0), .val (.int p1), .val (.int p2), .val (.int p3), .val (.int p4), .val (.int p5), .val (.int (5 : Int32)), .val (.int c0_), .val (.int c1_), .val (.int c2_), .val (.int c3_), .val (.int c4_), .val (.ref b68), .val (.int (0 : Int32)), .val (.int (0 : Int32)), .val (.int kv2), .val (.int fv2), .unset] []))
            refine own_step (fun _ k => XS.iload XJ80.here hx rfl (hb hby at_251) rfl k) ?_
            show own_Ends _ _ _ _ _ _ _ (TJ80.setTop (mkF m 253 #[.val (.int p0), .val (.int p1), .val (.int p2), .val (.int p3), .val (.int p4), .val (.int p5), .val (.int (5 : Int32)), .val (.int c0_), .val (.int c1_), .val (.int c2_), .val (.int c3_), .val (.int c4_), .val (.ref b68), .val (.int (0 : Int32)), .val (.int (0 : Int32)), .val (.int kv2), .val (.int fv2), .unset] [(.int c1_)]))
            obtain ⟨_, _, ⟨T81, L81, k81, n81⟩, -, X81, ⟨Lc81, hQ81, l81, y81, z81⟩, st81⟩ := Jvm.LawKit.callS XJ80 hx (y := (⟨"com/example/parley/parley/io/CompetitionXmlLooksLikeXmlPinLaw", "ws", "(B)Z"⟩ : MethodName)) hown (mvT hZ (hw _ (List.mem_of_getElem? (i := 10) rfl))) (mvT hZ (hw _ (List.mem_of_getElem? (i := 11) rfl))) (mvT hZ (hw _ (List.mem_of_getElem? (i := 3) rfl))) (mvT hZ (hw _ (List.mem_of_getElem? (i := 12) rfl))) (by decide) (backOf (W := 0) (own_rm2 l Z a0 hw [] c1_  h73 n0 Z73 ) hZ (hw _ (List.mem_of_getElem? (i := 12) rfl)) (hw _ (List.mem_of_getElem? (i := 3) rfl)) (by decide) (by decide)) (g := (mkF m 253 #[.val (.int p0), .val (.int p1), .val (.int p2), .val (.int p3), .val (.int p4), .val (.int p5), .val (.int (5 : Int32)), .val (.int c0_), .val (.int c1_), .val (.int c2_), .val (.int c3_), .val (.int c4_), .val (.ref b68), .val (.int (0 : Int32)), .val (.int (0 : Int32)), .val (.int kv2), .val (.int fv2), .unset] [(.int c1_)])) rfl (by rw [hml]; rfl) (argsL := [(.int c1_)]) (rest := []) (lenOf own_pd2 rfl) rfl (by show 2 * 0 + _ ≤ _; exact Nat.le_of_eq rfl) (hb hby at_253) (fun _ _ => ⟨rfl, eJ80, (by decide : 1 + 0 ≤ _), (by decide : 5 + 0 ≤ _)⟩)
            dsimp only [Pt.U, Pt.locs, Pt.cells, Pt.slots] at X81 l81 y81 z81 st81 hQ81
            subst l81 y81 z81
            obtain ⟨rfl, Nq81, e81⟩ := hQ81
            have N81 := Fr.app NJ80 Nq81
            refine own_step (fun _ k => st81 _ k) ?_
            show own_Ends _ _ _ _ _ _ _ (T81.setTop (mkF m 256 #[.val (.int p0), .val (.int p1), .val (.int p2), .val (.int p3), .val (.int p4), .val (.int p5), .val (.int (5 : Int32)), .val (.int c0_), .val (.int c1_), .val (.int c2_), .val (.int c3_), .val (.int c4_), .val (.ref b68), .val (.int (0 : Int32)), .val (.int (0 : Int32)), .val (.int kv2), .val (.int fv2), .unset] [(.int (own_ws c1_))]))
            have J266_82 : ∀ (lJ82 : List Loc) (NJ82 : Fr n0 lJ82) (TJ82 : State) (XJ82 : Stand p l e room_1 s m #[(.int p0), (.int p1), (.int p2), (.int p3), (.int p4), (.int p5)] below meth c TJ82 lJ82 1 5) (eJ82 : TJ82.heap = h73) (kv1 fv1 : Int32) (hE1 : own_res kv1 fv1 = own_first [c1_, c2_, c3_, c4_]), own_Ends p e below s 1 5 (own_Q0 Z p0 p1 p2 p3 p4 p5  h0 n0) (TJ82.setTop (mkF m 266 #[.val (.int p0), .val (.int p1), .val (.int p2), .val (.int p3), .val (.int p4), .val (.int p5), .val (.int (5 : Int32)), .val (.int c0_), .val (.int c1_), .val (.int c2_), .val (.int c3_), .val (.int c4_), .val (.ref b68), .val (.int (0 : Int32)), .val (.int (0 : Int32)), .val (.int kv1), .val (.int fv1), .unset] [])) := by
              intro lJ82 NJ82 TJ82 XJ82 eJ82 kv1 fv1 hE1
              show own_Ends _ _ _ _ _ _ _ (TJ82.setTop (mkF m 266 #[.val (.int p0), .val (.int p1), .val (.int p2), .val (.int p3), .val (.int p4), .val (.int p5), .val (.int (5 : Int32)), .val (.int c0_), .val (.int c1_), .val (.int c2_), .val (.int c3_), .val (.int c4_), .val (.ref b68), .val (.int (0 : Int32)), .val (.int (0 : Int32)), .val (.int kv1), .val (.int fv1), .unset] []))
              refine own_step (fun _ k => XS.iload XJ82.here hx rfl (hb hby at_266) rfl k) ?_
              show own_Ends _ _ _ _ _ _ _ (TJ82.setTop (mkF m 268 #[.val (.int p0), .val (.int p1), .val (.int p2), .val (.int p3), .val (.int p4), .val (.int p5), .val (.int (5 : Int32)), .val (.int c0_), .val (.int c1_), .val (.int c2_), .val (.int c3_), .val (.int c4_), .val (.ref b68), .val (.int (0 : Int32)), .val (.int (0 : Int32)), .val (.int kv1), .val (.int fv1), .unset] [(.int (5 : Int32))]))
              refine own_step (fun _ k => XS.ifNo XJ82.here hx rfl (hb hby at_268) rfl ((if0 _ _).trans (tlt (by decide)).2.2.2) k) ?_
              show own_Ends _ _ _ _ _ _ _ (TJ82.setTop (mkF m 271 #[.val (.int p0), .val (.int p1), .val (.int p2), .val (.int p3), .val (.int p4), .val (.int p5), .val (.int (5 : Int32)), .val (.int c0_), .val (.int c1_), .val (.int c2_), .val (.int c3_), .val (.int c4_), .val (.ref b68), .val (.int (0 : Int32)), .val (.int (0 : Int32)), .val (.int kv1), .val (.int fv1), .unset] []))
              refine own_step (fun _ k => XS.iload XJ82.here hx rfl (hb hby at_271) rfl k) ?_
              show own_Ends _ _ _ _ _ _ _ (TJ82.setTop (mkF m 273 #[.val (.int p0), .val (.int p1), .val (.int p2), .val (.int p3), .val (.int p4), .val (.int p5), .val (.int (5 : Int32)), .val (.int c0_), .val (.int c1_), .val (.int c2_), .val (.int c3_), .val (.int c4_), .val (.ref b68), .val (.int (0 : Int32)), .val (.int (0 : Int32)), .val (.int kv1), .val (.int fv1), .unset] [(.int (0 : Int32))]))
              refine own_step (fun _ k => XS.ifNo XJ82.here hx rfl (hb hby at_273) rfl ((if0 _ _).trans (flt (by decide)).2.2.1) k) ?_
              show own_Ends _ _ _ _ _ _ _ (TJ82.setTop (mkF m 276 #[.val (.int p0), .val (.int p1), .val (.int p2), .val (.int p3), .val (.int p4), .val (.int p5), .val (.int (5 : Int32)), .val (.int c0_), .val (.int c1_), .val (.int c2_), .val (.int c3_), .val (.int c4_), .val (.ref b68), .val (.int (0 : Int32)), .val (.int (0 : Int32)), .val (.int kv1), .val (.int fv1), .unset] []))
              refine own_step (fun _ k => XS.iload XJ82.here hx rfl (hb hby at_276) rfl k) ?_
              show own_Ends _ _ _ _ _ _ _ (TJ82.setTop (mkF m 278 #[.val (.int p0), .val (.int p1), .val (.int p2), .val (.int p3), .val (.int p4), .val (.int p5), .val (.int (5 : Int32)), .val (.int c0_), .val (.int c1_), .val (.int c2_), .val (.int c3_), .val (.int c4_), .val (.ref b68), .val (.int (0 : Int32)), .val (.int (0 : Int32)), .val (.int kv1), .val (.int fv1), .unset] [(.int c0_)]))
              obtain ⟨_, _, ⟨T83, L83, k83, n83⟩, -, X83, ⟨Lc83, hQ83, l83, y83, z83⟩, st83⟩ := Jvm.LawKit.callS XJ82 hx (y := (⟨"com/example/parley/parley/io/CompetitionXmlLooksLikeXmlPinLaw", "ws", "(B)Z"⟩ : MethodName)) hown (mvT hZ (hw _ (List.mem_of_getElem? (i := 10) rfl))) (mvT hZ (hw _ (List.mem_of_getElem? (i := 11) rfl))) (mvT hZ (hw _ (List.mem_of_getElem? (i := 3) rfl))) (mvT hZ (hw _ (List.mem_of_getElem? (i := 12) rfl))) (by decide) (backOf (W := 0) (own_rm2 l Z a0 hw [] c0_  h73 n0 Z73 ) hZ (hw _ (List.mem_of_getElem? (i := 12) rfl)) (hw _ (List.mem_of_getElem? (i := 3) rfl)) (by decide) (by decide)) (g := (mkF m 278 #[.val (.int p0), .val (.int p1), .val (.int p2), .val (.int p3), .val (.int p4), .val (.int p5), .val (.int (5 : Int32)), .val (.int c0_), .val (.int c1_), .val (.int c2_), .val (.int c3_), .val (.int c4_), .val (.ref b68), .val (.int (0 : Int32)), .val (.int (0 : Int32)), .val (.int kv1), .val (.int fv1), .unset] [(.int c0_)])) rfl (by rw [hml]; rfl) (argsL := [(.int c0_)]) (rest := []) (lenOf own_pd2 rfl) rfl (by show 2 * 0 + _ ≤ _; exact Nat.le_of_eq rfl) (hb hby at_278) (fun _ _ => ⟨rfl, eJ82, (by decide : 1 + 0 ≤ _), (by decide : 5 + 0 ≤ _)⟩)
              dsimp only [Pt.U, Pt.locs, Pt.cells, Pt.slots] at X83 l83 y83 z83 st83 hQ83
              subst l83 y83 z83
              obtain ⟨rfl, Nq83, e83⟩ := hQ83
              have N83 := Fr.app NJ82 Nq83
              refine own_step (fun _ k => st83 _ k) ?_
              show own_Ends _ _ _ _ _ _ _ (T83.setTop (mkF m 281 #[.val (.int p0), .val (.int p1), .val (.int p2), .val (.int p3), .val (.int p4), .val (.int p5), .val (.int (5 : Int32)), .val (.int c0_), .val (.int c1_), .val (.int c2_), .val (.int c3_), .val (.int c4_), .val (.ref b68), .val (.int (0 : Int32)), .val (.int (0 : Int32)), .val (.int kv1), .val (.int fv1), .unset] [(.int (own_ws c0_))]))
              have J291_84 : ∀ (lJ84 : List Loc) (NJ84 : Fr n0 lJ84) (TJ84 : State) (XJ84 : Stand p l e room_1 s m #[(.int p0), (.int p1), (.int p2), (.int p3), (.int p4), (.int p5)] below meth c TJ84 lJ84 1 5) (eJ84 : TJ84.heap = h73) (kv0 fv0 : Int32) (hE0 : own_res kv0 fv0 = own_first [c0_, c1_, c2_, c3_, c4_]), own_Ends p e below s 1 5 (own_Q0 Z p0 p1 p2 p3 p4 p5  h0 n0) (TJ84.setTop (mkF m 291 #[.val (.int p0), .val (.int p1), .val (.int p2), .val (.int p3), .val (.int p4), .val (.int p5), .val (.int (5 : Int32)), .val (.int c0_), .val (.int c1_), .val (.int c2_), .val (.int c3_), .val (.int c4_), .val (.ref b68), .val (.int (0 : Int32)), .val (.int (0 : Int32)), .val (.int kv0), .val (.int fv0), .unset] [])) := by
                intro lJ84 NJ84 TJ84 XJ84 eJ84 kv0 fv0 hE0
                show own_Ends _ _ _ _ _ _ _ (TJ84.setTop (mkF m 291 #[.val (.int p0), .val (.int p1), .val (.int p2), .val (.int p3), .val (.int p4), .val (.int p5), .val (.int (5 : Int32)), .val (.int c0_), .val (.int c1_), .val (.int c2_), .val (.int c3_), .val (.int c4_), .val (.ref b68), .val (.int (0 : Int32)), .val (.int (0 : Int32)), .val (.int kv0), .val (.int fv0), .unset] []))
                have J308_85 : ∀ (ex : Int32) (hex : ex = own_res kv0 fv0), own_Ends p e below s 1 5 (own_Q0 Z p0 p1 p2 p3 p4 p5  h0 n0) (TJ84.setTop (mkF m 308 #[.val (.int p0), .val (.int p1), .val (.int p2), .val (.int p3), .val (.int p4), .val (.int p5), .val (.int (5 : Int32)), .val (.int c0_), .val (.int c1_), .val (.int c2_), .val (.int c3_), .val (.int c4_), .val (.ref b68), .val (.int (0 : Int32)), .val (.int (0 : Int32)), .val (.int kv0), .val (.int fv0), .unset] [(.int ex)])) := by
                  intro ex hex
                  show own_Ends _ _ _ _ _ _ _ (TJ84.setTop (mkF m 308 #[.val (.int p0), .val (.int p1), .val (.int p2), .val (.int p3), .val (.int p4), .val (.int p5), .val (.int (5 : Int32)), .val (.int c0_), .val (.int c1_), .val (.int c2_), .val (.int c3_), .val (.int c4_), .val (.ref b68), .val (.int (0 : Int32)), .val (.int (0 : Int32)), .val (.int kv0), .val (.int fv0), .unset] [(.int ex)]))
                  refine own_step (fun _ k => XS.istore XJ84.here hx rfl (hb hby at_308) rfl (l' := #[.val (.int p0), .val (.int p1), .val (.int p2), .val (.int p3), .val (.int p4), .val (.int p5), .val (.int (5 : Int32)), .val (.int c0_), .val (.int c1_), .val (.int c2_), .val (.int c3_), .val (.int c4_), .val (.ref b68), .val (.int (0 : Int32)), .val (.int (0 : Int32)), .val (.int kv0), .val (.int fv0), .val (.int ex)]) rfl k) ?_
                  show own_Ends _ _ _ _ _ _ _ (TJ84.setTop (mkF m 310 #[.val (.int p0), .val (.int p1), .val (.int p2), .val (.int p3), .val (.int p4), .val (.int p5), .val (.int (5 : Int32)), .val (.int c0_), .val (.int c1_), .val (.int c2_), .val (.int c3_), .val (.int c4_), .val (.ref b68), .val (.int (0 : Int32)), .val (.int (0 : Int32)), .val (.int kv0), .val (.int fv0), .val (.int ex)] []))
                  refine own_step (fun _ k => XS.aload XJ84.here hx rfl (hb hby at_310) rfl rfl k) ?_
                  show own_Ends _ _ _ _ _ _ _ (TJ84.setTop (mkF m 312 #[.val (.int p0), .val (.int p1), .val (.int p2), .val (.int p3), .val (.int p4), .val (.int p5), .val (.int (5 : Int32)), .val (.int c0_), .val (.int c1_), .val (.int c2_), .val (.int c3_), .val (.int c4_), .val (.ref b68), .val (.int (0 : Int32)), .val (.int (0 : Int32)), .val (.int kv0), .val (.int fv0), .val (.int ex)] [(.ref b68)]))
                  obtain ⟨cl86, Ar86, qq86, S86, M86, H86, G86⟩ := id V73_b68
                  have hbb : ∀ b ∈ ([c0_, c1_, c2_, c3_, c4_] : List Int32), nar .byte b = b := by
                    intro b hbl
                    simp only [List.mem_cons, List.not_mem_nil, or_false] at hbl
                    rcases hbl with rfl | rfl | rfl | rfl | rfl
                    · exact nb0
                    · exact nb1
                    · exact nb2
                    · exact nb3
                    · exact nb4
                  obtain ⟨_, _, ⟨T87, L87, k87, n87⟩, -, X87, ⟨Lc87, hQ87, l87, y87, z87⟩, st87⟩ := Jvm.LawKit.callS XJ84 hx (y := (⟨"com/example/parley/parley/io/CompetitionXml", "looksLikeXml", "([B)Z"⟩ : MethodName)) hown (mvT hZ (hw _ (List.mem_of_getElem? (i := 6) rfl))) (mvT hZ (hw _ (List.mem_of_getElem? (i := 7) rfl))) (mvT hZ (hw _ (List.mem_of_getElem? (i := 8) rfl))) (mvT hZ (hw _ (List.mem_of_getElem? (i := 9) rfl))) (by decide) (backOf (W := 0) (own_rm3 l Z a0 hw [] b68 cl86 [c0_, c1_, c2_, c3_, c4_] h73 n0 Z73 Ar86 (S86.trans (show ((5 : Int32)).toNatClampNeg = 5 by decide)) (by simp) (own_hat (bs := [c0_, c1_, c2_, c3_, c4_]) H86 (S86.trans (show ((5 : Int32)).toNatClampNeg = 5 by decide))) hbb) hZ (hw _ (List.mem_of_getElem? (i := 9) rfl)) (hw _ (List.mem_of_getElem? (i := 8) rfl)) (by decide) (by decide)) (g := (mkF m 312 #[.val (.int p0), .val (.int p1), .val (.int p2), .val (.int p3), .val (.int p4), .val (.int p5), .val (.int (5 : Int32)), .val (.int c0_), .val (.int c1_), .val (.int c2_), .val (.int c3_), .val (.int c4_), .val (.ref b68), .val (.int (0 : Int32)), .val (.int (0 : Int32)), .val (.int kv0), .val (.int fv0), .val (.int ex)] [(.ref b68)])) rfl (by rw [hml]; rfl) (argsL := [(.ref b68)]) (rest := []) (lenOf own_pd1 rfl) rfl (by show 2 * 0 + _ ≤ _; exact Nat.le_of_eq rfl) (hb hby at_312) (fun _ _ => ⟨rfl, eJ84, (by decide : 1 + 0 ≤ _), (by decide : 5 + 0 ≤ _)⟩)
                  dsimp only [Pt.U, Pt.locs, Pt.cells, Pt.slots] at X87 l87 y87 z87 st87 hQ87
                  subst l87 y87 z87
                  obtain ⟨rfl, Nq87, e87⟩ := hQ87
                  have N87 := Fr.app NJ84 Nq87
                  refine own_step (fun _ k => st87 _ k) ?_
                  show own_Ends _ _ _ _ _ _ _ (T87.setTop (mkF m 315 #[.val (.int p0), .val (.int p1), .val (.int p2), .val (.int p3), .val (.int p4), .val (.int p5), .val (.int (5 : Int32)), .val (.int c0_), .val (.int c1_), .val (.int c2_), .val (.int c3_), .val (.int c4_), .val (.ref b68), .val (.int (0 : Int32)), .val (.int (0 : Int32)), .val (.int kv0), .val (.int fv0), .val (.int ex)] [(.int (own_looks [c0_, c1_, c2_, c3_, c4_]))]))
                  refine own_step (fun _ k => XS.iload X87.here hx rfl (hb hby at_315) rfl k) ?_
                  show own_Ends _ _ _ _ _ _ _ (T87.setTop (mkF m 317 #[.val (.int p0), .val (.int p1), .val (.int p2), .val (.int p3), .val (.int p4), .val (.int p5), .val (.int (5 : Int32)), .val (.int c0_), .val (.int c1_), .val (.int c2_), .val (.int c3_), .val (.int c4_), .val (.ref b68), .val (.int (0 : Int32)), .val (.int (0 : Int32)), .val (.int kv0), .val (.int fv0), .val (.int ex)] [(.int ex), (.int (own_looks [c0_, c1_, c2_, c3_, c4_]))]))
                  refine own_step (fun _ k => XS.icmpNo X87.here hx rfl (hb hby at_317) rfl (teq (by rw [own_looks, hst, hex]; exact (hE0).symm)).2 k) ?_
                  show own_Ends _ _ _ _ _ _ _ (T87.setTop (mkF m 320 #[.val (.int p0), .val (.int p1), .val (.int p2), .val (.int p3), .val (.int p4), .val (.int p5), .val (.int (5 : Int32)), .val (.int c0_), .val (.int c1_), .val (.int c2_), .val (.int c3_), .val (.int c4_), .val (.ref b68), .val (.int (0 : Int32)), .val (.int (0 : Int32)), .val (.int kv0), .val (.int fv0), .val (.int ex)] []))
                  refine own_step (fun _ k => XS.iconst X87.here hx rfl (hb hby at_320) k) ?_
                  show own_Ends _ _ _ _ _ _ _ (T87.setTop (mkF m 321 #[.val (.int p0), .val (.int p1), .val (.int p2), .val (.int p3), .val (.int p4), .val (.int p5), .val (.int (5 : Int32)), .val (.int c0_), .val (.int c1_), .val (.int c2_), .val (.int c3_), .val (.int c4_), .val (.ref b68), .val (.int (0 : Int32)), .val (.int (0 : Int32)), .val (.int kv0), .val (.int fv0), .val (.int ex)] [(.int (1 : Int32))]))
                  refine own_step (fun _ k => XS.goto X87.here hx rfl (pc0 := 321) (pc' := 325) rfl (hb hby at_321) (by decide) (by decide) k) ?_
                  show own_Ends _ _ _ _ _ _ _ (T87.setTop (mkF m 325 #[.val (.int p0), .val (.int p1), .val (.int p2), .val (.int p3), .val (.int p4), .val (.int p5), .val (.int (5 : Int32)), .val (.int c0_), .val (.int c1_), .val (.int c2_), .val (.int c3_), .val (.int c4_), .val (.ref b68), .val (.int (0 : Int32)), .val (.int (0 : Int32)), .val (.int kv0), .val (.int fv0), .val (.int ex)] [(.int (1 : Int32))]))
                  refine own_ret X87 (BodyLoose.notSynchronized Bd) (v := (some (.int (1 : Int32)))) (fun h => by rw [Bd.returns] at h; cases h) ?_ (by decide) (by decide) (fun fs hr => X87.ireturnOut hx Bd.returns rfl (by simp) (hb hby at_325) hr)
                  show own_Q0 Z p0 p1 p2 p3 p4 p5  h0 n0 (some (.int (1 : Int32))) T87.heap _
                  rw [e87]
                  exact ⟨rfl, N87⟩
                refine own_step (fun _ k => XS.iload XJ84.here hx rfl (hb hby at_291) rfl k) ?_
                show own_Ends _ _ _ _ _ _ _ (TJ84.setTop (mkF m 293 #[.val (.int p0), .val (.int p1), .val (.int p2), .val (.int p3), .val (.int p4), .val (.int p5), .val (.int (5 : Int32)), .val (.int c0_), .val (.int c1_), .val (.int c2_), .val (.int c3_), .val (.int c4_), .val (.ref b68), .val (.int (0 : Int32)), .val (.int (0 : Int32)), .val (.int kv0), .val (.int fv0), .unset] [(.int kv0)]))
                by_cases u1 : kv0 < (0 : Int32)
                · refine own_step (fun _ k => XS.ifYes XJ84.here hx rfl (pc0 := 293) (pc' := 307) rfl (hb hby at_293) rfl ((if0 _ _).trans (tlt u1).1) (by decide) (by decide) k) ?_
                  show own_Ends _ _ _ _ _ _ _ (TJ84.setTop (mkF m 307 #[.val (.int p0), .val (.int p1), .val (.int p2), .val (.int p3), .val (.int p4), .val (.int p5), .val (.int (5 : Int32)), .val (.int c0_), .val (.int c1_), .val (.int c2_), .val (.int c3_), .val (.int c4_), .val (.ref b68), .val (.int (0 : Int32)), .val (.int (0 : Int32)), .val (.int kv0), .val (.int fv0), .unset] []))
                  refine own_step (fun _ k => XS.iconst XJ84.here hx rfl (hb hby at_307) k) ?_
                  show own_Ends _ _ _ _ _ _ _ (TJ84.setTop (mkF m 308 #[.val (.int p0), .val (.int p1), .val (.int p2), .val (.int p3), .val (.int p4), .val (.int p5), .val (.int (5 : Int32)), .val (.int c0_), .val (.int c1_), .val (.int c2_), .val (.int c3_), .val (.int c4_), .val (.ref b68), .val (.int (0 : Int32)), .val (.int (0 : Int32)), .val (.int kv0), .val (.int fv0), .unset] [(.int (0 : Int32))]))
                  exact J308_85 _ (by rw [own_res, if_pos u1])
                · refine own_step (fun _ k => XS.ifNo XJ84.here hx rfl (hb hby at_293) rfl ((if0 _ _).trans (flt u1).1) k) ?_
                  show own_Ends _ _ _ _ _ _ _ (TJ84.setTop (mkF m 296 #[.val (.int p0), .val (.int p1), .val (.int p2), .val (.int p3), .val (.int p4), .val (.int p5), .val (.int (5 : Int32)), .val (.int c0_), .val (.int c1_), .val (.int c2_), .val (.int c3_), .val (.int c4_), .val (.ref b68), .val (.int (0 : Int32)), .val (.int (0 : Int32)), .val (.int kv0), .val (.int fv0), .unset] []))
                  refine own_step (fun _ k => XS.iload XJ84.here hx rfl (hb hby at_296) rfl k) ?_
                  show own_Ends _ _ _ _ _ _ _ (TJ84.setTop (mkF m 298 #[.val (.int p0), .val (.int p1), .val (.int p2), .val (.int p3), .val (.int p4), .val (.int p5), .val (.int (5 : Int32)), .val (.int c0_), .val (.int c1_), .val (.int c2_), .val (.int c3_), .val (.int c4_), .val (.ref b68), .val (.int (0 : Int32)), .val (.int (0 : Int32)), .val (.int kv0), .val (.int fv0), .unset] [(.int fv0)]))
                  refine own_step (fun _ k => XS.bipush XJ84.here hx rfl (hb hby at_298) k) ?_
                  show own_Ends _ _ _ _ _ _ _ (TJ84.setTop (mkF m 300 #[.val (.int p0), .val (.int p1), .val (.int p2), .val (.int p3), .val (.int p4), .val (.int p5), .val (.int (5 : Int32)), .val (.int c0_), .val (.int c1_), .val (.int c2_), .val (.int c3_), .val (.int c4_), .val (.ref b68), .val (.int (0 : Int32)), .val (.int (0 : Int32)), .val (.int kv0), .val (.int fv0), .unset] [(.int (60 : Int32)), (.int fv0)]))
                  by_cases u2 : fv0 = (60 : Int32)
                  · refine own_step (fun _ k => XS.icmpNo XJ84.here hx rfl (hb hby at_300) rfl (teq u2).2 k) ?_
                    show own_Ends _ _ _ _ _ _ _ (TJ84.setTop (mkF m 303 #[.val (.int p0), .val (.int p1), .val (.int p2), .val (.int p3), .val (.int p4), .val (.int p5), .val (.int (5 : Int32)), .val (.int c0_), .val (.int c1_), .val (.int c2_), .val (.int c3_), .val (.int c4_), .val (.ref b68), .val (.int (0 : Int32)), .val (.int (0 : Int32)), .val (.int kv0), .val (.int fv0), .unset] []))
                    refine own_step (fun _ k => XS.iconst XJ84.here hx rfl (hb hby at_303) k) ?_
                    show own_Ends _ _ _ _ _ _ _ (TJ84.setTop (mkF m 304 #[.val (.int p0), .val (.int p1), .val (.int p2), .val (.int p3), .val (.int p4), .val (.int p5), .val (.int (5 : Int32)), .val (.int c0_), .val (.int c1_), .val (.int c2_), .val (.int c3_), .val (.int c4_), .val (.ref b68), .val (.int (0 : Int32)), .val (.int (0 : Int32)), .val (.int kv0), .val (.int fv0), .unset] [(.int (1 : Int32))]))
                    refine own_step (fun _ k => XS.goto XJ84.here hx rfl (pc0 := 304) (pc' := 308) rfl (hb hby at_304) (by decide) (by decide) k) ?_
                    show own_Ends _ _ _ _ _ _ _ (TJ84.setTop (mkF m 308 #[.val (.int p0), .val (.int p1), .val (.int p2), .val (.int p3), .val (.int p4), .val (.int p5), .val (.int (5 : Int32)), .val (.int c0_), .val (.int c1_), .val (.int c2_), .val (.int c3_), .val (.int c4_), .val (.ref b68), .val (.int (0 : Int32)), .val (.int (0 : Int32)), .val (.int kv0), .val (.int fv0), .unset] [(.int (1 : Int32))]))
                    exact J308_85 _ (by rw [own_res, if_neg u1, if_pos u2])
                  · refine own_step (fun _ k => XS.icmpYes XJ84.here hx rfl (pc0 := 300) (pc' := 307) rfl (hb hby at_300) rfl (feq u2).2 (by decide) (by decide) k) ?_
                    show own_Ends _ _ _ _ _ _ _ (TJ84.setTop (mkF m 307 #[.val (.int p0), .val (.int p1), .val (.int p2), .val (.int p3), .val (.int p4), .val (.int p5), .val (.int (5 : Int32)), .val (.int c0_), .val (.int c1_), .val (.int c2_), .val (.int c3_), .val (.int c4_), .val (.ref b68), .val (.int (0 : Int32)), .val (.int (0 : Int32)), .val (.int kv0), .val (.int fv0), .unset] []))
                    refine own_step (fun _ k => XS.iconst XJ84.here hx rfl (hb hby at_307) k) ?_
                    show own_Ends _ _ _ _ _ _ _ (TJ84.setTop (mkF m 308 #[.val (.int p0), .val (.int p1), .val (.int p2), .val (.int p3), .val (.int p4), .val (.int p5), .val (.int (5 : Int32)), .val (.int c0_), .val (.int c1_), .val (.int c2_), .val (.int c3_), .val (.int c4_), .val (.ref b68), .val (.int (0 : Int32)), .val (.int (0 : Int32)), .val (.int kv0), .val (.int fv0), .unset] [(.int (0 : Int32))]))
                    exact J308_85 _ (by rw [own_res, if_neg u1, if_neg u2])
              by_cases w0 : (own_ws c0_) = (0 : Int32)
              · refine own_step (fun _ k => XS.ifNo X83.here hx rfl (hb hby at_281) rfl ((if0 _ _).trans (teq w0).2) k) ?_
                show own_Ends _ _ _ _ _ _ _ (T83.setTop (mkF m 284 #[.val (.int p0), .val (.int p1), .val (.int p2), .val (.int p3), .val (.int p4), .val (.int p5), .val (.int (5 : Int32)), .val (.int c0_), .val (.int c1_), .val (.int c2_), .val (.int c3_), .val (.int c4_), .val (.ref b68), .val (.int (0 : Int32)), .val (.int (0 : Int32)), .val (.int kv1), .val (.int fv1), .unset] []))
                refine own_step (fun _ k => XS.iconst X83.here hx rfl (hb hby at_284) k) ?_
                show own_Ends _ _ _ _ _ _ _ (T83.setTop (mkF m 285 #[.val (.int p0), .val (.int p1), .val (.int p2), .val (.int p3), .val (.int p4), .val (.int p5), .val (.int (5 : Int32)), .val (.int c0_), .val (.int c1_), .val (.int c2_), .val (.int c3_), .val (.int c4_), .val (.ref b68), .val (.int (0 : Int32)), .val (.int (0 : Int32)), .val (.int kv1), .val (.int fv1), .unset] [(.int (0 : Int32))]))
                refine own_step (fun _ k => XS.istore X83.here hx rfl (hb hby at_285) rfl (l' := #[.val (.int p0), .val (.int p1), .val (.int p2), .val (.int p3), .val (.int p4), .val (.int p5), .val (.int (5 : Int32)), .val (.int c0_), .val (.int c1_), .val (.int c2_), .val (.int c3_), .val (.int c4_), .val (.ref b68), .val (.int (0 : Int32)), .val (.int (0 : Int32)), .val (.int (0 : Int32)), .val (.int fv1), .unset]) rfl k) ?_
                show own_Ends _ _ _ _ _ _ _ (T83.setTop (mkF m 287 #[.val (.int p0), .val (.int p1), .val (.int p2), .val (.int p3), .val (.int p4), .val (.int p5), .val (.int (5 : Int32)), .val (.int c0_), .val (.int c1_), .val (.int c2_), .val (.int c3_), .val (.int c4_), .val (.ref b68), .val (.int (0 : Int32)), .val (.int (0 : Int32)), .val (.int (0 : Int32)), .val (.int fv1), .unset] []))
                refine own_step (fun _ k => XS.iload X83.here hx rfl (hb hby at_287) rfl k) ?_
                show own_Ends _ _ _ _ _ _ _ (T83.setTop (mkF m 289 #[.val (.int p0), .val (.int p1), .val (.int p2), .val (.int p3), .val (.int p4), .val (.int p5), .val (.int (5 : Int32)), .val (.int c0_), .val (.int c1_), .val (.int c2_), .val (.int c3_), .val (.int c4_), .val (.ref b68), .val (.int (0 : Int32)), .val (.int (0 : Int32)), .val (.int (0 : Int32)), .val (.int fv1), .unset] [(.int c0_)]))
                refine own_step (fun _ k => XS.istore X83.here hx rfl (hb hby at_289) rfl (l' := #[.val (.int p0), .val (.int p1), .val (.int p2), .val (.int p3), .val (.int p4), .val (.int p5), .val (.int (5 : Int32)), .val (.int c0_), .val (.int c1_), .val (.int c2_), .val (.int c3_), .val (.int c4_), .val (.ref b68), .val (.int (0 : Int32)), .val (.int (0 : Int32)), .val (.int (0 : Int32)), .val (.int c0_), .unset]) rfl k) ?_
                show own_Ends _ _ _ _ _ _ _ (T83.setTop (mkF m 291 #[.val (.int p0), .val (.int p1), .val (.int p2), .val (.int p3), .val (.int p4), .val (.int p5), .val (.int (5 : Int32)), .val (.int c0_), .val (.int c1_), .val (.int c2_), .val (.int c3_), .val (.int c4_), .val (.ref b68), .val (.int (0 : Int32)), .val (.int (0 : Int32)), .val (.int (0 : Int32)), .val (.int c0_), .unset] []))
                exact J291_84 _ N83 _ X83 e83 _ _ (by rw [own_first, if_pos w0]; rfl)
              · refine own_step (fun _ k => XS.ifYes X83.here hx rfl (pc0 := 281) (pc' := 291) rfl (hb hby at_281) rfl ((if0 _ _).trans (feq w0).2) (by decide) (by decide) k) ?_
                show own_Ends _ _ _ _ _ _ _ (T83.setTop (mkF m 291 #[.val (.int p0), .val (.int p1), .val (.int p2), .val (.int p3), .val (.int p4), .val (.int p5), .val (.int (5 : Int32)), .val (.int c0_), .val (.int c1_), .val (.int c2_), .val (.int c3_), .val (.int c4_), .val (.ref b68), .val (.int (0 : Int32)), .val (.int (0 : Int32)), .val (.int kv1), .val (.int fv1), .unset] []))
                exact J291_84 _ N83 _ X83 e83 _ _ (by rw [own_first, if_neg w0]; exact hE1)
            by_cases w1 : (own_ws c1_) = (0 : Int32)
            · refine own_step (fun _ k => XS.ifNo X81.here hx rfl (hb hby at_256) rfl ((if0 _ _).trans (teq w1).2) k) ?_
              show own_Ends _ _ _ _ _ _ _ (T81.setTop (mkF m 259 #[.val (.int p0), .val (.int p1), .val (.int p2), .val (.int p3), .val (.int p4), .val (.int p5), .val (.int (5 : Int32)), .val (.int c0_), .val (.int c1_), .val (.int c2_), .val (.int c3_), .val (.int c4_), .val (.ref b68), .val (.int (0 : Int32)), .val (.int (0 : Int32)), .val (.int kv2), .val (.int fv2), .unset] []))
              refine own_step (fun _ k => XS.iconst X81.here hx rfl (hb hby at_259) k) ?_
              show own_Ends _ _ _ _ _ _ _ (T81.setTop (mkF m 260 #[.val (.int p0), .val (.int p1), .val (.int p2), .val (.int p3), .val (.int p4), .val (.int p5), .val (.int (5 : Int32)), .val (.int c0_), .val (.int c1_), .val (.int c2_), .val (.int c3_), .val (.int c4_), .val (.ref b68), .val (.int (0 : Int32)), .val (.int (0 : Int32)), .val (.int kv2), .val (.int fv2), .unset] [(.int (1 : Int32))]))
              refine own_step (fun _ k => XS.istore X81.here hx rfl (hb hby at_260) rfl (l' := #[.val (.int p0), .val (.int p1), .val (.int p2), .val (.int p3), .val (.int p4), .val (.int p5), .val (.int (5 : Int32)), .val (.int c0_), .val (.int c1_), .val (.int c2_), .val (.int c3_), .val (.int c4_), .val (.ref b68), .val (.int (0 : Int32)), .val (.int (0 : Int32)), .val (.int (1 : Int32)), .val (.int fv2), .unset]) rfl k) ?_
              show own_Ends _ _ _ _ _ _ _ (T81.setTop (mkF m 262 #[.val (.int p0), .val (.int p1), .val (.int p2), .val (.int p3), .val (.int p4), .val (.int p5), .val (.int (5 : Int32)), .val (.int c0_), .val (.int c1_), .val (.int c2_), .val (.int c3_), .val (.int c4_), .val (.ref b68), .val (.int (0 : Int32)), .val (.int (0 : Int32)), .val (.int (1 : Int32)), .val (.int fv2), .unset] []))
              refine own_step (fun _ k => XS.iload X81.here hx rfl (hb hby at_262) rfl k) ?_
              show own_Ends _ _ _ _ _ _ _ (T81.setTop (mkF m 264 #[.val (.int p0), .val (.int p1), .val (.int p2), .val (.int p3), .val (.int p4), .val (.int p5), .val (.int (5 : Int32)), .val (.int c0_), .val (.int c1_), .val (.int c2_), .val (.int c3_), .val (.int c4_), .val (.ref b68), .val (.int (0 : Int32)), .val (.int (0 : Int32)), .val (.int (1 : Int32)), .val (.int fv2), .unset] [(.int c1_)]))
              refine own_step (fun _ k => XS.istore X81.here hx rfl (hb hby at_264) rfl (l' := #[.val (.int p0), .val (.int p1), .val (.int p2), .val (.int p3), .val (.int p4), .val (.int p5), .val (.int (5 : Int32)), .val (.int c0_), .val (.int c1_), .val (.int c2_), .val (.int c3_), .val (.int c4_), .val (.ref b68), .val (.int (0 : Int32)), .val (.int (0 : Int32)), .val (.int (1 : Int32)), .val (.int c1_), .unset]) rfl k) ?_
              show own_Ends _ _ _ _ _ _ _ (T81.setTop (mkF m 266 #[.val (.int p0), .val (.int p1), .val (.int p2), .val (.int p3), .val (.int p4), .val (.int p5), .val (.int (5 : Int32)), .val (.int c0_), .val (.int c1_), .val (.int c2_), .val (.int c3_), .val (.int c4_), .val (.ref b68), .val (.int (0 : Int32)), .val (.int (0 : Int32)), .val (.int (1 : Int32)), .val (.int c1_), .unset] []))
              exact J266_82 _ N81 _ X81 e81 _ _ (by rw [own_first, if_pos w1]; rfl)
            · refine own_step (fun _ k => XS.ifYes X81.here hx rfl (pc0 := 256) (pc' := 266) rfl (hb hby at_256) rfl ((if0 _ _).trans (feq w1).2) (by decide) (by decide) k) ?_
              show own_Ends _ _ _ _ _ _ _ (T81.setTop (mkF m 266 #[.val (.int p0), .val (.int p1), .val (.int p2), .val (.int p3), .val (.int p4), .val (.int p5), .val (.int (5 : Int32)), .val (.int c0_), .val (.int c1_), .val (.int c2_), .val (.int c3_), .val (.int c4_), .val (.ref b68), .val (.int (0 : Int32)), .val (.int (0 : Int32)), .val (.int kv2), .val (.int fv2), .unset] []))
              exact J266_82 _ N81 _ X81 e81 _ _ (by rw [own_first, if_neg w1]; exact hE2)
          by_cases w2 : (own_ws c2_) = (0 : Int32)
          · refine own_step (fun _ k => XS.ifNo X79.here hx rfl (hb hby at_229) rfl ((if0 _ _).trans (teq w2).2) k) ?_
            show own_Ends _ _ _ _ _ _ _ (T79.setTop (mkF m 232 #[.val (.int p0), .val (.int p1), .val (.int p2), .val (.int p3), .val (.int p4), .val (.int p5), .val (.int (5 : Int32)), .val (.int c0_), .val (.int c1_), .val (.int c2_), .val (.int c3_), .val (.int c4_), .val (.ref b68), .val (.int (0 : Int32)), .val (.int (0 : Int32)), .val (.int kv3), .val (.int fv3), .unset] []))
            refine own_step (fun _ k => XS.iconst X79.here hx rfl (hb hby at_232) k) ?_
            show own_Ends _ _ _ _ _ _ _ (T79.setTop (mkF m 233 #[.val (.int p0), .val (.int p1), .val (.int p2), .val (.int p3), .val (.int p4), .val (.int p5), .val (.int (5 : Int32)), .val (.int c0_), .val (.int c1_), .val (.int c2_), .val (.int c3_), .val (.int c4_), .val (.ref b68), .val (.int (0 : Int32)), .val (.int (0 : Int32)), .val (.int kv3), .val (.int fv3), .unset] [(.int (2 : Int32))]))
            refine own_step (fun _ k => XS.istore X79.here hx rfl (hb hby at_233) rfl (l' := #[.val (.int p0), .val (.int p1), .val (.int p2), .val (.int p3), .val (.int p4), .val (.int p5), .val (.int (5 : Int32)), .val (.int c0_), .val (.int c1_), .val (.int c2_), .val (.int c3_), .val (.int c4_), .val (.ref b68), .val (.int (0 : Int32)), .val (.int (0 : Int32)), .val (.int (2 : Int32)), .val (.int fv3), .unset]) rfl k) ?_
            show own_Ends _ _ _ _ _ _ _ (T79.setTop (mkF m 235 #[.val (.int p0), .val (.int p1), .val (.int p2), .val (.int p3), .val (.int p4), .val (.int p5), .val (.int (5 : Int32)), .val (.int c0_), .val (.int c1_), .val (.int c2_), .val (.int c3_), .val (.int c4_), .val (.ref b68), .val (.int (0 : Int32)), .val (.int (0 : Int32)), .val (.int (2 : Int32)), .val (.int fv3), .unset] []))
            refine own_step (fun _ k => XS.iload X79.here hx rfl (hb hby at_235) rfl k) ?_
            show own_Ends _ _ _ _ _ _ _ (T79.setTop (mkF m 237 #[.val (.int p0), .val (.int p1), .val (.int p2), .val (.int p3), .val (.int p4), .val (.int p5), .val (.int (5 : Int32)), .val (.int c0_), .val (.int c1_), .val (.int c2_), .val (.int c3_), .val (.int c4_), .val (.ref b68), .val (.int (0 : Int32)), .val (.int (0 : Int32)), .val (.int (2 : Int32)), .val (.int fv3), .unset] [(.int c2_)]))
            refine own_step (fun _ k => XS.istore X79.here hx rfl (hb hby at_237) rfl (l' := #[.val (.int p0), .val (.int p1), .val (.int p2), .val (.int p3), .val (.int p4), .val (.int p5), .val (.int (5 : Int32)), .val (.int c0_), .val (.int c1_), .val (.int c2_), .val (.int c3_), .val (.int c4_), .val (.ref b68), .val (.int (0 : Int32)), .val (.int (0 : Int32)), .val (.int (2 : Int32)), .val (.int c2_), .unset]) rfl k) ?_
            show own_Ends _ _ _ _ _ _ _ (T79.setTop (mkF m 239 #[.val (.int p0), .val (.int p1), .val (.int p2), .val (.int p3), .val (.int p4), .val (.int p5), .val (.int (5 : Int32)), .val (.int c0_), .val (.int c1_), .val (.int c2_), .val (.int c3_), .val (.int c4_), .val (.ref b68), .val (.int (0 : Int32)), .val (.int (0 : Int32)), .val (.int (2 : Int32)), .val (.int c2_), .unset] []))
            exact J239_80 _ N79 _ X79 e79 _ _ (by rw [own_first, if_pos w2]; rfl)
          · refine own_step (fun _ k => XS.ifYes X79.here hx rfl (pc0 := 229) (pc' := 239) rfl (hb hby at_229) rfl ((if0 _ _).trans (feq w2).2) (by decide) (by decide) k) ?_
            show own_Ends _ _ _ _ _ _ _ (T79.setTop (mkF m 239 #[.val (.int p0), .val (.int p1), .val (.int p2), .val (.int p3), .val (.int p4), .val (.int p5), .val (.int (5 : Int32)), .val (.int c0_), .val (.int c1_), .val (.int c2_), .val (.int c3_), .val (.int c4_), .val (.ref b68), .val (.int (0 : Int32)), .val (.int (0 : Int32)), .val (.int kv3), .val (.int fv3), .unset] []))
            exact J239_80 _ N79 _ X79 e79 _ _ (by rw [own_first, if_neg w2]; exact hE3)
        by_cases w3 : (own_ws c3_) = (0 : Int32)
        · refine own_step (fun _ k => XS.ifNo X77.here hx rfl (hb hby at_202) rfl ((if0 _ _).trans (teq w3).2) k) ?_
          show own_Ends _ _ _ _ _ _ _ (T77.setTop (mkF m 205 #[.val (.int p0), .val (.int p1), .val (.int p2), .val (.int p3), .val (.int p4), .val (.int p5), .val (.int (5 : Int32)), .val (.int c0_), .val (.int c1_), .val (.int c2_), .val (.int c3_), .val (.int c4_), .val (.ref b68), .val (.int (0 : Int32)), .val (.int (0 : Int32)), .val (.int kv4), .val (.int fv4), .unset] []))
          refine own_step (fun _ k => XS.iconst X77.here hx rfl (hb hby at_205) k) ?_
          show own_Ends _ _ _ _ _ _ _ (T77.setTop (mkF m 206 #[.val (.int p0), .val (.int p1), .val (.int p2), .val (.int p3), .val (.int p4), .val (.int p5), .val (.int (5 : Int32)), .val (.int c0_), .val (.int c1_), .val (.int c2_), .val (.int c3_), .val (.int c4_), .val (.ref b68), .val (.int (0 : Int32)), .val (.int (0 : Int32)), .val (.int kv4), .val (.int fv4), .unset] [(.int (3 : Int32))]))
          refine own_step (fun _ k => XS.istore X77.here hx rfl (hb hby at_206) rfl (l' := #[.val (.int p0), .val (.int p1), .val (.int p2), .val (.int p3), .val (.int p4), .val (.int p5), .val (.int (5 : Int32)), .val (.int c0_), .val (.int c1_), .val (.int c2_), .val (.int c3_), .val (.int c4_), .val (.ref b68), .val (.int (0 : Int32)), .val (.int (0 : Int32)), .val (.int (3 : Int32)), .val (.int fv4), .unset]) rfl k) ?_
          show own_Ends _ _ _ _ _ _ _ (T77.setTop (mkF m 208 #[.val (.int p0), .val (.int p1), .val (.int p2), .val (.int p3), .val (.int p4), .val (.int p5), .val (.int (5 : Int32)), .val (.int c0_), .val (.int c1_), .val (.int c2_), .val (.int c3_), .val (.int c4_), .val (.ref b68), .val (.int (0 : Int32)), .val (.int (0 : Int32)), .val (.int (3 : Int32)), .val (.int fv4), .unset] []))
          refine own_step (fun _ k => XS.iload X77.here hx rfl (hb hby at_208) rfl k) ?_
          show own_Ends _ _ _ _ _ _ _ (T77.setTop (mkF m 210 #[.val (.int p0), .val (.int p1), .val (.int p2), .val (.int p3), .val (.int p4), .val (.int p5), .val (.int (5 : Int32)), .val (.int c0_), .val (.int c1_), .val (.int c2_), .val (.int c3_), .val (.int c4_), .val (.ref b68), .val (.int (0 : Int32)), .val (.int (0 : Int32)), .val (.int (3 : Int32)), .val (.int fv4), .unset] [(.int c3_)]))
          refine own_step (fun _ k => XS.istore X77.here hx rfl (hb hby at_210) rfl (l' := #[.val (.int p0), .val (.int p1), .val (.int p2), .val (.int p3), .val (.int p4), .val (.int p5), .val (.int (5 : Int32)), .val (.int c0_), .val (.int c1_), .val (.int c2_), .val (.int c3_), .val (.int c4_), .val (.ref b68), .val (.int (0 : Int32)), .val (.int (0 : Int32)), .val (.int (3 : Int32)), .val (.int c3_), .unset]) rfl k) ?_
          show own_Ends _ _ _ _ _ _ _ (T77.setTop (mkF m 212 #[.val (.int p0), .val (.int p1), .val (.int p2), .val (.int p3), .val (.int p4), .val (.int p5), .val (.int (5 : Int32)), .val (.int c0_), .val (.int c1_), .val (.int c2_), .val (.int c3_), .val (.int c4_), .val (.ref b68), .val (.int (0 : Int32)), .val (.int (0 : Int32)), .val (.int (3 : Int32)), .val (.int c3_), .unset] []))
          exact J212_78 _ N77 _ X77 e77 _ _ (by rw [own_first, if_pos w3]; rfl)
        · refine own_step (fun _ k => XS.ifYes X77.here hx rfl (pc0 := 202) (pc' := 212) rfl (hb hby at_202) rfl ((if0 _ _).trans (feq w3).2) (by decide) (by decide) k) ?_
          show own_Ends _ _ _ _ _ _ _ (T77.setTop (mkF m 212 #[.val (.int p0), .val (.int p1), .val (.int p2), .val (.int p3), .val (.int p4), .val (.int p5), .val (.int (5 : Int32)), .val (.int c0_), .val (.int c1_), .val (.int c2_), .val (.int c3_), .val (.int c4_), .val (.ref b68), .val (.int (0 : Int32)), .val (.int (0 : Int32)), .val (.int kv4), .val (.int fv4), .unset] []))
          exact J212_78 _ N77 _ X77 e77 _ _ (by rw [own_first, if_neg w3]; exact hE4)
      by_cases w4 : (own_ws c4_) = (0 : Int32)
      · refine own_step (fun _ k => XS.ifNo X75.here hx rfl (hb hby at_175) rfl ((if0 _ _).trans (teq w4).2) k) ?_
        show own_Ends _ _ _ _ _ _ _ (T75.setTop (mkF m 178 #[.val (.int p0), .val (.int p1), .val (.int p2), .val (.int p3), .val (.int p4), .val (.int p5), .val (.int (5 : Int32)), .val (.int c0_), .val (.int c1_), .val (.int c2_), .val (.int c3_), .val (.int c4_), .val (.ref b68), .val (.int (0 : Int32)), .val (.int (0 : Int32)), .val (.int (-1 : Int32)), .val (.int (0 : Int32)), .unset] []))
        refine own_step (fun _ k => XS.iconst X75.here hx rfl (hb hby at_178) k) ?_
        show own_Ends _ _ _ _ _ _ _ (T75.setTop (mkF m 179 #[.val (.int p0), .val (.int p1), .val (.int p2), .val (.int p3), .val (.int p4), .val (.int p5), .val (.int (5 : Int32)), .val (.int c0_), .val (.int c1_), .val (.int c2_), .val (.int c3_), .val (.int c4_), .val (.ref b68), .val (.int (0 : Int32)), .val (.int (0 : Int32)), .val (.int (-1 : Int32)), .val (.int (0 : Int32)), .unset] [(.int (4 : Int32))]))
        refine own_step (fun _ k => XS.istore X75.here hx rfl (hb hby at_179) rfl (l' := #[.val (.int p0), .val (.int p1), .val (.int p2), .val (.int p3), .val (.int p4), .val (.int p5), .val (.int (5 : Int32)), .val (.int c0_), .val (.int c1_), .val (.int c2_), .val (.int c3_), .val (.int c4_), .val (.ref b68), .val (.int (0 : Int32)), .val (.int (0 : Int32)), .val (.int (4 : Int32)), .val (.int (0 : Int32)), .unset]) rfl k) ?_
        show own_Ends _ _ _ _ _ _ _ (T75.setTop (mkF m 181 #[.val (.int p0), .val (.int p1), .val (.int p2), .val (.int p3), .val (.int p4), .val (.int p5), .val (.int (5 : Int32)), .val (.int c0_), .val (.int c1_), .val (.int c2_), .val (.int c3_), .val (.int c4_), .val (.ref b68), .val (.int (0 : Int32)), .val (.int (0 : Int32)), .val (.int (4 : Int32)), .val (.int (0 : Int32)), .unset] []))
        refine own_step (fun _ k => XS.iload X75.here hx rfl (hb hby at_181) rfl k) ?_
        show own_Ends _ _ _ _ _ _ _ (T75.setTop (mkF m 183 #[.val (.int p0), .val (.int p1), .val (.int p2), .val (.int p3), .val (.int p4), .val (.int p5), .val (.int (5 : Int32)), .val (.int c0_), .val (.int c1_), .val (.int c2_), .val (.int c3_), .val (.int c4_), .val (.ref b68), .val (.int (0 : Int32)), .val (.int (0 : Int32)), .val (.int (4 : Int32)), .val (.int (0 : Int32)), .unset] [(.int c4_)]))
        refine own_step (fun _ k => XS.istore X75.here hx rfl (hb hby at_183) rfl (l' := #[.val (.int p0), .val (.int p1), .val (.int p2), .val (.int p3), .val (.int p4), .val (.int p5), .val (.int (5 : Int32)), .val (.int c0_), .val (.int c1_), .val (.int c2_), .val (.int c3_), .val (.int c4_), .val (.ref b68), .val (.int (0 : Int32)), .val (.int (0 : Int32)), .val (.int (4 : Int32)), .val (.int c4_), .unset]) rfl k) ?_
        show own_Ends _ _ _ _ _ _ _ (T75.setTop (mkF m 185 #[.val (.int p0), .val (.int p1), .val (.int p2), .val (.int p3), .val (.int p4), .val (.int p5), .val (.int (5 : Int32)), .val (.int c0_), .val (.int c1_), .val (.int c2_), .val (.int c3_), .val (.int c4_), .val (.ref b68), .val (.int (0 : Int32)), .val (.int (0 : Int32)), .val (.int (4 : Int32)), .val (.int c4_), .unset] []))
        exact J185_76 _ N75 _ X75 e75 _ _ (by rw [own_first, if_pos w4]; rfl)
      · refine own_step (fun _ k => XS.ifYes X75.here hx rfl (pc0 := 175) (pc' := 185) rfl (hb hby at_175) rfl ((if0 _ _).trans (feq w4).2) (by decide) (by decide) k) ?_
        show own_Ends _ _ _ _ _ _ _ (T75.setTop (mkF m 185 #[.val (.int p0), .val (.int p1), .val (.int p2), .val (.int p3), .val (.int p4), .val (.int p5), .val (.int (5 : Int32)), .val (.int c0_), .val (.int c1_), .val (.int c2_), .val (.int c3_), .val (.int c4_), .val (.ref b68), .val (.int (0 : Int32)), .val (.int (0 : Int32)), .val (.int (-1 : Int32)), .val (.int (0 : Int32)), .unset] []))
        exact J185_76 _ N75 _ X75 e75 _ _ (by rw [own_first, if_neg w4]; rfl)
    refine own_step (fun _ k => XS.icmpNo X73.here hx rfl (hb hby at_109) rfl (flt (by decide)).1 k) ?_
    show own_Ends _ _ _ _ _ _ _ (T73.setTop (mkF m 112 #[.val (.int p0), .val (.int p1), .val (.int p2), .val (.int p3), .val (.int p4), .val (.int p5), .val (.int (5 : Int32)), .val (.int c0_), .val (.int c1_), .val (.int c2_), .val (.int c3_), .val (.int c4_), .val (.ref b68), .unset, .unset, .unset, .unset, .unset] []))
    refine own_step (fun _ k => XS.iload X73.here hx rfl (hb hby at_112) rfl k) ?_
    show own_Ends _ _ _ _ _ _ _ (T73.setTop (mkF m 114 #[.val (.int p0), .val (.int p1), .val (.int p2), .val (.int p3), .val (.int p4), .val (.int p5), .val (.int (5 : Int32)), .val (.int c0_), .val (.int c1_), .val (.int c2_), .val (.int c3_), .val (.int c4_), .val (.ref b68), .unset, .unset, .unset, .unset, .unset] [(.int c0_)]))
    refine own_step (fun _ k => XS.bipush X73.here hx rfl (hb hby at_114) k) ?_
    show own_Ends _ _ _ _ _ _ _ (T73.setTop (mkF m 116 #[.val (.int p0), .val (.int p1), .val (.int p2), .val (.int p3), .val (.int p4), .val (.int p5), .val (.int (5 : Int32)), .val (.int c0_), .val (.int c1_), .val (.int c2_), .val (.int c3_), .val (.int c4_), .val (.ref b68), .unset, .unset, .unset, .unset, .unset] [(.int (-17 : Int32)), (.int c0_)]))
    by_cases k0 : c0_ = (-17 : Int32)
    · refine own_step (fun _ k => XS.icmpNo X73.here hx rfl (hb hby at_116) rfl (teq k0).2 k) ?_
      show own_Ends _ _ _ _ _ _ _ (T73.setTop (mkF m 119 #[.val (.int p0), .val (.int p1), .val (.int p2), .val (.int p3), .val (.int p4), .val (.int p5), .val (.int (5 : Int32)), .val (.int c0_), .val (.int c1_), .val (.int c2_), .val (.int c3_), .val (.int c4_), .val (.ref b68), .unset, .unset, .unset, .unset, .unset] []))
      refine own_step (fun _ k => XS.iload X73.here hx rfl (hb hby at_119) rfl k) ?_
      show own_Ends _ _ _ _ _ _ _ (T73.setTop (mkF m 121 #[.val (.int p0), .val (.int p1), .val (.int p2), .val (.int p3), .val (.int p4), .val (.int p5), .val (.int (5 : Int32)), .val (.int c0_), .val (.int c1_), .val (.int c2_), .val (.int c3_), .val (.int c4_), .val (.ref b68), .unset, .unset, .unset, .unset, .unset] [(.int c1_)]))
      refine own_step (fun _ k => XS.bipush X73.here hx rfl (hb hby at_121) k) ?_
      show own_Ends _ _ _ _ _ _ _ (T73.setTop (mkF m 123 #[.val (.int p0), .val (.int p1), .val (.int p2), .val (.int p3), .val (.int p4), .val (.int p5), .val (.int (5 : Int32)), .val (.int c0_), .val (.int c1_), .val (.int c2_), .val (.int c3_), .val (.int c4_), .val (.ref b68), .unset, .unset, .unset, .unset, .unset] [(.int (-69 : Int32)), (.int c1_)]))
      by_cases k1 : c1_ = (-69 : Int32)
      · refine own_step (fun _ k => XS.icmpNo X73.here hx rfl (hb hby at_123) rfl (teq k1).2 k) ?_
        show own_Ends _ _ _ _ _ _ _ (T73.setTop (mkF m 126 #[.val (.int p0), .val (.int p1), .val (.int p2), .val (.int p3), .val (.int p4), .val (.int p5), .val (.int (5 : Int32)), .val (.int c0_), .val (.int c1_), .val (.int c2_), .val (.int c3_), .val (.int c4_), .val (.ref b68), .unset, .unset, .unset, .unset, .unset] []))
        refine own_step (fun _ k => XS.iload X73.here hx rfl (hb hby at_126) rfl k) ?_
        show own_Ends _ _ _ _ _ _ _ (T73.setTop (mkF m 128 #[.val (.int p0), .val (.int p1), .val (.int p2), .val (.int p3), .val (.int p4), .val (.int p5), .val (.int (5 : Int32)), .val (.int c0_), .val (.int c1_), .val (.int c2_), .val (.int c3_), .val (.int c4_), .val (.ref b68), .unset, .unset, .unset, .unset, .unset] [(.int c2_)]))
        refine own_step (fun _ k => XS.bipush X73.here hx rfl (hb hby at_128) k) ?_
        show own_Ends _ _ _ _ _ _ _ (T73.setTop (mkF m 130 #[.val (.int p0), .val (.int p1), .val (.int p2), .val (.int p3), .val (.int p4), .val (.int p5), .val (.int (5 : Int32)), .val (.int c0_), .val (.int c1_), .val (.int c2_), .val (.int c3_), .val (.int c4_), .val (.ref b68), .unset, .unset, .unset, .unset, .unset] [(.int (-65 : Int32)), (.int c2_)]))
        by_cases k2 : c2_ = (-65 : Int32)
        · refine own_step (fun _ k => XS.icmpNo X73.here hx rfl (hb hby at_130) rfl (teq k2).2 k) ?_
          show own_Ends _ _ _ _ _ _ _ (T73.setTop (mkF m 133 #[.val (.int p0), .val (.int p1), .val (.int p2), .val (.int p3), .val (.int p4), .val (.int p5), .val (.int (5 : Int32)), .val (.int c0_), .val (.int c1_), .val (.int c2_), .val (.int c3_), .val (.int c4_), .val (.ref b68), .unset, .unset, .unset, .unset, .unset] []))
          refine own_step (fun _ k => XS.iconst X73.here hx rfl (hb hby at_133) k) ?_
          show own_Ends _ _ _ _ _ _ _ (T73.setTop (mkF m 134 #[.val (.int p0), .val (.int p1), .val (.int p2), .val (.int p3), .val (.int p4), .val (.int p5), .val (.int (5 : Int32)), .val (.int c0_), .val (.int c1_), .val (.int c2_), .val (.int c3_), .val (.int c4_), .val (.ref b68), .unset, .unset, .unset, .unset, .unset] [(.int (1 : Int32))]))
          refine own_step (fun _ k => XS.goto X73.here hx rfl (pc0 := 134) (pc' := 138) rfl (hb hby at_134) (by decide) (by decide) k) ?_
          show own_Ends _ _ _ _ _ _ _ (T73.setTop (mkF m 138 #[.val (.int p0), .val (.int p1), .val (.int p2), .val (.int p3), .val (.int p4), .val (.int p5), .val (.int (5 : Int32)), .val (.int c0_), .val (.int c1_), .val (.int c2_), .val (.int c3_), .val (.int c4_), .val (.ref b68), .unset, .unset, .unset, .unset, .unset] [(.int (1 : Int32))]))
          have hst : own_start [c0_, c1_, c2_, c3_, c4_] = 3 := by simp [own_start, k0, k1, k2]
          refine own_step (fun _ k => XS.istore X73.here hx rfl (hb hby at_138) rfl (l' := #[.val (.int p0), .val (.int p1), .val (.int p2), .val (.int p3), .val (.int p4), .val (.int p5), .val (.int (5 : Int32)), .val (.int c0_), .val (.int c1_), .val (.int c2_), .val (.int c3_), .val (.int c4_), .val (.ref b68), .val (.int (1 : Int32)), .unset, .unset, .unset, .unset]) rfl k) ?_
          show own_Ends _ _ _ _ _ _ _ (T73.setTop (mkF m 140 #[.val (.int p0), .val (.int p1), .val (.int p2), .val (.int p3), .val (.int p4), .val (.int p5), .val (.int (5 : Int32)), .val (.int c0_), .val (.int c1_), .val (.int c2_), .val (.int c3_), .val (.int c4_), .val (.ref b68), .val (.int (1 : Int32)), .unset, .unset, .unset, .unset] []))
          refine own_step (fun _ k => XS.iload X73.here hx rfl (hb hby at_140) rfl k) ?_
          show own_Ends _ _ _ _ _ _ _ (T73.setTop (mkF m 142 #[.val (.int p0), .val (.int p1), .val (.int p2), .val (.int p3), .val (.int p4), .val (.int p5), .val (.int (5 : Int32)), .val (.int c0_), .val (.int c1_), .val (.int c2_), .val (.int c3_), .val (.int c4_), .val (.ref b68), .val (.int (1 : Int32)), .unset, .unset, .unset, .unset] [(.int (1 : Int32))]))
          refine own_step (fun _ k => XS.ifNo X73.here hx rfl (hb hby at_142) rfl ((if0 _ _).trans (feq (by decide)).1) k) ?_
          show own_Ends _ _ _ _ _ _ _ (T73.setTop (mkF m 145 #[.val (.int p0), .val (.int p1), .val (.int p2), .val (.int p3), .val (.int p4), .val (.int p5), .val (.int (5 : Int32)), .val (.int c0_), .val (.int c1_), .val (.int c2_), .val (.int c3_), .val (.int c4_), .val (.ref b68), .val (.int (1 : Int32)), .unset, .unset, .unset, .unset] []))
          refine own_step (fun _ k => XS.iconst X73.here hx rfl (hb hby at_145) k) ?_
          show own_Ends _ _ _ _ _ _ _ (T73.setTop (mkF m 146 #[.val (.int p0), .val (.int p1), .val (.int p2), .val (.int p3), .val (.int p4), .val (.int p5), .val (.int (5 : Int32)), .val (.int c0_), .val (.int c1_), .val (.int c2_), .val (.int c3_), .val (.int c4_), .val (.ref b68), .val (.int (1 : Int32)), .unset, .unset, .unset, .unset] [(.int (3 : Int32))]))
          refine own_step (fun _ k => XS.goto X73.here hx rfl (pc0 := 146) (pc' := 150) rfl (hb hby at_146) (by decide) (by decide) k) ?_
          show own_Ends _ _ _ _ _ _ _ (T73.setTop (mkF m 150 #[.val (.int p0), .val (.int p1), .val (.int p2), .val (.int p3), .val (.int p4), .val (.int p5), .val (.int (5 : Int32)), .val (.int c0_), .val (.int c1_), .val (.int c2_), .val (.int c3_), .val (.int c4_), .val (.ref b68), .val (.int (1 : Int32)), .unset, .unset, .unset, .unset] [(.int (3 : Int32))]))
          refine own_step (fun _ k => XS.istore X73.here hx rfl (hb hby at_150) rfl (l' := #[.val (.int p0), .val (.int p1), .val (.int p2), .val (.int p3), .val (.int p4), .val (.int p5), .val (.int (5 : Int32)), .val (.int c0_), .val (.int c1_), .val (.int c2_), .val (.int c3_), .val (.int c4_), .val (.ref b68), .val (.int (1 : Int32)), .val (.int (3 : Int32)), .unset, .unset, .unset]) rfl k) ?_
          show own_Ends _ _ _ _ _ _ _ (T73.setTop (mkF m 152 #[.val (.int p0), .val (.int p1), .val (.int p2), .val (.int p3), .val (.int p4), .val (.int p5), .val (.int (5 : Int32)), .val (.int c0_), .val (.int c1_), .val (.int c2_), .val (.int c3_), .val (.int c4_), .val (.ref b68), .val (.int (1 : Int32)), .val (.int (3 : Int32)), .unset, .unset, .unset] []))
          refine own_step (fun _ k => XS.iconst X73.here hx rfl (hb hby at_152) k) ?_
          show own_Ends _ _ _ _ _ _ _ (T73.setTop (mkF m 153 #[.val (.int p0), .val (.int p1), .val (.int p2), .val (.int p3), .val (.int p4), .val (.int p5), .val (.int (5 : Int32)), .val (.int c0_), .val (.int c1_), .val (.int c2_), .val (.int c3_), .val (.int c4_), .val (.ref b68), .val (.int (1 : Int32)), .val (.int (3 : Int32)), .unset, .unset, .unset] [(.int (-1 : Int32))]))
          refine own_step (fun _ k => XS.istore X73.here hx rfl (hb hby at_153) rfl (l' := #[.val (.int p0), .val (.int p1), .val (.int p2), .val (.int p3), .val (.int p4), .val (.int p5), .val (.int (5 : Int32)), .val (.int c0_), .val (.int c1_), .val (.int c2_), .val (.int c3_), .val (.int c4_), .val (.ref b68), .val (.int (1 : Int32)), .val (.int (3 : Int32)), .val (.int (-1 : Int32)), .unset, .unset]) rfl k) ?_
          show own_Ends _ _ _ _ _ _ _ (T73.setTop (mkF m 155 #[.val (.int p0), .val (.int p1), .val (.int p2), .val (.int p3), .val (.int p4), .val (.int p5), .val (.int (5 : Int32)), .val (.int c0_), .val (.int c1_), .val (.int c2_), .val (.int c3_), .val (.int c4_), .val (.ref b68), .val (.int (1 : Int32)), .val (.int (3 : Int32)), .val (.int (-1 : Int32)), .unset, .unset] []))
          refine own_step (fun _ k => XS.iconst X73.here hx rfl (hb hby at_155) k) ?_
          show own_Ends _ _ _ _ _ _ _ (T73.setTop (mkF m 156 #[.val (.int p0), .val (.int p1), .val (.int p2), .val (.int p3), .val (.int p4), .val (.int p5), .val (.int (5 : Int32)), .val (.int c0_), .val (.int c1_), .val (.int c2_), .val (.int c3_), .val (.int c4_), .val (.ref b68), .val (.int (1 : Int32)), .val (.int (3 : Int32)), .val (.int (-1 : Int32)), .unset, .unset] [(.int (0 : Int32))]))
          refine own_step (fun _ k => XS.istore X73.here hx rfl (hb hby at_156) rfl (l' := #[.val (.int p0), .val (.int p1), .val (.int p2), .val (.int p3), .val (.int p4), .val (.int p5), .val (.int (5 : Int32)), .val (.int c0_), .val (.int c1_), .val (.int c2_), .val (.int c3_), .val (.int c4_), .val (.ref b68), .val (.int (1 : Int32)), .val (.int (3 : Int32)), .val (.int (-1 : Int32)), .val (.int (0 : Int32)), .unset]) rfl k) ?_
          show own_Ends _ _ _ _ _ _ _ (T73.setTop (mkF m 158 #[.val (.int p0), .val (.int p1), .val (.int p2), .val (.int p3), .val (.int p4), .val (.int p5), .val (.int (5 : Int32)), .val (.int c0_), .val (.int c1_), .val (.int c2_), .val (.int c3_), .val (.int c4_), .val (.ref b68), .val (.int (1 : Int32)), .val (.int (3 : Int32)), .val (.int (-1 : Int32)), .val (.int (0 : Int32)), .unset] []))
          refine own_step (fun _ k => XS.iload X73.here hx rfl (hb hby at_158) rfl k) ?_
          show own_Ends _ _ _ _ _ _ _ (T73.setTop (mkF m 160 #[.val (.int p0), .val (.int p1), .val (.int p2), .val (.int p3), .val (.int p4), .val (.int p5), .val (.int (5 : Int32)), .val (.int c0_), .val (.int c1_), .val (.int c2_), .val (.int c3_), .val (.int c4_), .val (.ref b68), .val (.int (1 : Int32)), .val (.int (3 : Int32)), .val (.int (-1 : Int32)), .val (.int (0 : Int32)), .unset] [(.int (5 : Int32))]))
          refine own_step (fun _ k => XS.iconst X73.here hx rfl (hb hby at_160) k) ?_
          show own_Ends _ _ _ _ _ _ _ (T73.setTop (mkF m 161 #[.val (.int p0), .val (.int p1), .val (.int p2), .val (.int p3), .val (.int p4), .val (.int p5), .val (.int (5 : Int32)), .val (.int c0_), .val (.int c1_), .val (.int c2_), .val (.int c3_), .val (.int c4_), .val (.ref b68), .val (.int (1 : Int32)), .val (.int (3 : Int32)), .val (.int (-1 : Int32)), .val (.int (0 : Int32)), .unset] [(.int (4 : Int32)), (.int (5 : Int32))]))
          refine own_step (fun _ k => XS.icmpNo X73.here hx rfl (hb hby at_161) rfl (tlt (by decide)).2.2.2 k) ?_
          show own_Ends _ _ _ _ _ _ _ (T73.setTop (mkF m 164 #[.val (.int p0), .val (.int p1), .val (.int p2), .val (.int p3), .val (.int p4), .val (.int p5), .val (.int (5 : Int32)), .val (.int c0_), .val (.int c1_), .val (.int c2_), .val (.int c3_), .val (.int c4_), .val (.ref b68), .val (.int (1 : Int32)), .val (.int (3 : Int32)), .val (.int (-1 : Int32)), .val (.int (0 : Int32)), .unset] []))
          refine own_step (fun _ k => XS.iload X73.here hx rfl (hb hby at_164) rfl k) ?_
          show own_Ends _ _ _ _ _ _ _ (T73.setTop (mkF m 166 #[.val (.int p0), .val (.int p1), .val (.int p2), .val (.int p3), .val (.int p4), .val (.int p5), .val (.int (5 : Int32)), .val (.int c0_), .val (.int c1_), .val (.int c2_), .val (.int c3_), .val (.int c4_), .val (.ref b68), .val (.int (1 : Int32)), .val (.int (3 : Int32)), .val (.int (-1 : Int32)), .val (.int (0 : Int32)), .unset] [(.int (3 : Int32))]))
          refine own_step (fun _ k => XS.iconst X73.here hx rfl (hb hby at_166) k) ?_
          show own_Ends _ _ _ _ _ _ _ (T73.setTop (mkF m 167 #[.val (.int p0), .val (.int p1), .val (.int p2), .val (.int p3), .val (.int p4), .val (.int p5), .val (.int (5 : Int32)), .val (.int c0_), .val (.int c1_), .val (.int c2_), .val (.int c3_), .val (.int c4_), .val (.ref b68), .val (.int (1 : Int32)), .val (.int (3 : Int32)), .val (.int (-1 : Int32)), .val (.int (0 : Int32)), .unset] [(.int (4 : Int32)), (.int (3 : Int32))]))
          refine own_step (fun _ k => XS.icmpNo X73.here hx rfl (hb hby at_167) rfl (flt (by decide)).2.2.1 k) ?_
          show own_Ends _ _ _ _ _ _ _ (T73.setTop (mkF m 170 #[.val (.int p0), .val (.int p1), .val (.int p2), .val (.int p3), .val (.int p4), .val (.int p5), .val (.int (5 : Int32)), .val (.int c0_), .val (.int c1_), .val (.int c2_), .val (.int c3_), .val (.int c4_), .val (.ref b68), .val (.int (1 : Int32)), .val (.int (3 : Int32)), .val (.int (-1 : Int32)), .val (.int (0 : Int32)), .unset] []))
          refine own_step (fun _ k => XS.iload X73.here hx rfl (hb hby at_170) rfl k) ?_
          show own_Ends _ _ _ _ _ _ _ (T73.setTop (mkF m 172 #[.val (.int p0), .val (.int p1), .val (.int p2), .val (.int p3), .val (.int p4), .val (.int p5), .val (.int (5 : Int32)), .val (.int c0_), .val (.int c1_), .val (.int c2_), .val (.int c3_), .val (.int c4_), .val (.ref b68), .val (.int (1 : Int32)), .val (.int (3 : Int32)), .val (.int (-1 : Int32)), .val (.int (0 : Int32)), .unset] [(.int c4_)]))
          obtain ⟨_, _, ⟨T88, L88, k88, n88⟩, -, X88, ⟨Lc88, hQ88, l88, y88, z88⟩, st88⟩ := Jvm.LawKit.callS X73 hx (y := (⟨"com/example/parley/parley/io/CompetitionXmlLooksLikeXmlPinLaw", "ws", "(B)Z"⟩ : MethodName)) hown (mvT hZ (hw _ (List.mem_of_getElem? (i := 10) rfl))) (mvT hZ (hw _ (List.mem_of_getElem? (i := 11) rfl))) (mvT hZ (hw _ (List.mem_of_getElem? (i := 3) rfl))) (mvT hZ (hw _ (List.mem_of_getElem? (i := 12) rfl))) (by decide) (backOf (W := 0) (own_rm2 l Z a0 hw [] c4_  h73 n0 Z73 ) hZ (hw _ (List.mem_of_getElem? (i := 12) rfl)) (hw _ (List.mem_of_getElem? (i := 3) rfl)) (by decide) (by decide)) (g := (mkF m 172 #[.val (.int p0), .val (.int p1), .val (.int p2), .val (.int p3), .val (.int p4), .val (.int p5), .val (.int (5 : Int32)), .val (.int c0_), .val (.int c1_), .val (.int c2_), .val (.int c3_), .val (.int c4_), .val (.ref b68), .val (.int (1 : Int32)), .val (.int (3 : Int32)), .val (.int (-1 : Int32)), .val (.int (0 : Int32)), .unset] [(.int c4_)])) rfl (by rw [hml]; rfl) (argsL := [(.int c4_)]) (rest := []) (lenOf own_pd2 rfl) rfl (by show 2 * 0 + _ ≤ _; exact Nat.le_of_eq rfl) (hb hby at_172) (fun _ _ => ⟨rfl, e73, (by decide : 1 + 0 ≤ _), (by decide : 5 + 0 ≤ _)⟩)
          dsimp only [Pt.U, Pt.locs, Pt.cells, Pt.slots] at X88 l88 y88 z88 st88 hQ88
          subst l88 y88 z88
          obtain ⟨rfl, Nq88, e88⟩ := hQ88
          have N88 := Fr.app N73 Nq88
          refine own_step (fun _ k => st88 _ k) ?_
          show own_Ends _ _ _ _ _ _ _ (T88.setTop (mkF m 175 #[.val (.int p0), .val (.int p1), .val (.int p2), .val (.int p3), .val (.int p4), .val (.int p5), .val (.int (5 : Int32)), .val (.int c0_), .val (.int c1_), .val (.int c2_), .val (.int c3_), .val (.int c4_), .val (.ref b68), .val (.int (1 : Int32)), .val (.int (3 : Int32)), .val (.int (-1 : Int32)), .val (.int (0 : Int32)), .unset] [(.int (own_ws c4_))]))
          have J185_89 : ∀ (lJ89 : List Loc) (NJ89 : Fr n0 lJ89) (TJ89 : State) (XJ89 : Stand p l e room_1 s m #[(.int p0), (.int p1), (.int p2), (.int p3), (.int p4), (.int p5)] below meth c TJ89 lJ89 1 5) (eJ89 : TJ89.heap = h73) (kv4 fv4 : Int32) (hE4 : own_res kv4 fv4 = own_first [c4_]), own_Ends p e below s 1 5 (own_Q0 Z p0 p1 p2 p3 p4 p5  h0 n0) (TJ89.setTop (mkF m 185 #[.val (.int p0), .val (.int p1), .val (.int p2), .val (.int p3), .val (.int p4), .val (.int p5), .val (.int (5 : Int32)), .val (.int c0_), .val (.int c1_), .val (.int c2_), .val (.int c3_), .val (.int c4_), .val (.ref b68), .val (.int (1 : Int32)), .val (.int (3 : Int32)), .val (.int kv4), .val (.int fv4), .unset] [])) := by
            intro lJ89 NJ89 TJ89 XJ89 eJ89 kv4 fv4 hE4
            show own_Ends _ _ _ _ _ _ _ (TJ89.setTop (mkF m 185 #[.val (.int p0), .val (.int p1), .val (.int p2), .val (.int p3), .val (.int p4), .val (.int p5), .val (.int (5 : Int32)), .val (.int c0_), .val (.int c1_), .val (.int c2_), .val (.int c3_), .val (.int c4_), .val (.ref b68), .val (.int (1 : Int32)), .val (.int (3 : Int32)), .val (.int kv4), .val (.int fv4), .unset] []))
            refine own_step (fun _ k => XS.iload XJ89.here hx rfl (hb hby at_185) rfl k) ?_
            show own_Ends _ _ _ _ _ _ _ (TJ89.setTop (mkF m 187 #[.val (.int p0), .val (.int p1), .val (.int p2), .val (.int p3), .val (.int p4), .val (.int p5), .val (.int (5 : Int32)), .val (.int c0_), .val (.int c1_), .val (.int c2_), .val (.int c3_), .val (.int c4_), .val (.ref b68), .val (.int (1 : Int32)), .val (.int (3 : Int32)), .val (.int kv4), .val (.int fv4), .unset] [(.int (5 : Int32))]))
            refine own_step (fun _ k => XS.iconst XJ89.here hx rfl (hb hby at_187) k) ?_
            show own_Ends _ _ _ _ _ _ _ (TJ89.setTop (mkF m 188 #[.val (.int p0), .val (.int p1), .val (.int p2), .val (.int p3), .val (.int p4), .val (.int p5), .val (.int (5 : Int32)), .val (.int c0_), .val (.int c1_), .val (.int c2_), .val (.int c3_), .val (.int c4_), .val (.ref b68), .val (.int (1 : Int32)), .val (.int (3 : Int32)), .val (.int kv4), .val (.int fv4), .unset] [(.int (3 : Int32)), (.int (5 : Int32))]))
            refine own_step (fun _ k => XS.icmpNo XJ89.here hx rfl (hb hby at_188) rfl (tlt (by decide)).2.2.2 k) ?_
            show own_Ends _ _ _ _ _ _ _ (TJ89.setTop (mkF m 191 #[.val (.int p0), .val (.int p1), .val (.int p2), .val (.int p3), .val (.int p4), .val (.int p5), .val (.int (5 : Int32)), .val (.int c0_), .val (.int c1_), .val (.int c2_), .val (.int c3_), .val (.int c4_), .val (.ref b68), .val (.int (1 : Int32)), .val (.int (3 : Int32)), .val (.int kv4), .val (.int fv4), .unset] []))
            refine own_step (fun _ k => XS.iload XJ89.here hx rfl (hb hby at_191) rfl k) ?_
            show own_Ends _ _ _ _ _ _ _ (TJ89.setTop (mkF m 193 #[.val (.int p0), .val (.int p1), .val (.int p2), .val (.int p3), .val (.int p4), .val (.int p5), .val (.int (5 : Int32)), .val (.int c0_), .val (.int c1_), .val (.int c2_), .val (.int c3_), .val (.int c4_), .val (.ref b68), .val (.int (1 : Int32)), .val (.int (3 : Int32)), .val (.int kv4), .val (.int fv4), .unset] [(.int (3 : Int32))]))
            refine own_step (fun _ k => XS.iconst XJ89.here hx rfl (hb hby at_193) k) ?_
            show own_Ends _ _ _ _ _ _ _ (TJ89.setTop (mkF m 194 #[.val (.int p0), .val (.int p1), .val (.int p2), .val (.int p3), .val (.int p4), .val (.int p5), .val (.int (5 : Int32)), .val (.int c0_), .val (.int c1_), .val (.int c2_), .val (.int c3_), .val (.int c4_), .val (.ref b68), .val (.int (1 : Int32)), .val (.int (3 : Int32)), .val (.int kv4), .val (.int fv4), .unset] [(.int (3 : Int32)), (.int (3 : Int32))]))
            refine own_step (fun _ k => XS.icmpNo XJ89.here hx rfl (hb hby at_194) rfl (flt (by decide)).2.2.1 k) ?_
            show own_Ends _ _ _ _ _ _ _ (TJ89.setTop (mkF m 197 #[.val (.int p0), .val (.int p1), .val (.int p2), .val (.int p3), .val (.int p4), .val (.int p5), .val (.int (5 : Int32)), .val (.int c0_), .val (.int c1_), .val (.int c2_), .val (.int c3_), .val (.int c4_), .val (.ref b68), .val (.int (1 : Int32)), .val (.int (3 : Int32)), .val (.int kv4), .val (.int fv4), .unset] []))
            refine own_step (fun _ k => XS.iload XJ89.here hx rfl (hb hby at_197) rfl k) ?_
            show own_Ends _ _ _ _ _ _ _ (TJ89.setTop (mkF m 199 #[.val (.int p0), .val (.int p1), .val (.int p2), .val (.int p3), .val (.int p4), .val (.int p5), .val (.int (5 : Int32)), .val (.int c0_), .val (.int c1_), .val (.int c2_), .val (.int c3_), .val (.int c4_), .val (.ref b68), .val (.int (1 : Int32)), .val (.int (3 : Int32)), .val (.int kv4), .val (.int fv4), .unset] [(.int c3_)]))
            obtain ⟨_, _, ⟨T90, L90, k90, n90⟩, -, X90, ⟨Lc90, hQ90, l90, y90, z90⟩, st90⟩ := Jvm.LawKit.callS XJ89 hx (y := (⟨"com/example/parley/parley/io/CompetitionXmlLooksLikeXmlPinLaw", "ws", "(B)Z"⟩ : MethodName)) hown (mvT hZ (hw _ (List.mem_of_getElem? (i := 10) rfl))) (mvT hZ (hw _ (List.mem_of_getElem? (i := 11) rfl))) (mvT hZ (hw _ (List.mem_of_getElem? (i := 3) rfl))) (mvT hZ (hw _ (List.mem_of_getElem? (i := 12) rfl))) (by decide) (backOf (W := 0) (own_rm2 l Z a0 hw [] c3_  h73 n0 Z73 ) hZ (hw _ (List.mem_of_getElem? (i := 12) rfl)) (hw _ (List.mem_of_getElem? (i := 3) rfl)) (by decide) (by decide)) (g := (mkF m 199 #[.val (.int p0), .val (.int p1), .val (.int p2), .val (.int p3), .val (.int p4), .val (.int p5), .val (.int (5 : Int32)), .val (.int c0_), .val (.int c1_), .val (.int c2_), .val (.int c3_), .val (.int c4_), .val (.ref b68), .val (.int (1 : Int32)), .val (.int (3 : Int32)), .val (.int kv4), .val (.int fv4), .unset] [(.int c3_)])) rfl (by rw [hml]; rfl) (argsL := [(.int c3_)]) (rest := []) (lenOf own_pd2 rfl) rfl (by show 2 * 0 + _ ≤ _; exact Nat.le_of_eq rfl) (hb hby at_199) (fun _ _ => ⟨rfl, eJ89, (by decide : 1 + 0 ≤ _), (by decide : 5 + 0 ≤ _)⟩)
            dsimp only [Pt.U, Pt.locs, Pt.cells, Pt.slots] at X90 l90 y90 z90 st90 hQ90
            subst l90 y90 z90
            obtain ⟨rfl, Nq90, e90⟩ := hQ90
            have N90 := Fr.app NJ89 Nq90
            refine own_step (fun _ k => st90 _ k) ?_
            show own_Ends _ _ _ _ _ _ _ (T90.setTop (mkF m 202 #[.val (.int p0), .val (.int p1), .val (.int p2), .val (.int p3), .val (.int p4), .val (.int p5), .val (.int (5 : Int32)), .val (.int c0_), .val (.int c1_), .val (.int c2_), .val (.int c3_), .val (.int c4_), .val (.ref b68), .val (.int (1 : Int32)), .val (.int (3 : Int32)), .val (.int kv4), .val (.int fv4), .unset] [(.int (own_ws c3_))]))
            have J212_91 : ∀ (lJ91 : List Loc) (NJ91 : Fr n0 lJ91) (TJ91 : State) (XJ91 : Stand p l e room_1 s m #[(.int p0), (.int p1), (.int p2), (.int p3), (.int p4), (.int p5)] below meth c TJ91 lJ91 1 5) (eJ91 : TJ91.heap = h73) (kv3 fv3 : Int32) (hE3 : own_res kv3 fv3 = own_first [c3_, c4_]), own_Ends p e below s 1 5 (own_Q0 Z p0 p1 p2 p3 p4 p5  h0 n0) (TJ91.setTop (mkF m 212 #[.val (.int p0), .val (.int p1), .val (.int p2), .val (.int p3), .val (.int p4), .val (.int p5), .val (.int (5 : Int32)), .val (.int c0_), .val (.int c1_), .val (.int c2_), .val (.int c3_), .val (.int c4_), .val (.ref b68), .val (.int (1 : Int32)), .val (.int (3 : Int32)), .val (.int kv3), .val (.int fv3), .unset] [])) := by
              intro lJ91 NJ91 TJ91 XJ91 eJ91 kv3 fv3 hE3
              show own_Ends _ _ _ _ _ _ _ (TJ91.setTop (mkF m 212 #[.val (.int p0), .val (.int p1), .val (.int p2), .val (.int p3), .val (.int p4), .val (.int p5), .val (.int (5 : Int32)), .val (.int c0_), .val (.int c1_), .val (.int c2_), .val (.int c3_), .val (.int c4_), .val (.ref b68), .val (.int (1 : Int32)), .val (.int (3 : Int32)), .val (.int kv3), .val (.int fv3), .unset] []))
              refine own_step (fun _ k => XS.iload XJ91.here hx rfl (hb hby at_212) rfl k) ?_
              show own_Ends _ _ _ _ _ _ _ (TJ91.setTop (mkF m 214 #[.val (.int p0), .val (.int p1), .val (.int p2), .val (.int p3), .val (.int p4), .val (.int p5), .val (.int (5 : Int32)), .val (.int c0_), .val (.int c1_), .val (.int c2_), .val (.int c3_), .val (.int c4_), .val (.ref b68), .val (.int (1 : Int32)), .val (.int (3 : Int32)), .val (.int kv3), .val (.int fv3), .unset] [(.int (5 : Int32))]))
              refine own_step (fun _ k => XS.iconst XJ91.here hx rfl (hb hby at_214) k) ?_
              show own_Ends _ _ _ _ _ _ _ (TJ91.setTop (mkF m 215 #[.val (.int p0), .val (.int p1), .val (.int p2), .val (.int p3), .val (.int p4), .val (.int p5), .val (.int (5 : Int32)), .val (.int c0_), .val (.int c1_), .val (.int c2_), .val (.int c3_), .val (.int c4_), .val (.ref b68), .val (.int (1 : Int32)), .val (.int (3 : Int32)), .val (.int kv3), .val (.int fv3), .unset] [(.int (2 : Int32)), (.int (5 : Int32))]))
              refine own_step (fun _ k => XS.icmpNo XJ91.here hx rfl (hb hby at_215) rfl (tlt (by decide)).2.2.2 k) ?_
              show own_Ends _ _ _ _ _ _ _ (TJ91.setTop (mkF m 218 #[.val (.int p0), .val (.int p1), .val (.int p2), .val (.int p3), .val (.int p4), .val (.int p5), .val (.int (5 : Int32)), .val (.int c0_), .val (.int c1_), .val (.int c2_), .val (.int c3_), .val (.int c4_), .val (.ref b68), .val (.int (1 : Int32)), .val (.int (3 : Int32)), .val (.int kv3), .val (.int fv3), .unset] []))
              refine own_step (fun _ k => XS.iload XJ91.here hx rfl (hb hby at_218) rfl k) ?_
              show own_Ends _ _ _ _ _ _ _ (TJ91.setTop (mkF m 220 #[.val (.int p0), .val (.int p1), .val (.int p2), .val (.int p3), .val (.int p4), .val (.int p5), .val (.int (5 : Int32)), .val (.int c0_), .val (.int c1_), .val (.int c2_), .val (.int c3_), .val (.int c4_), .val (.ref b68), .val (.int (1 : Int32)), .val (.int (3 : Int32)), .val (.int kv3), .val (.int fv3), .unset] [(.int (3 : Int32))]))
              refine own_step (fun _ k => XS.iconst XJ91.here hx rfl (hb hby at_220) k) ?_
              show own_Ends _ _ _ _ _ _ _ (TJ91.setTop (mkF m 221 #[.val (.int p0), .val (.int p1), .val (.int p2), .val (.int p3), .val (.int p4), .val (.int p5), .val (.int (5 : Int32)), .val (.int c0_), .val (.int c1_), .val (.int c2_), .val (.int c3_), .val (.int c4_), .val (.ref b68), .val (.int (1 : Int32)), .val (.int (3 : Int32)), .val (.int kv3), .val (.int fv3), .unset] [(.int (2 : Int32)), (.int (3 : Int32))]))
              refine own_step (fun _ k => XS.icmpYes XJ91.here hx rfl (pc0 := 221) (pc' := 239) rfl (hb hby at_221) rfl (tlt (by decide)).2.2.1 (by decide) (by decide) k) ?_
              show own_Ends _ _ _ _ _ _ _ (TJ91.setTop (mkF m 239 #[.val (.int p0), .val (.int p1), .val (.int p2), .val (.int p3), .val (.int p4), .val (.int p5), .val (.int (5 : Int32)), .val (.int c0_), .val (.int c1_), .val (.int c2_), .val (.int c3_), .val (.int c4_), .val (.ref b68), .val (.int (1 : Int32)), .val (.int (3 : Int32)), .val (.int kv3), .val (.int fv3), .unset] []))
              refine own_step (fun _ k => XS.iload XJ91.here hx rfl (hb hby at_239) rfl k) ?_
              show own_Ends _ _ _ _ _ _ _ (TJ91.setTop (mkF m 241 #[.val (.int p0), .val (.int p1), .val (.int p2), .val (.int p3), .val (.int p4), .val (.int p5), .val (.int (5 : Int32)), .val (.int c0_), .val (.int c1_), .val (.int c2_), .val (.int c3_), .val (.int c4_), .val (.ref b68), .val (.int (1 : Int32)), .val (.int (3 : Int32)), .val (.int kv3), .val (.int fv3), .unset] [(.int (5 : Int32))]))
              refine own_step (fun _ k => XS.iconst XJ91.here hx rfl (hb hby at_241) k) ?_
              show own_Ends _ _ _ _ _ _ _ (TJ91.setTop (mkF m 242 #[.val (.int p0), .val (.int p1), .val (.int p2), .val (.int p3), .val (.int p4), .val (.int p5), .val (.int (5 : Int32)), .val (.int c0_), .val (.int c1_), .val (.int c2_), .val (.int c3_), .val (.int c4_), .val (.ref b68), .val (.int (1 : Int32)), .val (.int (3 : Int32)), .val (.int kv3), .val (.int fv3), .unset] [(.int (1 : Int32)), (.int (5 : Int32))]))
              refine own_step (fun _ k => XS.icmpNo XJ91.here hx rfl (hb hby at_242) rfl (tlt (by decide)).2.2.2 k) ?_
              show own_Ends _ _ _ _ _ _ _ (TJ91.setTop (mkF m 245 #[.val (.int p0), .val (.int p1), .val (.int p2), .val (.int p3), .val (.int p4), .val (.int p5), .val (.int (5 : Int32)), .val (.int c0_), .val (.int c1_), .val (.int c2_), .val (.int c3_), .val (.int c4_), .val (.ref b68), .val (.int (1 : Int32)), .val (.int (3 : Int32)), .val (.int kv3), .val (.int fv3), .unset] []))
              refine own_step (fun _ k => XS.iload XJ91.here hx rfl (hb hby at_245) rfl k) ?_
              show own_Ends _ _ _ _ _ _ _ (TJ91.setTop (mkF m 247 #[.val (.int p0), .val (.int p1), .val (.int p2), .val (.int p3), .val (.int p4), .val (.int p5), .val (.int (5 : Int32)), .val (.int c0_), .val (.int c1_), .val (.int c2_), .val (.int c3_), .val (.int c4_), .val (.ref b68), .val (.int (1 : Int32)), .val (.int (3 : Int32)), .val (.int kv3), .val (.int fv3), .unset] [(.int (3 : Int32))]))
              refine own_step (fun _ k => XS.iconst XJ91.here hx rfl (hb hby at_247) k) ?_
              show own_Ends _ _ _ _ _ _ _ (TJ91.setTop (mkF m 248 #[.val (.int p0), .val (.int p1), .val (.int p2), .val (.int p3), .val (.int p4), .val (.int p5), .val (.int (5 : Int32)), .val (.int c0_), .val (.int c1_), .val (.int c2_), .val (.int c3_), .val (.int c4_), .val (.ref b68), .val (.int (1 : Int32)), .val (.int (3 : Int32)), .val (.int kv3), .val (.int fv3), .unset] [(.int (1 : Int32)), (.int (3 : Int32))]))
              refine own_step (fun _ k => XS.icmpYes XJ91.here hx rfl (pc0 := 248) (pc' := 266) rfl (hb hby at_248) rfl (tlt (by decide)).2.2.1 (by decide) (by decide) k) ?_
              show own_Ends _ _ _ _ _ _ _ (TJ91.setTop (mkF m 266 #[.val (.int p0), .val (.int p1), .val (.int p2), .val (.int p3), .val (.int p4), .val (.int p5), .val (.int (5 : Int32)), .val (.int c0_), .val (.int c1_), .val (.int c2_), .val (.int c3_), .val (.int c4_), .val (.ref b68), .val (.int (1 : Int32)), .val (.int (3 : Int32)), .val (.int kv3), .val (.int fv3), .unset] []))
              refine own_step (fun _ k => XS.iload XJ91.here hx rfl (hb hby at_266) rfl k) ?_
              show own_Ends _ _ _ _ _ _ _ (TJ91.setTop (mkF m 268 #[.val (.int p0), .val (.int p1), .val (.int p2), .val (.int p3), .val (.int p4), .val (.int p5), .val (.int (5 : Int32)), .val (.int c0_), .val (.int c1_), .val (.int c2_), .val (.int c3_), .val (.int c4_), .val (.ref b68), .val (.int (1 : Int32)), .val (.int (3 : Int32)), .val (.int kv3), .val (.int fv3), .unset] [(.int (5 : Int32))]))
              refine own_step (fun _ k => XS.ifNo XJ91.here hx rfl (hb hby at_268) rfl ((if0 _ _).trans (tlt (by decide)).2.2.2) k) ?_
              show own_Ends _ _ _ _ _ _ _ (TJ91.setTop (mkF m 271 #[.val (.int p0), .val (.int p1), .val (.int p2), .val (.int p3), .val (.int p4), .val (.int p5), .val (.int (5 : Int32)), .val (.int c0_), .val (.int c1_), .val (.int c2_), .val (.int c3_), .val (.int c4_), .val (.ref b68), .val (.int (1 : Int32)), .val (.int (3 : Int32)), .val (.int kv3), .val (.int fv3), .unset] []))
              refine own_step (fun _ k => XS.iload XJ91.here hx rfl (hb hby at_271) rfl k) ?_
              show own_Ends _ _ _ _ _ _ _ (TJ91.setTop (mkF m 273 #[.val (.int p0), .val (.int p1), .val (.int p2), .val (.int p3), .val (.int p4), .val (.int p5), .val (.int (5 : Int32)), .val (.int c0_), .val (.int c1_), .val (.int c2_), .val (.int c3_), .val (.int c4_), .val (.ref b68), .val (.int (1 : Int32)), .val (.int (3 : Int32)), .val (.int kv3), .val (.int fv3), .unset] [(.int (3 : Int32))]))
              refine own_step (fun _ k => XS.ifYes XJ91.here hx rfl (pc0 := 273) (pc' := 291) rfl (hb hby at_273) rfl ((if0 _ _).trans (tlt (by decide)).2.2.1) (by decide) (by decide) k) ?_
              show own_Ends _ _ _ _ _ _ _ (TJ91.setTop (mkF m 291 #[.val (.int p0), .val (.int p1), .val (.int p2), .val (.int p3), .val (.int p4), .val (.int p5), .val (.int (5 : Int32)), .val (.int c0_), .val (.int c1_), .val (.int c2_), .val (.int c3_), .val (.int c4_), .val (.ref b68), .val (.int (1 : Int32)), .val (.int (3 : Int32)), .val (.int kv3), .val (.int fv3), .unset] []))
              have J308_92 : ∀ (ex : Int32) (hex : ex = own_res kv3 fv3), own_Ends p e below s 1 5 (own_Q0 Z p0 p1 p2 p3 p4 p5  h0 n0) (TJ91.setTop (mkF m 308 #[.val (.int p0), .val (.int p1), .val (.int p2), .val (.int p3), .val (.int p4), .val (.int p5), .val (.int (5 : Int32)), .val (.int c0_), .val (.int c1_), .val (.int c2_), .val (.int c3_), .val (.int c4_), .val (.ref b68), .val (.int (1 : Int32)), .val (.int (3 : Int32)), .val (.int kv3), .val (.int fv3), .unset] [(.int ex)])) := by
                intro ex hex
                show own_Ends _ _ _ _ _ _ _ (TJ91.setTop (mkF m 308 #[.val (.int p0), .val (.int p1), .val (.int p2), .val (.int p3), .val (.int p4), .val (.int p5), .val (.int (5 : Int32)), .val (.int c0_), .val (.int c1_), .val (.int c2_), .val (.int c3_), .val (.int c4_), .val (.ref b68), .val (.int (1 : Int32)), .val (.int (3 : Int32)), .val (.int kv3), .val (.int fv3), .unset] [(.int ex)]))
                refine own_step (fun _ k => XS.istore XJ91.here hx rfl (hb hby at_308) rfl (l' := #[.val (.int p0), .val (.int p1), .val (.int p2), .val (.int p3), .val (.int p4), .val (.int p5), .val (.int (5 : Int32)), .val (.int c0_), .val (.int c1_), .val (.int c2_), .val (.int c3_), .val (.int c4_), .val (.ref b68), .val (.int (1 : Int32)), .val (.int (3 : Int32)), .val (.int kv3), .val (.int fv3), .val (.int ex)]) rfl k) ?_
                show own_Ends _ _ _ _ _ _ _ (TJ91.setTop (mkF m 310 #[.val (.int p0), .val (.int p1), .val (.int p2), .val (.int p3), .val (.int p4), .val (.int p5), .val (.int (5 : Int32)), .val (.int c0_), .val (.int c1_), .val (.int c2_), .val (.int c3_), .val (.int c4_), .val (.ref b68), .val (.int (1 : Int32)), .val (.int (3 : Int32)), .val (.int kv3), .val (.int fv3), .val (.int ex)] []))
                refine own_step (fun _ k => XS.aload XJ91.here hx rfl (hb hby at_310) rfl rfl k) ?_
                show own_Ends _ _ _ _ _ _ _ (TJ91.setTop (mkF m 312 #[.val (.int p0), .val (.int p1), .val (.int p2), .val (.int p3), .val (.int p4), .val (.int p5), .val (.int (5 : Int32)), .val (.int c0_), .val (.int c1_), .val (.int c2_), .val (.int c3_), .val (.int c4_), .val (.ref b68), .val (.int (1 : Int32)), .val (.int (3 : Int32)), .val (.int kv3), .val (.int fv3), .val (.int ex)] [(.ref b68)]))
                obtain ⟨cl93, Ar93, qq93, S93, M93, H93, G93⟩ := id V73_b68
                have hbb : ∀ b ∈ ([c0_, c1_, c2_, c3_, c4_] : List Int32), nar .byte b = b := by
                  intro b hbl
                  simp only [List.mem_cons, List.not_mem_nil, or_false] at hbl
                  rcases hbl with rfl | rfl | rfl | rfl | rfl
                  · exact nb0
                  · exact nb1
                  · exact nb2
                  · exact nb3
                  · exact nb4
                obtain ⟨_, _, ⟨T94, L94, k94, n94⟩, -, X94, ⟨Lc94, hQ94, l94, y94, z94⟩, st94⟩ := Jvm.LawKit.callS XJ91 hx (y := (⟨"com/example/parley/parley/io/CompetitionXml", "looksLikeXml", "([B)Z"⟩ : MethodName)) hown (mvT hZ (hw _ (List.mem_of_getElem? (i := 6) rfl))) (mvT hZ (hw _ (List.mem_of_getElem? (i := 7) rfl))) (mvT hZ (hw _ (List.mem_of_getElem? (i := 8) rfl))) (mvT hZ (hw _ (List.mem_of_getElem? (i := 9) rfl))) (by decide) (backOf (W := 0) (own_rm3 l Z a0 hw [] b68 cl93 [c0_, c1_, c2_, c3_, c4_] h73 n0 Z73 Ar93 (S93.trans (show ((5 : Int32)).toNatClampNeg = 5 by decide)) (by simp) (own_hat (bs := [c0_, c1_, c2_, c3_, c4_]) H93 (S93.trans (show ((5 : Int32)).toNatClampNeg = 5 by decide))) hbb) hZ (hw _ (List.mem_of_getElem? (i := 9) rfl)) (hw _ (List.mem_of_getElem? (i := 8) rfl)) (by decide) (by decide)) (g := (mkF m 312 #[.val (.int p0), .val (.int p1), .val (.int p2), .val (.int p3), .val (.int p4), .val (.int p5), .val (.int (5 : Int32)), .val (.int c0_), .val (.int c1_), .val (.int c2_), .val (.int c3_), .val (.int c4_), .val (.ref b68), .val (.int (1 : Int32)), .val (.int (3 : Int32)), .val (.int kv3), .val (.int fv3), .val (.int ex)] [(.ref b68)])) rfl (by rw [hml]; rfl) (argsL := [(.ref b68)]) (rest := []) (lenOf own_pd1 rfl) rfl (by show 2 * 0 + _ ≤ _; exact Nat.le_of_eq rfl) (hb hby at_312) (fun _ _ => ⟨rfl, eJ91, (by decide : 1 + 0 ≤ _), (by decide : 5 + 0 ≤ _)⟩)
                dsimp only [Pt.U, Pt.locs, Pt.cells, Pt.slots] at X94 l94 y94 z94 st94 hQ94
                subst l94 y94 z94
                obtain ⟨rfl, Nq94, e94⟩ := hQ94
                have N94 := Fr.app NJ91 Nq94
                refine own_step (fun _ k => st94 _ k) ?_
                show own_Ends _ _ _ _ _ _ _ (T94.setTop (mkF m 315 #[.val (.int p0), .val (.int p1), .val (.int p2), .val (.int p3), .val (.int p4), .val (.int p5), .val (.int (5 : Int32)), .val (.int c0_), .val (.int c1_), .val (.int c2_), .val (.int c3_), .val (.int c4_), .val (.ref b68), .val (.int (1 : Int32)), .val (.int (3 : Int32)), .val (.int kv3), .val (.int fv3), .val (.int ex)] [(.int (own_looks [c0_, c1_, c2_, c3_, c4_]))]))
                refine own_step (fun _ k => XS.iload X94.here hx rfl (hb hby at_315) rfl k) ?_
                show own_Ends _ _ _ _ _ _ _ (T94.setTop (mkF m 317 #[.val (.int p0), .val (.int p1), .val (.int p2), .val (.int p3), .val (.int p4), .val (.int p5), .val (.int (5 : Int32)), .val (.int c0_), .val (.int c1_), .val (.int c2_), .val (.int c3_), .val (.int c4_), .val (.ref b68), .val (.int (1 : Int32)), .val (.int (3 : Int32)), .val (.int kv3), .val (.int fv3), .val (.int ex)] [(.int ex), (.int (own_looks [c0_, c1_, c2_, c3_, c4_]))]))
                refine own_step (fun _ k => XS.icmpNo X94.here hx rfl (hb hby at_317) rfl (teq (by rw [own_looks, hst, hex]; exact (hE3).symm)).2 k) ?_
                show own_Ends _ _ _ _ _ _ _ (T94.setTop (mkF m 320 #[.val (.int p0), .val (.int p1), .val (.int p2), .val (.int p3), .val (.int p4), .val (.int p5), .val (.int (5 : Int32)), .val (.int c0_), .val (.int c1_), .val (.int c2_), .val (.int c3_), .val (.int c4_), .val (.ref b68), .val (.int (1 : Int32)), .val (.int (3 : Int32)), .val (.int kv3), .val (.int fv3), .val (.int ex)] []))
                refine own_step (fun _ k => XS.iconst X94.here hx rfl (hb hby at_320) k) ?_
                show own_Ends _ _ _ _ _ _ _ (T94.setTop (mkF m 321 #[.val (.int p0), .val (.int p1), .val (.int p2), .val (.int p3), .val (.int p4), .val (.int p5), .val (.int (5 : Int32)), .val (.int c0_), .val (.int c1_), .val (.int c2_), .val (.int c3_), .val (.int c4_), .val (.ref b68), .val (.int (1 : Int32)), .val (.int (3 : Int32)), .val (.int kv3), .val (.int fv3), .val (.int ex)] [(.int (1 : Int32))]))
                refine own_step (fun _ k => XS.goto X94.here hx rfl (pc0 := 321) (pc' := 325) rfl (hb hby at_321) (by decide) (by decide) k) ?_
                show own_Ends _ _ _ _ _ _ _ (T94.setTop (mkF m 325 #[.val (.int p0), .val (.int p1), .val (.int p2), .val (.int p3), .val (.int p4), .val (.int p5), .val (.int (5 : Int32)), .val (.int c0_), .val (.int c1_), .val (.int c2_), .val (.int c3_), .val (.int c4_), .val (.ref b68), .val (.int (1 : Int32)), .val (.int (3 : Int32)), .val (.int kv3), .val (.int fv3), .val (.int ex)] [(.int (1 : Int32))]))
                refine own_ret X94 (BodyLoose.notSynchronized Bd) (v := (some (.int (1 : Int32)))) (fun h => by rw [Bd.returns] at h; cases h) ?_ (by decide) (by decide) (fun fs hr => X94.ireturnOut hx Bd.returns rfl (by simp) (hb hby at_325) hr)
                show own_Q0 Z p0 p1 p2 p3 p4 p5  h0 n0 (some (.int (1 : Int32))) T94.heap _
                rw [e94]
                exact ⟨rfl, N94⟩
              refine own_step (fun _ k => XS.iload XJ91.here hx rfl (hb hby at_291) rfl k) ?_
              show own_Ends _ _ _ _ _ _ _ (TJ91.setTop (mkF m 293 #[.val (.int p0), .val (.int p1), .val (.int p2), .val (.int p3), .val (.int p4), .val (.int p5), .val (.int (5 : Int32)), .val (.int c0_), .val (.int c1_), .val (.int c2_), .val (.int c3_), .val (.int c4_), .val (.ref b68), .val (.int (1 : Int32)), .val (.int (3 : Int32)), .val (.int kv3), .val (.int fv3), .unset] [(.int kv3)]))
              by_cases u1 : kv3 < (0 : Int32)
              · refine own_step (fun _ k => XS.ifYes XJ91.here hx rfl (pc0 := 293) (pc' := 307) rfl (hb hby at_293) rfl ((if0 _ _).trans (tlt u1).1) (by decide) (by decide) k) ?_
                show own_Ends _ _ _ _ _ _ _ (TJ91.setTop (mkF m 307 #[.val (.int p0), .val (.int p1), .val (.int p2), .val (.int p3), .val (.int p4), .val (.int p5), .val (.int (5 : Int32)), .val (.int c0_), .val (.int c1_), .val (.int c2_), .val (.int c3_), .val (.int c4_), .val (.ref b68), .val (.int (1 : Int32)), .val (.int (3 : Int32)), .val (.int kv3), .val (.int fv3), .unset] []))
                refine own_step (fun _ k => XS.iconst XJ91.here hx rfl (hb hby at_307) k) ?_
                show own_Ends _ _ _ _ _ _ _ (TJ91.setTop (mkF m 308 #[.val (.int p0), .val (.int p1), .val (.int p2), .val (.int p3), .val (.int p4), .val (.int p5), .val (.int (5 : Int32)), .val (.int c0_), .val (.int c1_), .val (.int c2_), .val (.int c3_), .val (.int c4_), .val (.ref b68), .val (.int (1 : Int32)), .val (.int (3 : Int32)), .val (.int kv3), .val (.int fv3), .unset] [(.int (0 : Int32))]))
                exact J308_92 _ (by rw [own_res, if_pos u1])
              · refine own_step (fun _ k => XS.ifNo XJ91.here hx rfl (hb hby at_293) rfl ((if0 _ _).trans (flt u1).1) k) ?_
                show own_Ends _ _ _ _ _ _ _ (TJ91.setTop (mkF m 296 #[.val (.int p0), .val (.int p1), .val (.int p2), .val (.int p3), .val (.int p4), .val (.int p5), .val (.int (5 : Int32)), .val (.int c0_), .val (.int c1_), .val (.int c2_), .val (.int c3_), .val (.int c4_), .val (.ref b68), .val (.int (1 : Int32)), .val (.int (3 : Int32)), .val (.int kv3), .val (.int fv3), .unset] []))
                refine own_step (fun _ k => XS.iload XJ91.here hx rfl (hb hby at_296) rfl k) ?_
                show own_Ends _ _ _ _ _ _ _ (TJ91.setTop (mkF m 298 #[.val (.int p0), .val (.int p1), .val (.int p2), .val (.int p3), .val (.int p4), .val (.int p5), .val (.int (5 : Int32)), .val (.int c0_), .val (.int c1_), .val (.int c2_), .val (.int c3_), .val (.int c4_), .val (.ref b68), .val (.int (1 : Int32)), .val (.int (3 : Int32)), .val (.int kv3), .val (.int fv3), .unset] [(.int fv3)]))
                refine own_step (fun _ k => XS.bipush XJ91.here hx rfl (hb hby at_298) k) ?_
                show own_Ends _ _ _ _ _ _ _ (TJ91.setTop (mkF m 300 #[.val (.int p0), .val (.int p1), .val (.int p2), .val (.int p3), .val (.int p4), .val (.int p5), .val (.int (5 : Int32)), .val (.int c0_), .val (.int c1_), .val (.int c2_), .val (.int c3_), .val (.int c4_), .val (.ref b68), .val (.int (1 : Int32)), .val (.int (3 : Int32)), .val (.int kv3), .val (.int fv3), .unset] [(.int (60 : Int32)), (.int fv3)]))
                by_cases u2 : fv3 = (60 : Int32)
                · refine own_step (fun _ k => XS.icmpNo XJ91.here hx rfl (hb hby at_300) rfl (teq u2).2 k) ?_
                  show own_Ends _ _ _ _ _ _ _ (TJ91.setTop (mkF m 303 #[.val (.int p0), .val (.int p1), .val (.int p2), .val (.int p3), .val (.int p4), .val (.int p5), .val (.int (5 : Int32)), .val (.int c0_), .val (.int c1_), .val (.int c2_), .val (.int c3_), .val (.int c4_), .val (.ref b68), .val (.int (1 : Int32)), .val (.int (3 : Int32)), .val (.int kv3), .val (.int fv3), .unset] []))
                  refine own_step (fun _ k => XS.iconst XJ91.here hx rfl (hb hby at_303) k) ?_
                  show own_Ends _ _ _ _ _ _ _ (TJ91.setTop (mkF m 304 #[.val (.int p0), .val (.int p1), .val (.int p2), .val (.int p3), .val (.int p4), .val (.int p5), .val (.int (5 : Int32)), .val (.int c0_), .val (.int c1_), .val (.int c2_), .val (.int c3_), .val (.int c4_), .val (.ref b68), .val (.int (1 : Int32)), .val (.int (3 : Int32)), .val (.int kv3), .val (.int fv3), .unset] [(.int (1 : Int32))]))
                  refine own_step (fun _ k => XS.goto XJ91.here hx rfl (pc0 := 304) (pc' := 308) rfl (hb hby at_304) (by decide) (by decide) k) ?_
                  show own_Ends _ _ _ _ _ _ _ (TJ91.setTop (mkF m 308 #[.val (.int p0), .val (.int p1), .val (.int p2), .val (.int p3), .val (.int p4), .val (.int p5), .val (.int (5 : Int32)), .val (.int c0_), .val (.int c1_), .val (.int c2_), .val (.int c3_), .val (.int c4_), .val (.ref b68), .val (.int (1 : Int32)), .val (.int (3 : Int32)), .val (.int kv3), .val (.int fv3), .unset] [(.int (1 : Int32))]))
                  exact J308_92 _ (by rw [own_res, if_neg u1, if_pos u2])
                · refine own_step (fun _ k => XS.icmpYes XJ91.here hx rfl (pc0 := 300) (pc' := 307) rfl (hb hby at_300) rfl (feq u2).2 (by decide) (by decide) k) ?_
                  show own_Ends _ _ _ _ _ _ _ (TJ91.setTop (mkF m 307 #[.val (.int p0), .val (.int p1), .val (.int p2), .val (.int p3), .val (.int p4), .val (.int p5), .val (.int (5 : Int32)), .val (.int c0_), .val (.int c1_), .val (.int c2_), .val (.int c3_), .val (.int c4_), .val (.ref b68), .val (.int (1 : Int32)), .val (.int (3 : Int32)), .val (.int kv3), .val (.int fv3), .unset] []))
                  refine own_step (fun _ k => XS.iconst XJ91.here hx rfl (hb hby at_307) k) ?_
                  show own_Ends _ _ _ _ _ _ _ (TJ91.setTop (mkF m 308 #[.val (.int p0), .val (.int p1), .val (.int p2), .val (.int p3), .val (.int p4), .val (.int p5), .val (.int (5 : Int32)), .val (.int c0_), .val (.int c1_), .val (.int c2_), .val (.int c3_), .val (.int c4_), .val (.ref b68), .val (.int (1 : Int32)), .val (.int (3 : Int32)), .val (.int kv3), .val (.int fv3), .unset] [(.int (0 : Int32))]))
                  exact J308_92 _ (by rw [own_res, if_neg u1, if_neg u2])
            by_cases w3 : (own_ws c3_) = (0 : Int32)
            · refine own_step (fun _ k => XS.ifNo X90.here hx rfl (hb hby at_202) rfl ((if0 _ _).trans (teq w3).2) k) ?_
              show own_Ends _ _ _ _ _ _ _ (T90.setTop (mkF m 205 #[.val (.int p0), .val (.int p1), .val (.int p2), .val (.int p3), .val (.int p4), .val (.int p5), .val (.int (5 : Int32)), .val (.int c0_), .val (.int c1_), .val (.int c2_), .val (.int c3_), .val (.int c4_), .val (.ref b68), .val (.int (1 : Int32)), .val (.int (3 : Int32)), .val (.int kv4), .val (.int fv4), .unset] []))
              refine own_step (fun _ k => XS.iconst X90.here hx rfl (hb hby at_205) k) ?_
              show own_Ends _ _ _ _ _ _ _ (T90.setTop (mkF m 206 #[.val (.int p0), .val (.int p1), .val (.int p2), .val (.int p3), .val (.int p4), .val (.int p5), .val (.int (5 : Int32)), .val (.int c0_), .val (.int c1_), .val (.int c2_), .val (.int c3_), .val (.int c4_), .val (.ref b68), .val (.int (1 : Int32)), .val (.int (3 : Int32)), .val (.int kv4), .val (.int fv4), .unset] [(.int (3 : Int32))]))
              refine own_step (fun _ k => XS.istore X90.here hx rfl (hb hby at_206) rfl (l' := #[.val (.int p0), .val (.int p1), .val (.int p2), .val (.int p3), .val (.int p4), .val (.int p5), .val (.int (5 : Int32)), .val (.int c0_), .val (.int c1_), .val (.int c2_), .val (.int c3_), .val (.int c4_), .val (.ref b68), .val (.int (1 : Int32)), .val (.int (3 : Int32)), .val (.int (3 : Int32)), .val (.int fv4), .unset]) rfl k) ?_
              show own_Ends _ _ _ _ _ _ _ (T90.setTop (mkF m 208 #[.val (.int p0), .val (.int p1), .val (.int p2), .val (.int p3), .val (.int p4), .val (.int p5), .val (.int (5 : Int32)), .val (.int c0_), .val (.int c1_), .val (.int c2_), .val (.int c3_), .val (.int c4_), .val (.ref b68), .val (.int (1 : Int32)), .val (.int (3 : Int32)), .val (.int (3 : Int32)), .val (.int fv4), .unset] []))
              refine own_step (fun _ k => XS.iload X90.here hx rfl (hb hby at_208) rfl k) ?_
              show own_Ends _ _ _ _ _ _ _ (T90.setTop (mkF m 210 #[.val (.int p0), .val (.int p1), .val (.int p2), .val (.int p3), .val (.int p4), .val (.int p5), .val (.int (5 : Int32)), .val (.int c0_), .val (.int c1_), .val (.int c2_), .val (.int c3_), .val (.int c4_), .val (.ref b68), .val (.int (1 : Int32)), .val (.int (3 : Int32)), .val (.int (3 : Int32)), .val (.int fv4), .unset] [(.int c3_)]))
              refine own_step (fun _ k => XS.istore X90.here hx rfl (hb hby at_210) rfl (l' := #[.val (.int p0), .val (.int p1), .val (.int p2), .val (.int p3), .val (.int p4), .val (.int p5), .val (.int (5 : Int32)), .val (.int c0_), .val (.int c1_), .val (.int c2_), .val (.int c3_), .val (.int c4_), .val (.ref b68), .val (.int (1 : Int32)), .val (.int (3 : Int32)), .val (.int (3 : Int32)), .val (.int c3_), .unset]) rfl k) ?_
              show own_Ends _ _ _ _ _ _ _ (T90.setTop (mkF m 212 #[.val (.int p0), .val (.int p1), .val (.int p2), .val (.int p3), .val (.int p4), .val (.int p5), .val (.int (5 : Int32)), .val (.int c0_), .val (.int c1_), .val (.int c2_), .val (.int c3_), .val (.int c4_), .val (.ref b68), .val (.int (1 : Int32)), .val (.int (3 : Int32)), .val (.int (3 : Int32)), .val (.int c3_), .unset] []))
              exact J212_91 _ N90 _ X90 e90 _ _ (by rw [own_first, if_pos w3]; rfl)
            · refine own_step (fun _ k => XS.ifYes X90.here hx rfl (pc0 := 202) (pc' := 212) rfl (hb hby at_202) rfl ((if0 _ _).trans (feq w3).2) (by decide) (by decide) k) ?_
              show own_Ends _ _ _ _ _ _ _ (T90.setTop (mkF m 212 #[.val (.int p0), .val (.int p1), .val (.int p2), .val (.int p3), .val (.int p4), .val (.int p5), .val (.int (5 : Int32)), .val (.int c0_), .val (.int c1_), .val (.int c2_), .val (.int c3_), .val (.int c4_), .val (.ref b68), .val (.int (1 : Int32)), .val (.int (3 : Int32)), .val (.int kv4), .val (.int fv4), .unset] []))
              exact J212_91 _ N90 _ X90 e90 _ _ (by rw [own_first, if_neg w3]; exact hE4)
          by_cases w4 : (own_ws c4_) = (0 : Int32)
          · refine own_step (fun _ k => XS.ifNo X88.here hx rfl (hb hby at_175) rfl ((if0 _ _).trans (teq w4).2) k) ?_
            show own_Ends _ _ _ _ _ _ _ (T88.setTop (mkF m 178 #[.val (.int p0), .val (.int p1), .val (.int p2), .val (.int p3), .val (.int p4), .val (.int p5), .val (.int (5 : Int32)), .val (.int c0_), .val (.int c1_), .val (.int c2_), .val (.int c3_), .val (.int c4_), .val (.ref b68), .val (.int (1 : Int32)), .val (.int (3 : Int32)), .val (.int (-1 : Int32)), .val (.int (0 : Int32)), .unset] []))
            refine own_step (fun _ k => XS.iconst X88.here hx rfl (hb hby at_178) k) ?_
            show own_Ends _ _ _ _ _ _ _ (T88.setTop (mkF m 179 #[.val (.int p0), .val (.int p1), .val (.int p2), .val (.int p3), .val (.int p4), .val (.int p5), .val (.int (5 : Int32)), .val (.int c0_), .val (.int c1_), .val (.int c2_), .val (.int c3_), .val (.int c4_), .val (.ref b68), .val (.int (1 : Int32)), .val (.int (3 : Int32)), .val (.int (-1 : Int32)), .val (.int (0 : Int32)), .unset] [(.int (4 : Int32))]))
            refine own_step (fun _ k => XS.istore X88.here hx rfl (hb hby at_179) rfl (l' := #[.val (.int p0), .val (.int p1), .val (.int p2), .val (.int p3), .val (.int p4), .val (.int p5), .val (.int (5 : Int32)), .val (.int c0_), .val (.int c1_), .val (.int c2_), .val (.int c3_), .val (.int c4_), .val (.ref b68), .val (.int (1 : Int32)), .val (.int (3 : Int32)), .val (.int (4 : Int32)), .val (.int (0 : Int32)), .unset]) rfl k) ?_
            show own_Ends _ _ _ _ _ _ _ (T88.setTop (mkF m 181 #[.val (.int p0), .val (.int p1), .val (.int p2), .val (.int p3), .val (.int p4), .val (.int p5), .val (.int (5 : Int32)), .val (.int c0_), .val (.int c1_), .val (.int c2_), .val (.int c3_), .val (.int c4_), .val (.ref b68), .val (.int (1 : Int32)), .val (.int (3 : Int32)), .val (.int (4 : Int32)), .val (.int (0 : Int32)), .unset] []))
            refine own_step (fun _ k => XS.iload X88.here hx rfl (hb hby at_181) rfl k) ?_
            show own_Ends _ _ _ _ _ _ _ (T88.setTop (mkF m 183 #[.val (.int p0), .val (.int p1), .val (.int p2), .val (.int p3), .val (.int p4), .val (.int p5), .val (.int (5 : Int32)), .val (.int c0_), .val (.int c1_), .val (.int c2_), .val (.int c3_), .val (.int c4_), .val (.ref b68), .val (.int (1 : Int32)), .val (.int (3 : Int32)), .val (.int (4 : Int32)), .val (.int (0 : Int32)), .unset] [(.int c4_)]))
            refine own_step (fun _ k => XS.istore X88.here hx rfl (hb hby at_183) rfl (l' := #[.val (.int p0), .val (.int p1), .val (.int p2), .val (.int p3), .val (.int p4), .val (.int p5), .val (.int (5 : Int32)), .val (.int c0_), .val (.int c1_), .val (.int c2_), .val (.int c3_), .val (.int c4_), .val (.ref b68), .val (.int (1 : Int32)), .val (.int (3 : Int32)), .val (.int (4 : Int32)), .val (.int c4_), .unset]) rfl k) ?_
            show own_Ends _ _ _ _ _ _ _ (T88.setTop (mkF m 185 #[.val (.int p0), .val (.int p1), .val (.int p2), .val (.int p3), .val (.int p4), .val (.int p5), .val (.int (5 : Int32)), .val (.int c0_), .val (.int c1_), .val (.int c2_), .val (.int c3_), .val (.int c4_), .val (.ref b68), .val (.int (1 : Int32)), .val (.int (3 : Int32)), .val (.int (4 : Int32)), .val (.int c4_), .unset] []))
            exact J185_89 _ N88 _ X88 e88 _ _ (by rw [own_first, if_pos w4]; rfl)
          · refine own_step (fun _ k => XS.ifYes X88.here hx rfl (pc0 := 175) (pc' := 185) rfl (hb hby at_175) rfl ((if0 _ _).trans (feq w4).2) (by decide) (by decide) k) ?_
            show own_Ends _ _ _ _ _ _ _ (T88.setTop (mkF m 185 #[.val (.int p0), .val (.int p1), .val (.int p2), .val (.int p3), .val (.int p4), .val (.int p5), .val (.int (5 : Int32)), .val (.int c0_), .val (.int c1_), .val (.int c2_), .val (.int c3_), .val (.int c4_), .val (.ref b68), .val (.int (1 : Int32)), .val (.int (3 : Int32)), .val (.int (-1 : Int32)), .val (.int (0 : Int32)), .unset] []))
            exact J185_89 _ N88 _ X88 e88 _ _ (by rw [own_first, if_neg w4]; rfl)
        · refine own_step (fun _ k => XS.icmpYes X73.here hx rfl (pc0 := 130) (pc' := 137) rfl (hb hby at_130) rfl (feq k2).2 (by decide) (by decide) k) ?_
          show own_Ends _ _ _ _ _ _ _ (T73.setTop (mkF m 137 #[.val (.int p0), .val (.int p1), .val (.int p2), .val (.int p3), .val (.int p4), .val (.int p5), .val (.int (5 : Int32)), .val (.int c0_), .val (.int c1_), .val (.int c2_), .val (.int c3_), .val (.int c4_), .val (.ref b68), .unset, .unset, .unset, .unset, .unset] []))
          refine own_step (fun _ k => XS.iconst X73.here hx rfl (hb hby at_137) k) ?_
          show own_Ends _ _ _ _ _ _ _ (T73.setTop (mkF m 138 #[.val (.int p0), .val (.int p1), .val (.int p2), .val (.int p3), .val (.int p4), .val (.int p5), .val (.int (5 : Int32)), .val (.int c0_), .val (.int c1_), .val (.int c2_), .val (.int c3_), .val (.int c4_), .val (.ref b68), .unset, .unset, .unset, .unset, .unset] [(.int (0 : Int32))]))
          exact J138_74 (by simp [own_start, k0, k1, k2])
      · refine own_step (fun _ k => XS.icmpYes X73.here hx rfl (pc0 := 123) (pc' := 137) rfl (hb hby at_123) rfl (feq k1).2 (by decide) (by decide) k) ?_
        show own_Ends _ _ _ _ _ _ _ (T73.setTop (mkF m 137 #[.val (.int p0), .val (.int p1), .val (.int p2), .val (.int p3), .val (.int p4), .val (.int p5), .val (.int (5 : Int32)), .val (.int c0_), .val (.int c1_), .val (.int c2_), .val (.int c3_), .val (.int c4_), .val (.ref b68), .unset, .unset, .unset, .unset, .unset] []))
        refine own_step (fun _ k => XS.iconst X73.here hx rfl (hb hby at_137) k) ?_
        show own_Ends _ _ _ _ _ _ _ (T73.setTop (mkF m 138 #[.val (.int p0), .val (.int p1), .val (.int p2), .val (.int p3), .val (.int p4), .val (.int p5), .val (.int (5 : Int32)), .val (.int c0_), .val (.int c1_), .val (.int c2_), .val (.int c3_), .val (.int c4_), .val (.ref b68), .unset, .unset, .unset, .unset, .unset] [(.int (0 : Int32))]))
        exact J138_74 (by simp [own_start, k0, k1])
    · refine own_step (fun _ k => XS.icmpYes X73.here hx rfl (pc0 := 116) (pc' := 137) rfl (hb hby at_116) rfl (feq k0).2 (by decide) (by decide) k) ?_
      show own_Ends _ _ _ _ _ _ _ (T73.setTop (mkF m 137 #[.val (.int p0), .val (.int p1), .val (.int p2), .val (.int p3), .val (.int p4), .val (.int p5), .val (.int (5 : Int32)), .val (.int c0_), .val (.int c1_), .val (.int c2_), .val (.int c3_), .val (.int c4_), .val (.ref b68), .unset, .unset, .unset, .unset, .unset] []))
      refine own_step (fun _ k => XS.iconst X73.here hx rfl (hb hby at_137) k) ?_
      show own_Ends _ _ _ _ _ _ _ (T73.setTop (mkF m 138 #[.val (.int p0), .val (.int p1), .val (.int p2), .val (.int p3), .val (.int p4), .val (.int p5), .val (.int (5 : Int32)), .val (.int c0_), .val (.int c1_), .val (.int c2_), .val (.int c3_), .val (.int c4_), .val (.ref b68), .unset, .unset, .unset, .unset, .unset] [(.int (0 : Int32))]))
      exact J138_74 (by simp [own_start, k0])
set_option maxRecDepth 65536 in
set_option maxHeartbeats 40000000 in
theorem comes_1 {Post : Tables → Env → Array Value → State → Outcome → State → Prop} (hpost : ∀ tb e args s v u, (limb_1_1.after args s (.returned v) u = true ∧ limb_1_2.after args s (.returned v) u = true ∧ True) → FrameEnd s (.returned v) u (Jvm.fieldLocs frame_1_writes args s ++ Jvm.arrayLocs frame_1_arrays args s ++ Jvm.staticLocs frame_1_statics s) 16 128 → Post tb e args s (.returned v) u) :
    ArmFor flags0 classFile x code maxLocals ret World_1 tables_1 room_1 Calls_1 rest_1 Pre_1 Post := by
  intro l hfl _ _ p e ha hc hk s m args below hf hA hF happ hP
  obtain ⟨hcalls, hrest, hpre⟩ := hP
  obtain ⟨-, -, -, hnamed, -, -, -, hat⟩ := (Spec.applies_iff hf).mp happ
  obtain ⟨hg, hn⟩ := and_e (Cond.before_iff.mp (show (Jvm.Cond.and given_1 narrow_1).before args s = true from hpre))
  obtain ⟨g0, hg⟩ := and_e hg
  obtain ⟨ga0, hg⟩ := and_e hg
  obtain ⟨ga1, hg⟩ := and_e hg
  obtain ⟨ga2, hg⟩ := and_e hg
  obtain ⟨ga3, hg⟩ := and_e hg
  obtain ⟨ga4, hg⟩ := and_e hg
  obtain ⟨w0, w1, w2, w3, w4, w5, rfl⟩ : ∃ w0 w1 w2 w3 w4 w5 : Value, args = #[w0, w1, w2, w3, w4, w5] := by
    have hs : args.size = 6 := by simpa [Cond.value, given_1] using g0
    obtain ⟨L⟩ := args
    match L, hs with
    | [w0, w1, w2, w3, w4, w5], _ => exact ⟨w0, w1, w2, w3, w4, w5, rfl⟩
  have hw := fun d (hd : d ∈ tables_1) => atoms_spec (ws := Jvm.Cond.code x code maxLocals ret :: tables_1) hat d (List.mem_cons_of_mem _ hd)
  obtain ⟨i0, ei0⟩ := is_v ga0
  obtain rfl : w0 = (.int i0) := Option.some.inj ei0
  obtain ⟨i1, ei1⟩ := is_v ga1
  obtain rfl : w1 = (.int i1) := Option.some.inj ei1
  obtain ⟨i2, ei2⟩ := is_v ga2
  obtain rfl : w2 = (.int i2) := Option.some.inj ei2
  obtain ⟨i3, ei3⟩ := is_v ga3
  obtain rfl : w3 = (.int i3) := Option.some.inj ei3
  obtain ⟨i4, ei4⟩ := is_v ga4
  obtain rfl : w4 = (.int i4) := Option.some.inj ei4
  obtain ⟨i5, ei5⟩ := is_v hg
  obtain rfl : w5 = (.int i5) := Option.some.inj ei5
  obtain ⟨n, o, h1, h2, h3, _, L, rfl, ⟨rfl, N⟩, hq⟩ := own_rm0 l s _ hw tables_1 i0 i1 i2 i3 i4 i5 s.heap s.heap.size (Nat.le_refl _)  p e ha hc hk s m _ below hf ((Spec.applies_iff_loose hf).mp happ).1 ⟨rfl, State.Warmed39.refl s, rfl⟩ trivial
  refine ⟨n, _, h1, h2, h3, hpost _ _ _ _ _ _ ⟨Cond.after_iff.mpr rfl, Cond.after_iff.mpr (eq_i res_at (Term.int_eval (1)) rfl), trivial⟩ ⟨hq.1, hq.2.1, (hq.2.2.sift fun y hy => Or.inr (N y hy)).mono (by decide) (by decide)⟩⟩
theorem main_1_1 : Claimed_1_1 := comes_1 fun _ _ _ _ _ _ h hF => ⟨h.1, hF⟩
theorem main_1_2 : Claimed_1_2 := comes_1 fun _ _ _ _ _ _ h hF => ⟨h.2.1, hF⟩
end Jvm.Pilot.@@N@@
namespace Jvm.Pilot.@@N@@
open Jvm Jvm.ClassFile Sem Op Lib Jvm.Free Jvm.Stand Jvm.Pilot.@@N@@.Jvm.D
/-! MADE BY PROGRAM (witnessworld.py) out of the Statement's table words and the real class files: 9 classes; the members and pool entries that the words name. The judged class is class 1, her method 1. -/
namespace start1
open Jvm.ClassFile
def u (s : String) : CpInfo := .utf8 (stringToUtf16 s)
/-- a pool by its gaps: so many unusable entries, then the entry; so many at the end -/
def gap : Nat → List CpInfo → List CpInfo
  | 0, r => r
  | n + 1, r => .unusable :: gap n r
def poolList (es : List (Nat × CpInfo)) (last : Nat) : List CpInfo := es.foldr (fun e r => gap e.1 (e.2 :: r)) (gap last [])
def pool (es : List (Nat × CpInfo)) (last : Nat) : Array CpInfo := ⟨poolList es last⟩
def fileOf (pool : Array CpInfo) (this : Nat) (attrs : Array Attribute := #[]) (ms : Array MethodInfo := #[]) (fl : Nat := 33) (sup : Nat := 0) (ifs : Array Nat := #[]) (fds : Array FieldInfo := #[]) : ClassFile where
  minorVersion := 0
  majorVersion := 65
  constantPool := pool
  accessFlags := fl
  thisClass := this
  superClass := sup
  interfaces := ifs
  fields := fds
  methods := ms
  attributes := attrs
def plain (name : String) (sup : Option ClassId) : Class where
  name := name
  kind := .ordinary
  loader := none
  accessFlags := 33
  super := sup
  interfaces := #[]
  cf := none
  fields := #[]
  methods := #[]
  instanceTypes := #[]
  staticTypes := #[]
  resolved := #[]
  callSites := []
  init := .initialized
  statics := none
  mirror := none

def pool0 : Array CpInfo := pool [(5, u "<init>"), (0, u "()V"), (1, .class_ 10), (1, u "java/lang/Object")] 113

def k0m0 : Method := { name := "<init>", desc := "()V", sig := { parameters := [], returnType := none }, accessFlags := 1, code := none }
/-- java/lang/Object -/
def k0 : Class := { plain "java/lang/Object" none with
  accessFlags := 33
  interfaces := #[]
  cf := some (fileOf pool0 8 #[] #[{ accessFlags := 1, nameIndex := 5, descriptorIndex := 6, attributes := #[] }] 33 0 #[] #[])
  fields := #[]
  methods := #[k0m0]
  instanceTypes := #[]
  staticTypes := #[]
  resolved := Array.replicate 124 none
  statics := none }

def pool1 : Array CpInfo := pool [(2, .class_ 4), (1, u "java/lang/Object"), (0, u "<init>"), (0, u "()V"), (0, .integer 2147483647), (0, .methodref 9 10), (0, .class_ 11), (0, .nameAndType 12 13), (0, u "com/example/parley/parley/io/CompetitionXmlLooksLikeXmlPinLaw"), (0, u "pick"), (0, u "(I)B"), (0, .methodref 9 15), (0, .nameAndType 16 17), (0, u "ws"), (0, u "(B)Z"), (0, .methodref 19 20), (0, .class_ 21), (0, .nameAndType 22 23), (0, u "com/example/parley/parley/io/CompetitionXml"), (0, u "looksLikeXml"), (0, u "([B)Z"), (2, u "law"), (0, u "(IIIIII)Z")] 5

def k1m0 : Method := { name := "<init>", desc := "()V", sig := { parameters := [], returnType := none }, accessFlags := 1, code := none }
def k1c1 : Code := { maxStack := 3, maxLocals := 18, code := code, exceptionTable := #[], attributes := #[] }
def k1m1 : Method := { name := "law", desc := "(IIIIII)Z", sig := { parameters := [.int, .int, .int, .int, .int, .int], returnType := some .boolean }, accessFlags := 9, code := some k1c1 }
def k1c2 : Code := { maxStack := 2, maxLocals := 1, code := method_3_code, exceptionTable := #[], attributes := #[] }
def k1m2 : Method := { name := "ws", desc := "(B)Z", sig := { parameters := [.byte], returnType := some .boolean }, accessFlags := 10, code := some k1c2 }
def k1c3 : Code := { maxStack := 2, maxLocals := 2, code := method_4_code, exceptionTable := #[], attributes := #[] }
def k1m3 : Method := { name := "pick", desc := "(I)B", sig := { parameters := [.int], returnType := some .byte }, accessFlags := 10, code := some k1c3 }
/-- com/example/parley/parley/io/CompetitionXmlLooksLikeXmlPinLaw -/
def k1 : Class := { plain "com/example/parley/parley/io/CompetitionXmlLooksLikeXmlPinLaw" (some 0) with
  accessFlags := 49
  interfaces := #[]
  cf := some (fileOf pool1 9 #[] #[{ accessFlags := 1, nameIndex := 5, descriptorIndex := 6, attributes := #[] }, { accessFlags := 9, nameIndex := 26, descriptorIndex := 27, attributes := #[] }, { accessFlags := 10, nameIndex := 16, descriptorIndex := 17, attributes := #[] }, { accessFlags := 10, nameIndex := 12, descriptorIndex := 13, attributes := #[] }] 49 2 #[] #[])
  fields := #[]
  methods := #[k1m0, k1m1, k1m2, k1m3]
  instanceTypes := #[]
  staticTypes := #[]
  resolved := Array.replicate 33 none
  statics := none }

def pool2 : Array CpInfo := pool [(2, .class_ 4), (1, u "java/lang/Object"), (0, u "<init>"), (0, u "()V"), (1, .class_ 10), (1, u "com/example/parley/parley/io/CompetitionXml"), (4, u "looksLikeXml"), (0, u "([B)Z"), (118, .class_ 136), (0, u "com/example/parley/parley/io/CompetitionXml$1"), (140, .class_ 279), (1, u "com/example/parley/parley/io/CompetitionXml$ProfileIssues"), (132, u "DOMAIN_ROOT"), (0, u "Ljava/lang/String;"), (1, u "PROFILE_ROOT"), (0, u "CONSTRAINT_TYPE")] 72

def k2m0 : Method := { name := "<init>", desc := "()V", sig := { parameters := [], returnType := none }, accessFlags := 2, code := none }
def k2c1 : Code := { maxStack := 2, maxLocals := 4, code := prog_27_method_4_code, exceptionTable := #[], attributes := #[] }
def k2m1 : Method := { name := "looksLikeXml", desc := "([B)Z", sig := { parameters := [(.array .byte)], returnType := some .boolean }, accessFlags := 8, code := some k2c1 }
/-- com/example/parley/parley/io/CompetitionXml -/
def k2 : Class := { plain "com/example/parley/parley/io/CompetitionXml" (some 0) with
  accessFlags := 48
  interfaces := #[]
  cf := some (fileOf pool2 8 #[.nestMembers #[277, 135]] #[{ accessFlags := 2, nameIndex := 5, descriptorIndex := 6, attributes := #[] }, { accessFlags := 8, nameIndex := 15, descriptorIndex := 16, attributes := #[] }] 48 2 #[] #[{ accessFlags := 24, nameIndex := 412, descriptorIndex := 413, attributes := #[] }, { accessFlags := 24, nameIndex := 415, descriptorIndex := 413, attributes := #[] }, { accessFlags := 24, nameIndex := 416, descriptorIndex := 413, attributes := #[] }])
  fields := #[{ name := "DOMAIN_ROOT", type := (.object "java/lang/String"), accessFlags := 24, slot := 0, constantValue := 0 }, { name := "PROFILE_ROOT", type := (.object "java/lang/String"), accessFlags := 24, slot := 1, constantValue := 0 }, { name := "CONSTRAINT_TYPE", type := (.object "java/lang/String"), accessFlags := 24, slot := 2, constantValue := 0 }]
  methods := #[k2m0, k2m1]
  instanceTypes := #[]
  staticTypes := #[(.object "java/lang/String"), (.object "java/lang/String"), (.object "java/lang/String")]
  resolved := Array.replicate 489 none
  statics := none }

def pool3 : Array CpInfo := pool [(1, u "java/lang/Cloneable"), (0, .class_ 1), (0, u "java/lang/Object"), (0, .class_ 3)] 3

/-- java/lang/Cloneable -/
def k3 : Class := { plain "java/lang/Cloneable" (some 0) with
  accessFlags := 1537
  interfaces := #[]
  cf := some (fileOf pool3 2 #[] #[] 1537 4 #[] #[])
  fields := #[]
  methods := #[]
  instanceTypes := #[]
  staticTypes := #[]
  resolved := Array.replicate 8 none
  statics := none }

def pool4 : Array CpInfo := pool [(1, u "java/io/Serializable"), (0, .class_ 1), (0, u "java/lang/Object"), (0, .class_ 3)] 3

/-- java/io/Serializable -/
def k4 : Class := { plain "java/io/Serializable" (some 0) with
  accessFlags := 1537
  interfaces := #[]
  cf := some (fileOf pool4 2 #[] #[] 1537 4 #[] #[])
  fields := #[]
  methods := #[]
  instanceTypes := #[]
  staticTypes := #[]
  resolved := Array.replicate 8 none
  statics := none }

/-- the primitive byte -/
def k5 : Class := { plain "byte" none with kind := .primitive 'B', accessFlags := 0x411 }
/-- [B -/
def k6 : Class := { plain "[B" (some 0) with kind := .array 5 .byte, interfaces := #[3, 4], accessFlags := 1041 }

/-- the primitive int -/
def k7 : Class := { plain "int" none with kind := .primitive 'I', accessFlags := 0x411 }
/-- [I -/
def k8 : Class := { plain "[I" (some 0) with kind := .array 7 .int, interfaces := #[3, 4], accessFlags := 1041 }

def heap : Heap := #[]
def classes : Array Class := #[k0, k1, k2, k3, k4, k5, k6, k7, k8]
def interned : List (Array UInt16 × Addr) := []
def slotsUsed : Nat := 0
def theMethod : MethodId := ⟨1, 1⟩
def args0 : Array Value := #[.int 5, .int 7, .int 9, .int 1, .int 2, .int 3]
def aboutOver (below : List Frame) : State where
  vm := { classes := classes, interned := interned.toArray }
  heap := heap
  slotsUsed := slotsUsed
  threads := #[{ frames := .invoking theMethod args0 :: below }]
def below0 : List Frame := [.native { method := ⟨0, 0⟩, args := #[] }]
def about1 : State := aboutOver below0
def p0 : Program := .bare "" "" ""
def e0 : Env := launch0.env 0 0 0
theorem w_frames : about1.frames = Frame.invoking theMethod args0 :: below0 := rfl
set_option maxRecDepth 65536 in
theorem w_args : argsFit about1.vm theMethod args0 = true := by decide +kernel
set_option maxRecDepth 65536 in
theorem w_heap : heapFits about1 = true := by decide +kernel
set_option maxRecDepth 65536 in
theorem w_runnable : about1.curStatus? = some .runnable := by decide +kernel
set_option maxRecDepth 65536 in
theorem w_alone : about1.alone = true := by decide +kernel
set_option maxRecDepth 65536 in
theorem w_named : about1.methodNamed? x = some theMethod := by decide +kernel
set_option maxRecDepth 65536 in
theorem w_hears : about1.hears theMethod below0 = true := by decide +kernel
set_option maxRecDepth 65536 in
theorem w_ripe : about1.ripe theMethod args0 below0 = true := by decide +kernel
theorem w_running : about1.status = .running := rfl
set_option maxRecDepth 65536 in
theorem w_room : about1.hasRoom e0.platform room_1 = true :=
  launch0.hasRoom_least _ room_1 (by decide +kernel) (by decide +kernel) (by decide +kernel) (by decide +kernel) (by decide +kernel) (by decide +kernel)
theorem allAtoms_all (ts : List Jvm.Cond) (a : Array Jvm.Value) (st : Jvm.State) : (allAtoms ts).before a st = ts.all (fun c => c.before a st) := by
  induction ts with
  | nil => rfl
  | cons c t ih =>
    show (Jvm.Cond.and c (allAtoms t)).before a st = _
    rw [Jvm.Cond.before_and, ih, List.all_cons]
def words1 : List Jvm.Cond := Jvm.Cond.code x code maxLocals ret :: tables_1
/-- a 'code' word, met by the world's own term for the bytes: nothing is compared byte by byte -/
theorem code_word {y : MethodName} {bytes : ByteArray} {mx : Nat} {rt : Option FieldType} {a : Array Value} {s : State} {m : MethodId} {meth : Method} {c : Code} (h1 : s.methodNamed? y = some m) (h2 : s.vm.method? m = some meth) (h3 : meth.code = some c) (h4 : c.code = bytes)
    (h5 : (c.maxLocals == mx && c.exceptionTable.isEmpty && decide (c.maxStack ≤ mostOperands) && decide (meth.sig.returnType = rt) && !meth.locks && decide (parseMethodDescriptor y.desc = some meth.sig)) = true) : (Jvm.Cond.code y bytes mx rt).before a s = true := by
  simp only [Bool.and_eq_true, beq_iff_eq, Bool.not_eq_true', decide_eq_true_eq] at h5
  obtain ⟨⟨⟨⟨⟨g1, g2⟩, g3⟩, g4⟩, g5⟩, g6⟩ := h5
  simp [Cond.before, Cond.holds, Cond.value, h1, h2, h3, h4, g1, g2, g3, g4, g5, g6]
def isCode : Jvm.Cond → Bool
  | .code _ _ _ _ => true
  | _ => false
theorem all_split {L : List Jvm.Cond} {P : Jvm.Cond → Bool} (h1 : L.all (fun c => isCode c || P c) = true) (h2 : ∀ c ∈ L.filter isCode, P c = true) : L.all P = true := by
  refine List.all_eq_true.mpr fun c hc => ?_
  have h := List.all_eq_true.mp h1 c hc
  rcases Bool.eq_false_or_eq_true (isCode c) with hi | hi
  · exact h2 c (List.mem_filter.mpr ⟨hc, hi⟩)
  · simpa [hi] using h
set_option maxRecDepth 65536 in
theorem w_c0 : (Jvm.Cond.code x code maxLocals ret).before args0 about1 = true := code_word (m := ⟨1, 1⟩) (meth := k1m1) (c := k1c1) (by decide +kernel) rfl rfl rfl (by decide +kernel)
set_option maxRecDepth 65536 in
theorem w_c1 : (Jvm.Cond.code ({ cls := "com/example/parley/parley/io/CompetitionXmlLooksLikeXmlPinLaw", name := "pick", desc := "(I)B" } : Jvm.MethodName) method_4_code (2 : Nat) (Option.some Jvm.ClassFile.FieldType.byte)).before args0 about1 = true := code_word (m := ⟨1, 3⟩) (meth := k1m3) (c := k1c3) (by decide +kernel) rfl rfl rfl (by decide +kernel)
set_option maxRecDepth 65536 in
theorem w_c2 : (Jvm.Cond.code ({ cls := "com/example/parley/parley/io/CompetitionXml", name := "looksLikeXml", desc := "([B)Z" } : Jvm.MethodName) prog_27_method_4_code (4 : Nat) (Option.some Jvm.ClassFile.FieldType.boolean)).before args0 about1 = true := code_word (m := ⟨2, 1⟩) (meth := k2m1) (c := k2c1) (by decide +kernel) rfl rfl rfl (by decide +kernel)
set_option maxRecDepth 65536 in
theorem w_c3 : (Jvm.Cond.code ({ cls := "com/example/parley/parley/io/CompetitionXmlLooksLikeXmlPinLaw", name := "ws", desc := "(B)Z" } : Jvm.MethodName) method_3_code (1 : Nat) (Option.some Jvm.ClassFile.FieldType.boolean)).before args0 about1 = true := code_word (m := ⟨1, 2⟩) (meth := k1m2) (c := k1c2) (by decide +kernel) rfl rfl rfl (by decide +kernel)
def codes1 : List Jvm.Cond := [Jvm.Cond.code x code maxLocals ret, Jvm.Cond.code ({ cls := "com/example/parley/parley/io/CompetitionXmlLooksLikeXmlPinLaw", name := "pick", desc := "(I)B" } : Jvm.MethodName) method_4_code (2 : Nat) (Option.some Jvm.ClassFile.FieldType.byte), Jvm.Cond.code ({ cls := "com/example/parley/parley/io/CompetitionXml", name := "looksLikeXml", desc := "([B)Z" } : Jvm.MethodName) prog_27_method_4_code (4 : Nat) (Option.some Jvm.ClassFile.FieldType.boolean), Jvm.Cond.code ({ cls := "com/example/parley/parley/io/CompetitionXmlLooksLikeXmlPinLaw", name := "ws", desc := "(B)Z" } : Jvm.MethodName) method_3_code (1 : Nat) (Option.some Jvm.ClassFile.FieldType.boolean)]
set_option maxRecDepth 65536 in
theorem codes_eq : words1.filter isCode = codes1 := rfl
theorem w_codes : ∀ c ∈ words1.filter isCode, c.before args0 about1 = true := by
  rw [codes_eq]
  intro c hc
  simp only [codes1, List.mem_cons, List.not_mem_nil, or_false] at hc
  rcases hc with rfl | rfl | rfl | rfl
  · exact w_c0
  · exact w_c1
  · exact w_c2
  · exact w_c3
set_option maxRecDepth 65536 in
theorem w_t1 : words1.all (fun c => isCode c || c.before args0 about1) = true := by decide +kernel
theorem w_tables : (allAtoms (Jvm.Cond.code x code maxLocals ret :: tables_1)).before args0 about1 = true := by
  rw [allAtoms_all]
  show words1.all (fun c => c.before args0 about1) = true
  refine all_split ?_ w_codes
  rw [w_t1]
set_option maxRecDepth 65536 in
theorem w_case : (Jvm.Cond.and given_1 narrow_1).before args0 about1 = true := by decide +kernel
theorem w_applies : (headSpec (Jvm.Cond.code x code maxLocals ret :: tables_1) room_1).applies x e0.platform about1 = true :=
  (Spec.applies_iff w_frames).mpr ⟨w_running, w_runnable, w_alone, w_named, w_hears, w_ripe, w_room, w_tables⟩
theorem atStart : AtStart classFile x code maxLocals ret World_1 tables_1 room_1 Calls_1 rest_1 Pre_1 launch0 p0 e0 about1 theMethod args0 below0 :=
  ⟨lists_1, trivial, launch0.admits_env _ _ _, launch0.least_env, fairChoices_fair.cas, fairChoices_fair.clock, w_frames, w_args, w_heap, w_applies, trivial, trivial, w_case⟩
end start1
theorem witness_1 : WitnessClaimed_1 := ⟨start1.p0, start1.e0, start1.about1, start1.theMethod, start1.args0, start1.below0, start1.atStart⟩
end Jvm.Pilot.@@N@@
