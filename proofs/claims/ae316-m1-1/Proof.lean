import JvmDerived
import JvmDerived.Pilot.@@N@@Statement
import JvmDerived.Pilot.@@N@@Code
set_option linter.unusedVariables false
set_option linter.unusedSimpArgs false
@@BLOCK:NumsL.lean.txt@@
namespace Jvm.Pilot.@@N@@
open Jvm Jvm.ClassFile Sem Op Lib Jvm.Free Jvm.Stand Jvm.LawKit Jvm.RoadKit Bundle Jvm.Pilot.@@N@@.Jvm.D
/-- the run that stands at st comes to a return: Q says what is returned, the heap and the places written; at most kc cells and ks slots are new -/
def own_Ends (p : Program) (e : Env) (below : List Frame) (s : State) (kc ks : Nat) (Q : Option Value → Heap → List Loc → Prop) (st : State) : Prop :=
  ∃ s₂ o, Steps p.tables e below st s₂ ∧ s₂.status = .running ∧ Ended s₂ below o ∧ ∃ v L, o = .returned v ∧ Q v s₂.heap L ∧ FrameEnd s o s₂ L kc ks
theorem own_step {p : Program} {e : Env} {below : List Frame} {s : State} {kc ks : Nat} {Q : Option Value → Heap → List Loc → Prop} {st st' : State}
    (h : ∀ t, Steps p.tables e below st' t → Steps p.tables e below st t) (k : own_Ends p e below s kc ks Q st') : own_Ends p e below s kc ks Q st := by
  obtain ⟨s₂, o, h1, h2⟩ := k
  exact ⟨s₂, o, h _ h1, h2⟩
theorem own_ret {p : Program} {l : Launch} {e : Env} {R : Room} {s : State} {m : MethodId} {args : Array Value} {below : List Frame} {meth : Method} {c : Code} {T : State} {locs : List Loc} {cells slots : Nat} {kc ks : Nat} {Q : Option Value → Heap → List Loc → Prop} {st : State}
    (X : Stand p l e R s m args below meth c T locs cells slots) (hlocks : meth.locks = false) {v : Option Value} (hv : meth.sig.returnType = none → v = none) (hq : Q v T.heap locs) (hc : cells ≤ kc) (hs : slots ≤ ks)
    (hr : ∀ fs, (∀ (f : JFrame) (acts : List Action), f.method = m → f.locked = none → f.entered = [] → (doReturn e (T.setTop f) acts v).1 = T.setFrames fs) → Steps p.tables e below st (T.setFrames fs)) : own_Ends p e below s kc ks Q st := by
  obtain ⟨fs, h1, hrun, hended, hW, hsame⟩ := X.leave (v := v) hv hlocks
  exact ⟨_, _, hr fs h1, hrun, hended, v, locs, rfl, hq, ⟨_, rfl⟩, hW, hsame.mono hc hs⟩

theorem own_nb (x : Int32) : nar .byte x.toInt8.toInt32 = x.toInt8.toInt32 := by
  show x.toInt8.toInt32.toInt8.toInt32 = x.toInt8.toInt32
  rw [Int8.toInt8_toInt32]
def own_int (a b c d : Int32) : Int32 := ((a &&& 255) <<< ((24 : Int32) &&& 31)) ||| ((b &&& 255) <<< ((16 : Int32) &&& 31)) ||| ((c &&& 255) <<< ((8 : Int32) &&& 31)) ||| (d &&& 255)
theorem own_fr (x : Int32) : ∀ r, r = ((x &&& (2147483647 : Int32)) - (x &&& (2147483647 : Int32)) / (5 : Int32) * (5 : Int32)) → r = 0 ∨ r = 1 ∨ r = 2 ∨ r = 3 ∨ r = 4 := by
  intro r hr
  have e := Jvm.Kit.i32_mask x 2147483647 (k := 31) (by decide) (by decide)
  generalize x &&& (2147483647 : Int32) = y at *
  rw [irem_eq_mod] at hr
  have h := Jvm.Kit.i32_rem_nonneg (x := y) (y := 5) (by omega)
  rw [← hr] at h
  have e5 : (5 : Int32).toInt = 5 := rfl
  rw [e5] at h
  have h2 : r.toInt = 0 ∨ r.toInt = 1 ∨ r.toInt = 2 ∨ r.toInt = 3 ∨ r.toInt = 4 := by omega
  rcases h2 with h | h | h | h | h
  · exact Or.inl (Int32.toInt_inj.mp h)
  · exact Or.inr (Or.inl (Int32.toInt_inj.mp h))
  · exact Or.inr (Or.inr (Or.inl (Int32.toInt_inj.mp h)))
  · exact Or.inr (Or.inr (Or.inr (Or.inl (Int32.toInt_inj.mp h))))
  · exact Or.inr (Or.inr (Or.inr (Or.inr (Int32.toInt_inj.mp h))))
theorem own_b8 (y : BitVec 32) : (y.signExtend 8).signExtend 32 &&& 255#32 = y &&& 255#32 := by
  apply BitVec.eq_of_getLsbD_eq
  intro i hi
  have e2 : (255#32) = BitVec.allOnes 32 >>> 24 := by decide
  rw [e2]
  simp only [BitVec.getLsbD_and, BitVec.getLsbD_ushiftRight, BitVec.getLsbD_allOnes, BitVec.getLsbD_signExtend]
  by_cases h : i < 8
  · simp [h, hi]
  · have : ¬ 24 + i < 32 := by omega
    simp [this]
theorem own_4 (x : BitVec 32) : ((x >>> 24 &&& 255#32) <<< 24) ||| ((x >>> 16 &&& 255#32) <<< 16) ||| ((x >>> 8 &&& 255#32) <<< 8) ||| (x &&& 255#32) = x := by
  apply BitVec.eq_of_getLsbD_eq
  intro i hi
  have e2 : (255#32) = BitVec.allOnes 32 >>> 24 := by decide
  rw [e2]
  simp only [BitVec.getLsbD_or, BitVec.getLsbD_and, BitVec.getLsbD_shiftLeft, BitVec.getLsbD_ushiftRight, BitVec.getLsbD_allOnes]
  by_cases h1 : i < 8
  · have a1 : i < 16 := by omega
    have a2 : i < 24 := by omega
    have a3 : 24 + i < 32 := by omega
    simp [h1, a1, a2, a3]
  · by_cases h2 : i < 16
    · have a1 : i < 24 := by omega
      have a2 : 8 + (i - 8) = i := by omega
      have a3 : 24 + (i - 8) < 32 := by omega
      have a4 : ¬ 24 + i < 32 := by omega
      simp [h1, h2, a1, a2, a3, a4, hi]
    · by_cases h3 : i < 24
      · have a2 : 16 + (i - 16) = i := by omega
        have a3 : 24 + (i - 16) < 32 := by omega
        have a4 : ¬ 24 + i < 32 := by omega
        have a5 : ¬ 24 + (i - 8) < 32 := by omega
        simp [h1, h2, h3, a2, a3, a4, a5, hi]
      · have a2 : 24 + (i - 24) = i := by omega
        have a3 : 24 + (i - 24) < 32 := by omega
        have a4 : ¬ 24 + i < 32 := by omega
        have a5 : ¬ 24 + (i - 8) < 32 := by omega
        have a6 : ¬ 24 + (i - 16) < 32 := by omega
        simp [h1, h2, h3, a2, a3, a4, a5, a6, hi]
theorem own_s24 (x : Int32) : (XT.ushr x 24).toBitVec = x.toBitVec >>> 24 := rfl
theorem own_s16 (x : Int32) : (XT.ushr x 16).toBitVec = x.toBitVec >>> 16 := rfl
theorem own_s8 (x : Int32) : (XT.ushr x 8).toBitVec = x.toBitVec >>> 8 := rfl
theorem own_by (x : Int32) : x.toInt8.toInt32.toBitVec = (x.toBitVec.signExtend 8).signExtend 32 := rfl
theorem own_an (x : Int32) : (x &&& 255).toBitVec = x.toBitVec &&& 255#32 := rfl
theorem own_l24 (x : Int32) : (x <<< ((24 : Int32) &&& 31)).toBitVec = x.toBitVec <<< 24 := rfl
theorem own_l16 (x : Int32) : (x <<< ((16 : Int32) &&& 31)).toBitVec = x.toBitVec <<< 16 := rfl
theorem own_l8 (x : Int32) : (x <<< ((8 : Int32) &&& 31)).toBitVec = x.toBitVec <<< 8 := rfl
theorem own_whole {x a b c d : Int32} (h0 : (XT.ushr x 24).toInt8.toInt32 = a) (h1 : (XT.ushr x 16).toInt8.toInt32 = b) (h2 : (XT.ushr x 8).toInt8.toInt32 = c) (h3 : x.toInt8.toInt32 = d) : own_int a b c d = x := by
  subst h0 h1 h2 h3
  apply Int32.toBitVec_inj.mp
  rw [own_int, Int32.toBitVec_or, Int32.toBitVec_or, Int32.toBitVec_or, own_l24, own_l16, own_l8, own_an, own_an, own_an, own_an, own_by, own_by, own_by, own_by, own_b8, own_b8, own_b8, own_b8, own_s24, own_s16, own_s8]
  exact own_4 _
theorem own_d1_0 : decode prog_11_method_10_code 0 = .ok (.aload_n 0, 1) := by decide +kernel
theorem own_d1_1 : decode prog_11_method_10_code 1 = .ok (.iload_n 1, 1) := by decide +kernel
theorem own_d1_2 : decode prog_11_method_10_code 2 = .ok (.baload, 1) := by decide +kernel
theorem own_d1_3 : decode prog_11_method_10_code 3 = .ok (.sipush 255, 3) := by decide +kernel
theorem own_d1_6 : decode prog_11_method_10_code 6 = .ok (.iand, 1) := by decide +kernel
theorem own_d1_7 : decode prog_11_method_10_code 7 = .ok (.bipush 24, 2) := by decide +kernel
theorem own_d1_9 : decode prog_11_method_10_code 9 = .ok (.ishl, 1) := by decide +kernel
theorem own_d1_10 : decode prog_11_method_10_code 10 = .ok (.aload_n 0, 1) := by decide +kernel
theorem own_d1_11 : decode prog_11_method_10_code 11 = .ok (.iload_n 1, 1) := by decide +kernel
theorem own_d1_12 : decode prog_11_method_10_code 12 = .ok (.iconst 1, 1) := by decide +kernel
theorem own_d1_13 : decode prog_11_method_10_code 13 = .ok (.iadd, 1) := by decide +kernel
theorem own_d1_14 : decode prog_11_method_10_code 14 = .ok (.baload, 1) := by decide +kernel
theorem own_d1_15 : decode prog_11_method_10_code 15 = .ok (.sipush 255, 3) := by decide +kernel
theorem own_d1_18 : decode prog_11_method_10_code 18 = .ok (.iand, 1) := by decide +kernel
theorem own_d1_19 : decode prog_11_method_10_code 19 = .ok (.bipush 16, 2) := by decide +kernel
theorem own_d1_21 : decode prog_11_method_10_code 21 = .ok (.ishl, 1) := by decide +kernel
theorem own_d1_22 : decode prog_11_method_10_code 22 = .ok (.ior, 1) := by decide +kernel
theorem own_d1_23 : decode prog_11_method_10_code 23 = .ok (.aload_n 0, 1) := by decide +kernel
theorem own_d1_24 : decode prog_11_method_10_code 24 = .ok (.iload_n 1, 1) := by decide +kernel
theorem own_d1_25 : decode prog_11_method_10_code 25 = .ok (.iconst 2, 1) := by decide +kernel
theorem own_d1_26 : decode prog_11_method_10_code 26 = .ok (.iadd, 1) := by decide +kernel
theorem own_d1_27 : decode prog_11_method_10_code 27 = .ok (.baload, 1) := by decide +kernel
theorem own_d1_28 : decode prog_11_method_10_code 28 = .ok (.sipush 255, 3) := by decide +kernel
theorem own_d1_31 : decode prog_11_method_10_code 31 = .ok (.iand, 1) := by decide +kernel
theorem own_d1_32 : decode prog_11_method_10_code 32 = .ok (.bipush 8, 2) := by decide +kernel
theorem own_d1_34 : decode prog_11_method_10_code 34 = .ok (.ishl, 1) := by decide +kernel
theorem own_d1_35 : decode prog_11_method_10_code 35 = .ok (.ior, 1) := by decide +kernel
theorem own_d1_36 : decode prog_11_method_10_code 36 = .ok (.aload_n 0, 1) := by decide +kernel
theorem own_d1_37 : decode prog_11_method_10_code 37 = .ok (.iload_n 1, 1) := by decide +kernel
theorem own_d1_38 : decode prog_11_method_10_code 38 = .ok (.iconst 3, 1) := by decide +kernel
theorem own_d1_39 : decode prog_11_method_10_code 39 = .ok (.iadd, 1) := by decide +kernel
theorem own_d1_40 : decode prog_11_method_10_code 40 = .ok (.baload, 1) := by decide +kernel
theorem own_d1_41 : decode prog_11_method_10_code 41 = .ok (.sipush 255, 3) := by decide +kernel
theorem own_d1_44 : decode prog_11_method_10_code 44 = .ok (.iand, 1) := by decide +kernel
theorem own_d1_45 : decode prog_11_method_10_code 45 = .ok (.ior, 1) := by decide +kernel
theorem own_d1_46 : decode prog_11_method_10_code 46 = .ok (.ireturn, 1) := by decide +kernel
theorem own_pn0 : plainName "com/example/derivant/derivant/cli/WireInput" = true := by first | (simp [plainName, overriddenIn]; done) | decide +kernel
theorem own_ef1 (m : MethodId) (r0 : Addr) (p1 : Int32) : entryFrame m #[(.ref r0), (.int p1)] 2 = mkF m 0 #[.val (.ref r0), .val (.int p1)] [] := by first | (simp [entryFrame, mkF, argsToLocals, Value.category]; done) | rfl
def own_Q1 (Z : State) (r0 : Addr) (p1 : Int32) (cl : Cell) (x0 x1 x2 x3 : Int32) (h0 : Heap) (n0 : Nat) (v : Option Value) (h : Heap) (L : List Loc) : Prop := v = some (.int (own_int x0 x1 x2 x3)) ∧ Fr n0 L ∧ h = h0
set_option maxRecDepth 65536 in
set_option maxHeartbeats 40000000 in
theorem own_rm1 (l : Launch) (Z : State) (a0 : Array Value) (hw : ∀ d ∈ tables_1, d.before a0 Z = true) (ws : List Jvm.Cond) (r0 : Addr) (p1 : Int32) (cl : Cell) (x0 x1 x2 x3 : Int32) (h0 : Heap) (n0 : Nat) (Z0 : n0 ≤ h0.size) (Ar : Arr Z h0 r0 cl .byte) (i0 : ¬ (p1 < 0 ∨ cl.slots.size ≤ (p1).toNatClampNeg)) (v0 : cl.slots[(p1).toNatClampNeg]? = some (.int x0)) (i1 : ¬ ((p1 + (1 : Int32)) < 0 ∨ cl.slots.size ≤ ((p1 + (1 : Int32))).toNatClampNeg)) (v1 : cl.slots[((p1 + (1 : Int32))).toNatClampNeg]? = some (.int x1)) (i2 : ¬ ((p1 + (2 : Int32)) < 0 ∨ cl.slots.size ≤ ((p1 + (2 : Int32))).toNatClampNeg)) (v2 : cl.slots[((p1 + (2 : Int32))).toNatClampNeg]? = some (.int x2)) (i3 : ¬ ((p1 + (3 : Int32)) < 0 ∨ cl.slots.size ≤ ((p1 + (3 : Int32))).toNatClampNeg)) (v3 : cl.slots[((p1 + (3 : Int32))).toNatClampNeg]? = some (.int x3)) :
    MetFree l (⟨"com/example/derivant/derivant/cli/WireInput", "integer", "([BI)I"⟩ : MethodName) (head1 (Jvm.Cond.code (⟨"com/example/derivant/derivant/cli/WireInput", "integer", "([BI)I"⟩ : MethodName) prog_11_method_10_code 2 (some .int) :: ws) ({ frames := 0, cells := 0, slots := 0, locals := 0 } : Room)) (fun a U => a = #[(.ref r0), (.int p1)] ∧ Z.Warmed39 U.vm ∧ U.heap = h0) (fun _ _ _ _ _ => True) (fun _ U o U' => ∃ v L, o = .returned v ∧ own_Q1 Z r0 p1 cl x0 x1 x2 x3 h0 n0 v U'.heap L ∧ FrameEnd U o U' L ({ frames := 0, cells := 0, slots := 0, locals := 0 } : Room).cells ({ frames := 0, cells := 0, slots := 0, locals := 0 } : Room).slots) := by
  refine MetFree.of_bodySF (plainFor_of_name own_pn0) hisR ?_
  intro p e s m args below meth c s₁ Bd hml0 hP hK
  obtain ⟨rfl, hZ, hh⟩ := hP
  have hx := Bd.exec
  have hby := Bd.bytes
  have hml : c.maxLocals = 2 := hml0
  have hown : s.vm.findClass "com/example/derivant/derivant/cli/WireInput" = some m.cls := findClass_of_methodNamed Bd.named
  have hnm := (name_of_methodNamed Bd.named Bd.method).1
  have X0 : Stand p l e ({ frames := 0, cells := 0, slots := 0, locals := 0 } : Room) s m #[(.ref r0), (.int p1)] below meth c s₁ [] 0 0 := Stand.of_body Bd
  have e0 : s₁.heap = h0 := by rw [← hh, Bd.state]; rfl
  have N0 := Fr.nil n0
  suffices H : own_Ends p e below s ({ frames := 0, cells := 0, slots := 0, locals := 0 } : Room).cells ({ frames := 0, cells := 0, slots := 0, locals := 0 } : Room).slots (own_Q1 Z r0 p1 cl x0 x1 x2 x3 h0 n0) (s₁.setTop (mkF m 0 #[.val (.ref r0), .val (.int p1)] [])) by
    obtain ⟨s₂, o, h1, h2⟩ := H
    exact ⟨s₂, o, castTop (own_ef1 m r0 p1) h1, h2⟩
  show own_Ends _ _ _ _ _ _ _ (s₁.setTop (mkF m 0 #[.val (.ref r0), .val (.int p1)] []))
  refine own_step (fun _ k => XS.aloadN X0.here hx rfl (hb hby own_d1_0) rfl rfl k) ?_
  show own_Ends _ _ _ _ _ _ _ (s₁.setTop (mkF m 1 #[.val (.ref r0), .val (.int p1)] [(.ref r0)]))
  refine own_step (fun _ k => XS.iloadN X0.here hx rfl (hb hby own_d1_1) rfl k) ?_
  show own_Ends _ _ _ _ _ _ _ (s₁.setTop (mkF m 2 #[.val (.ref r0), .val (.int p1)] [(.int p1), (.ref r0)]))
  refine own_step (fun _ k => X0.baloadBytes hx (j := p1) (v := (.int x0)) (by rw [e0]; exact Ar.1) (State.isArrayOf_alike hZ.alike Ar.2.1) Ar.2.2 i0 v0 (g := (mkF m 2 #[.val (.ref r0), .val (.int p1)] [(.int p1), (.ref r0)])) rfl rfl (hb hby own_d1_2) _ k) ?_
  show own_Ends _ _ _ _ _ _ _ (s₁.setTop (mkF m 3 #[.val (.ref r0), .val (.int p1)] [(.int x0)]))
  refine own_step (fun _ k => XS.sipush X0.here hx rfl (hb hby own_d1_3) k) ?_
  show own_Ends _ _ _ _ _ _ _ (s₁.setTop (mkF m 6 #[.val (.ref r0), .val (.int p1)] [(.int (255 : Int32)), (.int x0)]))
  refine own_step (fun _ k => XS.iand X0.here hx rfl (hb hby own_d1_6) rfl k) ?_
  show own_Ends _ _ _ _ _ _ _ (s₁.setTop (mkF m 7 #[.val (.ref r0), .val (.int p1)] [(.int (x0 &&& (255 : Int32)))]))
  refine own_step (fun _ k => XS.bipush X0.here hx rfl (hb hby own_d1_7) k) ?_
  show own_Ends _ _ _ _ _ _ _ (s₁.setTop (mkF m 9 #[.val (.ref r0), .val (.int p1)] [(.int (24 : Int32)), (.int (x0 &&& (255 : Int32)))]))
  refine own_step (fun _ k => XT.ishl X0.here hx rfl (hb hby own_d1_9) rfl k) ?_
  show own_Ends _ _ _ _ _ _ _ (s₁.setTop (mkF m 10 #[.val (.ref r0), .val (.int p1)] [(.int ((x0 &&& (255 : Int32)) <<< ((24 : Int32) &&& 31)))]))
  refine own_step (fun _ k => XS.aloadN X0.here hx rfl (hb hby own_d1_10) rfl rfl k) ?_
  show own_Ends _ _ _ _ _ _ _ (s₁.setTop (mkF m 11 #[.val (.ref r0), .val (.int p1)] [(.ref r0), (.int ((x0 &&& (255 : Int32)) <<< ((24 : Int32) &&& 31)))]))
  refine own_step (fun _ k => XS.iloadN X0.here hx rfl (hb hby own_d1_11) rfl k) ?_
  show own_Ends _ _ _ _ _ _ _ (s₁.setTop (mkF m 12 #[.val (.ref r0), .val (.int p1)] [(.int p1), (.ref r0), (.int ((x0 &&& (255 : Int32)) <<< ((24 : Int32) &&& 31)))]))
  refine own_step (fun _ k => XS.iconst X0.here hx rfl (hb hby own_d1_12) k) ?_
  show own_Ends _ _ _ _ _ _ _ (s₁.setTop (mkF m 13 #[.val (.ref r0), .val (.int p1)] [(.int (1 : Int32)), (.int p1), (.ref r0), (.int ((x0 &&& (255 : Int32)) <<< ((24 : Int32) &&& 31)))]))
  refine own_step (fun _ k => XS.iadd X0.here hx rfl (hb hby own_d1_13) rfl k) ?_
  show own_Ends _ _ _ _ _ _ _ (s₁.setTop (mkF m 14 #[.val (.ref r0), .val (.int p1)] [(.int (p1 + (1 : Int32))), (.ref r0), (.int ((x0 &&& (255 : Int32)) <<< ((24 : Int32) &&& 31)))]))
  refine own_step (fun _ k => X0.baloadBytes hx (j := (p1 + (1 : Int32))) (v := (.int x1)) (by rw [e0]; exact Ar.1) (State.isArrayOf_alike hZ.alike Ar.2.1) Ar.2.2 i1 v1 (g := (mkF m 14 #[.val (.ref r0), .val (.int p1)] [(.int (p1 + (1 : Int32))), (.ref r0), (.int ((x0 &&& (255 : Int32)) <<< ((24 : Int32) &&& 31)))])) rfl rfl (hb hby own_d1_14) _ k) ?_
  show own_Ends _ _ _ _ _ _ _ (s₁.setTop (mkF m 15 #[.val (.ref r0), .val (.int p1)] [(.int x1), (.int ((x0 &&& (255 : Int32)) <<< ((24 : Int32) &&& 31)))]))
  refine own_step (fun _ k => XS.sipush X0.here hx rfl (hb hby own_d1_15) k) ?_
  show own_Ends _ _ _ _ _ _ _ (s₁.setTop (mkF m 18 #[.val (.ref r0), .val (.int p1)] [(.int (255 : Int32)), (.int x1), (.int ((x0 &&& (255 : Int32)) <<< ((24 : Int32) &&& 31)))]))
  refine own_step (fun _ k => XS.iand X0.here hx rfl (hb hby own_d1_18) rfl k) ?_
  show own_Ends _ _ _ _ _ _ _ (s₁.setTop (mkF m 19 #[.val (.ref r0), .val (.int p1)] [(.int (x1 &&& (255 : Int32))), (.int ((x0 &&& (255 : Int32)) <<< ((24 : Int32) &&& 31)))]))
  refine own_step (fun _ k => XS.bipush X0.here hx rfl (hb hby own_d1_19) k) ?_
  show own_Ends _ _ _ _ _ _ _ (s₁.setTop (mkF m 21 #[.val (.ref r0), .val (.int p1)] [(.int (16 : Int32)), (.int (x1 &&& (255 : Int32))), (.int ((x0 &&& (255 : Int32)) <<< ((24 : Int32) &&& 31)))]))
  refine own_step (fun _ k => XT.ishl X0.here hx rfl (hb hby own_d1_21) rfl k) ?_
  show own_Ends _ _ _ _ _ _ _ (s₁.setTop (mkF m 22 #[.val (.ref r0), .val (.int p1)] [(.int ((x1 &&& (255 : Int32)) <<< ((16 : Int32) &&& 31))), (.int ((x0 &&& (255 : Int32)) <<< ((24 : Int32) &&& 31)))]))
  refine own_step (fun _ k => XS.ior X0.here hx rfl (hb hby own_d1_22) rfl k) ?_
  show own_Ends _ _ _ _ _ _ _ (s₁.setTop (mkF m 23 #[.val (.ref r0), .val (.int p1)] [(.int (((x0 &&& (255 : Int32)) <<< ((24 : Int32) &&& 31)) ||| ((x1 &&& (255 : Int32)) <<< ((16 : Int32) &&& 31))))]))
  refine own_step (fun _ k => XS.aloadN X0.here hx rfl (hb hby own_d1_23) rfl rfl k) ?_
  show own_Ends _ _ _ _ _ _ _ (s₁.setTop (mkF m 24 #[.val (.ref r0), .val (.int p1)] [(.ref r0), (.int (((x0 &&& (255 : Int32)) <<< ((24 : Int32) &&& 31)) ||| ((x1 &&& (255 : Int32)) <<< ((16 : Int32) &&& 31))))]))
  refine own_step (fun _ k => XS.iloadN X0.here hx rfl (hb hby own_d1_24) rfl k) ?_
  show own_Ends _ _ _ _ _ _ _ (s₁.setTop (mkF m 25 #[.val (.ref r0), .val (.int p1)] [(.int p1), (.ref r0), (.int (((x0 &&& (255 : Int32)) <<< ((24 : Int32) &&& 31)) ||| ((x1 &&& (255 : Int32)) <<< ((16 : Int32) &&& 31))))]))
  refine own_step (fun _ k => XS.iconst X0.here hx rfl (hb hby own_d1_25) k) ?_
  show own_Ends _ _ _ _ _ _ _ (s₁.setTop (mkF m 26 #[.val (.ref r0), .val (.int p1)] [(.int (2 : Int32)), (.int p1), (.ref r0), (.int (((x0 &&& (255 : Int32)) <<< ((24 : Int32) &&& 31)) ||| ((x1 &&& (255 : Int32)) <<< ((16 : Int32) &&& 31))))]))
  refine own_step (fun _ k => XS.iadd X0.here hx rfl (hb hby own_d1_26) rfl k) ?_
  show own_Ends _ _ _ _ _ _ _ (s₁.setTop (mkF m 27 #[.val (.ref r0), .val (.int p1)] [(.int (p1 + (2 : Int32))), (.ref r0), (.int (((x0 &&& (255 : Int32)) <<< ((24 : Int32) &&& 31)) ||| ((x1 &&& (255 : Int32)) <<< ((16 : Int32) &&& 31))))]))
  refine own_step (fun _ k => X0.baloadBytes hx (j := (p1 + (2 : Int32))) (v := (.int x2)) (by rw [e0]; exact Ar.1) (State.isArrayOf_alike hZ.alike Ar.2.1) Ar.2.2 i2 v2 (g := (mkF m 27 #[.val (.ref r0), .val (.int p1)] [(.int (p1 + (2 : Int32))), (.ref r0), (.int (((x0 &&& (255 : Int32)) <<< ((24 : Int32) &&& 31)) ||| ((x1 &&& (255 : Int32)) <<< ((16 : Int32) &&& 31))))])) rfl rfl (hb hby own_d1_27) _ k) ?_
  show own_Ends _ _ _ _ _ _ _ (s₁.setTop (mkF m 28 #[.val (.ref r0), .val (.int p1)] [(.int x2), (.int (((x0 &&& (255 : Int32)) <<< ((24 : Int32) &&& 31)) ||| ((x1 &&& (255 : Int32)) <<< ((16 : Int32) &&& 31))))]))
  refine own_step (fun _ k => XS.sipush X0.here hx rfl (hb hby own_d1_28) k) ?_
  show own_Ends _ _ _ _ _ _ _ (s₁.setTop (mkF m 31 #[.val (.ref r0), .val (.int p1)] [(.int (255 : Int32)), (.int x2), (.int (((x0 &&& (255 : Int32)) <<< ((24 : Int32) &&& 31)) ||| ((x1 &&& (255 : Int32)) <<< ((16 : Int32) &&& 31))))]))
  refine own_step (fun _ k => XS.iand X0.here hx rfl (hb hby own_d1_31) rfl k) ?_
  show own_Ends _ _ _ _ _ _ _ (s₁.setTop (mkF m 32 #[.val (.ref r0), .val (.int p1)] [(.int (x2 &&& (255 : Int32))), (.int (((x0 &&& (255 : Int32)) <<< ((24 : Int32) &&& 31)) ||| ((x1 &&& (255 : Int32)) <<< ((16 : Int32) &&& 31))))]))
  refine own_step (fun _ k => XS.bipush X0.here hx rfl (hb hby own_d1_32) k) ?_
  show own_Ends _ _ _ _ _ _ _ (s₁.setTop (mkF m 34 #[.val (.ref r0), .val (.int p1)] [(.int (8 : Int32)), (.int (x2 &&& (255 : Int32))), (.int (((x0 &&& (255 : Int32)) <<< ((24 : Int32) &&& 31)) ||| ((x1 &&& (255 : Int32)) <<< ((16 : Int32) &&& 31))))]))
  refine own_step (fun _ k => XT.ishl X0.here hx rfl (hb hby own_d1_34) rfl k) ?_
  show own_Ends _ _ _ _ _ _ _ (s₁.setTop (mkF m 35 #[.val (.ref r0), .val (.int p1)] [(.int ((x2 &&& (255 : Int32)) <<< ((8 : Int32) &&& 31))), (.int (((x0 &&& (255 : Int32)) <<< ((24 : Int32) &&& 31)) ||| ((x1 &&& (255 : Int32)) <<< ((16 : Int32) &&& 31))))]))
  refine own_step (fun _ k => XS.ior X0.here hx rfl (hb hby own_d1_35) rfl k) ?_
  show own_Ends _ _ _ _ _ _ _ (s₁.setTop (mkF m 36 #[.val (.ref r0), .val (.int p1)] [(.int ((((x0 &&& (255 : Int32)) <<< ((24 : Int32) &&& 31)) ||| ((x1 &&& (255 : Int32)) <<< ((16 : Int32) &&& 31))) ||| ((x2 &&& (255 : Int32)) <<< ((8 : Int32) &&& 31))))]))
  refine own_step (fun _ k => XS.aloadN X0.here hx rfl (hb hby own_d1_36) rfl rfl k) ?_
  show own_Ends _ _ _ _ _ _ _ (s₁.setTop (mkF m 37 #[.val (.ref r0), .val (.int p1)] [(.ref r0), (.int ((((x0 &&& (255 : Int32)) <<< ((24 : Int32) &&& 31)) ||| ((x1 &&& (255 : Int32)) <<< ((16 : Int32) &&& 31))) ||| ((x2 &&& (255 : Int32)) <<< ((8 : Int32) &&& 31))))]))
  refine own_step (fun _ k => XS.iloadN X0.here hx rfl (hb hby own_d1_37) rfl k) ?_
  show own_Ends _ _ _ _ _ _ _ (s₁.setTop (mkF m 38 #[.val (.ref r0), .val (.int p1)] [(.int p1), (.ref r0), (.int ((((x0 &&& (255 : Int32)) <<< ((24 : Int32) &&& 31)) ||| ((x1 &&& (255 : Int32)) <<< ((16 : Int32) &&& 31))) ||| ((x2 &&& (255 : Int32)) <<< ((8 : Int32) &&& 31))))]))
  refine own_step (fun _ k => XS.iconst X0.here hx rfl (hb hby own_d1_38) k) ?_
  show own_Ends _ _ _ _ _ _ _ (s₁.setTop (mkF m 39 #[.val (.ref r0), .val (.int p1)] [(.int (3 : Int32)), (.int p1), (.ref r0), (.int ((((x0 &&& (255 : Int32)) <<< ((24 : Int32) &&& 31)) ||| ((x1 &&& (255 : Int32)) <<< ((16 : Int32) &&& 31))) ||| ((x2 &&& (255 : Int32)) <<< ((8 : Int32) &&& 31))))]))
  refine own_step (fun _ k => XS.iadd X0.here hx rfl (hb hby own_d1_39) rfl k) ?_
  show own_Ends _ _ _ _ _ _ _ (s₁.setTop (mkF m 40 #[.val (.ref r0), .val (.int p1)] [(.int (p1 + (3 : Int32))), (.ref r0), (.int ((((x0 &&& (255 : Int32)) <<< ((24 : Int32) &&& 31)) ||| ((x1 &&& (255 : Int32)) <<< ((16 : Int32) &&& 31))) ||| ((x2 &&& (255 : Int32)) <<< ((8 : Int32) &&& 31))))]))
  refine own_step (fun _ k => X0.baloadBytes hx (j := (p1 + (3 : Int32))) (v := (.int x3)) (by rw [e0]; exact Ar.1) (State.isArrayOf_alike hZ.alike Ar.2.1) Ar.2.2 i3 v3 (g := (mkF m 40 #[.val (.ref r0), .val (.int p1)] [(.int (p1 + (3 : Int32))), (.ref r0), (.int ((((x0 &&& (255 : Int32)) <<< ((24 : Int32) &&& 31)) ||| ((x1 &&& (255 : Int32)) <<< ((16 : Int32) &&& 31))) ||| ((x2 &&& (255 : Int32)) <<< ((8 : Int32) &&& 31))))])) rfl rfl (hb hby own_d1_40) _ k) ?_
  show own_Ends _ _ _ _ _ _ _ (s₁.setTop (mkF m 41 #[.val (.ref r0), .val (.int p1)] [(.int x3), (.int ((((x0 &&& (255 : Int32)) <<< ((24 : Int32) &&& 31)) ||| ((x1 &&& (255 : Int32)) <<< ((16 : Int32) &&& 31))) ||| ((x2 &&& (255 : Int32)) <<< ((8 : Int32) &&& 31))))]))
  refine own_step (fun _ k => XS.sipush X0.here hx rfl (hb hby own_d1_41) k) ?_
  show own_Ends _ _ _ _ _ _ _ (s₁.setTop (mkF m 44 #[.val (.ref r0), .val (.int p1)] [(.int (255 : Int32)), (.int x3), (.int ((((x0 &&& (255 : Int32)) <<< ((24 : Int32) &&& 31)) ||| ((x1 &&& (255 : Int32)) <<< ((16 : Int32) &&& 31))) ||| ((x2 &&& (255 : Int32)) <<< ((8 : Int32) &&& 31))))]))
  refine own_step (fun _ k => XS.iand X0.here hx rfl (hb hby own_d1_44) rfl k) ?_
  show own_Ends _ _ _ _ _ _ _ (s₁.setTop (mkF m 45 #[.val (.ref r0), .val (.int p1)] [(.int (x3 &&& (255 : Int32))), (.int ((((x0 &&& (255 : Int32)) <<< ((24 : Int32) &&& 31)) ||| ((x1 &&& (255 : Int32)) <<< ((16 : Int32) &&& 31))) ||| ((x2 &&& (255 : Int32)) <<< ((8 : Int32) &&& 31))))]))
  refine own_step (fun _ k => XS.ior X0.here hx rfl (hb hby own_d1_45) rfl k) ?_
  show own_Ends _ _ _ _ _ _ _ (s₁.setTop (mkF m 46 #[.val (.ref r0), .val (.int p1)] [(.int (((((x0 &&& (255 : Int32)) <<< ((24 : Int32) &&& 31)) ||| ((x1 &&& (255 : Int32)) <<< ((16 : Int32) &&& 31))) ||| ((x2 &&& (255 : Int32)) <<< ((8 : Int32) &&& 31))) ||| (x3 &&& (255 : Int32))))]))
  show own_Ends _ _ _ _ _ _ _ (s₁.setTop (mkF m 46 #[.val (.ref r0), .val (.int p1)] [(.int (own_int x0 x1 x2 x3))]))
  refine own_ret X0 (BodyLoose.notSynchronized Bd) (v := (some (.int (own_int x0 x1 x2 x3)))) (fun h => by rw [Bd.returns] at h; cases h) ?_ (by decide) (by decide) (fun fs hr => X0.ireturnOut hx Bd.returns rfl (by simp) (hb hby own_d1_46) hr)
  show own_Q1 Z r0 p1 cl x0 x1 x2 x3 h0 n0 (some (.int (own_int x0 x1 x2 x3))) s₁.heap _
  rw [e0]
  exact ⟨rfl, N0, rfl⟩
theorem own_pn1 : plainName "com/example/derivant/derivant/cli/WireInputIntegerPinLaw" = true := by first | (simp [plainName, overriddenIn]; done) | decide +kernel
theorem own_ef0 (m : MethodId) (p0 : Int32) (p1 : Int32) (q2 : Int64) : entryFrame m #[(.int p0), (.int p1), (.long q2)] maxLocals = mkF m 0 #[.val (.int p0), .val (.int p1), .val (.long q2), .second, .unset, .unset] [] := by first | (simp [entryFrame, mkF, argsToLocals, Value.category, maxLocals]; done) | rfl
theorem own_pd0 : parseMethodDescriptor "([BI)I" = some ⟨[(.array .byte), .int], some .int⟩ := by decide +kernel
def own_Q0 (Z : State) (p0 : Int32) (p1 : Int32) (q2 : Int64)  (h0 : Heap) (n0 : Nat) (v : Option Value) (h : Heap) (L : List Loc) : Prop := v = some (.int 1) ∧ Fr n0 L
set_option maxRecDepth 65536 in
set_option maxHeartbeats 40000000 in
theorem own_rm0 (l : Launch) (Z : State) (a0 : Array Value) (hw : ∀ d ∈ tables_1, d.before a0 Z = true) (ws : List Jvm.Cond) (p0 : Int32) (p1 : Int32) (q2 : Int64)  (h0 : Heap) (n0 : Nat) (Z0 : n0 ≤ h0.size)  :
    MetFree l x (head1 (Jvm.Cond.code x code maxLocals ret :: ws) room_1) (fun a U => a = #[(.int p0), (.int p1), (.long q2)] ∧ Z.Warmed39 U.vm ∧ U.heap = h0) (fun _ _ _ _ _ => True) (fun _ U o U' => ∃ v L, o = .returned v ∧ own_Q0 Z p0 p1 q2  h0 n0 v U'.heap L ∧ FrameEnd U o U' L 1 8) := by
  refine MetFree.of_bodySF (plainFor_of_name own_pn1) hisR ?_
  intro p e s m args below meth c s₁ Bd hml0 hP hK
  obtain ⟨rfl, hZ, hh⟩ := hP
  have hx := Bd.exec
  have hby := Bd.bytes
  have hml : c.maxLocals = 6 := hml0
  have hown : s.vm.findClass "com/example/derivant/derivant/cli/WireInputIntegerPinLaw" = some m.cls := findClass_of_methodNamed Bd.named
  have hnm := (name_of_methodNamed Bd.named Bd.method).1
  have X0 : Stand p l e room_1 s m #[(.int p0), (.int p1), (.long q2)] below meth c s₁ [] 0 0 := Stand.of_body Bd
  have e0 : s₁.heap = h0 := by rw [← hh, Bd.state]; rfl
  have N0 := Fr.nil n0
  suffices H : own_Ends p e below s 1 8 (own_Q0 Z p0 p1 q2  h0 n0) (s₁.setTop (mkF m 0 #[.val (.int p0), .val (.int p1), .val (.long q2), .second, .unset, .unset] [])) by
    obtain ⟨s₂, o, h1, h2⟩ := H
    exact ⟨s₂, o, castTop (own_ef0 m p0 p1 q2) h1, h2⟩
  show own_Ends _ _ _ _ _ _ _ (s₁.setTop (mkF m 0 #[.val (.int p0), .val (.int p1), .val (.long q2), .second, .unset, .unset] []))
  refine own_step (fun _ k => XS.iloadN X0.here hx rfl (hb hby at_0) rfl k) ?_
  show own_Ends _ _ _ _ _ _ _ (s₁.setTop (mkF m 1 #[.val (.int p0), .val (.int p1), .val (.long q2), .second, .unset, .unset] [(.int p1)]))
  refine own_step (fun _ k => X0.ldcInt hx hown (mvT hZ (hw _ (List.mem_of_getElem? (i := 0) rfl))) (g := (mkF m 1 #[.val (.int p0), .val (.int p1), .val (.long q2), .second, .unset, .unset] [(.int p1)])) rfl (hb hby at_1) _ k) ?_
  show own_Ends _ _ _ _ _ _ _ (s₁.setTop (mkF m 3 #[.val (.int p0), .val (.int p1), .val (.long q2), .second, .unset, .unset] [(.int (2147483647 : Int32)), (.int p1)]))
  refine own_step (fun _ k => XS.iand X0.here hx rfl (hb hby at_3) rfl k) ?_
  show own_Ends _ _ _ _ _ _ _ (s₁.setTop (mkF m 4 #[.val (.int p0), .val (.int p1), .val (.long q2), .second, .unset, .unset] [(.int (p1 &&& (2147483647 : Int32)))]))
  refine own_step (fun _ k => XS.iconst X0.here hx rfl (hb hby at_4) k) ?_
  show own_Ends _ _ _ _ _ _ _ (s₁.setTop (mkF m 5 #[.val (.int p0), .val (.int p1), .val (.long q2), .second, .unset, .unset] [(.int (5 : Int32)), (.int (p1 &&& (2147483647 : Int32)))]))
  refine own_step (fun _ k => XS.irem X0.here hx rfl (hb hby at_5) rfl (by decide) k) ?_
  show own_Ends _ _ _ _ _ _ _ (s₁.setTop (mkF m 6 #[.val (.int p0), .val (.int p1), .val (.long q2), .second, .unset, .unset] [(.int ((p1 &&& (2147483647 : Int32)) - ((p1 &&& (2147483647 : Int32)) / (5 : Int32)) * (5 : Int32)))]))
  have hfr := own_fr p1 _ rfl
  generalize ((p1 &&& (2147483647 : Int32)) - ((p1 &&& (2147483647 : Int32)) / (5 : Int32)) * (5 : Int32)) = fr at hfr ⊢
  refine own_step (fun _ k => XS.istore X0.here hx rfl (hb hby at_6) rfl (l' := #[.val (.int p0), .val (.int p1), .val (.long q2), .second, .val (.int fr), .unset]) rfl k) ?_
  show own_Ends _ _ _ _ _ _ _ (s₁.setTop (mkF m 8 #[.val (.int p0), .val (.int p1), .val (.long q2), .second, .val (.int fr), .unset] []))
  refine own_step (fun _ k => XS.bipush X0.here hx rfl (hb hby at_8) k) ?_
  show own_Ends _ _ _ _ _ _ _ (s₁.setTop (mkF m 10 #[.val (.int p0), .val (.int p1), .val (.long q2), .second, .val (.int fr), .unset] [(.int (8 : Int32))]))
  obtain ⟨T1, h1, k1, X1, e1, E1, A1, st1⟩ := newP X0 hx hZ (hw _ (List.mem_of_getElem? (i := 1) rfl)) e0 (g := (mkF m 10 #[.val (.int p0), .val (.int p1), .val (.long q2), .second, .val (.int fr), .unset] [(.int (8 : Int32))])) rfl (hb hby at_10) rfl (by decide) (cap := 8) (by decide) (by decide) (by decide) (by decide)
  obtain ⟨b1, g1⟩ : ∃ z, z = h0.size := ⟨_, rfl⟩
  rw [← g1] at A1 st1
  have gn1 : n0 ≤ b1 := Nat.le_trans Z0 (Nat.le_of_eq g1.symm)
  have Z1 := Nat.le_trans Z0 E1.1
  have V1_b1 : Arv Z h1 b1 k1 .byte (8 : Int32) [(.int (0 : Int32)), (.int (0 : Int32)), (.int (0 : Int32)), (.int (0 : Int32)), (.int (0 : Int32)), (.int (0 : Int32)), (.int (0 : Int32)), (.int (0 : Int32))] (.int (0 : Int32)) := (Arv.new A1 (by decide)).pad (pad_rep [] (.int (0 : Int32)) 8)
  refine own_step (fun _ k => st1 _ k) ?_
  show own_Ends _ _ _ _ _ _ _ (T1.setTop (mkF m 12 #[.val (.int p0), .val (.int p1), .val (.long q2), .second, .val (.int fr), .unset] [(.ref b1)]))
  refine own_step (fun _ k => XS.astore X1.here hx rfl (hb hby at_12) rfl rfl (l' := #[.val (.int p0), .val (.int p1), .val (.long q2), .second, .val (.int fr), .val (.ref b1)]) rfl k) ?_
  show own_Ends _ _ _ _ _ _ _ (T1.setTop (mkF m 14 #[.val (.int p0), .val (.int p1), .val (.long q2), .second, .val (.int fr), .val (.ref b1)] []))
  refine own_step (fun _ k => XS.aload X1.here hx rfl (hb hby at_14) rfl rfl k) ?_
  show own_Ends _ _ _ _ _ _ _ (T1.setTop (mkF m 16 #[.val (.int p0), .val (.int p1), .val (.long q2), .second, .val (.int fr), .val (.ref b1)] [(.ref b1)]))
  refine own_step (fun _ k => XS.iconst X1.here hx rfl (hb hby at_16) k) ?_
  show own_Ends _ _ _ _ _ _ _ (T1.setTop (mkF m 17 #[.val (.int p0), .val (.int p1), .val (.long q2), .second, .val (.int fr), .val (.ref b1)] [(.int (0 : Int32)), (.ref b1)]))
  refine own_step (fun _ k => XS.lloadN X1.here hx rfl (hb hby at_17) rfl k) ?_
  show own_Ends _ _ _ _ _ _ _ (T1.setTop (mkF m 18 #[.val (.int p0), .val (.int p1), .val (.long q2), .second, .val (.int fr), .val (.ref b1)] [(.long q2), (.int (0 : Int32)), (.ref b1)]))
  refine own_step (fun _ k => XS.bipush X1.here hx rfl (hb hby at_18) k) ?_
  show own_Ends _ _ _ _ _ _ _ (T1.setTop (mkF m 20 #[.val (.int p0), .val (.int p1), .val (.long q2), .second, .val (.int fr), .val (.ref b1)] [(.int (56 : Int32)), (.long q2), (.int (0 : Int32)), (.ref b1)]))
  refine own_step (fun _ k => XT.lushr X1.here hx rfl (hb hby at_20) rfl k) ?_
  show own_Ends _ _ _ _ _ _ _ (T1.setTop (mkF m 21 #[.val (.int p0), .val (.int p1), .val (.long q2), .second, .val (.int fr), .val (.ref b1)] [(.long (XT.ushrL q2 (56 : Int32))), (.int (0 : Int32)), (.ref b1)]))
  refine own_step (fun _ k => XS.l2i X1.here hx rfl (hb hby at_21) rfl k) ?_
  show own_Ends _ _ _ _ _ _ _ (T1.setTop (mkF m 22 #[.val (.int p0), .val (.int p1), .val (.long q2), .second, .val (.int fr), .val (.ref b1)] [(.int (((XT.ushrL q2 (56 : Int32))).toInt32)), (.int (0 : Int32)), (.ref b1)]))
  refine own_step (fun _ k => XS.i2b X1.here hx rfl (hb hby at_22) rfl k) ?_
  show own_Ends _ _ _ _ _ _ _ (T1.setTop (mkF m 23 #[.val (.int p0), .val (.int p1), .val (.long q2), .second, .val (.int fr), .val (.ref b1)] [(.int (((((XT.ushrL q2 (56 : Int32))).toInt32)).toInt8.toInt32)), (.int (0 : Int32)), (.ref b1)]))
  have nby0 := own_nb ((((XT.ushrL q2 (56 : Int32))).toInt32))
  generalize (((((XT.ushrL q2 (56 : Int32))).toInt32)).toInt8.toInt32) = y0 at nby0 ⊢
  obtain ⟨cl2, Ar2, qq2, S2, M2, H2, G2⟩ := id V1_b1
  have hin2 : ¬ ((0 : Int32) < 0 ∨ cl2.slots.size ≤ ((0 : Int32)).toNatClampNeg) := inb_of S2 ⟨by decide, by decide⟩
  obtain ⟨T2, h2, X2, e2, W2, st2⟩ := stB X1 hx hZ e1 Ar2 (j := (0 : Int32)) hin2 (g := (mkF m 23 #[.val (.int p0), .val (.int p1), .val (.long q2), .second, .val (.int fr), .val (.ref b1)] [(.int y0), (.int (0 : Int32)), (.ref b1)])) rfl rfl (hb hby at_23)
  have N2 := Fr.snoc X2 N0 gn1
  rw [nby0] at W2
  have V2_b1 : Arv Z h2 b1 k1 .byte (8 : Int32) [(.int y0), (.int (0 : Int32)), (.int (0 : Int32)), (.int (0 : Int32)), (.int (0 : Int32)), (.int (0 : Int32)), (.int (0 : Int32)), (.int (0 : Int32))] (.int (0 : Int32)) := Arv.set Ar2 qq2 S2 M2 H2 G2 (by have := fits_nar_byte y0; rw [show (y0).toInt8.toInt32 = y0 from nby0] at this; exact this) W2 0 (by decide) (by simp)
  have Z2 := Nat.le_trans Z1 (Keep.of_wr W2).1
  refine own_step (fun _ k => st2 _ k) ?_
  show own_Ends _ _ _ _ _ _ _ (T2.setTop (mkF m 24 #[.val (.int p0), .val (.int p1), .val (.long q2), .second, .val (.int fr), .val (.ref b1)] []))
  refine own_step (fun _ k => XS.aload X2.here hx rfl (hb hby at_24) rfl rfl k) ?_
  show own_Ends _ _ _ _ _ _ _ (T2.setTop (mkF m 26 #[.val (.int p0), .val (.int p1), .val (.long q2), .second, .val (.int fr), .val (.ref b1)] [(.ref b1)]))
  refine own_step (fun _ k => XS.iconst X2.here hx rfl (hb hby at_26) k) ?_
  show own_Ends _ _ _ _ _ _ _ (T2.setTop (mkF m 27 #[.val (.int p0), .val (.int p1), .val (.long q2), .second, .val (.int fr), .val (.ref b1)] [(.int (1 : Int32)), (.ref b1)]))
  refine own_step (fun _ k => XS.lloadN X2.here hx rfl (hb hby at_27) rfl k) ?_
  show own_Ends _ _ _ _ _ _ _ (T2.setTop (mkF m 28 #[.val (.int p0), .val (.int p1), .val (.long q2), .second, .val (.int fr), .val (.ref b1)] [(.long q2), (.int (1 : Int32)), (.ref b1)]))
  refine own_step (fun _ k => XS.bipush X2.here hx rfl (hb hby at_28) k) ?_
  show own_Ends _ _ _ _ _ _ _ (T2.setTop (mkF m 30 #[.val (.int p0), .val (.int p1), .val (.long q2), .second, .val (.int fr), .val (.ref b1)] [(.int (48 : Int32)), (.long q2), (.int (1 : Int32)), (.ref b1)]))
  refine own_step (fun _ k => XT.lushr X2.here hx rfl (hb hby at_30) rfl k) ?_
  show own_Ends _ _ _ _ _ _ _ (T2.setTop (mkF m 31 #[.val (.int p0), .val (.int p1), .val (.long q2), .second, .val (.int fr), .val (.ref b1)] [(.long (XT.ushrL q2 (48 : Int32))), (.int (1 : Int32)), (.ref b1)]))
  refine own_step (fun _ k => XS.l2i X2.here hx rfl (hb hby at_31) rfl k) ?_
  show own_Ends _ _ _ _ _ _ _ (T2.setTop (mkF m 32 #[.val (.int p0), .val (.int p1), .val (.long q2), .second, .val (.int fr), .val (.ref b1)] [(.int (((XT.ushrL q2 (48 : Int32))).toInt32)), (.int (1 : Int32)), (.ref b1)]))
  refine own_step (fun _ k => XS.i2b X2.here hx rfl (hb hby at_32) rfl k) ?_
  show own_Ends _ _ _ _ _ _ _ (T2.setTop (mkF m 33 #[.val (.int p0), .val (.int p1), .val (.long q2), .second, .val (.int fr), .val (.ref b1)] [(.int (((((XT.ushrL q2 (48 : Int32))).toInt32)).toInt8.toInt32)), (.int (1 : Int32)), (.ref b1)]))
  have nby1 := own_nb ((((XT.ushrL q2 (48 : Int32))).toInt32))
  generalize (((((XT.ushrL q2 (48 : Int32))).toInt32)).toInt8.toInt32) = y1 at nby1 ⊢
  obtain ⟨cl3, Ar3, qq3, S3, M3, H3, G3⟩ := id V2_b1
  have hin3 : ¬ ((1 : Int32) < 0 ∨ cl3.slots.size ≤ ((1 : Int32)).toNatClampNeg) := inb_of S3 ⟨by decide, by decide⟩
  obtain ⟨T3, h3, X3, e3, W3, st3⟩ := stB X2 hx hZ e2 Ar3 (j := (1 : Int32)) hin3 (g := (mkF m 33 #[.val (.int p0), .val (.int p1), .val (.long q2), .second, .val (.int fr), .val (.ref b1)] [(.int y1), (.int (1 : Int32)), (.ref b1)])) rfl rfl (hb hby at_33)
  have N3 := Fr.snoc X3 N2 gn1
  rw [nby1] at W3
  have V3_b1 : Arv Z h3 b1 k1 .byte (8 : Int32) [(.int y0), (.int y1), (.int (0 : Int32)), (.int (0 : Int32)), (.int (0 : Int32)), (.int (0 : Int32)), (.int (0 : Int32)), (.int (0 : Int32))] (.int (0 : Int32)) := Arv.set Ar3 qq3 S3 M3 H3 G3 (by have := fits_nar_byte y1; rw [show (y1).toInt8.toInt32 = y1 from nby1] at this; exact this) W3 1 (by decide) (by simp)
  have Z3 := Nat.le_trans Z2 (Keep.of_wr W3).1
  refine own_step (fun _ k => st3 _ k) ?_
  show own_Ends _ _ _ _ _ _ _ (T3.setTop (mkF m 34 #[.val (.int p0), .val (.int p1), .val (.long q2), .second, .val (.int fr), .val (.ref b1)] []))
  refine own_step (fun _ k => XS.aload X3.here hx rfl (hb hby at_34) rfl rfl k) ?_
  show own_Ends _ _ _ _ _ _ _ (T3.setTop (mkF m 36 #[.val (.int p0), .val (.int p1), .val (.long q2), .second, .val (.int fr), .val (.ref b1)] [(.ref b1)]))
  refine own_step (fun _ k => XS.iconst X3.here hx rfl (hb hby at_36) k) ?_
  show own_Ends _ _ _ _ _ _ _ (T3.setTop (mkF m 37 #[.val (.int p0), .val (.int p1), .val (.long q2), .second, .val (.int fr), .val (.ref b1)] [(.int (2 : Int32)), (.ref b1)]))
  refine own_step (fun _ k => XS.lloadN X3.here hx rfl (hb hby at_37) rfl k) ?_
  show own_Ends _ _ _ _ _ _ _ (T3.setTop (mkF m 38 #[.val (.int p0), .val (.int p1), .val (.long q2), .second, .val (.int fr), .val (.ref b1)] [(.long q2), (.int (2 : Int32)), (.ref b1)]))
  refine own_step (fun _ k => XS.bipush X3.here hx rfl (hb hby at_38) k) ?_
  show own_Ends _ _ _ _ _ _ _ (T3.setTop (mkF m 40 #[.val (.int p0), .val (.int p1), .val (.long q2), .second, .val (.int fr), .val (.ref b1)] [(.int (40 : Int32)), (.long q2), (.int (2 : Int32)), (.ref b1)]))
  refine own_step (fun _ k => XT.lushr X3.here hx rfl (hb hby at_40) rfl k) ?_
  show own_Ends _ _ _ _ _ _ _ (T3.setTop (mkF m 41 #[.val (.int p0), .val (.int p1), .val (.long q2), .second, .val (.int fr), .val (.ref b1)] [(.long (XT.ushrL q2 (40 : Int32))), (.int (2 : Int32)), (.ref b1)]))
  refine own_step (fun _ k => XS.l2i X3.here hx rfl (hb hby at_41) rfl k) ?_
  show own_Ends _ _ _ _ _ _ _ (T3.setTop (mkF m 42 #[.val (.int p0), .val (.int p1), .val (.long q2), .second, .val (.int fr), .val (.ref b1)] [(.int (((XT.ushrL q2 (40 : Int32))).toInt32)), (.int (2 : Int32)), (.ref b1)]))
  refine own_step (fun _ k => XS.i2b X3.here hx rfl (hb hby at_42) rfl k) ?_
  show own_Ends _ _ _ _ _ _ _ (T3.setTop (mkF m 43 #[.val (.int p0), .val (.int p1), .val (.long q2), .second, .val (.int fr), .val (.ref b1)] [(.int (((((XT.ushrL q2 (40 : Int32))).toInt32)).toInt8.toInt32)), (.int (2 : Int32)), (.ref b1)]))
  have nby2 := own_nb ((((XT.ushrL q2 (40 : Int32))).toInt32))
  generalize (((((XT.ushrL q2 (40 : Int32))).toInt32)).toInt8.toInt32) = y2 at nby2 ⊢
  obtain ⟨cl4, Ar4, qq4, S4, M4, H4, G4⟩ := id V3_b1
  have hin4 : ¬ ((2 : Int32) < 0 ∨ cl4.slots.size ≤ ((2 : Int32)).toNatClampNeg) := inb_of S4 ⟨by decide, by decide⟩
  obtain ⟨T4, h4, X4, e4, W4, st4⟩ := stB X3 hx hZ e3 Ar4 (j := (2 : Int32)) hin4 (g := (mkF m 43 #[.val (.int p0), .val (.int p1), .val (.long q2), .second, .val (.int fr), .val (.ref b1)] [(.int y2), (.int (2 : Int32)), (.ref b1)])) rfl rfl (hb hby at_43)
  have N4 := Fr.snoc X4 N3 gn1
  rw [nby2] at W4
  have V4_b1 : Arv Z h4 b1 k1 .byte (8 : Int32) [(.int y0), (.int y1), (.int y2), (.int (0 : Int32)), (.int (0 : Int32)), (.int (0 : Int32)), (.int (0 : Int32)), (.int (0 : Int32))] (.int (0 : Int32)) := Arv.set Ar4 qq4 S4 M4 H4 G4 (by have := fits_nar_byte y2; rw [show (y2).toInt8.toInt32 = y2 from nby2] at this; exact this) W4 2 (by decide) (by simp)
  have Z4 := Nat.le_trans Z3 (Keep.of_wr W4).1
  refine own_step (fun _ k => st4 _ k) ?_
  show own_Ends _ _ _ _ _ _ _ (T4.setTop (mkF m 44 #[.val (.int p0), .val (.int p1), .val (.long q2), .second, .val (.int fr), .val (.ref b1)] []))
  refine own_step (fun _ k => XS.aload X4.here hx rfl (hb hby at_44) rfl rfl k) ?_
  show own_Ends _ _ _ _ _ _ _ (T4.setTop (mkF m 46 #[.val (.int p0), .val (.int p1), .val (.long q2), .second, .val (.int fr), .val (.ref b1)] [(.ref b1)]))
  refine own_step (fun _ k => XS.iconst X4.here hx rfl (hb hby at_46) k) ?_
  show own_Ends _ _ _ _ _ _ _ (T4.setTop (mkF m 47 #[.val (.int p0), .val (.int p1), .val (.long q2), .second, .val (.int fr), .val (.ref b1)] [(.int (3 : Int32)), (.ref b1)]))
  refine own_step (fun _ k => XS.lloadN X4.here hx rfl (hb hby at_47) rfl k) ?_
  show own_Ends _ _ _ _ _ _ _ (T4.setTop (mkF m 48 #[.val (.int p0), .val (.int p1), .val (.long q2), .second, .val (.int fr), .val (.ref b1)] [(.long q2), (.int (3 : Int32)), (.ref b1)]))
  refine own_step (fun _ k => XS.bipush X4.here hx rfl (hb hby at_48) k) ?_
  show own_Ends _ _ _ _ _ _ _ (T4.setTop (mkF m 50 #[.val (.int p0), .val (.int p1), .val (.long q2), .second, .val (.int fr), .val (.ref b1)] [(.int (32 : Int32)), (.long q2), (.int (3 : Int32)), (.ref b1)]))
  refine own_step (fun _ k => XT.lushr X4.here hx rfl (hb hby at_50) rfl k) ?_
  show own_Ends _ _ _ _ _ _ _ (T4.setTop (mkF m 51 #[.val (.int p0), .val (.int p1), .val (.long q2), .second, .val (.int fr), .val (.ref b1)] [(.long (XT.ushrL q2 (32 : Int32))), (.int (3 : Int32)), (.ref b1)]))
  refine own_step (fun _ k => XS.l2i X4.here hx rfl (hb hby at_51) rfl k) ?_
  show own_Ends _ _ _ _ _ _ _ (T4.setTop (mkF m 52 #[.val (.int p0), .val (.int p1), .val (.long q2), .second, .val (.int fr), .val (.ref b1)] [(.int (((XT.ushrL q2 (32 : Int32))).toInt32)), (.int (3 : Int32)), (.ref b1)]))
  refine own_step (fun _ k => XS.i2b X4.here hx rfl (hb hby at_52) rfl k) ?_
  show own_Ends _ _ _ _ _ _ _ (T4.setTop (mkF m 53 #[.val (.int p0), .val (.int p1), .val (.long q2), .second, .val (.int fr), .val (.ref b1)] [(.int (((((XT.ushrL q2 (32 : Int32))).toInt32)).toInt8.toInt32)), (.int (3 : Int32)), (.ref b1)]))
  have nby3 := own_nb ((((XT.ushrL q2 (32 : Int32))).toInt32))
  generalize (((((XT.ushrL q2 (32 : Int32))).toInt32)).toInt8.toInt32) = y3 at nby3 ⊢
  obtain ⟨cl5, Ar5, qq5, S5, M5, H5, G5⟩ := id V4_b1
  have hin5 : ¬ ((3 : Int32) < 0 ∨ cl5.slots.size ≤ ((3 : Int32)).toNatClampNeg) := inb_of S5 ⟨by decide, by decide⟩
  obtain ⟨T5, h5, X5, e5, W5, st5⟩ := stB X4 hx hZ e4 Ar5 (j := (3 : Int32)) hin5 (g := (mkF m 53 #[.val (.int p0), .val (.int p1), .val (.long q2), .second, .val (.int fr), .val (.ref b1)] [(.int y3), (.int (3 : Int32)), (.ref b1)])) rfl rfl (hb hby at_53)
  have N5 := Fr.snoc X5 N4 gn1
  rw [nby3] at W5
  have V5_b1 : Arv Z h5 b1 k1 .byte (8 : Int32) [(.int y0), (.int y1), (.int y2), (.int y3), (.int (0 : Int32)), (.int (0 : Int32)), (.int (0 : Int32)), (.int (0 : Int32))] (.int (0 : Int32)) := Arv.set Ar5 qq5 S5 M5 H5 G5 (by have := fits_nar_byte y3; rw [show (y3).toInt8.toInt32 = y3 from nby3] at this; exact this) W5 3 (by decide) (by simp)
  have Z5 := Nat.le_trans Z4 (Keep.of_wr W5).1
  refine own_step (fun _ k => st5 _ k) ?_
  show own_Ends _ _ _ _ _ _ _ (T5.setTop (mkF m 54 #[.val (.int p0), .val (.int p1), .val (.long q2), .second, .val (.int fr), .val (.ref b1)] []))
  refine own_step (fun _ k => XS.aload X5.here hx rfl (hb hby at_54) rfl rfl k) ?_
  show own_Ends _ _ _ _ _ _ _ (T5.setTop (mkF m 56 #[.val (.int p0), .val (.int p1), .val (.long q2), .second, .val (.int fr), .val (.ref b1)] [(.ref b1)]))
  refine own_step (fun _ k => XS.iconst X5.here hx rfl (hb hby at_56) k) ?_
  show own_Ends _ _ _ _ _ _ _ (T5.setTop (mkF m 57 #[.val (.int p0), .val (.int p1), .val (.long q2), .second, .val (.int fr), .val (.ref b1)] [(.int (4 : Int32)), (.ref b1)]))
  refine own_step (fun _ k => XS.lloadN X5.here hx rfl (hb hby at_57) rfl k) ?_
  show own_Ends _ _ _ _ _ _ _ (T5.setTop (mkF m 58 #[.val (.int p0), .val (.int p1), .val (.long q2), .second, .val (.int fr), .val (.ref b1)] [(.long q2), (.int (4 : Int32)), (.ref b1)]))
  refine own_step (fun _ k => XS.bipush X5.here hx rfl (hb hby at_58) k) ?_
  show own_Ends _ _ _ _ _ _ _ (T5.setTop (mkF m 60 #[.val (.int p0), .val (.int p1), .val (.long q2), .second, .val (.int fr), .val (.ref b1)] [(.int (24 : Int32)), (.long q2), (.int (4 : Int32)), (.ref b1)]))
  refine own_step (fun _ k => XT.lushr X5.here hx rfl (hb hby at_60) rfl k) ?_
  show own_Ends _ _ _ _ _ _ _ (T5.setTop (mkF m 61 #[.val (.int p0), .val (.int p1), .val (.long q2), .second, .val (.int fr), .val (.ref b1)] [(.long (XT.ushrL q2 (24 : Int32))), (.int (4 : Int32)), (.ref b1)]))
  refine own_step (fun _ k => XS.l2i X5.here hx rfl (hb hby at_61) rfl k) ?_
  show own_Ends _ _ _ _ _ _ _ (T5.setTop (mkF m 62 #[.val (.int p0), .val (.int p1), .val (.long q2), .second, .val (.int fr), .val (.ref b1)] [(.int (((XT.ushrL q2 (24 : Int32))).toInt32)), (.int (4 : Int32)), (.ref b1)]))
  refine own_step (fun _ k => XS.i2b X5.here hx rfl (hb hby at_62) rfl k) ?_
  show own_Ends _ _ _ _ _ _ _ (T5.setTop (mkF m 63 #[.val (.int p0), .val (.int p1), .val (.long q2), .second, .val (.int fr), .val (.ref b1)] [(.int (((((XT.ushrL q2 (24 : Int32))).toInt32)).toInt8.toInt32)), (.int (4 : Int32)), (.ref b1)]))
  have nby4 := own_nb ((((XT.ushrL q2 (24 : Int32))).toInt32))
  generalize (((((XT.ushrL q2 (24 : Int32))).toInt32)).toInt8.toInt32) = y4 at nby4 ⊢
  obtain ⟨cl6, Ar6, qq6, S6, M6, H6, G6⟩ := id V5_b1
  have hin6 : ¬ ((4 : Int32) < 0 ∨ cl6.slots.size ≤ ((4 : Int32)).toNatClampNeg) := inb_of S6 ⟨by decide, by decide⟩
  obtain ⟨T6, h6, X6, e6, W6, st6⟩ := stB X5 hx hZ e5 Ar6 (j := (4 : Int32)) hin6 (g := (mkF m 63 #[.val (.int p0), .val (.int p1), .val (.long q2), .second, .val (.int fr), .val (.ref b1)] [(.int y4), (.int (4 : Int32)), (.ref b1)])) rfl rfl (hb hby at_63)
  have N6 := Fr.snoc X6 N5 gn1
  rw [nby4] at W6
  have V6_b1 : Arv Z h6 b1 k1 .byte (8 : Int32) [(.int y0), (.int y1), (.int y2), (.int y3), (.int y4), (.int (0 : Int32)), (.int (0 : Int32)), (.int (0 : Int32))] (.int (0 : Int32)) := Arv.set Ar6 qq6 S6 M6 H6 G6 (by have := fits_nar_byte y4; rw [show (y4).toInt8.toInt32 = y4 from nby4] at this; exact this) W6 4 (by decide) (by simp)
  have Z6 := Nat.le_trans Z5 (Keep.of_wr W6).1
  refine own_step (fun _ k => st6 _ k) ?_
  show own_Ends _ _ _ _ _ _ _ (T6.setTop (mkF m 64 #[.val (.int p0), .val (.int p1), .val (.long q2), .second, .val (.int fr), .val (.ref b1)] []))
  refine own_step (fun _ k => XS.aload X6.here hx rfl (hb hby at_64) rfl rfl k) ?_
  show own_Ends _ _ _ _ _ _ _ (T6.setTop (mkF m 66 #[.val (.int p0), .val (.int p1), .val (.long q2), .second, .val (.int fr), .val (.ref b1)] [(.ref b1)]))
  refine own_step (fun _ k => XS.iconst X6.here hx rfl (hb hby at_66) k) ?_
  show own_Ends _ _ _ _ _ _ _ (T6.setTop (mkF m 67 #[.val (.int p0), .val (.int p1), .val (.long q2), .second, .val (.int fr), .val (.ref b1)] [(.int (5 : Int32)), (.ref b1)]))
  refine own_step (fun _ k => XS.lloadN X6.here hx rfl (hb hby at_67) rfl k) ?_
  show own_Ends _ _ _ _ _ _ _ (T6.setTop (mkF m 68 #[.val (.int p0), .val (.int p1), .val (.long q2), .second, .val (.int fr), .val (.ref b1)] [(.long q2), (.int (5 : Int32)), (.ref b1)]))
  refine own_step (fun _ k => XS.bipush X6.here hx rfl (hb hby at_68) k) ?_
  show own_Ends _ _ _ _ _ _ _ (T6.setTop (mkF m 70 #[.val (.int p0), .val (.int p1), .val (.long q2), .second, .val (.int fr), .val (.ref b1)] [(.int (16 : Int32)), (.long q2), (.int (5 : Int32)), (.ref b1)]))
  refine own_step (fun _ k => XT.lushr X6.here hx rfl (hb hby at_70) rfl k) ?_
  show own_Ends _ _ _ _ _ _ _ (T6.setTop (mkF m 71 #[.val (.int p0), .val (.int p1), .val (.long q2), .second, .val (.int fr), .val (.ref b1)] [(.long (XT.ushrL q2 (16 : Int32))), (.int (5 : Int32)), (.ref b1)]))
  refine own_step (fun _ k => XS.l2i X6.here hx rfl (hb hby at_71) rfl k) ?_
  show own_Ends _ _ _ _ _ _ _ (T6.setTop (mkF m 72 #[.val (.int p0), .val (.int p1), .val (.long q2), .second, .val (.int fr), .val (.ref b1)] [(.int (((XT.ushrL q2 (16 : Int32))).toInt32)), (.int (5 : Int32)), (.ref b1)]))
  refine own_step (fun _ k => XS.i2b X6.here hx rfl (hb hby at_72) rfl k) ?_
  show own_Ends _ _ _ _ _ _ _ (T6.setTop (mkF m 73 #[.val (.int p0), .val (.int p1), .val (.long q2), .second, .val (.int fr), .val (.ref b1)] [(.int (((((XT.ushrL q2 (16 : Int32))).toInt32)).toInt8.toInt32)), (.int (5 : Int32)), (.ref b1)]))
  have nby5 := own_nb ((((XT.ushrL q2 (16 : Int32))).toInt32))
  generalize (((((XT.ushrL q2 (16 : Int32))).toInt32)).toInt8.toInt32) = y5 at nby5 ⊢
  obtain ⟨cl7, Ar7, qq7, S7, M7, H7, G7⟩ := id V6_b1
  have hin7 : ¬ ((5 : Int32) < 0 ∨ cl7.slots.size ≤ ((5 : Int32)).toNatClampNeg) := inb_of S7 ⟨by decide, by decide⟩
  obtain ⟨T7, h7, X7, e7, W7, st7⟩ := stB X6 hx hZ e6 Ar7 (j := (5 : Int32)) hin7 (g := (mkF m 73 #[.val (.int p0), .val (.int p1), .val (.long q2), .second, .val (.int fr), .val (.ref b1)] [(.int y5), (.int (5 : Int32)), (.ref b1)])) rfl rfl (hb hby at_73)
  have N7 := Fr.snoc X7 N6 gn1
  rw [nby5] at W7
  have V7_b1 : Arv Z h7 b1 k1 .byte (8 : Int32) [(.int y0), (.int y1), (.int y2), (.int y3), (.int y4), (.int y5), (.int (0 : Int32)), (.int (0 : Int32))] (.int (0 : Int32)) := Arv.set Ar7 qq7 S7 M7 H7 G7 (by have := fits_nar_byte y5; rw [show (y5).toInt8.toInt32 = y5 from nby5] at this; exact this) W7 5 (by decide) (by simp)
  have Z7 := Nat.le_trans Z6 (Keep.of_wr W7).1
  refine own_step (fun _ k => st7 _ k) ?_
  show own_Ends _ _ _ _ _ _ _ (T7.setTop (mkF m 74 #[.val (.int p0), .val (.int p1), .val (.long q2), .second, .val (.int fr), .val (.ref b1)] []))
  refine own_step (fun _ k => XS.aload X7.here hx rfl (hb hby at_74) rfl rfl k) ?_
  show own_Ends _ _ _ _ _ _ _ (T7.setTop (mkF m 76 #[.val (.int p0), .val (.int p1), .val (.long q2), .second, .val (.int fr), .val (.ref b1)] [(.ref b1)]))
  refine own_step (fun _ k => XS.bipush X7.here hx rfl (hb hby at_76) k) ?_
  show own_Ends _ _ _ _ _ _ _ (T7.setTop (mkF m 78 #[.val (.int p0), .val (.int p1), .val (.long q2), .second, .val (.int fr), .val (.ref b1)] [(.int (6 : Int32)), (.ref b1)]))
  refine own_step (fun _ k => XS.lloadN X7.here hx rfl (hb hby at_78) rfl k) ?_
  show own_Ends _ _ _ _ _ _ _ (T7.setTop (mkF m 79 #[.val (.int p0), .val (.int p1), .val (.long q2), .second, .val (.int fr), .val (.ref b1)] [(.long q2), (.int (6 : Int32)), (.ref b1)]))
  refine own_step (fun _ k => XS.bipush X7.here hx rfl (hb hby at_79) k) ?_
  show own_Ends _ _ _ _ _ _ _ (T7.setTop (mkF m 81 #[.val (.int p0), .val (.int p1), .val (.long q2), .second, .val (.int fr), .val (.ref b1)] [(.int (8 : Int32)), (.long q2), (.int (6 : Int32)), (.ref b1)]))
  refine own_step (fun _ k => XT.lushr X7.here hx rfl (hb hby at_81) rfl k) ?_
  show own_Ends _ _ _ _ _ _ _ (T7.setTop (mkF m 82 #[.val (.int p0), .val (.int p1), .val (.long q2), .second, .val (.int fr), .val (.ref b1)] [(.long (XT.ushrL q2 (8 : Int32))), (.int (6 : Int32)), (.ref b1)]))
  refine own_step (fun _ k => XS.l2i X7.here hx rfl (hb hby at_82) rfl k) ?_
  show own_Ends _ _ _ _ _ _ _ (T7.setTop (mkF m 83 #[.val (.int p0), .val (.int p1), .val (.long q2), .second, .val (.int fr), .val (.ref b1)] [(.int (((XT.ushrL q2 (8 : Int32))).toInt32)), (.int (6 : Int32)), (.ref b1)]))
  refine own_step (fun _ k => XS.i2b X7.here hx rfl (hb hby at_83) rfl k) ?_
  show own_Ends _ _ _ _ _ _ _ (T7.setTop (mkF m 84 #[.val (.int p0), .val (.int p1), .val (.long q2), .second, .val (.int fr), .val (.ref b1)] [(.int (((((XT.ushrL q2 (8 : Int32))).toInt32)).toInt8.toInt32)), (.int (6 : Int32)), (.ref b1)]))
  have nby6 := own_nb ((((XT.ushrL q2 (8 : Int32))).toInt32))
  generalize (((((XT.ushrL q2 (8 : Int32))).toInt32)).toInt8.toInt32) = y6 at nby6 ⊢
  obtain ⟨cl8, Ar8, qq8, S8, M8, H8, G8⟩ := id V7_b1
  have hin8 : ¬ ((6 : Int32) < 0 ∨ cl8.slots.size ≤ ((6 : Int32)).toNatClampNeg) := inb_of S8 ⟨by decide, by decide⟩
  obtain ⟨T8, h8, X8, e8, W8, st8⟩ := stB X7 hx hZ e7 Ar8 (j := (6 : Int32)) hin8 (g := (mkF m 84 #[.val (.int p0), .val (.int p1), .val (.long q2), .second, .val (.int fr), .val (.ref b1)] [(.int y6), (.int (6 : Int32)), (.ref b1)])) rfl rfl (hb hby at_84)
  have N8 := Fr.snoc X8 N7 gn1
  rw [nby6] at W8
  have V8_b1 : Arv Z h8 b1 k1 .byte (8 : Int32) [(.int y0), (.int y1), (.int y2), (.int y3), (.int y4), (.int y5), (.int y6), (.int (0 : Int32))] (.int (0 : Int32)) := Arv.set Ar8 qq8 S8 M8 H8 G8 (by have := fits_nar_byte y6; rw [show (y6).toInt8.toInt32 = y6 from nby6] at this; exact this) W8 6 (by decide) (by simp)
  have Z8 := Nat.le_trans Z7 (Keep.of_wr W8).1
  refine own_step (fun _ k => st8 _ k) ?_
  show own_Ends _ _ _ _ _ _ _ (T8.setTop (mkF m 85 #[.val (.int p0), .val (.int p1), .val (.long q2), .second, .val (.int fr), .val (.ref b1)] []))
  refine own_step (fun _ k => XS.aload X8.here hx rfl (hb hby at_85) rfl rfl k) ?_
  show own_Ends _ _ _ _ _ _ _ (T8.setTop (mkF m 87 #[.val (.int p0), .val (.int p1), .val (.long q2), .second, .val (.int fr), .val (.ref b1)] [(.ref b1)]))
  refine own_step (fun _ k => XS.bipush X8.here hx rfl (hb hby at_87) k) ?_
  show own_Ends _ _ _ _ _ _ _ (T8.setTop (mkF m 89 #[.val (.int p0), .val (.int p1), .val (.long q2), .second, .val (.int fr), .val (.ref b1)] [(.int (7 : Int32)), (.ref b1)]))
  refine own_step (fun _ k => XS.lloadN X8.here hx rfl (hb hby at_89) rfl k) ?_
  show own_Ends _ _ _ _ _ _ _ (T8.setTop (mkF m 90 #[.val (.int p0), .val (.int p1), .val (.long q2), .second, .val (.int fr), .val (.ref b1)] [(.long q2), (.int (7 : Int32)), (.ref b1)]))
  refine own_step (fun _ k => XS.l2i X8.here hx rfl (hb hby at_90) rfl k) ?_
  show own_Ends _ _ _ _ _ _ _ (T8.setTop (mkF m 91 #[.val (.int p0), .val (.int p1), .val (.long q2), .second, .val (.int fr), .val (.ref b1)] [(.int ((q2).toInt32)), (.int (7 : Int32)), (.ref b1)]))
  refine own_step (fun _ k => XS.i2b X8.here hx rfl (hb hby at_91) rfl k) ?_
  show own_Ends _ _ _ _ _ _ _ (T8.setTop (mkF m 92 #[.val (.int p0), .val (.int p1), .val (.long q2), .second, .val (.int fr), .val (.ref b1)] [(.int ((((q2).toInt32)).toInt8.toInt32)), (.int (7 : Int32)), (.ref b1)]))
  have nby7 := own_nb (((q2).toInt32))
  generalize ((((q2).toInt32)).toInt8.toInt32) = y7 at nby7 ⊢
  obtain ⟨cl9, Ar9, qq9, S9, M9, H9, G9⟩ := id V8_b1
  have hin9 : ¬ ((7 : Int32) < 0 ∨ cl9.slots.size ≤ ((7 : Int32)).toNatClampNeg) := inb_of S9 ⟨by decide, by decide⟩
  obtain ⟨T9, h9, X9, e9, W9, st9⟩ := stB X8 hx hZ e8 Ar9 (j := (7 : Int32)) hin9 (g := (mkF m 92 #[.val (.int p0), .val (.int p1), .val (.long q2), .second, .val (.int fr), .val (.ref b1)] [(.int y7), (.int (7 : Int32)), (.ref b1)])) rfl rfl (hb hby at_92)
  have N9 := Fr.snoc X9 N8 gn1
  rw [nby7] at W9
  have V9_b1 : Arv Z h9 b1 k1 .byte (8 : Int32) [(.int y0), (.int y1), (.int y2), (.int y3), (.int y4), (.int y5), (.int y6), (.int y7)] (.int (0 : Int32)) := Arv.set Ar9 qq9 S9 M9 H9 G9 (by have := fits_nar_byte y7; rw [show (y7).toInt8.toInt32 = y7 from nby7] at this; exact this) W9 7 (by decide) (by simp)
  have Z9 := Nat.le_trans Z8 (Keep.of_wr W9).1
  refine own_step (fun _ k => st9 _ k) ?_
  show own_Ends _ _ _ _ _ _ _ (T9.setTop (mkF m 93 #[.val (.int p0), .val (.int p1), .val (.long q2), .second, .val (.int fr), .val (.ref b1)] []))
  rcases hfr with rfl | rfl | rfl | rfl | rfl
  · show own_Ends _ _ _ _ _ _ _ (T9.setTop (mkF m 93 #[.val (.int p0), .val (.int p1), .val (.long q2), .second, .val (.int (0 : Int32)), .val (.ref b1)] []))
    refine own_step (fun _ k => XS.aload X9.here hx rfl (hb hby at_93) rfl rfl k) ?_
    show own_Ends _ _ _ _ _ _ _ (T9.setTop (mkF m 95 #[.val (.int p0), .val (.int p1), .val (.long q2), .second, .val (.int (0 : Int32)), .val (.ref b1)] [(.ref b1)]))
    refine own_step (fun _ k => XS.iload X9.here hx rfl (hb hby at_95) rfl k) ?_
    show own_Ends _ _ _ _ _ _ _ (T9.setTop (mkF m 97 #[.val (.int p0), .val (.int p1), .val (.long q2), .second, .val (.int (0 : Int32)), .val (.ref b1)] [(.int (0 : Int32)), (.ref b1)]))
    refine own_step (fun _ k => XS.iloadN X9.here hx rfl (hb hby at_97) rfl k) ?_
    show own_Ends _ _ _ _ _ _ _ (T9.setTop (mkF m 98 #[.val (.int p0), .val (.int p1), .val (.long q2), .second, .val (.int (0 : Int32)), .val (.ref b1)] [(.int p0), (.int (0 : Int32)), (.ref b1)]))
    refine own_step (fun _ k => XS.bipush X9.here hx rfl (hb hby at_98) k) ?_
    show own_Ends _ _ _ _ _ _ _ (T9.setTop (mkF m 100 #[.val (.int p0), .val (.int p1), .val (.long q2), .second, .val (.int (0 : Int32)), .val (.ref b1)] [(.int (24 : Int32)), (.int p0), (.int (0 : Int32)), (.ref b1)]))
    refine own_step (fun _ k => XT.iushr X9.here hx rfl (hb hby at_100) rfl k) ?_
    show own_Ends _ _ _ _ _ _ _ (T9.setTop (mkF m 101 #[.val (.int p0), .val (.int p1), .val (.long q2), .second, .val (.int (0 : Int32)), .val (.ref b1)] [(.int (XT.ushr p0 (24 : Int32))), (.int (0 : Int32)), (.ref b1)]))
    refine own_step (fun _ k => XS.i2b X9.here hx rfl (hb hby at_101) rfl k) ?_
    show own_Ends _ _ _ _ _ _ _ (T9.setTop (mkF m 102 #[.val (.int p0), .val (.int p1), .val (.long q2), .second, .val (.int (0 : Int32)), .val (.ref b1)] [(.int (((XT.ushr p0 (24 : Int32))).toInt8.toInt32)), (.int (0 : Int32)), (.ref b1)]))
    have nbz0 := own_nb ((XT.ushr p0 (24 : Int32)))
    generalize hvz0 : (((XT.ushr p0 (24 : Int32))).toInt8.toInt32) = z0 at nbz0 ⊢
    obtain ⟨cl10, Ar10, qq10, S10, M10, H10, G10⟩ := id V9_b1
    have hin10 : ¬ ((0 : Int32) < 0 ∨ cl10.slots.size ≤ ((0 : Int32)).toNatClampNeg) := inb_of S10 ⟨by decide, by decide⟩
    obtain ⟨T10, h10, X10, e10, W10, st10⟩ := stB X9 hx hZ e9 Ar10 (j := (0 : Int32)) hin10 (g := (mkF m 102 #[.val (.int p0), .val (.int p1), .val (.long q2), .second, .val (.int (0 : Int32)), .val (.ref b1)] [(.int z0), (.int (0 : Int32)), (.ref b1)])) rfl rfl (hb hby at_102)
    have N10 := Fr.snoc X10 N9 gn1
    rw [nbz0] at W10
    have V10_b1 : Arv Z h10 b1 k1 .byte (8 : Int32) [(.int z0), (.int y1), (.int y2), (.int y3), (.int y4), (.int y5), (.int y6), (.int y7)] (.int (0 : Int32)) := Arv.set Ar10 qq10 S10 M10 H10 G10 (by have := fits_nar_byte z0; rw [show (z0).toInt8.toInt32 = z0 from nbz0] at this; exact this) W10 0 (by decide) (by simp)
    have Z10 := Nat.le_trans Z9 (Keep.of_wr W10).1
    refine own_step (fun _ k => st10 _ k) ?_
    show own_Ends _ _ _ _ _ _ _ (T10.setTop (mkF m 103 #[.val (.int p0), .val (.int p1), .val (.long q2), .second, .val (.int (0 : Int32)), .val (.ref b1)] []))
    refine own_step (fun _ k => XS.aload X10.here hx rfl (hb hby at_103) rfl rfl k) ?_
    show own_Ends _ _ _ _ _ _ _ (T10.setTop (mkF m 105 #[.val (.int p0), .val (.int p1), .val (.long q2), .second, .val (.int (0 : Int32)), .val (.ref b1)] [(.ref b1)]))
    refine own_step (fun _ k => XS.iload X10.here hx rfl (hb hby at_105) rfl k) ?_
    show own_Ends _ _ _ _ _ _ _ (T10.setTop (mkF m 107 #[.val (.int p0), .val (.int p1), .val (.long q2), .second, .val (.int (0 : Int32)), .val (.ref b1)] [(.int (0 : Int32)), (.ref b1)]))
    refine own_step (fun _ k => XS.iconst X10.here hx rfl (hb hby at_107) k) ?_
    show own_Ends _ _ _ _ _ _ _ (T10.setTop (mkF m 108 #[.val (.int p0), .val (.int p1), .val (.long q2), .second, .val (.int (0 : Int32)), .val (.ref b1)] [(.int (1 : Int32)), (.int (0 : Int32)), (.ref b1)]))
    refine own_step (fun _ k => XS.iadd X10.here hx rfl (hb hby at_108) rfl k) ?_
    show own_Ends _ _ _ _ _ _ _ (T10.setTop (mkF m 109 #[.val (.int p0), .val (.int p1), .val (.long q2), .second, .val (.int (0 : Int32)), .val (.ref b1)] [(.int ((0 : Int32) + (1 : Int32))), (.ref b1)]))
    refine own_step (fun _ k => XS.iloadN X10.here hx rfl (hb hby at_109) rfl k) ?_
    show own_Ends _ _ _ _ _ _ _ (T10.setTop (mkF m 110 #[.val (.int p0), .val (.int p1), .val (.long q2), .second, .val (.int (0 : Int32)), .val (.ref b1)] [(.int p0), (.int ((0 : Int32) + (1 : Int32))), (.ref b1)]))
    refine own_step (fun _ k => XS.bipush X10.here hx rfl (hb hby at_110) k) ?_
    show own_Ends _ _ _ _ _ _ _ (T10.setTop (mkF m 112 #[.val (.int p0), .val (.int p1), .val (.long q2), .second, .val (.int (0 : Int32)), .val (.ref b1)] [(.int (16 : Int32)), (.int p0), (.int ((0 : Int32) + (1 : Int32))), (.ref b1)]))
    refine own_step (fun _ k => XT.iushr X10.here hx rfl (hb hby at_112) rfl k) ?_
    show own_Ends _ _ _ _ _ _ _ (T10.setTop (mkF m 113 #[.val (.int p0), .val (.int p1), .val (.long q2), .second, .val (.int (0 : Int32)), .val (.ref b1)] [(.int (XT.ushr p0 (16 : Int32))), (.int ((0 : Int32) + (1 : Int32))), (.ref b1)]))
    refine own_step (fun _ k => XS.i2b X10.here hx rfl (hb hby at_113) rfl k) ?_
    show own_Ends _ _ _ _ _ _ _ (T10.setTop (mkF m 114 #[.val (.int p0), .val (.int p1), .val (.long q2), .second, .val (.int (0 : Int32)), .val (.ref b1)] [(.int (((XT.ushr p0 (16 : Int32))).toInt8.toInt32)), (.int ((0 : Int32) + (1 : Int32))), (.ref b1)]))
    have nbz1 := own_nb ((XT.ushr p0 (16 : Int32)))
    generalize hvz1 : (((XT.ushr p0 (16 : Int32))).toInt8.toInt32) = z1 at nbz1 ⊢
    obtain ⟨cl11, Ar11, qq11, S11, M11, H11, G11⟩ := id V10_b1
    have hin11 : ¬ (((0 : Int32) + (1 : Int32)) < 0 ∨ cl11.slots.size ≤ (((0 : Int32) + (1 : Int32))).toNatClampNeg) := inb_of S11 ⟨by decide, by decide⟩
    obtain ⟨T11, h11, X11, e11, W11, st11⟩ := stB X10 hx hZ e10 Ar11 (j := ((0 : Int32) + (1 : Int32))) hin11 (g := (mkF m 114 #[.val (.int p0), .val (.int p1), .val (.long q2), .second, .val (.int (0 : Int32)), .val (.ref b1)] [(.int z1), (.int ((0 : Int32) + (1 : Int32))), (.ref b1)])) rfl rfl (hb hby at_114)
    have N11 := Fr.snoc X11 N10 gn1
    rw [nbz1] at W11
    have V11_b1 : Arv Z h11 b1 k1 .byte (8 : Int32) [(.int z0), (.int z1), (.int y2), (.int y3), (.int y4), (.int y5), (.int y6), (.int y7)] (.int (0 : Int32)) := Arv.set Ar11 qq11 S11 M11 H11 G11 (by have := fits_nar_byte z1; rw [show (z1).toInt8.toInt32 = z1 from nbz1] at this; exact this) W11 1 (by decide) (by simp)
    have Z11 := Nat.le_trans Z10 (Keep.of_wr W11).1
    refine own_step (fun _ k => st11 _ k) ?_
    show own_Ends _ _ _ _ _ _ _ (T11.setTop (mkF m 115 #[.val (.int p0), .val (.int p1), .val (.long q2), .second, .val (.int (0 : Int32)), .val (.ref b1)] []))
    refine own_step (fun _ k => XS.aload X11.here hx rfl (hb hby at_115) rfl rfl k) ?_
    show own_Ends _ _ _ _ _ _ _ (T11.setTop (mkF m 117 #[.val (.int p0), .val (.int p1), .val (.long q2), .second, .val (.int (0 : Int32)), .val (.ref b1)] [(.ref b1)]))
    refine own_step (fun _ k => XS.iload X11.here hx rfl (hb hby at_117) rfl k) ?_
    show own_Ends _ _ _ _ _ _ _ (T11.setTop (mkF m 119 #[.val (.int p0), .val (.int p1), .val (.long q2), .second, .val (.int (0 : Int32)), .val (.ref b1)] [(.int (0 : Int32)), (.ref b1)]))
    refine own_step (fun _ k => XS.iconst X11.here hx rfl (hb hby at_119) k) ?_
    show own_Ends _ _ _ _ _ _ _ (T11.setTop (mkF m 120 #[.val (.int p0), .val (.int p1), .val (.long q2), .second, .val (.int (0 : Int32)), .val (.ref b1)] [(.int (2 : Int32)), (.int (0 : Int32)), (.ref b1)]))
    refine own_step (fun _ k => XS.iadd X11.here hx rfl (hb hby at_120) rfl k) ?_
    show own_Ends _ _ _ _ _ _ _ (T11.setTop (mkF m 121 #[.val (.int p0), .val (.int p1), .val (.long q2), .second, .val (.int (0 : Int32)), .val (.ref b1)] [(.int ((0 : Int32) + (2 : Int32))), (.ref b1)]))
    refine own_step (fun _ k => XS.iloadN X11.here hx rfl (hb hby at_121) rfl k) ?_
    show own_Ends _ _ _ _ _ _ _ (T11.setTop (mkF m 122 #[.val (.int p0), .val (.int p1), .val (.long q2), .second, .val (.int (0 : Int32)), .val (.ref b1)] [(.int p0), (.int ((0 : Int32) + (2 : Int32))), (.ref b1)]))
    refine own_step (fun _ k => XS.bipush X11.here hx rfl (hb hby at_122) k) ?_
    show own_Ends _ _ _ _ _ _ _ (T11.setTop (mkF m 124 #[.val (.int p0), .val (.int p1), .val (.long q2), .second, .val (.int (0 : Int32)), .val (.ref b1)] [(.int (8 : Int32)), (.int p0), (.int ((0 : Int32) + (2 : Int32))), (.ref b1)]))
    refine own_step (fun _ k => XT.iushr X11.here hx rfl (hb hby at_124) rfl k) ?_
    show own_Ends _ _ _ _ _ _ _ (T11.setTop (mkF m 125 #[.val (.int p0), .val (.int p1), .val (.long q2), .second, .val (.int (0 : Int32)), .val (.ref b1)] [(.int (XT.ushr p0 (8 : Int32))), (.int ((0 : Int32) + (2 : Int32))), (.ref b1)]))
    refine own_step (fun _ k => XS.i2b X11.here hx rfl (hb hby at_125) rfl k) ?_
    show own_Ends _ _ _ _ _ _ _ (T11.setTop (mkF m 126 #[.val (.int p0), .val (.int p1), .val (.long q2), .second, .val (.int (0 : Int32)), .val (.ref b1)] [(.int (((XT.ushr p0 (8 : Int32))).toInt8.toInt32)), (.int ((0 : Int32) + (2 : Int32))), (.ref b1)]))
    have nbz2 := own_nb ((XT.ushr p0 (8 : Int32)))
    generalize hvz2 : (((XT.ushr p0 (8 : Int32))).toInt8.toInt32) = z2 at nbz2 ⊢
    obtain ⟨cl12, Ar12, qq12, S12, M12, H12, G12⟩ := id V11_b1
    have hin12 : ¬ (((0 : Int32) + (2 : Int32)) < 0 ∨ cl12.slots.size ≤ (((0 : Int32) + (2 : Int32))).toNatClampNeg) := inb_of S12 ⟨by decide, by decide⟩
    obtain ⟨T12, h12, X12, e12, W12, st12⟩ := stB X11 hx hZ e11 Ar12 (j := ((0 : Int32) + (2 : Int32))) hin12 (g := (mkF m 126 #[.val (.int p0), .val (.int p1), .val (.long q2), .second, .val (.int (0 : Int32)), .val (.ref b1)] [(.int z2), (.int ((0 : Int32) + (2 : Int32))), (.ref b1)])) rfl rfl (hb hby at_126)
    have N12 := Fr.snoc X12 N11 gn1
    rw [nbz2] at W12
    have V12_b1 : Arv Z h12 b1 k1 .byte (8 : Int32) [(.int z0), (.int z1), (.int z2), (.int y3), (.int y4), (.int y5), (.int y6), (.int y7)] (.int (0 : Int32)) := Arv.set Ar12 qq12 S12 M12 H12 G12 (by have := fits_nar_byte z2; rw [show (z2).toInt8.toInt32 = z2 from nbz2] at this; exact this) W12 2 (by decide) (by simp)
    have Z12 := Nat.le_trans Z11 (Keep.of_wr W12).1
    refine own_step (fun _ k => st12 _ k) ?_
    show own_Ends _ _ _ _ _ _ _ (T12.setTop (mkF m 127 #[.val (.int p0), .val (.int p1), .val (.long q2), .second, .val (.int (0 : Int32)), .val (.ref b1)] []))
    refine own_step (fun _ k => XS.aload X12.here hx rfl (hb hby at_127) rfl rfl k) ?_
    show own_Ends _ _ _ _ _ _ _ (T12.setTop (mkF m 129 #[.val (.int p0), .val (.int p1), .val (.long q2), .second, .val (.int (0 : Int32)), .val (.ref b1)] [(.ref b1)]))
    refine own_step (fun _ k => XS.iload X12.here hx rfl (hb hby at_129) rfl k) ?_
    show own_Ends _ _ _ _ _ _ _ (T12.setTop (mkF m 131 #[.val (.int p0), .val (.int p1), .val (.long q2), .second, .val (.int (0 : Int32)), .val (.ref b1)] [(.int (0 : Int32)), (.ref b1)]))
    refine own_step (fun _ k => XS.iconst X12.here hx rfl (hb hby at_131) k) ?_
    show own_Ends _ _ _ _ _ _ _ (T12.setTop (mkF m 132 #[.val (.int p0), .val (.int p1), .val (.long q2), .second, .val (.int (0 : Int32)), .val (.ref b1)] [(.int (3 : Int32)), (.int (0 : Int32)), (.ref b1)]))
    refine own_step (fun _ k => XS.iadd X12.here hx rfl (hb hby at_132) rfl k) ?_
    show own_Ends _ _ _ _ _ _ _ (T12.setTop (mkF m 133 #[.val (.int p0), .val (.int p1), .val (.long q2), .second, .val (.int (0 : Int32)), .val (.ref b1)] [(.int ((0 : Int32) + (3 : Int32))), (.ref b1)]))
    refine own_step (fun _ k => XS.iloadN X12.here hx rfl (hb hby at_133) rfl k) ?_
    show own_Ends _ _ _ _ _ _ _ (T12.setTop (mkF m 134 #[.val (.int p0), .val (.int p1), .val (.long q2), .second, .val (.int (0 : Int32)), .val (.ref b1)] [(.int p0), (.int ((0 : Int32) + (3 : Int32))), (.ref b1)]))
    refine own_step (fun _ k => XS.i2b X12.here hx rfl (hb hby at_134) rfl k) ?_
    show own_Ends _ _ _ _ _ _ _ (T12.setTop (mkF m 135 #[.val (.int p0), .val (.int p1), .val (.long q2), .second, .val (.int (0 : Int32)), .val (.ref b1)] [(.int ((p0).toInt8.toInt32)), (.int ((0 : Int32) + (3 : Int32))), (.ref b1)]))
    have nbz3 := own_nb (p0)
    generalize hvz3 : ((p0).toInt8.toInt32) = z3 at nbz3 ⊢
    obtain ⟨cl13, Ar13, qq13, S13, M13, H13, G13⟩ := id V12_b1
    have hin13 : ¬ (((0 : Int32) + (3 : Int32)) < 0 ∨ cl13.slots.size ≤ (((0 : Int32) + (3 : Int32))).toNatClampNeg) := inb_of S13 ⟨by decide, by decide⟩
    obtain ⟨T13, h13, X13, e13, W13, st13⟩ := stB X12 hx hZ e12 Ar13 (j := ((0 : Int32) + (3 : Int32))) hin13 (g := (mkF m 135 #[.val (.int p0), .val (.int p1), .val (.long q2), .second, .val (.int (0 : Int32)), .val (.ref b1)] [(.int z3), (.int ((0 : Int32) + (3 : Int32))), (.ref b1)])) rfl rfl (hb hby at_135)
    have N13 := Fr.snoc X13 N12 gn1
    rw [nbz3] at W13
    have V13_b1 : Arv Z h13 b1 k1 .byte (8 : Int32) [(.int z0), (.int z1), (.int z2), (.int z3), (.int y4), (.int y5), (.int y6), (.int y7)] (.int (0 : Int32)) := Arv.set Ar13 qq13 S13 M13 H13 G13 (by have := fits_nar_byte z3; rw [show (z3).toInt8.toInt32 = z3 from nbz3] at this; exact this) W13 3 (by decide) (by simp)
    have Z13 := Nat.le_trans Z12 (Keep.of_wr W13).1
    refine own_step (fun _ k => st13 _ k) ?_
    show own_Ends _ _ _ _ _ _ _ (T13.setTop (mkF m 136 #[.val (.int p0), .val (.int p1), .val (.long q2), .second, .val (.int (0 : Int32)), .val (.ref b1)] []))
    refine own_step (fun _ k => XS.aload X13.here hx rfl (hb hby at_136) rfl rfl k) ?_
    show own_Ends _ _ _ _ _ _ _ (T13.setTop (mkF m 138 #[.val (.int p0), .val (.int p1), .val (.long q2), .second, .val (.int (0 : Int32)), .val (.ref b1)] [(.ref b1)]))
    refine own_step (fun _ k => XS.iload X13.here hx rfl (hb hby at_138) rfl k) ?_
    show own_Ends _ _ _ _ _ _ _ (T13.setTop (mkF m 140 #[.val (.int p0), .val (.int p1), .val (.long q2), .second, .val (.int (0 : Int32)), .val (.ref b1)] [(.int (0 : Int32)), (.ref b1)]))
    obtain ⟨cl14, Ar14, qq14, S14, M14, H14, G14⟩ := id V13_b1
    have hin14_0 : ¬ ((0 : Int32) < 0 ∨ cl14.slots.size ≤ ((0 : Int32)).toNatClampNeg) := inb_of S14 ⟨by decide, by decide⟩
    have hat14_0 : cl14.slots[((0 : Int32)).toNatClampNeg]? = some (.int z0) := Has.at H14 hin14_0 rfl
    have hin14_1 : ¬ (((0 : Int32) + (1 : Int32)) < 0 ∨ cl14.slots.size ≤ (((0 : Int32) + (1 : Int32))).toNatClampNeg) := inb_of S14 ⟨by decide, by decide⟩
    have hat14_1 : cl14.slots[(((0 : Int32) + (1 : Int32))).toNatClampNeg]? = some (.int z1) := Has.at H14 hin14_1 rfl
    have hin14_2 : ¬ (((0 : Int32) + (2 : Int32)) < 0 ∨ cl14.slots.size ≤ (((0 : Int32) + (2 : Int32))).toNatClampNeg) := inb_of S14 ⟨by decide, by decide⟩
    have hat14_2 : cl14.slots[(((0 : Int32) + (2 : Int32))).toNatClampNeg]? = some (.int z2) := Has.at H14 hin14_2 rfl
    have hin14_3 : ¬ (((0 : Int32) + (3 : Int32)) < 0 ∨ cl14.slots.size ≤ (((0 : Int32) + (3 : Int32))).toNatClampNeg) := inb_of S14 ⟨by decide, by decide⟩
    have hat14_3 : cl14.slots[(((0 : Int32) + (3 : Int32))).toNatClampNeg]? = some (.int z3) := Has.at H14 hin14_3 rfl
    obtain ⟨_, _, ⟨T15, L15, k15, n15⟩, -, X15, ⟨Lc15, hQ15, l15, y15, z15⟩, st15⟩ := Jvm.LawKit.callS X13 hx (y := (⟨"com/example/derivant/derivant/cli/WireInput", "integer", "([BI)I"⟩ : MethodName)) hown (mvT hZ (hw _ (List.mem_of_getElem? (i := 2) rfl))) (mvT hZ (hw _ (List.mem_of_getElem? (i := 3) rfl))) (mvT hZ (hw _ (List.mem_of_getElem? (i := 4) rfl))) (mvT hZ (hw _ (List.mem_of_getElem? (i := 5) rfl))) (by decide) (backOf (W := 0) (own_rm1 l Z a0 hw [] b1 (0 : Int32) cl14 z0 z1 z2 z3 h13 n0 Z13 Ar14 hin14_0 hat14_0 hin14_1 hat14_1 hin14_2 hat14_2 hin14_3 hat14_3) hZ (hw _ (List.mem_of_getElem? (i := 5) rfl)) (hw _ (List.mem_of_getElem? (i := 4) rfl)) (by decide) (by decide)) (g := (mkF m 140 #[.val (.int p0), .val (.int p1), .val (.long q2), .second, .val (.int (0 : Int32)), .val (.ref b1)] [(.int (0 : Int32)), (.ref b1)])) rfl (by rw [hml]; rfl) (argsL := [(.ref b1), (.int (0 : Int32))]) (rest := []) (lenOf own_pd0 rfl) rfl (by show 2 * 0 + _ ≤ _; exact Nat.le_of_eq rfl) (hb hby at_140) (fun _ _ => ⟨rfl, e13, (by decide : 1 + 0 ≤ _), (by decide : 8 + 0 ≤ _)⟩)
    dsimp only [Pt.U, Pt.locs, Pt.cells, Pt.slots] at X15 l15 y15 z15 st15 hQ15
    subst l15 y15 z15
    obtain ⟨rfl, Nq15, e15⟩ := hQ15
    have N15 := Fr.app N13 Nq15
    refine own_step (fun _ k => st15 _ k) ?_
    show own_Ends _ _ _ _ _ _ _ (T15.setTop (mkF m 143 #[.val (.int p0), .val (.int p1), .val (.long q2), .second, .val (.int (0 : Int32)), .val (.ref b1)] [(.int (own_int z0 z1 z2 z3))]))
    refine own_step (fun _ k => XS.iloadN X15.here hx rfl (hb hby at_143) rfl k) ?_
    show own_Ends _ _ _ _ _ _ _ (T15.setTop (mkF m 144 #[.val (.int p0), .val (.int p1), .val (.long q2), .second, .val (.int (0 : Int32)), .val (.ref b1)] [(.int p0), (.int (own_int z0 z1 z2 z3))]))
    refine own_step (fun _ k => XS.icmpNo X15.here hx rfl (hb hby at_144) rfl (teq (own_whole hvz0 hvz1 hvz2 hvz3)).2 k) ?_
    show own_Ends _ _ _ _ _ _ _ (T15.setTop (mkF m 147 #[.val (.int p0), .val (.int p1), .val (.long q2), .second, .val (.int (0 : Int32)), .val (.ref b1)] []))
    refine own_step (fun _ k => XS.iconst X15.here hx rfl (hb hby at_147) k) ?_
    show own_Ends _ _ _ _ _ _ _ (T15.setTop (mkF m 148 #[.val (.int p0), .val (.int p1), .val (.long q2), .second, .val (.int (0 : Int32)), .val (.ref b1)] [(.int (1 : Int32))]))
    refine own_step (fun _ k => XS.goto X15.here hx rfl (pc0 := 148) (pc' := 152) rfl (hb hby at_148) (by decide) (by decide) k) ?_
    show own_Ends _ _ _ _ _ _ _ (T15.setTop (mkF m 152 #[.val (.int p0), .val (.int p1), .val (.long q2), .second, .val (.int (0 : Int32)), .val (.ref b1)] [(.int (1 : Int32))]))
    refine own_ret X15 (BodyLoose.notSynchronized Bd) (v := (some (.int (1 : Int32)))) (fun h => by rw [Bd.returns] at h; cases h) ?_ (by decide) (by decide) (fun fs hr => X15.ireturnOut hx Bd.returns rfl (by simp) (hb hby at_152) hr)
    show own_Q0 Z p0 p1 q2  h0 n0 (some (.int (1 : Int32))) T15.heap _
    rw [e15]
    exact ⟨rfl, N15⟩
  · show own_Ends _ _ _ _ _ _ _ (T9.setTop (mkF m 93 #[.val (.int p0), .val (.int p1), .val (.long q2), .second, .val (.int (1 : Int32)), .val (.ref b1)] []))
    refine own_step (fun _ k => XS.aload X9.here hx rfl (hb hby at_93) rfl rfl k) ?_
    show own_Ends _ _ _ _ _ _ _ (T9.setTop (mkF m 95 #[.val (.int p0), .val (.int p1), .val (.long q2), .second, .val (.int (1 : Int32)), .val (.ref b1)] [(.ref b1)]))
    refine own_step (fun _ k => XS.iload X9.here hx rfl (hb hby at_95) rfl k) ?_
    show own_Ends _ _ _ _ _ _ _ (T9.setTop (mkF m 97 #[.val (.int p0), .val (.int p1), .val (.long q2), .second, .val (.int (1 : Int32)), .val (.ref b1)] [(.int (1 : Int32)), (.ref b1)]))
    refine own_step (fun _ k => XS.iloadN X9.here hx rfl (hb hby at_97) rfl k) ?_
    show own_Ends _ _ _ _ _ _ _ (T9.setTop (mkF m 98 #[.val (.int p0), .val (.int p1), .val (.long q2), .second, .val (.int (1 : Int32)), .val (.ref b1)] [(.int p0), (.int (1 : Int32)), (.ref b1)]))
    refine own_step (fun _ k => XS.bipush X9.here hx rfl (hb hby at_98) k) ?_
    show own_Ends _ _ _ _ _ _ _ (T9.setTop (mkF m 100 #[.val (.int p0), .val (.int p1), .val (.long q2), .second, .val (.int (1 : Int32)), .val (.ref b1)] [(.int (24 : Int32)), (.int p0), (.int (1 : Int32)), (.ref b1)]))
    refine own_step (fun _ k => XT.iushr X9.here hx rfl (hb hby at_100) rfl k) ?_
    show own_Ends _ _ _ _ _ _ _ (T9.setTop (mkF m 101 #[.val (.int p0), .val (.int p1), .val (.long q2), .second, .val (.int (1 : Int32)), .val (.ref b1)] [(.int (XT.ushr p0 (24 : Int32))), (.int (1 : Int32)), (.ref b1)]))
    refine own_step (fun _ k => XS.i2b X9.here hx rfl (hb hby at_101) rfl k) ?_
    show own_Ends _ _ _ _ _ _ _ (T9.setTop (mkF m 102 #[.val (.int p0), .val (.int p1), .val (.long q2), .second, .val (.int (1 : Int32)), .val (.ref b1)] [(.int (((XT.ushr p0 (24 : Int32))).toInt8.toInt32)), (.int (1 : Int32)), (.ref b1)]))
    have nbz0 := own_nb ((XT.ushr p0 (24 : Int32)))
    generalize hvz0 : (((XT.ushr p0 (24 : Int32))).toInt8.toInt32) = z0 at nbz0 ⊢
    obtain ⟨cl16, Ar16, qq16, S16, M16, H16, G16⟩ := id V9_b1
    have hin16 : ¬ ((1 : Int32) < 0 ∨ cl16.slots.size ≤ ((1 : Int32)).toNatClampNeg) := inb_of S16 ⟨by decide, by decide⟩
    obtain ⟨T16, h16, X16, e16, W16, st16⟩ := stB X9 hx hZ e9 Ar16 (j := (1 : Int32)) hin16 (g := (mkF m 102 #[.val (.int p0), .val (.int p1), .val (.long q2), .second, .val (.int (1 : Int32)), .val (.ref b1)] [(.int z0), (.int (1 : Int32)), (.ref b1)])) rfl rfl (hb hby at_102)
    have N16 := Fr.snoc X16 N9 gn1
    rw [nbz0] at W16
    have V16_b1 : Arv Z h16 b1 k1 .byte (8 : Int32) [(.int y0), (.int z0), (.int y2), (.int y3), (.int y4), (.int y5), (.int y6), (.int y7)] (.int (0 : Int32)) := Arv.set Ar16 qq16 S16 M16 H16 G16 (by have := fits_nar_byte z0; rw [show (z0).toInt8.toInt32 = z0 from nbz0] at this; exact this) W16 1 (by decide) (by simp)
    have Z16 := Nat.le_trans Z9 (Keep.of_wr W16).1
    refine own_step (fun _ k => st16 _ k) ?_
    show own_Ends _ _ _ _ _ _ _ (T16.setTop (mkF m 103 #[.val (.int p0), .val (.int p1), .val (.long q2), .second, .val (.int (1 : Int32)), .val (.ref b1)] []))
    refine own_step (fun _ k => XS.aload X16.here hx rfl (hb hby at_103) rfl rfl k) ?_
    show own_Ends _ _ _ _ _ _ _ (T16.setTop (mkF m 105 #[.val (.int p0), .val (.int p1), .val (.long q2), .second, .val (.int (1 : Int32)), .val (.ref b1)] [(.ref b1)]))
    refine own_step (fun _ k => XS.iload X16.here hx rfl (hb hby at_105) rfl k) ?_
    show own_Ends _ _ _ _ _ _ _ (T16.setTop (mkF m 107 #[.val (.int p0), .val (.int p1), .val (.long q2), .second, .val (.int (1 : Int32)), .val (.ref b1)] [(.int (1 : Int32)), (.ref b1)]))
    refine own_step (fun _ k => XS.iconst X16.here hx rfl (hb hby at_107) k) ?_
    show own_Ends _ _ _ _ _ _ _ (T16.setTop (mkF m 108 #[.val (.int p0), .val (.int p1), .val (.long q2), .second, .val (.int (1 : Int32)), .val (.ref b1)] [(.int (1 : Int32)), (.int (1 : Int32)), (.ref b1)]))
    refine own_step (fun _ k => XS.iadd X16.here hx rfl (hb hby at_108) rfl k) ?_
    show own_Ends _ _ _ _ _ _ _ (T16.setTop (mkF m 109 #[.val (.int p0), .val (.int p1), .val (.long q2), .second, .val (.int (1 : Int32)), .val (.ref b1)] [(.int ((1 : Int32) + (1 : Int32))), (.ref b1)]))
    refine own_step (fun _ k => XS.iloadN X16.here hx rfl (hb hby at_109) rfl k) ?_
    show own_Ends _ _ _ _ _ _ _ (T16.setTop (mkF m 110 #[.val (.int p0), .val (.int p1), .val (.long q2), .second, .val (.int (1 : Int32)), .val (.ref b1)] [(.int p0), (.int ((1 : Int32) + (1 : Int32))), (.ref b1)]))
    refine own_step (fun _ k => XS.bipush X16.here hx rfl (hb hby at_110) k) ?_
    show own_Ends _ _ _ _ _ _ _ (T16.setTop (mkF m 112 #[.val (.int p0), .val (.int p1), .val (.long q2), .second, .val (.int (1 : Int32)), .val (.ref b1)] [(.int (16 : Int32)), (.int p0), (.int ((1 : Int32) + (1 : Int32))), (.ref b1)]))
    refine own_step (fun _ k => XT.iushr X16.here hx rfl (hb hby at_112) rfl k) ?_
    show own_Ends _ _ _ _ _ _ _ (T16.setTop (mkF m 113 #[.val (.int p0), .val (.int p1), .val (.long q2), .second, .val (.int (1 : Int32)), .val (.ref b1)] [(.int (XT.ushr p0 (16 : Int32))), (.int ((1 : Int32) + (1 : Int32))), (.ref b1)]))
    refine own_step (fun _ k => XS.i2b X16.here hx rfl (hb hby at_113) rfl k) ?_
    show own_Ends _ _ _ _ _ _ _ (T16.setTop (mkF m 114 #[.val (.int p0), .val (.int p1), .val (.long q2), .second, .val (.int (1 : Int32)), .val (.ref b1)] [(.int (((XT.ushr p0 (16 : Int32))).toInt8.toInt32)), (.int ((1 : Int32) + (1 : Int32))), (.ref b1)]))
    have nbz1 := own_nb ((XT.ushr p0 (16 : Int32)))
    generalize hvz1 : (((XT.ushr p0 (16 : Int32))).toInt8.toInt32) = z1 at nbz1 ⊢
    obtain ⟨cl17, Ar17, qq17, S17, M17, H17, G17⟩ := id V16_b1
    have hin17 : ¬ (((1 : Int32) + (1 : Int32)) < 0 ∨ cl17.slots.size ≤ (((1 : Int32) + (1 : Int32))).toNatClampNeg) := inb_of S17 ⟨by decide, by decide⟩
    obtain ⟨T17, h17, X17, e17, W17, st17⟩ := stB X16 hx hZ e16 Ar17 (j := ((1 : Int32) + (1 : Int32))) hin17 (g := (mkF m 114 #[.val (.int p0), .val (.int p1), .val (.long q2), .second, .val (.int (1 : Int32)), .val (.ref b1)] [(.int z1), (.int ((1 : Int32) + (1 : Int32))), (.ref b1)])) rfl rfl (hb hby at_114)
    have N17 := Fr.snoc X17 N16 gn1
    rw [nbz1] at W17
    have V17_b1 : Arv Z h17 b1 k1 .byte (8 : Int32) [(.int y0), (.int z0), (.int z1), (.int y3), (.int y4), (.int y5), (.int y6), (.int y7)] (.int (0 : Int32)) := Arv.set Ar17 qq17 S17 M17 H17 G17 (by have := fits_nar_byte z1; rw [show (z1).toInt8.toInt32 = z1 from nbz1] at this; exact this) W17 2 (by decide) (by simp)
    have Z17 := Nat.le_trans Z16 (Keep.of_wr W17).1
    refine own_step (fun _ k => st17 _ k) ?_
    show own_Ends _ _ _ _ _ _ _ (T17.setTop (mkF m 115 #[.val (.int p0), .val (.int p1), .val (.long q2), .second, .val (.int (1 : Int32)), .val (.ref b1)] []))
    refine own_step (fun _ k => XS.aload X17.here hx rfl (hb hby at_115) rfl rfl k) ?_
    show own_Ends _ _ _ _ _ _ _ (T17.setTop (mkF m 117 #[.val (.int p0), .val (.int p1), .val (.long q2), .second, .val (.int (1 : Int32)), .val (.ref b1)] [(.ref b1)]))
    refine own_step (fun _ k => XS.iload X17.here hx rfl (hb hby at_117) rfl k) ?_
    show own_Ends _ _ _ _ _ _ _ (T17.setTop (mkF m 119 #[.val (.int p0), .val (.int p1), .val (.long q2), .second, .val (.int (1 : Int32)), .val (.ref b1)] [(.int (1 : Int32)), (.ref b1)]))
    refine own_step (fun _ k => XS.iconst X17.here hx rfl (hb hby at_119) k) ?_
    show own_Ends _ _ _ _ _ _ _ (T17.setTop (mkF m 120 #[.val (.int p0), .val (.int p1), .val (.long q2), .second, .val (.int (1 : Int32)), .val (.ref b1)] [(.int (2 : Int32)), (.int (1 : Int32)), (.ref b1)]))
    refine own_step (fun _ k => XS.iadd X17.here hx rfl (hb hby at_120) rfl k) ?_
    show own_Ends _ _ _ _ _ _ _ (T17.setTop (mkF m 121 #[.val (.int p0), .val (.int p1), .val (.long q2), .second, .val (.int (1 : Int32)), .val (.ref b1)] [(.int ((1 : Int32) + (2 : Int32))), (.ref b1)]))
    refine own_step (fun _ k => XS.iloadN X17.here hx rfl (hb hby at_121) rfl k) ?_
    show own_Ends _ _ _ _ _ _ _ (T17.setTop (mkF m 122 #[.val (.int p0), .val (.int p1), .val (.long q2), .second, .val (.int (1 : Int32)), .val (.ref b1)] [(.int p0), (.int ((1 : Int32) + (2 : Int32))), (.ref b1)]))
    refine own_step (fun _ k => XS.bipush X17.here hx rfl (hb hby at_122) k) ?_
    show own_Ends _ _ _ _ _ _ _ (T17.setTop (mkF m 124 #[.val (.int p0), .val (.int p1), .val (.long q2), .second, .val (.int (1 : Int32)), .val (.ref b1)] [(.int (8 : Int32)), (.int p0), (.int ((1 : Int32) + (2 : Int32))), (.ref b1)]))
    refine own_step (fun _ k => XT.iushr X17.here hx rfl (hb hby at_124) rfl k) ?_
    show own_Ends _ _ _ _ _ _ _ (T17.setTop (mkF m 125 #[.val (.int p0), .val (.int p1), .val (.long q2), .second, .val (.int (1 : Int32)), .val (.ref b1)] [(.int (XT.ushr p0 (8 : Int32))), (.int ((1 : Int32) + (2 : Int32))), (.ref b1)]))
    refine own_step (fun _ k => XS.i2b X17.here hx rfl (hb hby at_125) rfl k) ?_
    show own_Ends _ _ _ _ _ _ _ (T17.setTop (mkF m 126 #[.val (.int p0), .val (.int p1), .val (.long q2), .second, .val (.int (1 : Int32)), .val (.ref b1)] [(.int (((XT.ushr p0 (8 : Int32))).toInt8.toInt32)), (.int ((1 : Int32) + (2 : Int32))), (.ref b1)]))
    have nbz2 := own_nb ((XT.ushr p0 (8 : Int32)))
    generalize hvz2 : (((XT.ushr p0 (8 : Int32))).toInt8.toInt32) = z2 at nbz2 ⊢
    obtain ⟨cl18, Ar18, qq18, S18, M18, H18, G18⟩ := id V17_b1
    have hin18 : ¬ (((1 : Int32) + (2 : Int32)) < 0 ∨ cl18.slots.size ≤ (((1 : Int32) + (2 : Int32))).toNatClampNeg) := inb_of S18 ⟨by decide, by decide⟩
    obtain ⟨T18, h18, X18, e18, W18, st18⟩ := stB X17 hx hZ e17 Ar18 (j := ((1 : Int32) + (2 : Int32))) hin18 (g := (mkF m 126 #[.val (.int p0), .val (.int p1), .val (.long q2), .second, .val (.int (1 : Int32)), .val (.ref b1)] [(.int z2), (.int ((1 : Int32) + (2 : Int32))), (.ref b1)])) rfl rfl (hb hby at_126)
    have N18 := Fr.snoc X18 N17 gn1
    rw [nbz2] at W18
    have V18_b1 : Arv Z h18 b1 k1 .byte (8 : Int32) [(.int y0), (.int z0), (.int z1), (.int z2), (.int y4), (.int y5), (.int y6), (.int y7)] (.int (0 : Int32)) := Arv.set Ar18 qq18 S18 M18 H18 G18 (by have := fits_nar_byte z2; rw [show (z2).toInt8.toInt32 = z2 from nbz2] at this; exact this) W18 3 (by decide) (by simp)
    have Z18 := Nat.le_trans Z17 (Keep.of_wr W18).1
    refine own_step (fun _ k => st18 _ k) ?_
    show own_Ends _ _ _ _ _ _ _ (T18.setTop (mkF m 127 #[.val (.int p0), .val (.int p1), .val (.long q2), .second, .val (.int (1 : Int32)), .val (.ref b1)] []))
    refine own_step (fun _ k => XS.aload X18.here hx rfl (hb hby at_127) rfl rfl k) ?_
    show own_Ends _ _ _ _ _ _ _ (T18.setTop (mkF m 129 #[.val (.int p0), .val (.int p1), .val (.long q2), .second, .val (.int (1 : Int32)), .val (.ref b1)] [(.ref b1)]))
    refine own_step (fun _ k => XS.iload X18.here hx rfl (hb hby at_129) rfl k) ?_
    show own_Ends _ _ _ _ _ _ _ (T18.setTop (mkF m 131 #[.val (.int p0), .val (.int p1), .val (.long q2), .second, .val (.int (1 : Int32)), .val (.ref b1)] [(.int (1 : Int32)), (.ref b1)]))
    refine own_step (fun _ k => XS.iconst X18.here hx rfl (hb hby at_131) k) ?_
    show own_Ends _ _ _ _ _ _ _ (T18.setTop (mkF m 132 #[.val (.int p0), .val (.int p1), .val (.long q2), .second, .val (.int (1 : Int32)), .val (.ref b1)] [(.int (3 : Int32)), (.int (1 : Int32)), (.ref b1)]))
    refine own_step (fun _ k => XS.iadd X18.here hx rfl (hb hby at_132) rfl k) ?_
    show own_Ends _ _ _ _ _ _ _ (T18.setTop (mkF m 133 #[.val (.int p0), .val (.int p1), .val (.long q2), .second, .val (.int (1 : Int32)), .val (.ref b1)] [(.int ((1 : Int32) + (3 : Int32))), (.ref b1)]))
    refine own_step (fun _ k => XS.iloadN X18.here hx rfl (hb hby at_133) rfl k) ?_
    show own_Ends _ _ _ _ _ _ _ (T18.setTop (mkF m 134 #[.val (.int p0), .val (.int p1), .val (.long q2), .second, .val (.int (1 : Int32)), .val (.ref b1)] [(.int p0), (.int ((1 : Int32) + (3 : Int32))), (.ref b1)]))
    refine own_step (fun _ k => XS.i2b X18.here hx rfl (hb hby at_134) rfl k) ?_
    show own_Ends _ _ _ _ _ _ _ (T18.setTop (mkF m 135 #[.val (.int p0), .val (.int p1), .val (.long q2), .second, .val (.int (1 : Int32)), .val (.ref b1)] [(.int ((p0).toInt8.toInt32)), (.int ((1 : Int32) + (3 : Int32))), (.ref b1)]))
    have nbz3 := own_nb (p0)
    generalize hvz3 : ((p0).toInt8.toInt32) = z3 at nbz3 ⊢
    obtain ⟨cl19, Ar19, qq19, S19, M19, H19, G19⟩ := id V18_b1
    have hin19 : ¬ (((1 : Int32) + (3 : Int32)) < 0 ∨ cl19.slots.size ≤ (((1 : Int32) + (3 : Int32))).toNatClampNeg) := inb_of S19 ⟨by decide, by decide⟩
    obtain ⟨T19, h19, X19, e19, W19, st19⟩ := stB X18 hx hZ e18 Ar19 (j := ((1 : Int32) + (3 : Int32))) hin19 (g := (mkF m 135 #[.val (.int p0), .val (.int p1), .val (.long q2), .second, .val (.int (1 : Int32)), .val (.ref b1)] [(.int z3), (.int ((1 : Int32) + (3 : Int32))), (.ref b1)])) rfl rfl (hb hby at_135)
    have N19 := Fr.snoc X19 N18 gn1
    rw [nbz3] at W19
    have V19_b1 : Arv Z h19 b1 k1 .byte (8 : Int32) [(.int y0), (.int z0), (.int z1), (.int z2), (.int z3), (.int y5), (.int y6), (.int y7)] (.int (0 : Int32)) := Arv.set Ar19 qq19 S19 M19 H19 G19 (by have := fits_nar_byte z3; rw [show (z3).toInt8.toInt32 = z3 from nbz3] at this; exact this) W19 4 (by decide) (by simp)
    have Z19 := Nat.le_trans Z18 (Keep.of_wr W19).1
    refine own_step (fun _ k => st19 _ k) ?_
    show own_Ends _ _ _ _ _ _ _ (T19.setTop (mkF m 136 #[.val (.int p0), .val (.int p1), .val (.long q2), .second, .val (.int (1 : Int32)), .val (.ref b1)] []))
    refine own_step (fun _ k => XS.aload X19.here hx rfl (hb hby at_136) rfl rfl k) ?_
    show own_Ends _ _ _ _ _ _ _ (T19.setTop (mkF m 138 #[.val (.int p0), .val (.int p1), .val (.long q2), .second, .val (.int (1 : Int32)), .val (.ref b1)] [(.ref b1)]))
    refine own_step (fun _ k => XS.iload X19.here hx rfl (hb hby at_138) rfl k) ?_
    show own_Ends _ _ _ _ _ _ _ (T19.setTop (mkF m 140 #[.val (.int p0), .val (.int p1), .val (.long q2), .second, .val (.int (1 : Int32)), .val (.ref b1)] [(.int (1 : Int32)), (.ref b1)]))
    obtain ⟨cl20, Ar20, qq20, S20, M20, H20, G20⟩ := id V19_b1
    have hin20_0 : ¬ ((1 : Int32) < 0 ∨ cl20.slots.size ≤ ((1 : Int32)).toNatClampNeg) := inb_of S20 ⟨by decide, by decide⟩
    have hat20_0 : cl20.slots[((1 : Int32)).toNatClampNeg]? = some (.int z0) := Has.at H20 hin20_0 rfl
    have hin20_1 : ¬ (((1 : Int32) + (1 : Int32)) < 0 ∨ cl20.slots.size ≤ (((1 : Int32) + (1 : Int32))).toNatClampNeg) := inb_of S20 ⟨by decide, by decide⟩
    have hat20_1 : cl20.slots[(((1 : Int32) + (1 : Int32))).toNatClampNeg]? = some (.int z1) := Has.at H20 hin20_1 rfl
    have hin20_2 : ¬ (((1 : Int32) + (2 : Int32)) < 0 ∨ cl20.slots.size ≤ (((1 : Int32) + (2 : Int32))).toNatClampNeg) := inb_of S20 ⟨by decide, by decide⟩
    have hat20_2 : cl20.slots[(((1 : Int32) + (2 : Int32))).toNatClampNeg]? = some (.int z2) := Has.at H20 hin20_2 rfl
    have hin20_3 : ¬ (((1 : Int32) + (3 : Int32)) < 0 ∨ cl20.slots.size ≤ (((1 : Int32) + (3 : Int32))).toNatClampNeg) := inb_of S20 ⟨by decide, by decide⟩
    have hat20_3 : cl20.slots[(((1 : Int32) + (3 : Int32))).toNatClampNeg]? = some (.int z3) := Has.at H20 hin20_3 rfl
    obtain ⟨_, _, ⟨T21, L21, k21, n21⟩, -, X21, ⟨Lc21, hQ21, l21, y21, z21⟩, st21⟩ := Jvm.LawKit.callS X19 hx (y := (⟨"com/example/derivant/derivant/cli/WireInput", "integer", "([BI)I"⟩ : MethodName)) hown (mvT hZ (hw _ (List.mem_of_getElem? (i := 2) rfl))) (mvT hZ (hw _ (List.mem_of_getElem? (i := 3) rfl))) (mvT hZ (hw _ (List.mem_of_getElem? (i := 4) rfl))) (mvT hZ (hw _ (List.mem_of_getElem? (i := 5) rfl))) (by decide) (backOf (W := 0) (own_rm1 l Z a0 hw [] b1 (1 : Int32) cl20 z0 z1 z2 z3 h19 n0 Z19 Ar20 hin20_0 hat20_0 hin20_1 hat20_1 hin20_2 hat20_2 hin20_3 hat20_3) hZ (hw _ (List.mem_of_getElem? (i := 5) rfl)) (hw _ (List.mem_of_getElem? (i := 4) rfl)) (by decide) (by decide)) (g := (mkF m 140 #[.val (.int p0), .val (.int p1), .val (.long q2), .second, .val (.int (1 : Int32)), .val (.ref b1)] [(.int (1 : Int32)), (.ref b1)])) rfl (by rw [hml]; rfl) (argsL := [(.ref b1), (.int (1 : Int32))]) (rest := []) (lenOf own_pd0 rfl) rfl (by show 2 * 0 + _ ≤ _; exact Nat.le_of_eq rfl) (hb hby at_140) (fun _ _ => ⟨rfl, e19, (by decide : 1 + 0 ≤ _), (by decide : 8 + 0 ≤ _)⟩)
    dsimp only [Pt.U, Pt.locs, Pt.cells, Pt.slots] at X21 l21 y21 z21 st21 hQ21
    subst l21 y21 z21
    obtain ⟨rfl, Nq21, e21⟩ := hQ21
    have N21 := Fr.app N19 Nq21
    refine own_step (fun _ k => st21 _ k) ?_
    show own_Ends _ _ _ _ _ _ _ (T21.setTop (mkF m 143 #[.val (.int p0), .val (.int p1), .val (.long q2), .second, .val (.int (1 : Int32)), .val (.ref b1)] [(.int (own_int z0 z1 z2 z3))]))
    refine own_step (fun _ k => XS.iloadN X21.here hx rfl (hb hby at_143) rfl k) ?_
    show own_Ends _ _ _ _ _ _ _ (T21.setTop (mkF m 144 #[.val (.int p0), .val (.int p1), .val (.long q2), .second, .val (.int (1 : Int32)), .val (.ref b1)] [(.int p0), (.int (own_int z0 z1 z2 z3))]))
    refine own_step (fun _ k => XS.icmpNo X21.here hx rfl (hb hby at_144) rfl (teq (own_whole hvz0 hvz1 hvz2 hvz3)).2 k) ?_
    show own_Ends _ _ _ _ _ _ _ (T21.setTop (mkF m 147 #[.val (.int p0), .val (.int p1), .val (.long q2), .second, .val (.int (1 : Int32)), .val (.ref b1)] []))
    refine own_step (fun _ k => XS.iconst X21.here hx rfl (hb hby at_147) k) ?_
    show own_Ends _ _ _ _ _ _ _ (T21.setTop (mkF m 148 #[.val (.int p0), .val (.int p1), .val (.long q2), .second, .val (.int (1 : Int32)), .val (.ref b1)] [(.int (1 : Int32))]))
    refine own_step (fun _ k => XS.goto X21.here hx rfl (pc0 := 148) (pc' := 152) rfl (hb hby at_148) (by decide) (by decide) k) ?_
    show own_Ends _ _ _ _ _ _ _ (T21.setTop (mkF m 152 #[.val (.int p0), .val (.int p1), .val (.long q2), .second, .val (.int (1 : Int32)), .val (.ref b1)] [(.int (1 : Int32))]))
    refine own_ret X21 (BodyLoose.notSynchronized Bd) (v := (some (.int (1 : Int32)))) (fun h => by rw [Bd.returns] at h; cases h) ?_ (by decide) (by decide) (fun fs hr => X21.ireturnOut hx Bd.returns rfl (by simp) (hb hby at_152) hr)
    show own_Q0 Z p0 p1 q2  h0 n0 (some (.int (1 : Int32))) T21.heap _
    rw [e21]
    exact ⟨rfl, N21⟩
  · show own_Ends _ _ _ _ _ _ _ (T9.setTop (mkF m 93 #[.val (.int p0), .val (.int p1), .val (.long q2), .second, .val (.int (2 : Int32)), .val (.ref b1)] []))
    refine own_step (fun _ k => XS.aload X9.here hx rfl (hb hby at_93) rfl rfl k) ?_
    show own_Ends _ _ _ _ _ _ _ (T9.setTop (mkF m 95 #[.val (.int p0), .val (.int p1), .val (.long q2), .second, .val (.int (2 : Int32)), .val (.ref b1)] [(.ref b1)]))
    refine own_step (fun _ k => XS.iload X9.here hx rfl (hb hby at_95) rfl k) ?_
    show own_Ends _ _ _ _ _ _ _ (T9.setTop (mkF m 97 #[.val (.int p0), .val (.int p1), .val (.long q2), .second, .val (.int (2 : Int32)), .val (.ref b1)] [(.int (2 : Int32)), (.ref b1)]))
    refine own_step (fun _ k => XS.iloadN X9.here hx rfl (hb hby at_97) rfl k) ?_
    show own_Ends _ _ _ _ _ _ _ (T9.setTop (mkF m 98 #[.val (.int p0), .val (.int p1), .val (.long q2), .second, .val (.int (2 : Int32)), .val (.ref b1)] [(.int p0), (.int (2 : Int32)), (.ref b1)]))
    refine own_step (fun _ k => XS.bipush X9.here hx rfl (hb hby at_98) k) ?_
    show own_Ends _ _ _ _ _ _ _ (T9.setTop (mkF m 100 #[.val (.int p0), .val (.int p1), .val (.long q2), .second, .val (.int (2 : Int32)), .val (.ref b1)] [(.int (24 : Int32)), (.int p0), (.int (2 : Int32)), (.ref b1)]))
    refine own_step (fun _ k => XT.iushr X9.here hx rfl (hb hby at_100) rfl k) ?_
    show own_Ends _ _ _ _ _ _ _ (T9.setTop (mkF m 101 #[.val (.int p0), .val (.int p1), .val (.long q2), .second, .val (.int (2 : Int32)), .val (.ref b1)] [(.int (XT.ushr p0 (24 : Int32))), (.int (2 : Int32)), (.ref b1)]))
    refine own_step (fun _ k => XS.i2b X9.here hx rfl (hb hby at_101) rfl k) ?_
    show own_Ends _ _ _ _ _ _ _ (T9.setTop (mkF m 102 #[.val (.int p0), .val (.int p1), .val (.long q2), .second, .val (.int (2 : Int32)), .val (.ref b1)] [(.int (((XT.ushr p0 (24 : Int32))).toInt8.toInt32)), (.int (2 : Int32)), (.ref b1)]))
    have nbz0 := own_nb ((XT.ushr p0 (24 : Int32)))
    generalize hvz0 : (((XT.ushr p0 (24 : Int32))).toInt8.toInt32) = z0 at nbz0 ⊢
    obtain ⟨cl22, Ar22, qq22, S22, M22, H22, G22⟩ := id V9_b1
    have hin22 : ¬ ((2 : Int32) < 0 ∨ cl22.slots.size ≤ ((2 : Int32)).toNatClampNeg) := inb_of S22 ⟨by decide, by decide⟩
    obtain ⟨T22, h22, X22, e22, W22, st22⟩ := stB X9 hx hZ e9 Ar22 (j := (2 : Int32)) hin22 (g := (mkF m 102 #[.val (.int p0), .val (.int p1), .val (.long q2), .second, .val (.int (2 : Int32)), .val (.ref b1)] [(.int z0), (.int (2 : Int32)), (.ref b1)])) rfl rfl (hb hby at_102)
    have N22 := Fr.snoc X22 N9 gn1
    rw [nbz0] at W22
    have V22_b1 : Arv Z h22 b1 k1 .byte (8 : Int32) [(.int y0), (.int y1), (.int z0), (.int y3), (.int y4), (.int y5), (.int y6), (.int y7)] (.int (0 : Int32)) := Arv.set Ar22 qq22 S22 M22 H22 G22 (by have := fits_nar_byte z0; rw [show (z0).toInt8.toInt32 = z0 from nbz0] at this; exact this) W22 2 (by decide) (by simp)
    have Z22 := Nat.le_trans Z9 (Keep.of_wr W22).1
    refine own_step (fun _ k => st22 _ k) ?_
    show own_Ends _ _ _ _ _ _ _ (T22.setTop (mkF m 103 #[.val (.int p0), .val (.int p1), .val (.long q2), .second, .val (.int (2 : Int32)), .val (.ref b1)] []))
    refine own_step (fun _ k => XS.aload X22.here hx rfl (hb hby at_103) rfl rfl k) ?_
    show own_Ends _ _ _ _ _ _ _ (T22.setTop (mkF m 105 #[.val (.int p0), .val (.int p1), .val (.long q2), .second, .val (.int (2 : Int32)), .val (.ref b1)] [(.ref b1)]))
    refine own_step (fun _ k => XS.iload X22.here hx rfl (hb hby at_105) rfl k) ?_
    show own_Ends _ _ _ _ _ _ _ (T22.setTop (mkF m 107 #[.val (.int p0), .val (.int p1), .val (.long q2), .second, .val (.int (2 : Int32)), .val (.ref b1)] [(.int (2 : Int32)), (.ref b1)]))
    refine own_step (fun _ k => XS.iconst X22.here hx rfl (hb hby at_107) k) ?_
    show own_Ends _ _ _ _ _ _ _ (T22.setTop (mkF m 108 #[.val (.int p0), .val (.int p1), .val (.long q2), .second, .val (.int (2 : Int32)), .val (.ref b1)] [(.int (1 : Int32)), (.int (2 : Int32)), (.ref b1)]))
    refine own_step (fun _ k => XS.iadd X22.here hx rfl (hb hby at_108) rfl k) ?_
    show own_Ends _ _ _ _ _ _ _ (T22.setTop (mkF m 109 #[.val (.int p0), .val (.int p1), .val (.long q2), .second, .val (.int (2 : Int32)), .val (.ref b1)] [(.int ((2 : Int32) + (1 : Int32))), (.ref b1)]))
    refine own_step (fun _ k => XS.iloadN X22.here hx rfl (hb hby at_109) rfl k) ?_
    show own_Ends _ _ _ _ _ _ _ (T22.setTop (mkF m 110 #[.val (.int p0), .val (.int p1), .val (.long q2), .second, .val (.int (2 : Int32)), .val (.ref b1)] [(.int p0), (.int ((2 : Int32) + (1 : Int32))), (.ref b1)]))
    refine own_step (fun _ k => XS.bipush X22.here hx rfl (hb hby at_110) k) ?_
    show own_Ends _ _ _ _ _ _ _ (T22.setTop (mkF m 112 #[.val (.int p0), .val (.int p1), .val (.long q2), .second, .val (.int (2 : Int32)), .val (.ref b1)] [(.int (16 : Int32)), (.int p0), (.int ((2 : Int32) + (1 : Int32))), (.ref b1)]))
    refine own_step (fun _ k => XT.iushr X22.here hx rfl (hb hby at_112) rfl k) ?_
    show own_Ends _ _ _ _ _ _ _ (T22.setTop (mkF m 113 #[.val (.int p0), .val (.int p1), .val (.long q2), .second, .val (.int (2 : Int32)), .val (.ref b1)] [(.int (XT.ushr p0 (16 : Int32))), (.int ((2 : Int32) + (1 : Int32))), (.ref b1)]))
    refine own_step (fun _ k => XS.i2b X22.here hx rfl (hb hby at_113) rfl k) ?_
    show own_Ends _ _ _ _ _ _ _ (T22.setTop (mkF m 114 #[.val (.int p0), .val (.int p1), .val (.long q2), .second, .val (.int (2 : Int32)), .val (.ref b1)] [(.int (((XT.ushr p0 (16 : Int32))).toInt8.toInt32)), (.int ((2 : Int32) + (1 : Int32))), (.ref b1)]))
    have nbz1 := own_nb ((XT.ushr p0 (16 : Int32)))
    generalize hvz1 : (((XT.ushr p0 (16 : Int32))).toInt8.toInt32) = z1 at nbz1 ⊢
    obtain ⟨cl23, Ar23, qq23, S23, M23, H23, G23⟩ := id V22_b1
    have hin23 : ¬ (((2 : Int32) + (1 : Int32)) < 0 ∨ cl23.slots.size ≤ (((2 : Int32) + (1 : Int32))).toNatClampNeg) := inb_of S23 ⟨by decide, by decide⟩
    obtain ⟨T23, h23, X23, e23, W23, st23⟩ := stB X22 hx hZ e22 Ar23 (j := ((2 : Int32) + (1 : Int32))) hin23 (g := (mkF m 114 #[.val (.int p0), .val (.int p1), .val (.long q2), .second, .val (.int (2 : Int32)), .val (.ref b1)] [(.int z1), (.int ((2 : Int32) + (1 : Int32))), (.ref b1)])) rfl rfl (hb hby at_114)
    have N23 := Fr.snoc X23 N22 gn1
    rw [nbz1] at W23
    have V23_b1 : Arv Z h23 b1 k1 .byte (8 : Int32) [(.int y0), (.int y1), (.int z0), (.int z1), (.int y4), (.int y5), (.int y6), (.int y7)] (.int (0 : Int32)) := Arv.set Ar23 qq23 S23 M23 H23 G23 (by have := fits_nar_byte z1; rw [show (z1).toInt8.toInt32 = z1 from nbz1] at this; exact this) W23 3 (by decide) (by simp)
    have Z23 := Nat.le_trans Z22 (Keep.of_wr W23).1
    refine own_step (fun _ k => st23 _ k) ?_
    show own_Ends _ _ _ _ _ _ _ (T23.setTop (mkF m 115 #[.val (.int p0), .val (.int p1), .val (.long q2), .second, .val (.int (2 : Int32)), .val (.ref b1)] []))
    refine own_step (fun _ k => XS.aload X23.here hx rfl (hb hby at_115) rfl rfl k) ?_
    show own_Ends _ _ _ _ _ _ _ (T23.setTop (mkF m 117 #[.val (.int p0), .val (.int p1), .val (.long q2), .second, .val (.int (2 : Int32)), .val (.ref b1)] [(.ref b1)]))
    refine own_step (fun _ k => XS.iload X23.here hx rfl (hb hby at_117) rfl k) ?_
    show own_Ends _ _ _ _ _ _ _ (T23.setTop (mkF m 119 #[.val (.int p0), .val (.int p1), .val (.long q2), .second, .val (.int (2 : Int32)), .val (.ref b1)] [(.int (2 : Int32)), (.ref b1)]))
    refine own_step (fun _ k => XS.iconst X23.here hx rfl (hb hby at_119) k) ?_
    show own_Ends _ _ _ _ _ _ _ (T23.setTop (mkF m 120 #[.val (.int p0), .val (.int p1), .val (.long q2), .second, .val (.int (2 : Int32)), .val (.ref b1)] [(.int (2 : Int32)), (.int (2 : Int32)), (.ref b1)]))
    refine own_step (fun _ k => XS.iadd X23.here hx rfl (hb hby at_120) rfl k) ?_
    show own_Ends _ _ _ _ _ _ _ (T23.setTop (mkF m 121 #[.val (.int p0), .val (.int p1), .val (.long q2), .second, .val (.int (2 : Int32)), .val (.ref b1)] [(.int ((2 : Int32) + (2 : Int32))), (.ref b1)]))
    refine own_step (fun _ k => XS.iloadN X23.here hx rfl (hb hby at_121) rfl k) ?_
    show own_Ends _ _ _ _ _ _ _ (T23.setTop (mkF m 122 #[.val (.int p0), .val (.int p1), .val (.long q2), .second, .val (.int (2 : Int32)), .val (.ref b1)] [(.int p0), (.int ((2 : Int32) + (2 : Int32))), (.ref b1)]))
    refine own_step (fun _ k => XS.bipush X23.here hx rfl (hb hby at_122) k) ?_
    show own_Ends _ _ _ _ _ _ _ (T23.setTop (mkF m 124 #[.val (.int p0), .val (.int p1), .val (.long q2), .second, .val (.int (2 : Int32)), .val (.ref b1)] [(.int (8 : Int32)), (.int p0), (.int ((2 : Int32) + (2 : Int32))), (.ref b1)]))
    refine own_step (fun _ k => XT.iushr X23.here hx rfl (hb hby at_124) rfl k) ?_
    show own_Ends _ _ _ _ _ _ _ (T23.setTop (mkF m 125 #[.val (.int p0), .val (.int p1), .val (.long q2), .second, .val (.int (2 : Int32)), .val (.ref b1)] [(.int (XT.ushr p0 (8 : Int32))), (.int ((2 : Int32) + (2 : Int32))), (.ref b1)]))
    refine own_step (fun _ k => XS.i2b X23.here hx rfl (hb hby at_125) rfl k) ?_
    show own_Ends _ _ _ _ _ _ _ (T23.setTop (mkF m 126 #[.val (.int p0), .val (.int p1), .val (.long q2), .second, .val (.int (2 : Int32)), .val (.ref b1)] [(.int (((XT.ushr p0 (8 : Int32))).toInt8.toInt32)), (.int ((2 : Int32) + (2 : Int32))), (.ref b1)]))
    have nbz2 := own_nb ((XT.ushr p0 (8 : Int32)))
    generalize hvz2 : (((XT.ushr p0 (8 : Int32))).toInt8.toInt32) = z2 at nbz2 ⊢
    obtain ⟨cl24, Ar24, qq24, S24, M24, H24, G24⟩ := id V23_b1
    have hin24 : ¬ (((2 : Int32) + (2 : Int32)) < 0 ∨ cl24.slots.size ≤ (((2 : Int32) + (2 : Int32))).toNatClampNeg) := inb_of S24 ⟨by decide, by decide⟩
    obtain ⟨T24, h24, X24, e24, W24, st24⟩ := stB X23 hx hZ e23 Ar24 (j := ((2 : Int32) + (2 : Int32))) hin24 (g := (mkF m 126 #[.val (.int p0), .val (.int p1), .val (.long q2), .second, .val (.int (2 : Int32)), .val (.ref b1)] [(.int z2), (.int ((2 : Int32) + (2 : Int32))), (.ref b1)])) rfl rfl (hb hby at_126)
    have N24 := Fr.snoc X24 N23 gn1
    rw [nbz2] at W24
    have V24_b1 : Arv Z h24 b1 k1 .byte (8 : Int32) [(.int y0), (.int y1), (.int z0), (.int z1), (.int z2), (.int y5), (.int y6), (.int y7)] (.int (0 : Int32)) := Arv.set Ar24 qq24 S24 M24 H24 G24 (by have := fits_nar_byte z2; rw [show (z2).toInt8.toInt32 = z2 from nbz2] at this; exact this) W24 4 (by decide) (by simp)
    have Z24 := Nat.le_trans Z23 (Keep.of_wr W24).1
    refine own_step (fun _ k => st24 _ k) ?_
    show own_Ends _ _ _ _ _ _ _ (T24.setTop (mkF m 127 #[.val (.int p0), .val (.int p1), .val (.long q2), .second, .val (.int (2 : Int32)), .val (.ref b1)] []))
    refine own_step (fun _ k => XS.aload X24.here hx rfl (hb hby at_127) rfl rfl k) ?_
    show own_Ends _ _ _ _ _ _ _ (T24.setTop (mkF m 129 #[.val (.int p0), .val (.int p1), .val (.long q2), .second, .val (.int (2 : Int32)), .val (.ref b1)] [(.ref b1)]))
    refine own_step (fun _ k => XS.iload X24.here hx rfl (hb hby at_129) rfl k) ?_
    show own_Ends _ _ _ _ _ _ _ (T24.setTop (mkF m 131 #[.val (.int p0), .val (.int p1), .val (.long q2), .second, .val (.int (2 : Int32)), .val (.ref b1)] [(.int (2 : Int32)), (.ref b1)]))
    refine own_step (fun _ k => XS.iconst X24.here hx rfl (hb hby at_131) k) ?_
    show own_Ends _ _ _ _ _ _ _ (T24.setTop (mkF m 132 #[.val (.int p0), .val (.int p1), .val (.long q2), .second, .val (.int (2 : Int32)), .val (.ref b1)] [(.int (3 : Int32)), (.int (2 : Int32)), (.ref b1)]))
    refine own_step (fun _ k => XS.iadd X24.here hx rfl (hb hby at_132) rfl k) ?_
    show own_Ends _ _ _ _ _ _ _ (T24.setTop (mkF m 133 #[.val (.int p0), .val (.int p1), .val (.long q2), .second, .val (.int (2 : Int32)), .val (.ref b1)] [(.int ((2 : Int32) + (3 : Int32))), (.ref b1)]))
    refine own_step (fun _ k => XS.iloadN X24.here hx rfl (hb hby at_133) rfl k) ?_
    show own_Ends _ _ _ _ _ _ _ (T24.setTop (mkF m 134 #[.val (.int p0), .val (.int p1), .val (.long q2), .second, .val (.int (2 : Int32)), .val (.ref b1)] [(.int p0), (.int ((2 : Int32) + (3 : Int32))), (.ref b1)]))
    refine own_step (fun _ k => XS.i2b X24.here hx rfl (hb hby at_134) rfl k) ?_
    show own_Ends _ _ _ _ _ _ _ (T24.setTop (mkF m 135 #[.val (.int p0), .val (.int p1), .val (.long q2), .second, .val (.int (2 : Int32)), .val (.ref b1)] [(.int ((p0).toInt8.toInt32)), (.int ((2 : Int32) + (3 : Int32))), (.ref b1)]))
    have nbz3 := own_nb (p0)
    generalize hvz3 : ((p0).toInt8.toInt32) = z3 at nbz3 ⊢
    obtain ⟨cl25, Ar25, qq25, S25, M25, H25, G25⟩ := id V24_b1
    have hin25 : ¬ (((2 : Int32) + (3 : Int32)) < 0 ∨ cl25.slots.size ≤ (((2 : Int32) + (3 : Int32))).toNatClampNeg) := inb_of S25 ⟨by decide, by decide⟩
    obtain ⟨T25, h25, X25, e25, W25, st25⟩ := stB X24 hx hZ e24 Ar25 (j := ((2 : Int32) + (3 : Int32))) hin25 (g := (mkF m 135 #[.val (.int p0), .val (.int p1), .val (.long q2), .second, .val (.int (2 : Int32)), .val (.ref b1)] [(.int z3), (.int ((2 : Int32) + (3 : Int32))), (.ref b1)])) rfl rfl (hb hby at_135)
    have N25 := Fr.snoc X25 N24 gn1
    rw [nbz3] at W25
    have V25_b1 : Arv Z h25 b1 k1 .byte (8 : Int32) [(.int y0), (.int y1), (.int z0), (.int z1), (.int z2), (.int z3), (.int y6), (.int y7)] (.int (0 : Int32)) := Arv.set Ar25 qq25 S25 M25 H25 G25 (by have := fits_nar_byte z3; rw [show (z3).toInt8.toInt32 = z3 from nbz3] at this; exact this) W25 5 (by decide) (by simp)
    have Z25 := Nat.le_trans Z24 (Keep.of_wr W25).1
    refine own_step (fun _ k => st25 _ k) ?_
    show own_Ends _ _ _ _ _ _ _ (T25.setTop (mkF m 136 #[.val (.int p0), .val (.int p1), .val (.long q2), .second, .val (.int (2 : Int32)), .val (.ref b1)] []))
    refine own_step (fun _ k => XS.aload X25.here hx rfl (hb hby at_136) rfl rfl k) ?_
    show own_Ends _ _ _ _ _ _ _ (T25.setTop (mkF m 138 #[.val (.int p0), .val (.int p1), .val (.long q2), .second, .val (.int (2 : Int32)), .val (.ref b1)] [(.ref b1)]))
    refine own_step (fun _ k => XS.iload X25.here hx rfl (hb hby at_138) rfl k) ?_
    show own_Ends _ _ _ _ _ _ _ (T25.setTop (mkF m 140 #[.val (.int p0), .val (.int p1), .val (.long q2), .second, .val (.int (2 : Int32)), .val (.ref b1)] [(.int (2 : Int32)), (.ref b1)]))
    obtain ⟨cl26, Ar26, qq26, S26, M26, H26, G26⟩ := id V25_b1
    have hin26_0 : ¬ ((2 : Int32) < 0 ∨ cl26.slots.size ≤ ((2 : Int32)).toNatClampNeg) := inb_of S26 ⟨by decide, by decide⟩
    have hat26_0 : cl26.slots[((2 : Int32)).toNatClampNeg]? = some (.int z0) := Has.at H26 hin26_0 rfl
    have hin26_1 : ¬ (((2 : Int32) + (1 : Int32)) < 0 ∨ cl26.slots.size ≤ (((2 : Int32) + (1 : Int32))).toNatClampNeg) := inb_of S26 ⟨by decide, by decide⟩
    have hat26_1 : cl26.slots[(((2 : Int32) + (1 : Int32))).toNatClampNeg]? = some (.int z1) := Has.at H26 hin26_1 rfl
    have hin26_2 : ¬ (((2 : Int32) + (2 : Int32)) < 0 ∨ cl26.slots.size ≤ (((2 : Int32) + (2 : Int32))).toNatClampNeg) := inb_of S26 ⟨by decide, by decide⟩
    have hat26_2 : cl26.slots[(((2 : Int32) + (2 : Int32))).toNatClampNeg]? = some (.int z2) := Has.at H26 hin26_2 rfl
    have hin26_3 : ¬ (((2 : Int32) + (3 : Int32)) < 0 ∨ cl26.slots.size ≤ (((2 : Int32) + (3 : Int32))).toNatClampNeg) := inb_of S26 ⟨by decide, by decide⟩
    have hat26_3 : cl26.slots[(((2 : Int32) + (3 : Int32))).toNatClampNeg]? = some (.int z3) := Has.at H26 hin26_3 rfl
    obtain ⟨_, _, ⟨T27, L27, k27, n27⟩, -, X27, ⟨Lc27, hQ27, l27, y27, z27⟩, st27⟩ := Jvm.LawKit.callS X25 hx (y := (⟨"com/example/derivant/derivant/cli/WireInput", "integer", "([BI)I"⟩ : MethodName)) hown (mvT hZ (hw _ (List.mem_of_getElem? (i := 2) rfl))) (mvT hZ (hw _ (List.mem_of_getElem? (i := 3) rfl))) (mvT hZ (hw _ (List.mem_of_getElem? (i := 4) rfl))) (mvT hZ (hw _ (List.mem_of_getElem? (i := 5) rfl))) (by decide) (backOf (W := 0) (own_rm1 l Z a0 hw [] b1 (2 : Int32) cl26 z0 z1 z2 z3 h25 n0 Z25 Ar26 hin26_0 hat26_0 hin26_1 hat26_1 hin26_2 hat26_2 hin26_3 hat26_3) hZ (hw _ (List.mem_of_getElem? (i := 5) rfl)) (hw _ (List.mem_of_getElem? (i := 4) rfl)) (by decide) (by decide)) (g := (mkF m 140 #[.val (.int p0), .val (.int p1), .val (.long q2), .second, .val (.int (2 : Int32)), .val (.ref b1)] [(.int (2 : Int32)), (.ref b1)])) rfl (by rw [hml]; rfl) (argsL := [(.ref b1), (.int (2 : Int32))]) (rest := []) (lenOf own_pd0 rfl) rfl (by show 2 * 0 + _ ≤ _; exact Nat.le_of_eq rfl) (hb hby at_140) (fun _ _ => ⟨rfl, e25, (by decide : 1 + 0 ≤ _), (by decide : 8 + 0 ≤ _)⟩)
    dsimp only [Pt.U, Pt.locs, Pt.cells, Pt.slots] at X27 l27 y27 z27 st27 hQ27
    subst l27 y27 z27
    obtain ⟨rfl, Nq27, e27⟩ := hQ27
    have N27 := Fr.app N25 Nq27
    refine own_step (fun _ k => st27 _ k) ?_
    show own_Ends _ _ _ _ _ _ _ (T27.setTop (mkF m 143 #[.val (.int p0), .val (.int p1), .val (.long q2), .second, .val (.int (2 : Int32)), .val (.ref b1)] [(.int (own_int z0 z1 z2 z3))]))
    refine own_step (fun _ k => XS.iloadN X27.here hx rfl (hb hby at_143) rfl k) ?_
    show own_Ends _ _ _ _ _ _ _ (T27.setTop (mkF m 144 #[.val (.int p0), .val (.int p1), .val (.long q2), .second, .val (.int (2 : Int32)), .val (.ref b1)] [(.int p0), (.int (own_int z0 z1 z2 z3))]))
    refine own_step (fun _ k => XS.icmpNo X27.here hx rfl (hb hby at_144) rfl (teq (own_whole hvz0 hvz1 hvz2 hvz3)).2 k) ?_
    show own_Ends _ _ _ _ _ _ _ (T27.setTop (mkF m 147 #[.val (.int p0), .val (.int p1), .val (.long q2), .second, .val (.int (2 : Int32)), .val (.ref b1)] []))
    refine own_step (fun _ k => XS.iconst X27.here hx rfl (hb hby at_147) k) ?_
    show own_Ends _ _ _ _ _ _ _ (T27.setTop (mkF m 148 #[.val (.int p0), .val (.int p1), .val (.long q2), .second, .val (.int (2 : Int32)), .val (.ref b1)] [(.int (1 : Int32))]))
    refine own_step (fun _ k => XS.goto X27.here hx rfl (pc0 := 148) (pc' := 152) rfl (hb hby at_148) (by decide) (by decide) k) ?_
    show own_Ends _ _ _ _ _ _ _ (T27.setTop (mkF m 152 #[.val (.int p0), .val (.int p1), .val (.long q2), .second, .val (.int (2 : Int32)), .val (.ref b1)] [(.int (1 : Int32))]))
    refine own_ret X27 (BodyLoose.notSynchronized Bd) (v := (some (.int (1 : Int32)))) (fun h => by rw [Bd.returns] at h; cases h) ?_ (by decide) (by decide) (fun fs hr => X27.ireturnOut hx Bd.returns rfl (by simp) (hb hby at_152) hr)
    show own_Q0 Z p0 p1 q2  h0 n0 (some (.int (1 : Int32))) T27.heap _
    rw [e27]
    exact ⟨rfl, N27⟩
  · show own_Ends _ _ _ _ _ _ _ (T9.setTop (mkF m 93 #[.val (.int p0), .val (.int p1), .val (.long q2), .second, .val (.int (3 : Int32)), .val (.ref b1)] []))
    refine own_step (fun _ k => XS.aload X9.here hx rfl (hb hby at_93) rfl rfl k) ?_
    show own_Ends _ _ _ _ _ _ _ (T9.setTop (mkF m 95 #[.val (.int p0), .val (.int p1), .val (.long q2), .second, .val (.int (3 : Int32)), .val (.ref b1)] [(.ref b1)]))
    refine own_step (fun _ k => XS.iload X9.here hx rfl (hb hby at_95) rfl k) ?_
    show own_Ends _ _ _ _ _ _ _ (T9.setTop (mkF m 97 #[.val (.int p0), .val (.int p1), .val (.long q2), .second, .val (.int (3 : Int32)), .val (.ref b1)] [(.int (3 : Int32)), (.ref b1)]))
    refine own_step (fun _ k => XS.iloadN X9.here hx rfl (hb hby at_97) rfl k) ?_
    show own_Ends _ _ _ _ _ _ _ (T9.setTop (mkF m 98 #[.val (.int p0), .val (.int p1), .val (.long q2), .second, .val (.int (3 : Int32)), .val (.ref b1)] [(.int p0), (.int (3 : Int32)), (.ref b1)]))
    refine own_step (fun _ k => XS.bipush X9.here hx rfl (hb hby at_98) k) ?_
    show own_Ends _ _ _ _ _ _ _ (T9.setTop (mkF m 100 #[.val (.int p0), .val (.int p1), .val (.long q2), .second, .val (.int (3 : Int32)), .val (.ref b1)] [(.int (24 : Int32)), (.int p0), (.int (3 : Int32)), (.ref b1)]))
    refine own_step (fun _ k => XT.iushr X9.here hx rfl (hb hby at_100) rfl k) ?_
    show own_Ends _ _ _ _ _ _ _ (T9.setTop (mkF m 101 #[.val (.int p0), .val (.int p1), .val (.long q2), .second, .val (.int (3 : Int32)), .val (.ref b1)] [(.int (XT.ushr p0 (24 : Int32))), (.int (3 : Int32)), (.ref b1)]))
    refine own_step (fun _ k => XS.i2b X9.here hx rfl (hb hby at_101) rfl k) ?_
    show own_Ends _ _ _ _ _ _ _ (T9.setTop (mkF m 102 #[.val (.int p0), .val (.int p1), .val (.long q2), .second, .val (.int (3 : Int32)), .val (.ref b1)] [(.int (((XT.ushr p0 (24 : Int32))).toInt8.toInt32)), (.int (3 : Int32)), (.ref b1)]))
    have nbz0 := own_nb ((XT.ushr p0 (24 : Int32)))
    generalize hvz0 : (((XT.ushr p0 (24 : Int32))).toInt8.toInt32) = z0 at nbz0 ⊢
    obtain ⟨cl28, Ar28, qq28, S28, M28, H28, G28⟩ := id V9_b1
    have hin28 : ¬ ((3 : Int32) < 0 ∨ cl28.slots.size ≤ ((3 : Int32)).toNatClampNeg) := inb_of S28 ⟨by decide, by decide⟩
    obtain ⟨T28, h28, X28, e28, W28, st28⟩ := stB X9 hx hZ e9 Ar28 (j := (3 : Int32)) hin28 (g := (mkF m 102 #[.val (.int p0), .val (.int p1), .val (.long q2), .second, .val (.int (3 : Int32)), .val (.ref b1)] [(.int z0), (.int (3 : Int32)), (.ref b1)])) rfl rfl (hb hby at_102)
    have N28 := Fr.snoc X28 N9 gn1
    rw [nbz0] at W28
    have V28_b1 : Arv Z h28 b1 k1 .byte (8 : Int32) [(.int y0), (.int y1), (.int y2), (.int z0), (.int y4), (.int y5), (.int y6), (.int y7)] (.int (0 : Int32)) := Arv.set Ar28 qq28 S28 M28 H28 G28 (by have := fits_nar_byte z0; rw [show (z0).toInt8.toInt32 = z0 from nbz0] at this; exact this) W28 3 (by decide) (by simp)
    have Z28 := Nat.le_trans Z9 (Keep.of_wr W28).1
    refine own_step (fun _ k => st28 _ k) ?_
    show own_Ends _ _ _ _ _ _ _ (T28.setTop (mkF m 103 #[.val (.int p0), .val (.int p1), .val (.long q2), .second, .val (.int (3 : Int32)), .val (.ref b1)] []))
    refine own_step (fun _ k => XS.aload X28.here hx rfl (hb hby at_103) rfl rfl k) ?_
    show own_Ends _ _ _ _ _ _ _ (T28.setTop (mkF m 105 #[.val (.int p0), .val (.int p1), .val (.long q2), .second, .val (.int (3 : Int32)), .val (.ref b1)] [(.ref b1)]))
    refine own_step (fun _ k => XS.iload X28.here hx rfl (hb hby at_105) rfl k) ?_
    show own_Ends _ _ _ _ _ _ _ (T28.setTop (mkF m 107 #[.val (.int p0), .val (.int p1), .val (.long q2), .second, .val (.int (3 : Int32)), .val (.ref b1)] [(.int (3 : Int32)), (.ref b1)]))
    refine own_step (fun _ k => XS.iconst X28.here hx rfl (hb hby at_107) k) ?_
    show own_Ends _ _ _ _ _ _ _ (T28.setTop (mkF m 108 #[.val (.int p0), .val (.int p1), .val (.long q2), .second, .val (.int (3 : Int32)), .val (.ref b1)] [(.int (1 : Int32)), (.int (3 : Int32)), (.ref b1)]))
    refine own_step (fun _ k => XS.iadd X28.here hx rfl (hb hby at_108) rfl k) ?_
    show own_Ends _ _ _ _ _ _ _ (T28.setTop (mkF m 109 #[.val (.int p0), .val (.int p1), .val (.long q2), .second, .val (.int (3 : Int32)), .val (.ref b1)] [(.int ((3 : Int32) + (1 : Int32))), (.ref b1)]))
    refine own_step (fun _ k => XS.iloadN X28.here hx rfl (hb hby at_109) rfl k) ?_
    show own_Ends _ _ _ _ _ _ _ (T28.setTop (mkF m 110 #[.val (.int p0), .val (.int p1), .val (.long q2), .second, .val (.int (3 : Int32)), .val (.ref b1)] [(.int p0), (.int ((3 : Int32) + (1 : Int32))), (.ref b1)]))
    refine own_step (fun _ k => XS.bipush X28.here hx rfl (hb hby at_110) k) ?_
    show own_Ends _ _ _ _ _ _ _ (T28.setTop (mkF m 112 #[.val (.int p0), .val (.int p1), .val (.long q2), .second, .val (.int (3 : Int32)), .val (.ref b1)] [(.int (16 : Int32)), (.int p0), (.int ((3 : Int32) + (1 : Int32))), (.ref b1)]))
    refine own_step (fun _ k => XT.iushr X28.here hx rfl (hb hby at_112) rfl k) ?_
    show own_Ends _ _ _ _ _ _ _ (T28.setTop (mkF m 113 #[.val (.int p0), .val (.int p1), .val (.long q2), .second, .val (.int (3 : Int32)), .val (.ref b1)] [(.int (XT.ushr p0 (16 : Int32))), (.int ((3 : Int32) + (1 : Int32))), (.ref b1)]))
    refine own_step (fun _ k => XS.i2b X28.here hx rfl (hb hby at_113) rfl k) ?_
    show own_Ends _ _ _ _ _ _ _ (T28.setTop (mkF m 114 #[.val (.int p0), .val (.int p1), .val (.long q2), .second, .val (.int (3 : Int32)), .val (.ref b1)] [(.int (((XT.ushr p0 (16 : Int32))).toInt8.toInt32)), (.int ((3 : Int32) + (1 : Int32))), (.ref b1)]))
    have nbz1 := own_nb ((XT.ushr p0 (16 : Int32)))
    generalize hvz1 : (((XT.ushr p0 (16 : Int32))).toInt8.toInt32) = z1 at nbz1 ⊢
    obtain ⟨cl29, Ar29, qq29, S29, M29, H29, G29⟩ := id V28_b1
    have hin29 : ¬ (((3 : Int32) + (1 : Int32)) < 0 ∨ cl29.slots.size ≤ (((3 : Int32) + (1 : Int32))).toNatClampNeg) := inb_of S29 ⟨by decide, by decide⟩
    obtain ⟨T29, h29, X29, e29, W29, st29⟩ := stB X28 hx hZ e28 Ar29 (j := ((3 : Int32) + (1 : Int32))) hin29 (g := (mkF m 114 #[.val (.int p0), .val (.int p1), .val (.long q2), .second, .val (.int (3 : Int32)), .val (.ref b1)] [(.int z1), (.int ((3 : Int32) + (1 : Int32))), (.ref b1)])) rfl rfl (hb hby at_114)
    have N29 := Fr.snoc X29 N28 gn1
    rw [nbz1] at W29
    have V29_b1 : Arv Z h29 b1 k1 .byte (8 : Int32) [(.int y0), (.int y1), (.int y2), (.int z0), (.int z1), (.int y5), (.int y6), (.int y7)] (.int (0 : Int32)) := Arv.set Ar29 qq29 S29 M29 H29 G29 (by have := fits_nar_byte z1; rw [show (z1).toInt8.toInt32 = z1 from nbz1] at this; exact this) W29 4 (by decide) (by simp)
    have Z29 := Nat.le_trans Z28 (Keep.of_wr W29).1
    refine own_step (fun _ k => st29 _ k) ?_
    show own_Ends _ _ _ _ _ _ _ (T29.setTop (mkF m 115 #[.val (.int p0), .val (.int p1), .val (.long q2), .second, .val (.int (3 : Int32)), .val (.ref b1)] []))
    refine own_step (fun _ k => XS.aload X29.here hx rfl (hb hby at_115) rfl rfl k) ?_
    show own_Ends _ _ _ _ _ _ _ (T29.setTop (mkF m 117 #[.val (.int p0), .val (.int p1), .val (.long q2), .second, .val (.int (3 : Int32)), .val (.ref b1)] [(.ref b1)]))
    refine own_step (fun _ k => XS.iload X29.here hx rfl (hb hby at_117) rfl k) ?_
    show own_Ends _ _ _ _ _ _ _ (T29.setTop (mkF m 119 #[.val (.int p0), .val (.int p1), .val (.long q2), .second, .val (.int (3 : Int32)), .val (.ref b1)] [(.int (3 : Int32)), (.ref b1)]))
    refine own_step (fun _ k => XS.iconst X29.here hx rfl (hb hby at_119) k) ?_
    show own_Ends _ _ _ _ _ _ _ (T29.setTop (mkF m 120 #[.val (.int p0), .val (.int p1), .val (.long q2), .second, .val (.int (3 : Int32)), .val (.ref b1)] [(.int (2 : Int32)), (.int (3 : Int32)), (.ref b1)]))
    refine own_step (fun _ k => XS.iadd X29.here hx rfl (hb hby at_120) rfl k) ?_
    show own_Ends _ _ _ _ _ _ _ (T29.setTop (mkF m 121 #[.val (.int p0), .val (.int p1), .val (.long q2), .second, .val (.int (3 : Int32)), .val (.ref b1)] [(.int ((3 : Int32) + (2 : Int32))), (.ref b1)]))
    refine own_step (fun _ k => XS.iloadN X29.here hx rfl (hb hby at_121) rfl k) ?_
    show own_Ends _ _ _ _ _ _ _ (T29.setTop (mkF m 122 #[.val (.int p0), .val (.int p1), .val (.long q2), .second, .val (.int (3 : Int32)), .val (.ref b1)] [(.int p0), (.int ((3 : Int32) + (2 : Int32))), (.ref b1)]))
    refine own_step (fun _ k => XS.bipush X29.here hx rfl (hb hby at_122) k) ?_
    show own_Ends _ _ _ _ _ _ _ (T29.setTop (mkF m 124 #[.val (.int p0), .val (.int p1), .val (.long q2), .second, .val (.int (3 : Int32)), .val (.ref b1)] [(.int (8 : Int32)), (.int p0), (.int ((3 : Int32) + (2 : Int32))), (.ref b1)]))
    refine own_step (fun _ k => XT.iushr X29.here hx rfl (hb hby at_124) rfl k) ?_
    show own_Ends _ _ _ _ _ _ _ (T29.setTop (mkF m 125 #[.val (.int p0), .val (.int p1), .val (.long q2), .second, .val (.int (3 : Int32)), .val (.ref b1)] [(.int (XT.ushr p0 (8 : Int32))), (.int ((3 : Int32) + (2 : Int32))), (.ref b1)]))
    refine own_step (fun _ k => XS.i2b X29.here hx rfl (hb hby at_125) rfl k) ?_
    show own_Ends _ _ _ _ _ _ _ (T29.setTop (mkF m 126 #[.val (.int p0), .val (.int p1), .val (.long q2), .second, .val (.int (3 : Int32)), .val (.ref b1)] [(.int (((XT.ushr p0 (8 : Int32))).toInt8.toInt32)), (.int ((3 : Int32) + (2 : Int32))), (.ref b1)]))
    have nbz2 := own_nb ((XT.ushr p0 (8 : Int32)))
    generalize hvz2 : (((XT.ushr p0 (8 : Int32))).toInt8.toInt32) = z2 at nbz2 ⊢
    obtain ⟨cl30, Ar30, qq30, S30, M30, H30, G30⟩ := id V29_b1
    have hin30 : ¬ (((3 : Int32) + (2 : Int32)) < 0 ∨ cl30.slots.size ≤ (((3 : Int32) + (2 : Int32))).toNatClampNeg) := inb_of S30 ⟨by decide, by decide⟩
    obtain ⟨T30, h30, X30, e30, W30, st30⟩ := stB X29 hx hZ e29 Ar30 (j := ((3 : Int32) + (2 : Int32))) hin30 (g := (mkF m 126 #[.val (.int p0), .val (.int p1), .val (.long q2), .second, .val (.int (3 : Int32)), .val (.ref b1)] [(.int z2), (.int ((3 : Int32) + (2 : Int32))), (.ref b1)])) rfl rfl (hb hby at_126)
    have N30 := Fr.snoc X30 N29 gn1
    rw [nbz2] at W30
    have V30_b1 : Arv Z h30 b1 k1 .byte (8 : Int32) [(.int y0), (.int y1), (.int y2), (.int z0), (.int z1), (.int z2), (.int y6), (.int y7)] (.int (0 : Int32)) := Arv.set Ar30 qq30 S30 M30 H30 G30 (by have := fits_nar_byte z2; rw [show (z2).toInt8.toInt32 = z2 from nbz2] at this; exact this) W30 5 (by decide) (by simp)
    have Z30 := Nat.le_trans Z29 (Keep.of_wr W30).1
    refine own_step (fun _ k => st30 _ k) ?_
    show own_Ends _ _ _ _ _ _ _ (T30.setTop (mkF m 127 #[.val (.int p0), .val (.int p1), .val (.long q2), .second, .val (.int (3 : Int32)), .val (.ref b1)] []))
    refine own_step (fun _ k => XS.aload X30.here hx rfl (hb hby at_127) rfl rfl k) ?_
    show own_Ends _ _ _ _ _ _ _ (T30.setTop (mkF m 129 #[.val (.int p0), .val (.int p1), .val (.long q2), .second, .val (.int (3 : Int32)), .val (.ref b1)] [(.ref b1)]))
    refine own_step (fun _ k => XS.iload X30.here hx rfl (hb hby at_129) rfl k) ?_
    show own_Ends _ _ _ _ _ _ _ (T30.setTop (mkF m 131 #[.val (.int p0), .val (.int p1), .val (.long q2), .second, .val (.int (3 : Int32)), .val (.ref b1)] [(.int (3 : Int32)), (.ref b1)]))
    refine own_step (fun _ k => XS.iconst X30.here hx rfl (hb hby at_131) k) ?_
    show own_Ends _ _ _ _ _ _ _ (T30.setTop (mkF m 132 #[.val (.int p0), .val (.int p1), .val (.long q2), .second, .val (.int (3 : Int32)), .val (.ref b1)] [(.int (3 : Int32)), (.int (3 : Int32)), (.ref b1)]))
    refine own_step (fun _ k => XS.iadd X30.here hx rfl (hb hby at_132) rfl k) ?_
    show own_Ends _ _ _ _ _ _ _ (T30.setTop (mkF m 133 #[.val (.int p0), .val (.int p1), .val (.long q2), .second, .val (.int (3 : Int32)), .val (.ref b1)] [(.int ((3 : Int32) + (3 : Int32))), (.ref b1)]))
    refine own_step (fun _ k => XS.iloadN X30.here hx rfl (hb hby at_133) rfl k) ?_
    show own_Ends _ _ _ _ _ _ _ (T30.setTop (mkF m 134 #[.val (.int p0), .val (.int p1), .val (.long q2), .second, .val (.int (3 : Int32)), .val (.ref b1)] [(.int p0), (.int ((3 : Int32) + (3 : Int32))), (.ref b1)]))
    refine own_step (fun _ k => XS.i2b X30.here hx rfl (hb hby at_134) rfl k) ?_
    show own_Ends _ _ _ _ _ _ _ (T30.setTop (mkF m 135 #[.val (.int p0), .val (.int p1), .val (.long q2), .second, .val (.int (3 : Int32)), .val (.ref b1)] [(.int ((p0).toInt8.toInt32)), (.int ((3 : Int32) + (3 : Int32))), (.ref b1)]))
    have nbz3 := own_nb (p0)
    generalize hvz3 : ((p0).toInt8.toInt32) = z3 at nbz3 ⊢
    obtain ⟨cl31, Ar31, qq31, S31, M31, H31, G31⟩ := id V30_b1
    have hin31 : ¬ (((3 : Int32) + (3 : Int32)) < 0 ∨ cl31.slots.size ≤ (((3 : Int32) + (3 : Int32))).toNatClampNeg) := inb_of S31 ⟨by decide, by decide⟩
    obtain ⟨T31, h31, X31, e31, W31, st31⟩ := stB X30 hx hZ e30 Ar31 (j := ((3 : Int32) + (3 : Int32))) hin31 (g := (mkF m 135 #[.val (.int p0), .val (.int p1), .val (.long q2), .second, .val (.int (3 : Int32)), .val (.ref b1)] [(.int z3), (.int ((3 : Int32) + (3 : Int32))), (.ref b1)])) rfl rfl (hb hby at_135)
    have N31 := Fr.snoc X31 N30 gn1
    rw [nbz3] at W31
    have V31_b1 : Arv Z h31 b1 k1 .byte (8 : Int32) [(.int y0), (.int y1), (.int y2), (.int z0), (.int z1), (.int z2), (.int z3), (.int y7)] (.int (0 : Int32)) := Arv.set Ar31 qq31 S31 M31 H31 G31 (by have := fits_nar_byte z3; rw [show (z3).toInt8.toInt32 = z3 from nbz3] at this; exact this) W31 6 (by decide) (by simp)
    have Z31 := Nat.le_trans Z30 (Keep.of_wr W31).1
    refine own_step (fun _ k => st31 _ k) ?_
    show own_Ends _ _ _ _ _ _ _ (T31.setTop (mkF m 136 #[.val (.int p0), .val (.int p1), .val (.long q2), .second, .val (.int (3 : Int32)), .val (.ref b1)] []))
    refine own_step (fun _ k => XS.aload X31.here hx rfl (hb hby at_136) rfl rfl k) ?_
    show own_Ends _ _ _ _ _ _ _ (T31.setTop (mkF m 138 #[.val (.int p0), .val (.int p1), .val (.long q2), .second, .val (.int (3 : Int32)), .val (.ref b1)] [(.ref b1)]))
    refine own_step (fun _ k => XS.iload X31.here hx rfl (hb hby at_138) rfl k) ?_
    show own_Ends _ _ _ _ _ _ _ (T31.setTop (mkF m 140 #[.val (.int p0), .val (.int p1), .val (.long q2), .second, .val (.int (3 : Int32)), .val (.ref b1)] [(.int (3 : Int32)), (.ref b1)]))
    obtain ⟨cl32, Ar32, qq32, S32, M32, H32, G32⟩ := id V31_b1
    have hin32_0 : ¬ ((3 : Int32) < 0 ∨ cl32.slots.size ≤ ((3 : Int32)).toNatClampNeg) := inb_of S32 ⟨by decide, by decide⟩
    have hat32_0 : cl32.slots[((3 : Int32)).toNatClampNeg]? = some (.int z0) := Has.at H32 hin32_0 rfl
    have hin32_1 : ¬ (((3 : Int32) + (1 : Int32)) < 0 ∨ cl32.slots.size ≤ (((3 : Int32) + (1 : Int32))).toNatClampNeg) := inb_of S32 ⟨by decide, by decide⟩
    have hat32_1 : cl32.slots[(((3 : Int32) + (1 : Int32))).toNatClampNeg]? = some (.int z1) := Has.at H32 hin32_1 rfl
    have hin32_2 : ¬ (((3 : Int32) + (2 : Int32)) < 0 ∨ cl32.slots.size ≤ (((3 : Int32) + (2 : Int32))).toNatClampNeg) := inb_of S32 ⟨by decide, by decide⟩
    have hat32_2 : cl32.slots[(((3 : Int32) + (2 : Int32))).toNatClampNeg]? = some (.int z2) := Has.at H32 hin32_2 rfl
    have hin32_3 : ¬ (((3 : Int32) + (3 : Int32)) < 0 ∨ cl32.slots.size ≤ (((3 : Int32) + (3 : Int32))).toNatClampNeg) := inb_of S32 ⟨by decide, by decide⟩
    have hat32_3 : cl32.slots[(((3 : Int32) + (3 : Int32))).toNatClampNeg]? = some (.int z3) := Has.at H32 hin32_3 rfl
    obtain ⟨_, _, ⟨T33, L33, k33, n33⟩, -, X33, ⟨Lc33, hQ33, l33, y33, z33⟩, st33⟩ := Jvm.LawKit.callS X31 hx (y := (⟨"com/example/derivant/derivant/cli/WireInput", "integer", "([BI)I"⟩ : MethodName)) hown (mvT hZ (hw _ (List.mem_of_getElem? (i := 2) rfl))) (mvT hZ (hw _ (List.mem_of_getElem? (i := 3) rfl))) (mvT hZ (hw _ (List.mem_of_getElem? (i := 4) rfl))) (mvT hZ (hw _ (List.mem_of_getElem? (i := 5) rfl))) (by decide) (backOf (W := 0) (own_rm1 l Z a0 hw [] b1 (3 : Int32) cl32 z0 z1 z2 z3 h31 n0 Z31 Ar32 hin32_0 hat32_0 hin32_1 hat32_1 hin32_2 hat32_2 hin32_3 hat32_3) hZ (hw _ (List.mem_of_getElem? (i := 5) rfl)) (hw _ (List.mem_of_getElem? (i := 4) rfl)) (by decide) (by decide)) (g := (mkF m 140 #[.val (.int p0), .val (.int p1), .val (.long q2), .second, .val (.int (3 : Int32)), .val (.ref b1)] [(.int (3 : Int32)), (.ref b1)])) rfl (by rw [hml]; rfl) (argsL := [(.ref b1), (.int (3 : Int32))]) (rest := []) (lenOf own_pd0 rfl) rfl (by show 2 * 0 + _ ≤ _; exact Nat.le_of_eq rfl) (hb hby at_140) (fun _ _ => ⟨rfl, e31, (by decide : 1 + 0 ≤ _), (by decide : 8 + 0 ≤ _)⟩)
    dsimp only [Pt.U, Pt.locs, Pt.cells, Pt.slots] at X33 l33 y33 z33 st33 hQ33
    subst l33 y33 z33
    obtain ⟨rfl, Nq33, e33⟩ := hQ33
    have N33 := Fr.app N31 Nq33
    refine own_step (fun _ k => st33 _ k) ?_
    show own_Ends _ _ _ _ _ _ _ (T33.setTop (mkF m 143 #[.val (.int p0), .val (.int p1), .val (.long q2), .second, .val (.int (3 : Int32)), .val (.ref b1)] [(.int (own_int z0 z1 z2 z3))]))
    refine own_step (fun _ k => XS.iloadN X33.here hx rfl (hb hby at_143) rfl k) ?_
    show own_Ends _ _ _ _ _ _ _ (T33.setTop (mkF m 144 #[.val (.int p0), .val (.int p1), .val (.long q2), .second, .val (.int (3 : Int32)), .val (.ref b1)] [(.int p0), (.int (own_int z0 z1 z2 z3))]))
    refine own_step (fun _ k => XS.icmpNo X33.here hx rfl (hb hby at_144) rfl (teq (own_whole hvz0 hvz1 hvz2 hvz3)).2 k) ?_
    show own_Ends _ _ _ _ _ _ _ (T33.setTop (mkF m 147 #[.val (.int p0), .val (.int p1), .val (.long q2), .second, .val (.int (3 : Int32)), .val (.ref b1)] []))
    refine own_step (fun _ k => XS.iconst X33.here hx rfl (hb hby at_147) k) ?_
    show own_Ends _ _ _ _ _ _ _ (T33.setTop (mkF m 148 #[.val (.int p0), .val (.int p1), .val (.long q2), .second, .val (.int (3 : Int32)), .val (.ref b1)] [(.int (1 : Int32))]))
    refine own_step (fun _ k => XS.goto X33.here hx rfl (pc0 := 148) (pc' := 152) rfl (hb hby at_148) (by decide) (by decide) k) ?_
    show own_Ends _ _ _ _ _ _ _ (T33.setTop (mkF m 152 #[.val (.int p0), .val (.int p1), .val (.long q2), .second, .val (.int (3 : Int32)), .val (.ref b1)] [(.int (1 : Int32))]))
    refine own_ret X33 (BodyLoose.notSynchronized Bd) (v := (some (.int (1 : Int32)))) (fun h => by rw [Bd.returns] at h; cases h) ?_ (by decide) (by decide) (fun fs hr => X33.ireturnOut hx Bd.returns rfl (by simp) (hb hby at_152) hr)
    show own_Q0 Z p0 p1 q2  h0 n0 (some (.int (1 : Int32))) T33.heap _
    rw [e33]
    exact ⟨rfl, N33⟩
  · show own_Ends _ _ _ _ _ _ _ (T9.setTop (mkF m 93 #[.val (.int p0), .val (.int p1), .val (.long q2), .second, .val (.int (4 : Int32)), .val (.ref b1)] []))
    refine own_step (fun _ k => XS.aload X9.here hx rfl (hb hby at_93) rfl rfl k) ?_
    show own_Ends _ _ _ _ _ _ _ (T9.setTop (mkF m 95 #[.val (.int p0), .val (.int p1), .val (.long q2), .second, .val (.int (4 : Int32)), .val (.ref b1)] [(.ref b1)]))
    refine own_step (fun _ k => XS.iload X9.here hx rfl (hb hby at_95) rfl k) ?_
    show own_Ends _ _ _ _ _ _ _ (T9.setTop (mkF m 97 #[.val (.int p0), .val (.int p1), .val (.long q2), .second, .val (.int (4 : Int32)), .val (.ref b1)] [(.int (4 : Int32)), (.ref b1)]))
    refine own_step (fun _ k => XS.iloadN X9.here hx rfl (hb hby at_97) rfl k) ?_
    show own_Ends _ _ _ _ _ _ _ (T9.setTop (mkF m 98 #[.val (.int p0), .val (.int p1), .val (.long q2), .second, .val (.int (4 : Int32)), .val (.ref b1)] [(.int p0), (.int (4 : Int32)), (.ref b1)]))
    refine own_step (fun _ k => XS.bipush X9.here hx rfl (hb hby at_98) k) ?_
    show own_Ends _ _ _ _ _ _ _ (T9.setTop (mkF m 100 #[.val (.int p0), .val (.int p1), .val (.long q2), .second, .val (.int (4 : Int32)), .val (.ref b1)] [(.int (24 : Int32)), (.int p0), (.int (4 : Int32)), (.ref b1)]))
    refine own_step (fun _ k => XT.iushr X9.here hx rfl (hb hby at_100) rfl k) ?_
    show own_Ends _ _ _ _ _ _ _ (T9.setTop (mkF m 101 #[.val (.int p0), .val (.int p1), .val (.long q2), .second, .val (.int (4 : Int32)), .val (.ref b1)] [(.int (XT.ushr p0 (24 : Int32))), (.int (4 : Int32)), (.ref b1)]))
    refine own_step (fun _ k => XS.i2b X9.here hx rfl (hb hby at_101) rfl k) ?_
    show own_Ends _ _ _ _ _ _ _ (T9.setTop (mkF m 102 #[.val (.int p0), .val (.int p1), .val (.long q2), .second, .val (.int (4 : Int32)), .val (.ref b1)] [(.int (((XT.ushr p0 (24 : Int32))).toInt8.toInt32)), (.int (4 : Int32)), (.ref b1)]))
    have nbz0 := own_nb ((XT.ushr p0 (24 : Int32)))
    generalize hvz0 : (((XT.ushr p0 (24 : Int32))).toInt8.toInt32) = z0 at nbz0 ⊢
    obtain ⟨cl34, Ar34, qq34, S34, M34, H34, G34⟩ := id V9_b1
    have hin34 : ¬ ((4 : Int32) < 0 ∨ cl34.slots.size ≤ ((4 : Int32)).toNatClampNeg) := inb_of S34 ⟨by decide, by decide⟩
    obtain ⟨T34, h34, X34, e34, W34, st34⟩ := stB X9 hx hZ e9 Ar34 (j := (4 : Int32)) hin34 (g := (mkF m 102 #[.val (.int p0), .val (.int p1), .val (.long q2), .second, .val (.int (4 : Int32)), .val (.ref b1)] [(.int z0), (.int (4 : Int32)), (.ref b1)])) rfl rfl (hb hby at_102)
    have N34 := Fr.snoc X34 N9 gn1
    rw [nbz0] at W34
    have V34_b1 : Arv Z h34 b1 k1 .byte (8 : Int32) [(.int y0), (.int y1), (.int y2), (.int y3), (.int z0), (.int y5), (.int y6), (.int y7)] (.int (0 : Int32)) := Arv.set Ar34 qq34 S34 M34 H34 G34 (by have := fits_nar_byte z0; rw [show (z0).toInt8.toInt32 = z0 from nbz0] at this; exact this) W34 4 (by decide) (by simp)
    have Z34 := Nat.le_trans Z9 (Keep.of_wr W34).1
    refine own_step (fun _ k => st34 _ k) ?_
    show own_Ends _ _ _ _ _ _ _ (T34.setTop (mkF m 103 #[.val (.int p0), .val (.int p1), .val (.long q2), .second, .val (.int (4 : Int32)), .val (.ref b1)] []))
    refine own_step (fun _ k => XS.aload X34.here hx rfl (hb hby at_103) rfl rfl k) ?_
    show own_Ends _ _ _ _ _ _ _ (T34.setTop (mkF m 105 #[.val (.int p0), .val (.int p1), .val (.long q2), .second, .val (.int (4 : Int32)), .val (.ref b1)] [(.ref b1)]))
    refine own_step (fun _ k => XS.iload X34.here hx rfl (hb hby at_105) rfl k) ?_
    show own_Ends _ _ _ _ _ _ _ (T34.setTop (mkF m 107 #[.val (.int p0), .val (.int p1), .val (.long q2), .second, .val (.int (4 : Int32)), .val (.ref b1)] [(.int (4 : Int32)), (.ref b1)]))
    refine own_step (fun _ k => XS.iconst X34.here hx rfl (hb hby at_107) k) ?_
    show own_Ends _ _ _ _ _ _ _ (T34.setTop (mkF m 108 #[.val (.int p0), .val (.int p1), .val (.long q2), .second, .val (.int (4 : Int32)), .val (.ref b1)] [(.int (1 : Int32)), (.int (4 : Int32)), (.ref b1)]))
    refine own_step (fun _ k => XS.iadd X34.here hx rfl (hb hby at_108) rfl k) ?_
    show own_Ends _ _ _ _ _ _ _ (T34.setTop (mkF m 109 #[.val (.int p0), .val (.int p1), .val (.long q2), .second, .val (.int (4 : Int32)), .val (.ref b1)] [(.int ((4 : Int32) + (1 : Int32))), (.ref b1)]))
    refine own_step (fun _ k => XS.iloadN X34.here hx rfl (hb hby at_109) rfl k) ?_
    show own_Ends _ _ _ _ _ _ _ (T34.setTop (mkF m 110 #[.val (.int p0), .val (.int p1), .val (.long q2), .second, .val (.int (4 : Int32)), .val (.ref b1)] [(.int p0), (.int ((4 : Int32) + (1 : Int32))), (.ref b1)]))
    refine own_step (fun _ k => XS.bipush X34.here hx rfl (hb hby at_110) k) ?_
    show own_Ends _ _ _ _ _ _ _ (T34.setTop (mkF m 112 #[.val (.int p0), .val (.int p1), .val (.long q2), .second, .val (.int (4 : Int32)), .val (.ref b1)] [(.int (16 : Int32)), (.int p0), (.int ((4 : Int32) + (1 : Int32))), (.ref b1)]))
    refine own_step (fun _ k => XT.iushr X34.here hx rfl (hb hby at_112) rfl k) ?_
    show own_Ends _ _ _ _ _ _ _ (T34.setTop (mkF m 113 #[.val (.int p0), .val (.int p1), .val (.long q2), .second, .val (.int (4 : Int32)), .val (.ref b1)] [(.int (XT.ushr p0 (16 : Int32))), (.int ((4 : Int32) + (1 : Int32))), (.ref b1)]))
    refine own_step (fun _ k => XS.i2b X34.here hx rfl (hb hby at_113) rfl k) ?_
    show own_Ends _ _ _ _ _ _ _ (T34.setTop (mkF m 114 #[.val (.int p0), .val (.int p1), .val (.long q2), .second, .val (.int (4 : Int32)), .val (.ref b1)] [(.int (((XT.ushr p0 (16 : Int32))).toInt8.toInt32)), (.int ((4 : Int32) + (1 : Int32))), (.ref b1)]))
    have nbz1 := own_nb ((XT.ushr p0 (16 : Int32)))
    generalize hvz1 : (((XT.ushr p0 (16 : Int32))).toInt8.toInt32) = z1 at nbz1 ⊢
    obtain ⟨cl35, Ar35, qq35, S35, M35, H35, G35⟩ := id V34_b1
    have hin35 : ¬ (((4 : Int32) + (1 : Int32)) < 0 ∨ cl35.slots.size ≤ (((4 : Int32) + (1 : Int32))).toNatClampNeg) := inb_of S35 ⟨by decide, by decide⟩
    obtain ⟨T35, h35, X35, e35, W35, st35⟩ := stB X34 hx hZ e34 Ar35 (j := ((4 : Int32) + (1 : Int32))) hin35 (g := (mkF m 114 #[.val (.int p0), .val (.int p1), .val (.long q2), .second, .val (.int (4 : Int32)), .val (.ref b1)] [(.int z1), (.int ((4 : Int32) + (1 : Int32))), (.ref b1)])) rfl rfl (hb hby at_114)
    have N35 := Fr.snoc X35 N34 gn1
    rw [nbz1] at W35
    have V35_b1 : Arv Z h35 b1 k1 .byte (8 : Int32) [(.int y0), (.int y1), (.int y2), (.int y3), (.int z0), (.int z1), (.int y6), (.int y7)] (.int (0 : Int32)) := Arv.set Ar35 qq35 S35 M35 H35 G35 (by have := fits_nar_byte z1; rw [show (z1).toInt8.toInt32 = z1 from nbz1] at this; exact this) W35 5 (by decide) (by simp)
    have Z35 := Nat.le_trans Z34 (Keep.of_wr W35).1
    refine own_step (fun _ k => st35 _ k) ?_
    show own_Ends _ _ _ _ _ _ _ (T35.setTop (mkF m 115 #[.val (.int p0), .val (.int p1), .val (.long q2), .second, .val (.int (4 : Int32)), .val (.ref b1)] []))
    refine own_step (fun _ k => XS.aload X35.here hx rfl (hb hby at_115) rfl rfl k) ?_
    show own_Ends _ _ _ _ _ _ _ (T35.setTop (mkF m 117 #[.val (.int p0), .val (.int p1), .val (.long q2), .second, .val (.int (4 : Int32)), .val (.ref b1)] [(.ref b1)]))
    refine own_step (fun _ k => XS.iload X35.here hx rfl (hb hby at_117) rfl k) ?_
    show own_Ends _ _ _ _ _ _ _ (T35.setTop (mkF m 119 #[.val (.int p0), .val (.int p1), .val (.long q2), .second, .val (.int (4 : Int32)), .val (.ref b1)] [(.int (4 : Int32)), (.ref b1)]))
    refine own_step (fun _ k => XS.iconst X35.here hx rfl (hb hby at_119) k) ?_
    show own_Ends _ _ _ _ _ _ _ (T35.setTop (mkF m 120 #[.val (.int p0), .val (.int p1), .val (.long q2), .second, .val (.int (4 : Int32)), .val (.ref b1)] [(.int (2 : Int32)), (.int (4 : Int32)), (.ref b1)]))
    refine own_step (fun _ k => XS.iadd X35.here hx rfl (hb hby at_120) rfl k) ?_
    show own_Ends _ _ _ _ _ _ _ (T35.setTop (mkF m 121 #[.val (.int p0), .val (.int p1), .val (.long q2), .second, .val (.int (4 : Int32)), .val (.ref b1)] [(.int ((4 : Int32) + (2 : Int32))), (.ref b1)]))
    refine own_step (fun _ k => XS.iloadN X35.here hx rfl (hb hby at_121) rfl k) ?_
    show own_Ends _ _ _ _ _ _ _ (T35.setTop (mkF m 122 #[.val (.int p0), .val (.int p1), .val (.long q2), .second, .val (.int (4 : Int32)), .val (.ref b1)] [(.int p0), (.int ((4 : Int32) + (2 : Int32))), (.ref b1)]))
    refine own_step (fun _ k => XS.bipush X35.here hx rfl (hb hby at_122) k) ?_
    show own_Ends _ _ _ _ _ _ _ (T35.setTop (mkF m 124 #[.val (.int p0), .val (.int p1), .val (.long q2), .second, .val (.int (4 : Int32)), .val (.ref b1)] [(.int (8 : Int32)), (.int p0), (.int ((4 : Int32) + (2 : Int32))), (.ref b1)]))
    refine own_step (fun _ k => XT.iushr X35.here hx rfl (hb hby at_124) rfl k) ?_
    show own_Ends _ _ _ _ _ _ _ (T35.setTop (mkF m 125 #[.val (.int p0), .val (.int p1), .val (.long q2), .second, .val (.int (4 : Int32)), .val (.ref b1)] [(.int (XT.ushr p0 (8 : Int32))), (.int ((4 : Int32) + (2 : Int32))), (.ref b1)]))
    refine own_step (fun _ k => XS.i2b X35.here hx rfl (hb hby at_125) rfl k) ?_
    show own_Ends _ _ _ _ _ _ _ (T35.setTop (mkF m 126 #[.val (.int p0), .val (.int p1), .val (.long q2), .second, .val (.int (4 : Int32)), .val (.ref b1)] [(.int (((XT.ushr p0 (8 : Int32))).toInt8.toInt32)), (.int ((4 : Int32) + (2 : Int32))), (.ref b1)]))
    have nbz2 := own_nb ((XT.ushr p0 (8 : Int32)))
    generalize hvz2 : (((XT.ushr p0 (8 : Int32))).toInt8.toInt32) = z2 at nbz2 ⊢
    obtain ⟨cl36, Ar36, qq36, S36, M36, H36, G36⟩ := id V35_b1
    have hin36 : ¬ (((4 : Int32) + (2 : Int32)) < 0 ∨ cl36.slots.size ≤ (((4 : Int32) + (2 : Int32))).toNatClampNeg) := inb_of S36 ⟨by decide, by decide⟩
    obtain ⟨T36, h36, X36, e36, W36, st36⟩ := stB X35 hx hZ e35 Ar36 (j := ((4 : Int32) + (2 : Int32))) hin36 (g := (mkF m 126 #[.val (.int p0), .val (.int p1), .val (.long q2), .second, .val (.int (4 : Int32)), .val (.ref b1)] [(.int z2), (.int ((4 : Int32) + (2 : Int32))), (.ref b1)])) rfl rfl (hb hby at_126)
    have N36 := Fr.snoc X36 N35 gn1
    rw [nbz2] at W36
    have V36_b1 : Arv Z h36 b1 k1 .byte (8 : Int32) [(.int y0), (.int y1), (.int y2), (.int y3), (.int z0), (.int z1), (.int z2), (.int y7)] (.int (0 : Int32)) := Arv.set Ar36 qq36 S36 M36 H36 G36 (by have := fits_nar_byte z2; rw [show (z2).toInt8.toInt32 = z2 from nbz2] at this; exact this) W36 6 (by decide) (by simp)
    have Z36 := Nat.le_trans Z35 (Keep.of_wr W36).1
    refine own_step (fun _ k => st36 _ k) ?_
    show own_Ends _ _ _ _ _ _ _ (T36.setTop (mkF m 127 #[.val (.int p0), .val (.int p1), .val (.long q2), .second, .val (.int (4 : Int32)), .val (.ref b1)] []))
    refine own_step (fun _ k => XS.aload X36.here hx rfl (hb hby at_127) rfl rfl k) ?_
    show own_Ends _ _ _ _ _ _ _ (T36.setTop (mkF m 129 #[.val (.int p0), .val (.int p1), .val (.long q2), .second, .val (.int (4 : Int32)), .val (.ref b1)] [(.ref b1)]))
    refine own_step (fun _ k => XS.iload X36.here hx rfl (hb hby at_129) rfl k) ?_
    show own_Ends _ _ _ _ _ _ _ (T36.setTop (mkF m 131 #[.val (.int p0), .val (.int p1), .val (.long q2), .second, .val (.int (4 : Int32)), .val (.ref b1)] [(.int (4 : Int32)), (.ref b1)]))
    refine own_step (fun _ k => XS.iconst X36.here hx rfl (hb hby at_131) k) ?_
    show own_Ends _ _ _ _ _ _ _ (T36.setTop (mkF m 132 #[.val (.int p0), .val (.int p1), .val (.long q2), .second, .val (.int (4 : Int32)), .val (.ref b1)] [(.int (3 : Int32)), (.int (4 : Int32)), (.ref b1)]))
    refine own_step (fun _ k => XS.iadd X36.here hx rfl (hb hby at_132) rfl k) ?_
    show own_Ends _ _ _ _ _ _ _ (T36.setTop (mkF m 133 #[.val (.int p0), .val (.int p1), .val (.long q2), .second, .val (.int (4 : Int32)), .val (.ref b1)] [(.int ((4 : Int32) + (3 : Int32))), (.ref b1)]))
    refine own_step (fun _ k => XS.iloadN X36.here hx rfl (hb hby at_133) rfl k) ?_
    show own_Ends _ _ _ _ _ _ _ (T36.setTop (mkF m 134 #[.val (.int p0), .val (.int p1), .val (.long q2), .second, .val (.int (4 : Int32)), .val (.ref b1)] [(.int p0), (.int ((4 : Int32) + (3 : Int32))), (.ref b1)]))
    refine own_step (fun _ k => XS.i2b X36.here hx rfl (hb hby at_134) rfl k) ?_
    show own_Ends _ _ _ _ _ _ _ (T36.setTop (mkF m 135 #[.val (.int p0), .val (.int p1), .val (.long q2), .second, .val (.int (4 : Int32)), .val (.ref b1)] [(.int ((p0).toInt8.toInt32)), (.int ((4 : Int32) + (3 : Int32))), (.ref b1)]))
    have nbz3 := own_nb (p0)
    generalize hvz3 : ((p0).toInt8.toInt32) = z3 at nbz3 ⊢
    obtain ⟨cl37, Ar37, qq37, S37, M37, H37, G37⟩ := id V36_b1
    have hin37 : ¬ (((4 : Int32) + (3 : Int32)) < 0 ∨ cl37.slots.size ≤ (((4 : Int32) + (3 : Int32))).toNatClampNeg) := inb_of S37 ⟨by decide, by decide⟩
    obtain ⟨T37, h37, X37, e37, W37, st37⟩ := stB X36 hx hZ e36 Ar37 (j := ((4 : Int32) + (3 : Int32))) hin37 (g := (mkF m 135 #[.val (.int p0), .val (.int p1), .val (.long q2), .second, .val (.int (4 : Int32)), .val (.ref b1)] [(.int z3), (.int ((4 : Int32) + (3 : Int32))), (.ref b1)])) rfl rfl (hb hby at_135)
    have N37 := Fr.snoc X37 N36 gn1
    rw [nbz3] at W37
    have V37_b1 : Arv Z h37 b1 k1 .byte (8 : Int32) [(.int y0), (.int y1), (.int y2), (.int y3), (.int z0), (.int z1), (.int z2), (.int z3)] (.int (0 : Int32)) := Arv.set Ar37 qq37 S37 M37 H37 G37 (by have := fits_nar_byte z3; rw [show (z3).toInt8.toInt32 = z3 from nbz3] at this; exact this) W37 7 (by decide) (by simp)
    have Z37 := Nat.le_trans Z36 (Keep.of_wr W37).1
    refine own_step (fun _ k => st37 _ k) ?_
    show own_Ends _ _ _ _ _ _ _ (T37.setTop (mkF m 136 #[.val (.int p0), .val (.int p1), .val (.long q2), .second, .val (.int (4 : Int32)), .val (.ref b1)] []))
    refine own_step (fun _ k => XS.aload X37.here hx rfl (hb hby at_136) rfl rfl k) ?_
    show own_Ends _ _ _ _ _ _ _ (T37.setTop (mkF m 138 #[.val (.int p0), .val (.int p1), .val (.long q2), .second, .val (.int (4 : Int32)), .val (.ref b1)] [(.ref b1)]))
    refine own_step (fun _ k => XS.iload X37.here hx rfl (hb hby at_138) rfl k) ?_
    show own_Ends _ _ _ _ _ _ _ (T37.setTop (mkF m 140 #[.val (.int p0), .val (.int p1), .val (.long q2), .second, .val (.int (4 : Int32)), .val (.ref b1)] [(.int (4 : Int32)), (.ref b1)]))
    obtain ⟨cl38, Ar38, qq38, S38, M38, H38, G38⟩ := id V37_b1
    have hin38_0 : ¬ ((4 : Int32) < 0 ∨ cl38.slots.size ≤ ((4 : Int32)).toNatClampNeg) := inb_of S38 ⟨by decide, by decide⟩
    have hat38_0 : cl38.slots[((4 : Int32)).toNatClampNeg]? = some (.int z0) := Has.at H38 hin38_0 rfl
    have hin38_1 : ¬ (((4 : Int32) + (1 : Int32)) < 0 ∨ cl38.slots.size ≤ (((4 : Int32) + (1 : Int32))).toNatClampNeg) := inb_of S38 ⟨by decide, by decide⟩
    have hat38_1 : cl38.slots[(((4 : Int32) + (1 : Int32))).toNatClampNeg]? = some (.int z1) := Has.at H38 hin38_1 rfl
    have hin38_2 : ¬ (((4 : Int32) + (2 : Int32)) < 0 ∨ cl38.slots.size ≤ (((4 : Int32) + (2 : Int32))).toNatClampNeg) := inb_of S38 ⟨by decide, by decide⟩
    have hat38_2 : cl38.slots[(((4 : Int32) + (2 : Int32))).toNatClampNeg]? = some (.int z2) := Has.at H38 hin38_2 rfl
    have hin38_3 : ¬ (((4 : Int32) + (3 : Int32)) < 0 ∨ cl38.slots.size ≤ (((4 : Int32) + (3 : Int32))).toNatClampNeg) := inb_of S38 ⟨by decide, by decide⟩
    have hat38_3 : cl38.slots[(((4 : Int32) + (3 : Int32))).toNatClampNeg]? = some (.int z3) := Has.at H38 hin38_3 rfl
    obtain ⟨_, _, ⟨T39, L39, k39, n39⟩, -, X39, ⟨Lc39, hQ39, l39, y39, z39⟩, st39⟩ := Jvm.LawKit.callS X37 hx (y := (⟨"com/example/derivant/derivant/cli/WireInput", "integer", "([BI)I"⟩ : MethodName)) hown (mvT hZ (hw _ (List.mem_of_getElem? (i := 2) rfl))) (mvT hZ (hw _ (List.mem_of_getElem? (i := 3) rfl))) (mvT hZ (hw _ (List.mem_of_getElem? (i := 4) rfl))) (mvT hZ (hw _ (List.mem_of_getElem? (i := 5) rfl))) (by decide) (backOf (W := 0) (own_rm1 l Z a0 hw [] b1 (4 : Int32) cl38 z0 z1 z2 z3 h37 n0 Z37 Ar38 hin38_0 hat38_0 hin38_1 hat38_1 hin38_2 hat38_2 hin38_3 hat38_3) hZ (hw _ (List.mem_of_getElem? (i := 5) rfl)) (hw _ (List.mem_of_getElem? (i := 4) rfl)) (by decide) (by decide)) (g := (mkF m 140 #[.val (.int p0), .val (.int p1), .val (.long q2), .second, .val (.int (4 : Int32)), .val (.ref b1)] [(.int (4 : Int32)), (.ref b1)])) rfl (by rw [hml]; rfl) (argsL := [(.ref b1), (.int (4 : Int32))]) (rest := []) (lenOf own_pd0 rfl) rfl (by show 2 * 0 + _ ≤ _; exact Nat.le_of_eq rfl) (hb hby at_140) (fun _ _ => ⟨rfl, e37, (by decide : 1 + 0 ≤ _), (by decide : 8 + 0 ≤ _)⟩)
    dsimp only [Pt.U, Pt.locs, Pt.cells, Pt.slots] at X39 l39 y39 z39 st39 hQ39
    subst l39 y39 z39
    obtain ⟨rfl, Nq39, e39⟩ := hQ39
    have N39 := Fr.app N37 Nq39
    refine own_step (fun _ k => st39 _ k) ?_
    show own_Ends _ _ _ _ _ _ _ (T39.setTop (mkF m 143 #[.val (.int p0), .val (.int p1), .val (.long q2), .second, .val (.int (4 : Int32)), .val (.ref b1)] [(.int (own_int z0 z1 z2 z3))]))
    refine own_step (fun _ k => XS.iloadN X39.here hx rfl (hb hby at_143) rfl k) ?_
    show own_Ends _ _ _ _ _ _ _ (T39.setTop (mkF m 144 #[.val (.int p0), .val (.int p1), .val (.long q2), .second, .val (.int (4 : Int32)), .val (.ref b1)] [(.int p0), (.int (own_int z0 z1 z2 z3))]))
    refine own_step (fun _ k => XS.icmpNo X39.here hx rfl (hb hby at_144) rfl (teq (own_whole hvz0 hvz1 hvz2 hvz3)).2 k) ?_
    show own_Ends _ _ _ _ _ _ _ (T39.setTop (mkF m 147 #[.val (.int p0), .val (.int p1), .val (.long q2), .second, .val (.int (4 : Int32)), .val (.ref b1)] []))
    refine own_step (fun _ k => XS.iconst X39.here hx rfl (hb hby at_147) k) ?_
    show own_Ends _ _ _ _ _ _ _ (T39.setTop (mkF m 148 #[.val (.int p0), .val (.int p1), .val (.long q2), .second, .val (.int (4 : Int32)), .val (.ref b1)] [(.int (1 : Int32))]))
    refine own_step (fun _ k => XS.goto X39.here hx rfl (pc0 := 148) (pc' := 152) rfl (hb hby at_148) (by decide) (by decide) k) ?_
    show own_Ends _ _ _ _ _ _ _ (T39.setTop (mkF m 152 #[.val (.int p0), .val (.int p1), .val (.long q2), .second, .val (.int (4 : Int32)), .val (.ref b1)] [(.int (1 : Int32))]))
    refine own_ret X39 (BodyLoose.notSynchronized Bd) (v := (some (.int (1 : Int32)))) (fun h => by rw [Bd.returns] at h; cases h) ?_ (by decide) (by decide) (fun fs hr => X39.ireturnOut hx Bd.returns rfl (by simp) (hb hby at_152) hr)
    show own_Q0 Z p0 p1 q2  h0 n0 (some (.int (1 : Int32))) T39.heap _
    rw [e39]
    exact ⟨rfl, N39⟩
set_option maxRecDepth 65536 in
set_option maxHeartbeats 40000000 in
theorem comes_1 {Post : Tables → Env → Array Value → State → Outcome → State → Prop} (hpost : ∀ tb e args s v u, (limb_1_1.after args s (.returned v) u = true ∧ limb_1_2.after args s (.returned v) u = true ∧ True) → FrameEnd s (.returned v) u (Jvm.fieldLocs frame_1_writes args s ++ Jvm.arrayLocs frame_1_arrays args s ++ Jvm.staticLocs frame_1_statics s) 16 128 → Post tb e args s (.returned v) u) :
    ArmFor flags0 classFile x code maxLocals ret World_1 tables_1 room_1 Calls_1 rest_1 Pre_1 Post := by
  intro l hfl _ _ p e ha hc hk s m args below hf hA hF happ hP
  obtain ⟨hcalls, hrest, hpre⟩ := hP
  obtain ⟨-, -, -, hnamed, -, -, -, hat⟩ := (Spec.applies_iff hf).mp happ
  obtain ⟨hg, hn⟩ := and_e (Cond.before_iff.mp (show (Jvm.Cond.and given_1 narrow_1).before args s = true from hpre))
  obtain ⟨g0, hg⟩ := and_e hg
  obtain ⟨ga0, hg⟩ := and_e hg
  obtain ⟨ga1, hg⟩ := and_e hg
  obtain ⟨w0, w1, w2, rfl⟩ : ∃ w0 w1 w2 : Value, args = #[w0, w1, w2] := by
    have hs : args.size = 3 := by simpa [Cond.value, given_1] using g0
    obtain ⟨L⟩ := args
    match L, hs with
    | [w0, w1, w2], _ => exact ⟨w0, w1, w2, rfl⟩
  have hw := fun d (hd : d ∈ tables_1) => atoms_spec (ws := Jvm.Cond.code x code maxLocals ret :: tables_1) hat d (List.mem_cons_of_mem _ hd)
  obtain ⟨i0, ei0⟩ := is_v ga0
  obtain rfl : w0 = (.int i0) := Option.some.inj ei0
  obtain ⟨i1, ei1⟩ := is_v ga1
  obtain rfl : w1 = (.int i1) := Option.some.inj ei1
  obtain ⟨i2, ei2⟩ := isL_v hg
  obtain rfl : w2 = (.long i2) := Option.some.inj ei2
  obtain ⟨n, o, h1, h2, h3, _, L, rfl, ⟨rfl, N⟩, hq⟩ := own_rm0 l s _ hw tables_1 i0 i1 i2 s.heap s.heap.size (Nat.le_refl _)  p e ha hc hk s m _ below hf ((Spec.applies_iff_loose hf).mp happ).1 ⟨rfl, State.Warmed39.refl s, rfl⟩ trivial
  refine ⟨n, _, h1, h2, h3, hpost _ _ _ _ _ _ ⟨Cond.after_iff.mpr rfl, Cond.after_iff.mpr (eq_i res_at (Term.int_eval (1)) rfl), trivial⟩ ⟨hq.1, hq.2.1, (hq.2.2.sift fun y hy => Or.inr (N y hy)).mono (by decide) (by decide)⟩⟩
theorem main_1_1 : Claimed_1_1 := comes_1 fun _ _ _ _ _ _ h hF => ⟨h.1, hF⟩
theorem main_1_2 : Claimed_1_2 := comes_1 fun _ _ _ _ _ _ h hF => ⟨h.2.1, hF⟩
end Jvm.Pilot.@@N@@
namespace Jvm.Pilot.@@N@@
open Jvm Jvm.ClassFile Sem Op Lib Jvm.Free Jvm.Stand Jvm.Pilot.@@N@@.Jvm.D
/-! MADE BY PROGRAM (witnessworld.py) out of the Statement's table words and the real class files: 9 classes; the members and pool entries that the words name. The judged class is class 1, her method 1. -/
namespace start1
open Jvm.ClassFile
def u (s : String) : CpInfo := .utf8 (stringToUtf16 s)
/-- a pool by its gaps: so many unusable entries, then the entry; so many at the end -/
def gap : Nat → List CpInfo → List CpInfo
  | 0, r => r
  | n + 1, r => .unusable :: gap n r
def poolList (es : List (Nat × CpInfo)) (last : Nat) : List CpInfo := es.foldr (fun e r => gap e.1 (e.2 :: r)) (gap last [])
def pool (es : List (Nat × CpInfo)) (last : Nat) : Array CpInfo := ⟨poolList es last⟩
def fileOf (pool : Array CpInfo) (this : Nat) (attrs : Array Attribute := #[]) (ms : Array MethodInfo := #[]) (fl : Nat := 33) (sup : Nat := 0) (ifs : Array Nat := #[]) (fds : Array FieldInfo := #[]) : ClassFile where
  minorVersion := 0
  majorVersion := 65
  constantPool := pool
  accessFlags := fl
  thisClass := this
  superClass := sup
  interfaces := ifs
  fields := fds
  methods := ms
  attributes := attrs
def plain (name : String) (sup : Option ClassId) : Class where
  name := name
  kind := .ordinary
  loader := none
  accessFlags := 33
  super := sup
  interfaces := #[]
  cf := none
  fields := #[]
  methods := #[]
  instanceTypes := #[]
  staticTypes := #[]
  resolved := #[]
  callSites := []
  init := .initialized
  statics := none
  mirror := none

def pool0 : Array CpInfo := pool [(5, u "<init>"), (0, u "()V"), (1, .class_ 10), (1, u "java/lang/Object")] 113

def k0m0 : Method := { name := "<init>", desc := "()V", sig := { parameters := [], returnType := none }, accessFlags := 1, code := none }
/-- java/lang/Object -/
def k0 : Class := { plain "java/lang/Object" none with
  accessFlags := 33
  interfaces := #[]
  cf := some (fileOf pool0 8 #[] #[{ accessFlags := 1, nameIndex := 5, descriptorIndex := 6, attributes := #[] }] 33 0 #[] #[])
  fields := #[]
  methods := #[k0m0]
  instanceTypes := #[]
  staticTypes := #[]
  resolved := Array.replicate 124 none
  statics := none }

def pool1 : Array CpInfo := pool [(2, .class_ 4), (1, u "java/lang/Object"), (0, u "<init>"), (0, u "()V"), (0, .integer 2147483647), (0, .methodref 9 10), (0, .class_ 11), (0, .nameAndType 12 13), (0, u "com/example/derivant/derivant/cli/WireInput"), (0, u "integer"), (0, u "([BI)I"), (0, .class_ 15), (0, u "com/example/derivant/derivant/cli/WireInputIntegerPinLaw"), (2, u "law"), (0, u "(IIJ)Z")] 5

def k1m0 : Method := { name := "<init>", desc := "()V", sig := { parameters := [], returnType := none }, accessFlags := 2, code := none }
def k1c1 : Code := { maxStack := 5, maxLocals := 6, code := code, exceptionTable := #[], attributes := #[] }
def k1m1 : Method := { name := "law", desc := "(IIJ)Z", sig := { parameters := [.int, .int, .long], returnType := some .boolean }, accessFlags := 9, code := some k1c1 }
/-- com/example/derivant/derivant/cli/WireInputIntegerPinLaw -/
def k1 : Class := { plain "com/example/derivant/derivant/cli/WireInputIntegerPinLaw" (some 0) with
  accessFlags := 49
  interfaces := #[]
  cf := some (fileOf pool1 14 #[] #[{ accessFlags := 2, nameIndex := 5, descriptorIndex := 6, attributes := #[] }, { accessFlags := 9, nameIndex := 18, descriptorIndex := 19, attributes := #[] }] 49 2 #[] #[])
  fields := #[]
  methods := #[k1m0, k1m1]
  instanceTypes := #[]
  staticTypes := #[]
  resolved := Array.replicate 25 none
  statics := none }

def pool2 : Array CpInfo := pool [(2, .class_ 4), (1, u "java/lang/Object"), (11, .class_ 18), (1, u "com/example/derivant/derivant/cli/WireInput"), (0, u "in"), (0, u "Ljava/io/DataInputStream;"), (13, u "integer"), (0, u "([BI)I"), (96, u "MAX_MESSAGE"), (0, u "I"), (1, u "MAX_STARTUP_PACKET"), (1, u "LENGTH_BYTES"), (1, u "ENDED_WITHIN_MESSAGE"), (0, u "Ljava/lang/String;")] 20

def k2c0 : Code := { maxStack := 4, maxLocals := 2, code := prog_11_method_10_code, exceptionTable := #[], attributes := #[] }
def k2m0 : Method := { name := "integer", desc := "([BI)I", sig := { parameters := [(.array .byte), .int], returnType := some .int }, accessFlags := 8, code := some k2c0 }
/-- com/example/derivant/derivant/cli/WireInput -/
def k2 : Class := { plain "com/example/derivant/derivant/cli/WireInput" (some 0) with
  accessFlags := 48
  interfaces := #[]
  cf := some (fileOf pool2 16 #[] #[{ accessFlags := 8, nameIndex := 34, descriptorIndex := 35, attributes := #[] }] 48 2 #[] #[{ accessFlags := 24, nameIndex := 132, descriptorIndex := 133, attributes := #[] }, { accessFlags := 24, nameIndex := 135, descriptorIndex := 133, attributes := #[] }, { accessFlags := 26, nameIndex := 137, descriptorIndex := 133, attributes := #[] }, { accessFlags := 26, nameIndex := 139, descriptorIndex := 140, attributes := #[] }, { accessFlags := 18, nameIndex := 19, descriptorIndex := 20, attributes := #[] }])
  fields := #[{ name := "MAX_MESSAGE", type := .int, accessFlags := 24, slot := 0, constantValue := 0 }, { name := "MAX_STARTUP_PACKET", type := .int, accessFlags := 24, slot := 1, constantValue := 0 }, { name := "LENGTH_BYTES", type := .int, accessFlags := 26, slot := 2, constantValue := 0 }, { name := "ENDED_WITHIN_MESSAGE", type := (.object "java/lang/String"), accessFlags := 26, slot := 3, constantValue := 0 }, { name := "in", type := (.object "java/io/DataInputStream"), accessFlags := 18, slot := 0, constantValue := 0 }]
  methods := #[k2m0]
  instanceTypes := #[(.object "java/io/DataInputStream")]
  staticTypes := #[.int, .int, .int, (.object "java/lang/String")]
  resolved := Array.replicate 161 none
  statics := none }

def pool3 : Array CpInfo := pool [(1, u "java/lang/Cloneable"), (0, .class_ 1), (0, u "java/lang/Object"), (0, .class_ 3)] 3

/-- java/lang/Cloneable -/
def k3 : Class := { plain "java/lang/Cloneable" (some 0) with
  accessFlags := 1537
  interfaces := #[]
  cf := some (fileOf pool3 2 #[] #[] 1537 4 #[] #[])
  fields := #[]
  methods := #[]
  instanceTypes := #[]
  staticTypes := #[]
  resolved := Array.replicate 8 none
  statics := none }

def pool4 : Array CpInfo := pool [(1, u "java/io/Serializable"), (0, .class_ 1), (0, u "java/lang/Object"), (0, .class_ 3)] 3

/-- java/io/Serializable -/
def k4 : Class := { plain "java/io/Serializable" (some 0) with
  accessFlags := 1537
  interfaces := #[]
  cf := some (fileOf pool4 2 #[] #[] 1537 4 #[] #[])
  fields := #[]
  methods := #[]
  instanceTypes := #[]
  staticTypes := #[]
  resolved := Array.replicate 8 none
  statics := none }

/-- the primitive byte -/
def k5 : Class := { plain "byte" none with kind := .primitive 'B', accessFlags := 0x411 }
/-- [B -/
def k6 : Class := { plain "[B" (some 0) with kind := .array 5 .byte, interfaces := #[3, 4], accessFlags := 1041 }

/-- the primitive int -/
def k7 : Class := { plain "int" none with kind := .primitive 'I', accessFlags := 0x411 }
/-- [I -/
def k8 : Class := { plain "[I" (some 0) with kind := .array 7 .int, interfaces := #[3, 4], accessFlags := 1041 }

def heap : Heap := #[]
def classes : Array Class := #[k0, k1, k2, k3, k4, k5, k6, k7, k8]
def interned : List (Array UInt16 × Addr) := []
def slotsUsed : Nat := 0
def theMethod : MethodId := ⟨1, 1⟩
def args0 : Array Value := #[.int 5, .int 7, .long 9]
def aboutOver (below : List Frame) : State where
  vm := { classes := classes, interned := interned.toArray }
  heap := heap
  slotsUsed := slotsUsed
  threads := #[{ frames := .invoking theMethod args0 :: below }]
def below0 : List Frame := [.native { method := ⟨0, 0⟩, args := #[] }]
def about1 : State := aboutOver below0
def p0 : Program := .bare "" "" ""
def e0 : Env := launch0.env 0 0 0
theorem w_frames : about1.frames = Frame.invoking theMethod args0 :: below0 := rfl
set_option maxRecDepth 65536 in
theorem w_args : argsFit about1.vm theMethod args0 = true := by decide +kernel
set_option maxRecDepth 65536 in
theorem w_heap : heapFits about1 = true := by decide +kernel
set_option maxRecDepth 65536 in
theorem w_runnable : about1.curStatus? = some .runnable := by decide +kernel
set_option maxRecDepth 65536 in
theorem w_alone : about1.alone = true := by decide +kernel
set_option maxRecDepth 65536 in
theorem w_named : about1.methodNamed? x = some theMethod := by decide +kernel
set_option maxRecDepth 65536 in
theorem w_hears : about1.hears theMethod below0 = true := by decide +kernel
set_option maxRecDepth 65536 in
theorem w_ripe : about1.ripe theMethod args0 below0 = true := by decide +kernel
theorem w_running : about1.status = .running := rfl
set_option maxRecDepth 65536 in
theorem w_room : about1.hasRoom e0.platform room_1 = true :=
  launch0.hasRoom_least _ room_1 (by decide +kernel) (by decide +kernel) (by decide +kernel) (by decide +kernel) (by decide +kernel) (by decide +kernel)
theorem allAtoms_all (ts : List Jvm.Cond) (a : Array Jvm.Value) (st : Jvm.State) : (allAtoms ts).before a st = ts.all (fun c => c.before a st) := by
  induction ts with
  | nil => rfl
  | cons c t ih =>
    show (Jvm.Cond.and c (allAtoms t)).before a st = _
    rw [Jvm.Cond.before_and, ih, List.all_cons]
def words1 : List Jvm.Cond := Jvm.Cond.code x code maxLocals ret :: tables_1
/-- a 'code' word, met by the world's own term for the bytes: nothing is compared byte by byte -/
theorem code_word {y : MethodName} {bytes : ByteArray} {mx : Nat} {rt : Option FieldType} {a : Array Value} {s : State} {m : MethodId} {meth : Method} {c : Code} (h1 : s.methodNamed? y = some m) (h2 : s.vm.method? m = some meth) (h3 : meth.code = some c) (h4 : c.code = bytes)
    (h5 : (c.maxLocals == mx && c.exceptionTable.isEmpty && decide (c.maxStack ≤ mostOperands) && decide (meth.sig.returnType = rt) && !meth.locks && decide (parseMethodDescriptor y.desc = some meth.sig)) = true) : (Jvm.Cond.code y bytes mx rt).before a s = true := by
  simp only [Bool.and_eq_true, beq_iff_eq, Bool.not_eq_true', decide_eq_true_eq] at h5
  obtain ⟨⟨⟨⟨⟨g1, g2⟩, g3⟩, g4⟩, g5⟩, g6⟩ := h5
  simp [Cond.before, Cond.holds, Cond.value, h1, h2, h3, h4, g1, g2, g3, g4, g5, g6]
def isCode : Jvm.Cond → Bool
  | .code _ _ _ _ => true
  | _ => false
theorem all_split {L : List Jvm.Cond} {P : Jvm.Cond → Bool} (h1 : L.all (fun c => isCode c || P c) = true) (h2 : ∀ c ∈ L.filter isCode, P c = true) : L.all P = true := by
  refine List.all_eq_true.mpr fun c hc => ?_
  have h := List.all_eq_true.mp h1 c hc
  rcases Bool.eq_false_or_eq_true (isCode c) with hi | hi
  · exact h2 c (List.mem_filter.mpr ⟨hc, hi⟩)
  · simpa [hi] using h
set_option maxRecDepth 65536 in
theorem w_c0 : (Jvm.Cond.code x code maxLocals ret).before args0 about1 = true := code_word (m := ⟨1, 1⟩) (meth := k1m1) (c := k1c1) (by decide +kernel) rfl rfl rfl (by decide +kernel)
set_option maxRecDepth 65536 in
theorem w_c1 : (Jvm.Cond.code ({ cls := "com/example/derivant/derivant/cli/WireInput", name := "integer", desc := "([BI)I" } : Jvm.MethodName) prog_11_method_10_code (2 : Nat) (Option.some Jvm.ClassFile.FieldType.int)).before args0 about1 = true := code_word (m := ⟨2, 0⟩) (meth := k2m0) (c := k2c0) (by decide +kernel) rfl rfl rfl (by decide +kernel)
def codes1 : List Jvm.Cond := [Jvm.Cond.code x code maxLocals ret, Jvm.Cond.code ({ cls := "com/example/derivant/derivant/cli/WireInput", name := "integer", desc := "([BI)I" } : Jvm.MethodName) prog_11_method_10_code (2 : Nat) (Option.some Jvm.ClassFile.FieldType.int)]
set_option maxRecDepth 65536 in
theorem codes_eq : words1.filter isCode = codes1 := rfl
theorem w_codes : ∀ c ∈ words1.filter isCode, c.before args0 about1 = true := by
  rw [codes_eq]
  intro c hc
  simp only [codes1, List.mem_cons, List.not_mem_nil, or_false] at hc
  rcases hc with rfl | rfl
  · exact w_c0
  · exact w_c1
set_option maxRecDepth 65536 in
theorem w_t1 : words1.all (fun c => isCode c || c.before args0 about1) = true := by decide +kernel
theorem w_tables : (allAtoms (Jvm.Cond.code x code maxLocals ret :: tables_1)).before args0 about1 = true := by
  rw [allAtoms_all]
  show words1.all (fun c => c.before args0 about1) = true
  refine all_split ?_ w_codes
  rw [w_t1]
set_option maxRecDepth 65536 in
theorem w_case : (Jvm.Cond.and given_1 narrow_1).before args0 about1 = true := by decide +kernel
theorem w_applies : (headSpec (Jvm.Cond.code x code maxLocals ret :: tables_1) room_1).applies x e0.platform about1 = true :=
  (Spec.applies_iff w_frames).mpr ⟨w_running, w_runnable, w_alone, w_named, w_hears, w_ripe, w_room, w_tables⟩
theorem atStart : AtStart classFile x code maxLocals ret World_1 tables_1 room_1 Calls_1 rest_1 Pre_1 launch0 p0 e0 about1 theMethod args0 below0 :=
  ⟨lists_1, trivial, launch0.admits_env _ _ _, launch0.least_env, fairChoices_fair.cas, fairChoices_fair.clock, w_frames, w_args, w_heap, w_applies, trivial, trivial, w_case⟩
end start1
theorem witness_1 : WitnessClaimed_1 := ⟨start1.p0, start1.e0, start1.about1, start1.theMethod, start1.args0, start1.below0, start1.atStart⟩
end Jvm.Pilot.@@N@@
