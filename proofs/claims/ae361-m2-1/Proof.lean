import JvmDerived
import JvmDerived.Pilot.@@N@@Statement
import JvmDerived.Pilot.@@N@@Code
set_option linter.unusedVariables false
set_option linter.unusedSimpArgs false
@@BLOCK:NumsL.lean.txt@@
namespace Jvm.Pilot.@@N@@
open Jvm Jvm.ClassFile Sem Op Lib Jvm.Free Jvm.Stand Jvm.LawKit Jvm.RoadKit Bundle Jvm.Pilot.@@N@@.Jvm.D
/-- the run that stands at st comes to a return: Q says what is returned, the heap and the places written; at most kc cells and ks slots are new -/
def own_Ends (p : Program) (e : Env) (below : List Frame) (s : State) (kc ks : Nat) (Q : Option Value → Heap → List Loc → Prop) (st : State) : Prop :=
  ∃ s₂ o, Steps p.tables e below st s₂ ∧ s₂.status = .running ∧ Ended s₂ below o ∧ ∃ v L, o = .returned v ∧ Q v s₂.heap L ∧ FrameEnd s o s₂ L kc ks
theorem own_step {p : Program} {e : Env} {below : List Frame} {s : State} {kc ks : Nat} {Q : Option Value → Heap → List Loc → Prop} {st st' : State}
    (h : ∀ t, Steps p.tables e below st' t → Steps p.tables e below st t) (k : own_Ends p e below s kc ks Q st') : own_Ends p e below s kc ks Q st := by
  obtain ⟨s₂, o, h1, h2⟩ := k
  exact ⟨s₂, o, h _ h1, h2⟩
theorem own_ret {p : Program} {l : Launch} {e : Env} {R : Room} {s : State} {m : MethodId} {args : Array Value} {below : List Frame} {meth : Method} {c : Code} {T : State} {locs : List Loc} {cells slots : Nat} {kc ks : Nat} {Q : Option Value → Heap → List Loc → Prop} {st : State}
    (X : Stand p l e R s m args below meth c T locs cells slots) (hlocks : meth.locks = false) {v : Option Value} (hv : meth.sig.returnType = none → v = none) (hq : Q v T.heap locs) (hc : cells ≤ kc) (hs : slots ≤ ks)
    (hr : ∀ fs, (∀ (f : JFrame) (acts : List Action), f.method = m → f.locked = none → f.entered = [] → (doReturn e (T.setTop f) acts v).1 = T.setFrames fs) → Steps p.tables e below st (T.setFrames fs)) : own_Ends p e below s kc ks Q st := by
  obtain ⟨fs, h1, hrun, hended, hW, hsame⟩ := X.leave (v := v) hv hlocks
  exact ⟨_, _, hr fs h1, hrun, hended, v, locs, rfl, hq, ⟨_, rfl⟩, hW, hsame.mono hc hs⟩

theorem own_xor3 {w : Nat} (x a b : BitVec w) : (x ^^^ a) ^^^ (a ^^^ b) ^^^ (b ^^^ 0#w) = x := by
  apply BitVec.eq_of_getLsbD_eq
  intro i hi
  simp only [BitVec.getLsbD_xor, BitVec.getLsbD_zero]
  cases x.getLsbD i <;> cases a.getLsbD i <;> cases b.getLsbD i <;> rfl
theorem own_undoB (x : BitVec 64) (n k t : Nat) (h1 : n + n = k) (h2 : n + k = t) (h3 : 64 ≤ t) : (x ^^^ x >>> n) ^^^ (x ^^^ x >>> n) >>> n ^^^ (x ^^^ x >>> n) >>> k = x := by
  have e : x >>> t = 0#64 := BitVec.ushiftRight_eq_zero h3
  simp only [BitVec.ushiftRight_xor_distrib, ← BitVec.shiftRight_add, h1, h2, e]
  exact own_xor3 _ _ _
def own_x2 (z : Int64) (n : Int32) : Int64 := z ^^^ XT.ushrL z n
def own_x3 (z : Int64) (n k : Int32) : Int64 := z ^^^ XT.ushrL z n ^^^ XT.ushrL z k
def own_nw (a x : Int64) : Int64 := x * (2 - a * x)
def own_inv (a : Int64) : Int64 := own_nw a (own_nw a (own_nw a (own_nw a (own_nw a a))))
def own_st (q0 q1 : Int64) : Int64 := q0 + (q1 + 1) * (-7046029254386353131 : Int64)
def own_der (q0 q1 : Int64) : Int64 := own_x2 (own_x2 (own_x2 (own_st q0 q1) 30 * (-4658895280553007687 : Int64)) 27 * (-7723592293110705685 : Int64)) 31
theorem own_u31 (z : Int64) : own_x3 (own_x2 z 31) 31 62 = z := by
  apply Int64.toBitVec_inj.mp
  exact own_undoB z.toBitVec 31 62 93 rfl rfl (by decide)
theorem own_u27 (z : Int64) : own_x3 (own_x2 z 27) 27 54 = z := by
  apply Int64.toBitVec_inj.mp
  exact own_undoB z.toBitVec 27 54 81 rfl rfl (by decide)
theorem own_u30 (z : Int64) : own_x3 (own_x2 z 30) 30 60 = z := by
  apply Int64.toBitVec_inj.mp
  exact own_undoB z.toBitVec 30 60 90 rfl rfl (by decide)
theorem own_i1 : (-4658895280553007687 : Int64) * own_inv (-4658895280553007687 : Int64) = 1 := by decide +kernel
theorem own_i2 : (-7723592293110705685 : Int64) * own_inv (-7723592293110705685 : Int64) = 1 := by decide +kernel
theorem own_back (q0 q1 : Int64) : own_x3 (own_x3 (own_x3 (own_der q0 q1) 31 62 * own_inv (-7723592293110705685 : Int64)) 27 54 * own_inv (-4658895280553007687 : Int64)) 30 60 = own_st q0 q1 := by
  rw [own_der, own_u31, Int64.mul_assoc, own_i2, Int64.mul_one, own_u27, Int64.mul_assoc, own_i1, Int64.mul_one, own_u30]
theorem own_d1_0 : decode prog_26_method_2_code 0 = .ok (.lload_n 0, 1) := by decide +kernel
theorem own_d1_1 : decode prog_26_method_2_code 1 = .ok (.lload_n 2, 1) := by decide +kernel
theorem own_d1_2 : decode prog_26_method_2_code 2 = .ok (.lconst 1, 1) := by decide +kernel
theorem own_d1_3 : decode prog_26_method_2_code 3 = .ok (.ladd, 1) := by decide +kernel
theorem own_d1_4 : decode prog_26_method_2_code 4 = .ok (.ldc2_w 9, 3) := by decide +kernel
theorem own_d1_7 : decode prog_26_method_2_code 7 = .ok (.lmul, 1) := by decide +kernel
theorem own_d1_8 : decode prog_26_method_2_code 8 = .ok (.ladd, 1) := by decide +kernel
theorem own_d1_9 : decode prog_26_method_2_code 9 = .ok (.lstore 4, 2) := by decide +kernel
theorem own_d1_11 : decode prog_26_method_2_code 11 = .ok (.lload 4, 2) := by decide +kernel
theorem own_d1_13 : decode prog_26_method_2_code 13 = .ok (.lload 4, 2) := by decide +kernel
theorem own_d1_15 : decode prog_26_method_2_code 15 = .ok (.bipush 30, 2) := by decide +kernel
theorem own_d1_17 : decode prog_26_method_2_code 17 = .ok (.lushr, 1) := by decide +kernel
theorem own_d1_18 : decode prog_26_method_2_code 18 = .ok (.lxor, 1) := by decide +kernel
theorem own_d1_19 : decode prog_26_method_2_code 19 = .ok (.ldc2_w 11, 3) := by decide +kernel
theorem own_d1_22 : decode prog_26_method_2_code 22 = .ok (.lmul, 1) := by decide +kernel
theorem own_d1_23 : decode prog_26_method_2_code 23 = .ok (.lstore 4, 2) := by decide +kernel
theorem own_d1_25 : decode prog_26_method_2_code 25 = .ok (.lload 4, 2) := by decide +kernel
theorem own_d1_27 : decode prog_26_method_2_code 27 = .ok (.lload 4, 2) := by decide +kernel
theorem own_d1_29 : decode prog_26_method_2_code 29 = .ok (.bipush 27, 2) := by decide +kernel
theorem own_d1_31 : decode prog_26_method_2_code 31 = .ok (.lushr, 1) := by decide +kernel
theorem own_d1_32 : decode prog_26_method_2_code 32 = .ok (.lxor, 1) := by decide +kernel
theorem own_d1_33 : decode prog_26_method_2_code 33 = .ok (.ldc2_w 13, 3) := by decide +kernel
theorem own_d1_36 : decode prog_26_method_2_code 36 = .ok (.lmul, 1) := by decide +kernel
theorem own_d1_37 : decode prog_26_method_2_code 37 = .ok (.lstore 4, 2) := by decide +kernel
theorem own_d1_39 : decode prog_26_method_2_code 39 = .ok (.lload 4, 2) := by decide +kernel
theorem own_d1_41 : decode prog_26_method_2_code 41 = .ok (.lload 4, 2) := by decide +kernel
theorem own_d1_43 : decode prog_26_method_2_code 43 = .ok (.bipush 31, 2) := by decide +kernel
theorem own_d1_45 : decode prog_26_method_2_code 45 = .ok (.lushr, 1) := by decide +kernel
theorem own_d1_46 : decode prog_26_method_2_code 46 = .ok (.lxor, 1) := by decide +kernel
theorem own_d1_47 : decode prog_26_method_2_code 47 = .ok (.lreturn, 1) := by decide +kernel
theorem own_pn0 : plainName "com/example/parley/parley/cli/Seeds" = true := by first | (simp [plainName, overriddenIn]; done) | decide +kernel
theorem own_ef1 (m : MethodId) (q0 : Int64) (q1 : Int64) : entryFrame m #[(.long q0), (.long q1)] 6 = mkF m 0 #[.val (.long q0), .second, .val (.long q1), .second, .unset, .unset] [] := by first | (simp [entryFrame, mkF, argsToLocals, Value.category]; done) | rfl
def own_Q1 (Z : State) (q0 : Int64) (q1 : Int64)  (h0 : Heap) (n0 : Nat) (v : Option Value) (h : Heap) (L : List Loc) : Prop := v = some (.long (own_der q0 q1)) ∧ Fr n0 L ∧ h = h0
set_option maxRecDepth 65536 in
set_option maxHeartbeats 40000000 in
theorem own_rm1 (l : Launch) (Z : State) (a0 : Array Value) (hw : ∀ d ∈ tables_1, d.before a0 Z = true) (ws : List Jvm.Cond) (q0 : Int64) (q1 : Int64)  (h0 : Heap) (n0 : Nat) (Z0 : n0 ≤ h0.size)  :
    MetFree l (⟨"com/example/parley/parley/cli/Seeds", "derived", "(JJ)J"⟩ : MethodName) (head1 (Jvm.Cond.code (⟨"com/example/parley/parley/cli/Seeds", "derived", "(JJ)J"⟩ : MethodName) prog_26_method_2_code 6 (some .long) :: ws) ({ frames := 0, cells := 0, slots := 0, locals := 0 } : Room)) (fun a U => a = #[(.long q0), (.long q1)] ∧ Z.Warmed39 U.vm ∧ U.heap = h0) (fun _ _ _ _ _ => True) (fun _ U o U' => ∃ v L, o = .returned v ∧ own_Q1 Z q0 q1  h0 n0 v U'.heap L ∧ FrameEnd U o U' L ({ frames := 0, cells := 0, slots := 0, locals := 0 } : Room).cells ({ frames := 0, cells := 0, slots := 0, locals := 0 } : Room).slots) := by
  refine MetFree.of_bodySF (plainFor_of_name own_pn0) hisR ?_
  intro p e s m args below meth c s₁ Bd hml0 hP hK
  obtain ⟨rfl, hZ, hh⟩ := hP
  have hx := Bd.exec
  have hby := Bd.bytes
  have hml : c.maxLocals = 6 := hml0
  have hown : s.vm.findClass "com/example/parley/parley/cli/Seeds" = some m.cls := findClass_of_methodNamed Bd.named
  have hnm := (name_of_methodNamed Bd.named Bd.method).1
  have X0 : Stand p l e ({ frames := 0, cells := 0, slots := 0, locals := 0 } : Room) s m #[(.long q0), (.long q1)] below meth c s₁ [] 0 0 := Stand.of_body Bd
  have e0 : s₁.heap = h0 := by rw [← hh, Bd.state]; rfl
  have N0 := Fr.nil n0
  suffices H : own_Ends p e below s ({ frames := 0, cells := 0, slots := 0, locals := 0 } : Room).cells ({ frames := 0, cells := 0, slots := 0, locals := 0 } : Room).slots (own_Q1 Z q0 q1  h0 n0) (s₁.setTop (mkF m 0 #[.val (.long q0), .second, .val (.long q1), .second, .unset, .unset] [])) by
    obtain ⟨s₂, o, h1, h2⟩ := H
    exact ⟨s₂, o, castTop (own_ef1 m q0 q1) h1, h2⟩
  show own_Ends _ _ _ _ _ _ _ (s₁.setTop (mkF m 0 #[.val (.long q0), .second, .val (.long q1), .second, .unset, .unset] []))
  refine own_step (fun _ k => XS.lloadN X0.here hx rfl (hb hby own_d1_0) rfl k) ?_
  show own_Ends _ _ _ _ _ _ _ (s₁.setTop (mkF m 1 #[.val (.long q0), .second, .val (.long q1), .second, .unset, .unset] [(.long q0)]))
  refine own_step (fun _ k => XS.lloadN X0.here hx rfl (hb hby own_d1_1) rfl k) ?_
  show own_Ends _ _ _ _ _ _ _ (s₁.setTop (mkF m 2 #[.val (.long q0), .second, .val (.long q1), .second, .unset, .unset] [(.long q1), (.long q0)]))
  refine own_step (fun _ k => XS.lconst X0.here hx rfl (hb hby own_d1_2) k) ?_
  show own_Ends _ _ _ _ _ _ _ (s₁.setTop (mkF m 3 #[.val (.long q0), .second, .val (.long q1), .second, .unset, .unset] [(.long (1 : Int64)), (.long q1), (.long q0)]))
  refine own_step (fun _ k => XS.ladd X0.here hx rfl (hb hby own_d1_3) rfl k) ?_
  show own_Ends _ _ _ _ _ _ _ (s₁.setTop (mkF m 4 #[.val (.long q0), .second, .val (.long q1), .second, .unset, .unset] [(.long (q1 + (1 : Int64))), (.long q0)]))
  refine own_step (fun _ k => X0.ldc2Long hx hown (mvT hZ (hw _ (List.mem_of_getElem? (i := 4) rfl))) (g := (mkF m 4 #[.val (.long q0), .second, .val (.long q1), .second, .unset, .unset] [(.long (q1 + (1 : Int64))), (.long q0)])) rfl (hb hby own_d1_4) _ k) ?_
  show own_Ends _ _ _ _ _ _ _ (s₁.setTop (mkF m 7 #[.val (.long q0), .second, .val (.long q1), .second, .unset, .unset] [(.long (-7046029254386353131 : Int64)), (.long (q1 + (1 : Int64))), (.long q0)]))
  refine own_step (fun _ k => XS.lmul X0.here hx rfl (hb hby own_d1_7) rfl k) ?_
  show own_Ends _ _ _ _ _ _ _ (s₁.setTop (mkF m 8 #[.val (.long q0), .second, .val (.long q1), .second, .unset, .unset] [(.long ((q1 + (1 : Int64)) * (-7046029254386353131 : Int64))), (.long q0)]))
  refine own_step (fun _ k => XS.ladd X0.here hx rfl (hb hby own_d1_8) rfl k) ?_
  show own_Ends _ _ _ _ _ _ _ (s₁.setTop (mkF m 9 #[.val (.long q0), .second, .val (.long q1), .second, .unset, .unset] [(.long (q0 + ((q1 + (1 : Int64)) * (-7046029254386353131 : Int64))))]))
  show own_Ends _ _ _ _ _ _ _ (s₁.setTop (mkF m 9 #[.val (.long q0), .second, .val (.long q1), .second, .unset, .unset] [(.long (own_st q0 q1))]))
  refine own_step (fun _ k => XS.lstore X0.here hx rfl (hb hby own_d1_9) rfl (l' := #[.val (.long q0), .second, .val (.long q1), .second, .val (.long (own_st q0 q1)), .second]) rfl k) ?_
  show own_Ends _ _ _ _ _ _ _ (s₁.setTop (mkF m 11 #[.val (.long q0), .second, .val (.long q1), .second, .val (.long (own_st q0 q1)), .second] []))
  refine own_step (fun _ k => XS.lload X0.here hx rfl (hb hby own_d1_11) rfl k) ?_
  show own_Ends _ _ _ _ _ _ _ (s₁.setTop (mkF m 13 #[.val (.long q0), .second, .val (.long q1), .second, .val (.long (own_st q0 q1)), .second] [(.long (own_st q0 q1))]))
  refine own_step (fun _ k => XS.lload X0.here hx rfl (hb hby own_d1_13) rfl k) ?_
  show own_Ends _ _ _ _ _ _ _ (s₁.setTop (mkF m 15 #[.val (.long q0), .second, .val (.long q1), .second, .val (.long (own_st q0 q1)), .second] [(.long (own_st q0 q1)), (.long (own_st q0 q1))]))
  refine own_step (fun _ k => XS.bipush X0.here hx rfl (hb hby own_d1_15) k) ?_
  show own_Ends _ _ _ _ _ _ _ (s₁.setTop (mkF m 17 #[.val (.long q0), .second, .val (.long q1), .second, .val (.long (own_st q0 q1)), .second] [(.int (30 : Int32)), (.long (own_st q0 q1)), (.long (own_st q0 q1))]))
  refine own_step (fun _ k => XT.lushr X0.here hx rfl (hb hby own_d1_17) rfl k) ?_
  show own_Ends _ _ _ _ _ _ _ (s₁.setTop (mkF m 18 #[.val (.long q0), .second, .val (.long q1), .second, .val (.long (own_st q0 q1)), .second] [(.long (XT.ushrL (own_st q0 q1) (30 : Int32))), (.long (own_st q0 q1))]))
  refine own_step (fun _ k => XS.lxor X0.here hx rfl (hb hby own_d1_18) rfl k) ?_
  show own_Ends _ _ _ _ _ _ _ (s₁.setTop (mkF m 19 #[.val (.long q0), .second, .val (.long q1), .second, .val (.long (own_st q0 q1)), .second] [(.long ((own_st q0 q1) ^^^ (XT.ushrL (own_st q0 q1) (30 : Int32))))]))
  show own_Ends _ _ _ _ _ _ _ (s₁.setTop (mkF m 19 #[.val (.long q0), .second, .val (.long q1), .second, .val (.long (own_st q0 q1)), .second] [(.long (own_x2 (own_st q0 q1) 30))]))
  refine own_step (fun _ k => X0.ldc2Long hx hown (mvT hZ (hw _ (List.mem_of_getElem? (i := 5) rfl))) (g := (mkF m 19 #[.val (.long q0), .second, .val (.long q1), .second, .val (.long (own_st q0 q1)), .second] [(.long (own_x2 (own_st q0 q1) 30))])) rfl (hb hby own_d1_19) _ k) ?_
  show own_Ends _ _ _ _ _ _ _ (s₁.setTop (mkF m 22 #[.val (.long q0), .second, .val (.long q1), .second, .val (.long (own_st q0 q1)), .second] [(.long (-4658895280553007687 : Int64)), (.long (own_x2 (own_st q0 q1) 30))]))
  refine own_step (fun _ k => XS.lmul X0.here hx rfl (hb hby own_d1_22) rfl k) ?_
  show own_Ends _ _ _ _ _ _ _ (s₁.setTop (mkF m 23 #[.val (.long q0), .second, .val (.long q1), .second, .val (.long (own_st q0 q1)), .second] [(.long ((own_x2 (own_st q0 q1) 30) * (-4658895280553007687 : Int64)))]))
  refine own_step (fun _ k => XS.lstore X0.here hx rfl (hb hby own_d1_23) rfl (l' := #[.val (.long q0), .second, .val (.long q1), .second, .val (.long ((own_x2 (own_st q0 q1) 30) * (-4658895280553007687 : Int64))), .second]) rfl k) ?_
  show own_Ends _ _ _ _ _ _ _ (s₁.setTop (mkF m 25 #[.val (.long q0), .second, .val (.long q1), .second, .val (.long ((own_x2 (own_st q0 q1) 30) * (-4658895280553007687 : Int64))), .second] []))
  refine own_step (fun _ k => XS.lload X0.here hx rfl (hb hby own_d1_25) rfl k) ?_
  show own_Ends _ _ _ _ _ _ _ (s₁.setTop (mkF m 27 #[.val (.long q0), .second, .val (.long q1), .second, .val (.long ((own_x2 (own_st q0 q1) 30) * (-4658895280553007687 : Int64))), .second] [(.long ((own_x2 (own_st q0 q1) 30) * (-4658895280553007687 : Int64)))]))
  refine own_step (fun _ k => XS.lload X0.here hx rfl (hb hby own_d1_27) rfl k) ?_
  show own_Ends _ _ _ _ _ _ _ (s₁.setTop (mkF m 29 #[.val (.long q0), .second, .val (.long q1), .second, .val (.long ((own_x2 (own_st q0 q1) 30) * (-4658895280553007687 : Int64))), .second] [(.long ((own_x2 (own_st q0 q1) 30) * (-4658895280553007687 : Int64))), (.long ((own_x2 (own_st q0 q1) 30) * (-4658895280553007687 : Int64)))]))
  refine own_step (fun _ k => XS.bipush X0.here hx rfl (hb hby own_d1_29) k) ?_
  show own_Ends _ _ _ _ _ _ _ (s₁.setTop (mkF m 31 #[.val (.long q0), .second, .val (.long q1), .second, .val (.long ((own_x2 (own_st q0 q1) 30) * (-4658895280553007687 : Int64))), .second] [(.int (27 : Int32)), (.long ((own_x2 (own_st q0 q1) 30) * (-4658895280553007687 : Int64))), (.long ((own_x2 (own_st q0 q1) 30) * (-4658895280553007687 : Int64)))]))
  refine own_step (fun _ k => XT.lushr X0.here hx rfl (hb hby own_d1_31) rfl k) ?_
  show own_Ends _ _ _ _ _ _ _ (s₁.setTop (mkF m 32 #[.val (.long q0), .second, .val (.long q1), .second, .val (.long ((own_x2 (own_st q0 q1) 30) * (-4658895280553007687 : Int64))), .second] [(.long (XT.ushrL ((own_x2 (own_st q0 q1) 30) * (-4658895280553007687 : Int64)) (27 : Int32))), (.long ((own_x2 (own_st q0 q1) 30) * (-4658895280553007687 : Int64)))]))
  refine own_step (fun _ k => XS.lxor X0.here hx rfl (hb hby own_d1_32) rfl k) ?_
  show own_Ends _ _ _ _ _ _ _ (s₁.setTop (mkF m 33 #[.val (.long q0), .second, .val (.long q1), .second, .val (.long ((own_x2 (own_st q0 q1) 30) * (-4658895280553007687 : Int64))), .second] [(.long (((own_x2 (own_st q0 q1) 30) * (-4658895280553007687 : Int64)) ^^^ (XT.ushrL ((own_x2 (own_st q0 q1) 30) * (-4658895280553007687 : Int64)) (27 : Int32))))]))
  show own_Ends _ _ _ _ _ _ _ (s₁.setTop (mkF m 33 #[.val (.long q0), .second, .val (.long q1), .second, .val (.long ((own_x2 (own_st q0 q1) 30) * (-4658895280553007687 : Int64))), .second] [(.long (own_x2 (own_x2 (own_st q0 q1) 30 * (-4658895280553007687 : Int64)) 27))]))
  refine own_step (fun _ k => X0.ldc2Long hx hown (mvT hZ (hw _ (List.mem_of_getElem? (i := 6) rfl))) (g := (mkF m 33 #[.val (.long q0), .second, .val (.long q1), .second, .val (.long ((own_x2 (own_st q0 q1) 30) * (-4658895280553007687 : Int64))), .second] [(.long (own_x2 (own_x2 (own_st q0 q1) 30 * (-4658895280553007687 : Int64)) 27))])) rfl (hb hby own_d1_33) _ k) ?_
  show own_Ends _ _ _ _ _ _ _ (s₁.setTop (mkF m 36 #[.val (.long q0), .second, .val (.long q1), .second, .val (.long ((own_x2 (own_st q0 q1) 30) * (-4658895280553007687 : Int64))), .second] [(.long (-7723592293110705685 : Int64)), (.long (own_x2 (own_x2 (own_st q0 q1) 30 * (-4658895280553007687 : Int64)) 27))]))
  refine own_step (fun _ k => XS.lmul X0.here hx rfl (hb hby own_d1_36) rfl k) ?_
  show own_Ends _ _ _ _ _ _ _ (s₁.setTop (mkF m 37 #[.val (.long q0), .second, .val (.long q1), .second, .val (.long ((own_x2 (own_st q0 q1) 30) * (-4658895280553007687 : Int64))), .second] [(.long ((own_x2 (own_x2 (own_st q0 q1) 30 * (-4658895280553007687 : Int64)) 27) * (-7723592293110705685 : Int64)))]))
  refine own_step (fun _ k => XS.lstore X0.here hx rfl (hb hby own_d1_37) rfl (l' := #[.val (.long q0), .second, .val (.long q1), .second, .val (.long ((own_x2 (own_x2 (own_st q0 q1) 30 * (-4658895280553007687 : Int64)) 27) * (-7723592293110705685 : Int64))), .second]) rfl k) ?_
  show own_Ends _ _ _ _ _ _ _ (s₁.setTop (mkF m 39 #[.val (.long q0), .second, .val (.long q1), .second, .val (.long ((own_x2 (own_x2 (own_st q0 q1) 30 * (-4658895280553007687 : Int64)) 27) * (-7723592293110705685 : Int64))), .second] []))
  refine own_step (fun _ k => XS.lload X0.here hx rfl (hb hby own_d1_39) rfl k) ?_
  show own_Ends _ _ _ _ _ _ _ (s₁.setTop (mkF m 41 #[.val (.long q0), .second, .val (.long q1), .second, .val (.long ((own_x2 (own_x2 (own_st q0 q1) 30 * (-4658895280553007687 : Int64)) 27) * (-7723592293110705685 : Int64))), .second] [(.long ((own_x2 (own_x2 (own_st q0 q1) 30 * (-4658895280553007687 : Int64)) 27) * (-7723592293110705685 : Int64)))]))
  refine own_step (fun _ k => XS.lload X0.here hx rfl (hb hby own_d1_41) rfl k) ?_
  show own_Ends _ _ _ _ _ _ _ (s₁.setTop (mkF m 43 #[.val (.long q0), .second, .val (.long q1), .second, .val (.long ((own_x2 (own_x2 (own_st q0 q1) 30 * (-4658895280553007687 : Int64)) 27) * (-7723592293110705685 : Int64))), .second] [(.long ((own_x2 (own_x2 (own_st q0 q1) 30 * (-4658895280553007687 : Int64)) 27) * (-7723592293110705685 : Int64))), (.long ((own_x2 (own_x2 (own_st q0 q1) 30 * (-4658895280553007687 : Int64)) 27) * (-7723592293110705685 : Int64)))]))
  refine own_step (fun _ k => XS.bipush X0.here hx rfl (hb hby own_d1_43) k) ?_
  show own_Ends _ _ _ _ _ _ _ (s₁.setTop (mkF m 45 #[.val (.long q0), .second, .val (.long q1), .second, .val (.long ((own_x2 (own_x2 (own_st q0 q1) 30 * (-4658895280553007687 : Int64)) 27) * (-7723592293110705685 : Int64))), .second] [(.int (31 : Int32)), (.long ((own_x2 (own_x2 (own_st q0 q1) 30 * (-4658895280553007687 : Int64)) 27) * (-7723592293110705685 : Int64))), (.long ((own_x2 (own_x2 (own_st q0 q1) 30 * (-4658895280553007687 : Int64)) 27) * (-7723592293110705685 : Int64)))]))
  refine own_step (fun _ k => XT.lushr X0.here hx rfl (hb hby own_d1_45) rfl k) ?_
  show own_Ends _ _ _ _ _ _ _ (s₁.setTop (mkF m 46 #[.val (.long q0), .second, .val (.long q1), .second, .val (.long ((own_x2 (own_x2 (own_st q0 q1) 30 * (-4658895280553007687 : Int64)) 27) * (-7723592293110705685 : Int64))), .second] [(.long (XT.ushrL ((own_x2 (own_x2 (own_st q0 q1) 30 * (-4658895280553007687 : Int64)) 27) * (-7723592293110705685 : Int64)) (31 : Int32))), (.long ((own_x2 (own_x2 (own_st q0 q1) 30 * (-4658895280553007687 : Int64)) 27) * (-7723592293110705685 : Int64)))]))
  refine own_step (fun _ k => XS.lxor X0.here hx rfl (hb hby own_d1_46) rfl k) ?_
  show own_Ends _ _ _ _ _ _ _ (s₁.setTop (mkF m 47 #[.val (.long q0), .second, .val (.long q1), .second, .val (.long ((own_x2 (own_x2 (own_st q0 q1) 30 * (-4658895280553007687 : Int64)) 27) * (-7723592293110705685 : Int64))), .second] [(.long (((own_x2 (own_x2 (own_st q0 q1) 30 * (-4658895280553007687 : Int64)) 27) * (-7723592293110705685 : Int64)) ^^^ (XT.ushrL ((own_x2 (own_x2 (own_st q0 q1) 30 * (-4658895280553007687 : Int64)) 27) * (-7723592293110705685 : Int64)) (31 : Int32))))]))
  show own_Ends _ _ _ _ _ _ _ (s₁.setTop (mkF m 47 #[.val (.long q0), .second, .val (.long q1), .second, .val (.long ((own_x2 (own_x2 (own_st q0 q1) 30 * (-4658895280553007687 : Int64)) 27) * (-7723592293110705685 : Int64))), .second] [(.long (own_der q0 q1))]))
  refine own_ret X0 (BodyLoose.notSynchronized Bd) (v := (some (.long (own_der q0 q1)))) (fun h => by rw [Bd.returns] at h; cases h) ?_ (by decide) (by decide) (fun fs hr => X0.lreturnOut hx Bd.returns (hb hby own_d1_47) hr)
  show own_Q1 Z q0 q1  h0 n0 (some (.long (own_der q0 q1))) s₁.heap _
  rw [e0]
  exact ⟨rfl, N0, rfl⟩
theorem own_d2_0 : decode method_2_code 0 = .ok (.lload_n 0, 1) := by decide +kernel
theorem own_d2_1 : decode method_2_code 1 = .ok (.lstore_n 2, 1) := by decide +kernel
theorem own_d2_2 : decode method_2_code 2 = .ok (.lload_n 2, 1) := by decide +kernel
theorem own_d2_3 : decode method_2_code 3 = .ok (.ldc2_w 7, 3) := by decide +kernel
theorem own_d2_6 : decode method_2_code 6 = .ok (.lload_n 0, 1) := by decide +kernel
theorem own_d2_7 : decode method_2_code 7 = .ok (.lload_n 2, 1) := by decide +kernel
theorem own_d2_8 : decode method_2_code 8 = .ok (.lmul, 1) := by decide +kernel
theorem own_d2_9 : decode method_2_code 9 = .ok (.lsub, 1) := by decide +kernel
theorem own_d2_10 : decode method_2_code 10 = .ok (.lmul, 1) := by decide +kernel
theorem own_d2_11 : decode method_2_code 11 = .ok (.lstore_n 2, 1) := by decide +kernel
theorem own_d2_12 : decode method_2_code 12 = .ok (.lload_n 2, 1) := by decide +kernel
theorem own_d2_13 : decode method_2_code 13 = .ok (.ldc2_w 7, 3) := by decide +kernel
theorem own_d2_16 : decode method_2_code 16 = .ok (.lload_n 0, 1) := by decide +kernel
theorem own_d2_17 : decode method_2_code 17 = .ok (.lload_n 2, 1) := by decide +kernel
theorem own_d2_18 : decode method_2_code 18 = .ok (.lmul, 1) := by decide +kernel
theorem own_d2_19 : decode method_2_code 19 = .ok (.lsub, 1) := by decide +kernel
theorem own_d2_20 : decode method_2_code 20 = .ok (.lmul, 1) := by decide +kernel
theorem own_d2_21 : decode method_2_code 21 = .ok (.lstore_n 2, 1) := by decide +kernel
theorem own_d2_22 : decode method_2_code 22 = .ok (.lload_n 2, 1) := by decide +kernel
theorem own_d2_23 : decode method_2_code 23 = .ok (.ldc2_w 7, 3) := by decide +kernel
theorem own_d2_26 : decode method_2_code 26 = .ok (.lload_n 0, 1) := by decide +kernel
theorem own_d2_27 : decode method_2_code 27 = .ok (.lload_n 2, 1) := by decide +kernel
theorem own_d2_28 : decode method_2_code 28 = .ok (.lmul, 1) := by decide +kernel
theorem own_d2_29 : decode method_2_code 29 = .ok (.lsub, 1) := by decide +kernel
theorem own_d2_30 : decode method_2_code 30 = .ok (.lmul, 1) := by decide +kernel
theorem own_d2_31 : decode method_2_code 31 = .ok (.lstore_n 2, 1) := by decide +kernel
theorem own_d2_32 : decode method_2_code 32 = .ok (.lload_n 2, 1) := by decide +kernel
theorem own_d2_33 : decode method_2_code 33 = .ok (.ldc2_w 7, 3) := by decide +kernel
theorem own_d2_36 : decode method_2_code 36 = .ok (.lload_n 0, 1) := by decide +kernel
theorem own_d2_37 : decode method_2_code 37 = .ok (.lload_n 2, 1) := by decide +kernel
theorem own_d2_38 : decode method_2_code 38 = .ok (.lmul, 1) := by decide +kernel
theorem own_d2_39 : decode method_2_code 39 = .ok (.lsub, 1) := by decide +kernel
theorem own_d2_40 : decode method_2_code 40 = .ok (.lmul, 1) := by decide +kernel
theorem own_d2_41 : decode method_2_code 41 = .ok (.lstore_n 2, 1) := by decide +kernel
theorem own_d2_42 : decode method_2_code 42 = .ok (.lload_n 2, 1) := by decide +kernel
theorem own_d2_43 : decode method_2_code 43 = .ok (.ldc2_w 7, 3) := by decide +kernel
theorem own_d2_46 : decode method_2_code 46 = .ok (.lload_n 0, 1) := by decide +kernel
theorem own_d2_47 : decode method_2_code 47 = .ok (.lload_n 2, 1) := by decide +kernel
theorem own_d2_48 : decode method_2_code 48 = .ok (.lmul, 1) := by decide +kernel
theorem own_d2_49 : decode method_2_code 49 = .ok (.lsub, 1) := by decide +kernel
theorem own_d2_50 : decode method_2_code 50 = .ok (.lmul, 1) := by decide +kernel
theorem own_d2_51 : decode method_2_code 51 = .ok (.lstore_n 2, 1) := by decide +kernel
theorem own_d2_52 : decode method_2_code 52 = .ok (.lload_n 2, 1) := by decide +kernel
theorem own_d2_53 : decode method_2_code 53 = .ok (.lreturn, 1) := by decide +kernel
theorem own_pn1 : plainName "com/example/parley/parley/cli/SeedsDerivedPinLaw" = true := by first | (simp [plainName, overriddenIn]; done) | decide +kernel
theorem own_ef2 (m : MethodId) (q0 : Int64) : entryFrame m #[(.long q0)] 4 = mkF m 0 #[.val (.long q0), .second, .unset, .unset] [] := by first | (simp [entryFrame, mkF, argsToLocals, Value.category]; done) | rfl
def own_Q2 (Z : State) (q0 : Int64)  (h0 : Heap) (n0 : Nat) (v : Option Value) (h : Heap) (L : List Loc) : Prop := v = some (.long (own_inv q0)) ∧ Fr n0 L ∧ h = h0
set_option maxRecDepth 65536 in
set_option maxHeartbeats 40000000 in
theorem own_rm2 (l : Launch) (Z : State) (a0 : Array Value) (hw : ∀ d ∈ tables_1, d.before a0 Z = true) (ws : List Jvm.Cond) (q0 : Int64)  (h0 : Heap) (n0 : Nat) (Z0 : n0 ≤ h0.size)  :
    MetFree l (⟨"com/example/parley/parley/cli/SeedsDerivedPinLaw", "inverse", "(J)J"⟩ : MethodName) (head1 (Jvm.Cond.code (⟨"com/example/parley/parley/cli/SeedsDerivedPinLaw", "inverse", "(J)J"⟩ : MethodName) method_2_code 4 (some .long) :: ws) ({ frames := 0, cells := 0, slots := 0, locals := 0 } : Room)) (fun a U => a = #[(.long q0)] ∧ Z.Warmed39 U.vm ∧ U.heap = h0) (fun _ _ _ _ _ => True) (fun _ U o U' => ∃ v L, o = .returned v ∧ own_Q2 Z q0  h0 n0 v U'.heap L ∧ FrameEnd U o U' L ({ frames := 0, cells := 0, slots := 0, locals := 0 } : Room).cells ({ frames := 0, cells := 0, slots := 0, locals := 0 } : Room).slots) := by
  refine MetFree.of_bodySF (plainFor_of_name own_pn1) hisR ?_
  intro p e s m args below meth c s₁ Bd hml0 hP hK
  obtain ⟨rfl, hZ, hh⟩ := hP
  have hx := Bd.exec
  have hby := Bd.bytes
  have hml : c.maxLocals = 4 := hml0
  have hown : s.vm.findClass "com/example/parley/parley/cli/SeedsDerivedPinLaw" = some m.cls := findClass_of_methodNamed Bd.named
  have hnm := (name_of_methodNamed Bd.named Bd.method).1
  have X0 : Stand p l e ({ frames := 0, cells := 0, slots := 0, locals := 0 } : Room) s m #[(.long q0)] below meth c s₁ [] 0 0 := Stand.of_body Bd
  have e0 : s₁.heap = h0 := by rw [← hh, Bd.state]; rfl
  have N0 := Fr.nil n0
  suffices H : own_Ends p e below s ({ frames := 0, cells := 0, slots := 0, locals := 0 } : Room).cells ({ frames := 0, cells := 0, slots := 0, locals := 0 } : Room).slots (own_Q2 Z q0  h0 n0) (s₁.setTop (mkF m 0 #[.val (.long q0), .second, .unset, .unset] [])) by
    obtain ⟨s₂, o, h1, h2⟩ := H
    exact ⟨s₂, o, castTop (own_ef2 m q0) h1, h2⟩
  show own_Ends _ _ _ _ _ _ _ (s₁.setTop (mkF m 0 #[.val (.long q0), .second, .unset, .unset] []))
  refine own_step (fun _ k => XS.lloadN X0.here hx rfl (hb hby own_d2_0) rfl k) ?_
  show own_Ends _ _ _ _ _ _ _ (s₁.setTop (mkF m 1 #[.val (.long q0), .second, .unset, .unset] [(.long q0)]))
  refine own_step (fun _ k => XS.lstoreN X0.here hx rfl (hb hby own_d2_1) rfl (l' := #[.val (.long q0), .second, .val (.long q0), .second]) rfl k) ?_
  show own_Ends _ _ _ _ _ _ _ (s₁.setTop (mkF m 2 #[.val (.long q0), .second, .val (.long q0), .second] []))
  refine own_step (fun _ k => XS.lloadN X0.here hx rfl (hb hby own_d2_2) rfl k) ?_
  show own_Ends _ _ _ _ _ _ _ (s₁.setTop (mkF m 3 #[.val (.long q0), .second, .val (.long q0), .second] [(.long q0)]))
  refine own_step (fun _ k => X0.ldc2Long hx hown (mvT hZ (hw _ (List.mem_of_getElem? (i := 12) rfl))) (g := (mkF m 3 #[.val (.long q0), .second, .val (.long q0), .second] [(.long q0)])) rfl (hb hby own_d2_3) _ k) ?_
  show own_Ends _ _ _ _ _ _ _ (s₁.setTop (mkF m 6 #[.val (.long q0), .second, .val (.long q0), .second] [(.long (2 : Int64)), (.long q0)]))
  refine own_step (fun _ k => XS.lloadN X0.here hx rfl (hb hby own_d2_6) rfl k) ?_
  show own_Ends _ _ _ _ _ _ _ (s₁.setTop (mkF m 7 #[.val (.long q0), .second, .val (.long q0), .second] [(.long q0), (.long (2 : Int64)), (.long q0)]))
  refine own_step (fun _ k => XS.lloadN X0.here hx rfl (hb hby own_d2_7) rfl k) ?_
  show own_Ends _ _ _ _ _ _ _ (s₁.setTop (mkF m 8 #[.val (.long q0), .second, .val (.long q0), .second] [(.long q0), (.long q0), (.long (2 : Int64)), (.long q0)]))
  refine own_step (fun _ k => XS.lmul X0.here hx rfl (hb hby own_d2_8) rfl k) ?_
  show own_Ends _ _ _ _ _ _ _ (s₁.setTop (mkF m 9 #[.val (.long q0), .second, .val (.long q0), .second] [(.long (q0 * q0)), (.long (2 : Int64)), (.long q0)]))
  refine own_step (fun _ k => XS.lsub X0.here hx rfl (hb hby own_d2_9) rfl k) ?_
  show own_Ends _ _ _ _ _ _ _ (s₁.setTop (mkF m 10 #[.val (.long q0), .second, .val (.long q0), .second] [(.long ((2 : Int64) - (q0 * q0))), (.long q0)]))
  refine own_step (fun _ k => XS.lmul X0.here hx rfl (hb hby own_d2_10) rfl k) ?_
  show own_Ends _ _ _ _ _ _ _ (s₁.setTop (mkF m 11 #[.val (.long q0), .second, .val (.long q0), .second] [(.long (q0 * ((2 : Int64) - (q0 * q0))))]))
  show own_Ends _ _ _ _ _ _ _ (s₁.setTop (mkF m 11 #[.val (.long q0), .second, .val (.long q0), .second] [(.long (own_nw q0 q0))]))
  refine own_step (fun _ k => XS.lstoreN X0.here hx rfl (hb hby own_d2_11) rfl (l' := #[.val (.long q0), .second, .val (.long (own_nw q0 q0)), .second]) rfl k) ?_
  show own_Ends _ _ _ _ _ _ _ (s₁.setTop (mkF m 12 #[.val (.long q0), .second, .val (.long (own_nw q0 q0)), .second] []))
  refine own_step (fun _ k => XS.lloadN X0.here hx rfl (hb hby own_d2_12) rfl k) ?_
  show own_Ends _ _ _ _ _ _ _ (s₁.setTop (mkF m 13 #[.val (.long q0), .second, .val (.long (own_nw q0 q0)), .second] [(.long (own_nw q0 q0))]))
  refine own_step (fun _ k => X0.ldc2Long hx hown (mvT hZ (hw _ (List.mem_of_getElem? (i := 12) rfl))) (g := (mkF m 13 #[.val (.long q0), .second, .val (.long (own_nw q0 q0)), .second] [(.long (own_nw q0 q0))])) rfl (hb hby own_d2_13) _ k) ?_
  show own_Ends _ _ _ _ _ _ _ (s₁.setTop (mkF m 16 #[.val (.long q0), .second, .val (.long (own_nw q0 q0)), .second] [(.long (2 : Int64)), (.long (own_nw q0 q0))]))
  refine own_step (fun _ k => XS.lloadN X0.here hx rfl (hb hby own_d2_16) rfl k) ?_
  show own_Ends _ _ _ _ _ _ _ (s₁.setTop (mkF m 17 #[.val (.long q0), .second, .val (.long (own_nw q0 q0)), .second] [(.long q0), (.long (2 : Int64)), (.long (own_nw q0 q0))]))
  refine own_step (fun _ k => XS.lloadN X0.here hx rfl (hb hby own_d2_17) rfl k) ?_
  show own_Ends _ _ _ _ _ _ _ (s₁.setTop (mkF m 18 #[.val (.long q0), .second, .val (.long (own_nw q0 q0)), .second] [(.long (own_nw q0 q0)), (.long q0), (.long (2 : Int64)), (.long (own_nw q0 q0))]))
  refine own_step (fun _ k => XS.lmul X0.here hx rfl (hb hby own_d2_18) rfl k) ?_
  show own_Ends _ _ _ _ _ _ _ (s₁.setTop (mkF m 19 #[.val (.long q0), .second, .val (.long (own_nw q0 q0)), .second] [(.long (q0 * (own_nw q0 q0))), (.long (2 : Int64)), (.long (own_nw q0 q0))]))
  refine own_step (fun _ k => XS.lsub X0.here hx rfl (hb hby own_d2_19) rfl k) ?_
  show own_Ends _ _ _ _ _ _ _ (s₁.setTop (mkF m 20 #[.val (.long q0), .second, .val (.long (own_nw q0 q0)), .second] [(.long ((2 : Int64) - (q0 * (own_nw q0 q0)))), (.long (own_nw q0 q0))]))
  refine own_step (fun _ k => XS.lmul X0.here hx rfl (hb hby own_d2_20) rfl k) ?_
  show own_Ends _ _ _ _ _ _ _ (s₁.setTop (mkF m 21 #[.val (.long q0), .second, .val (.long (own_nw q0 q0)), .second] [(.long ((own_nw q0 q0) * ((2 : Int64) - (q0 * (own_nw q0 q0)))))]))
  show own_Ends _ _ _ _ _ _ _ (s₁.setTop (mkF m 21 #[.val (.long q0), .second, .val (.long (own_nw q0 q0)), .second] [(.long (own_nw q0 (own_nw q0 q0)))]))
  refine own_step (fun _ k => XS.lstoreN X0.here hx rfl (hb hby own_d2_21) rfl (l' := #[.val (.long q0), .second, .val (.long (own_nw q0 (own_nw q0 q0))), .second]) rfl k) ?_
  show own_Ends _ _ _ _ _ _ _ (s₁.setTop (mkF m 22 #[.val (.long q0), .second, .val (.long (own_nw q0 (own_nw q0 q0))), .second] []))
  refine own_step (fun _ k => XS.lloadN X0.here hx rfl (hb hby own_d2_22) rfl k) ?_
  show own_Ends _ _ _ _ _ _ _ (s₁.setTop (mkF m 23 #[.val (.long q0), .second, .val (.long (own_nw q0 (own_nw q0 q0))), .second] [(.long (own_nw q0 (own_nw q0 q0)))]))
  refine own_step (fun _ k => X0.ldc2Long hx hown (mvT hZ (hw _ (List.mem_of_getElem? (i := 12) rfl))) (g := (mkF m 23 #[.val (.long q0), .second, .val (.long (own_nw q0 (own_nw q0 q0))), .second] [(.long (own_nw q0 (own_nw q0 q0)))])) rfl (hb hby own_d2_23) _ k) ?_
  show own_Ends _ _ _ _ _ _ _ (s₁.setTop (mkF m 26 #[.val (.long q0), .second, .val (.long (own_nw q0 (own_nw q0 q0))), .second] [(.long (2 : Int64)), (.long (own_nw q0 (own_nw q0 q0)))]))
  refine own_step (fun _ k => XS.lloadN X0.here hx rfl (hb hby own_d2_26) rfl k) ?_
  show own_Ends _ _ _ _ _ _ _ (s₁.setTop (mkF m 27 #[.val (.long q0), .second, .val (.long (own_nw q0 (own_nw q0 q0))), .second] [(.long q0), (.long (2 : Int64)), (.long (own_nw q0 (own_nw q0 q0)))]))
  refine own_step (fun _ k => XS.lloadN X0.here hx rfl (hb hby own_d2_27) rfl k) ?_
  show own_Ends _ _ _ _ _ _ _ (s₁.setTop (mkF m 28 #[.val (.long q0), .second, .val (.long (own_nw q0 (own_nw q0 q0))), .second] [(.long (own_nw q0 (own_nw q0 q0))), (.long q0), (.long (2 : Int64)), (.long (own_nw q0 (own_nw q0 q0)))]))
  refine own_step (fun _ k => XS.lmul X0.here hx rfl (hb hby own_d2_28) rfl k) ?_
  show own_Ends _ _ _ _ _ _ _ (s₁.setTop (mkF m 29 #[.val (.long q0), .second, .val (.long (own_nw q0 (own_nw q0 q0))), .second] [(.long (q0 * (own_nw q0 (own_nw q0 q0)))), (.long (2 : Int64)), (.long (own_nw q0 (own_nw q0 q0)))]))
  refine own_step (fun _ k => XS.lsub X0.here hx rfl (hb hby own_d2_29) rfl k) ?_
  show own_Ends _ _ _ _ _ _ _ (s₁.setTop (mkF m 30 #[.val (.long q0), .second, .val (.long (own_nw q0 (own_nw q0 q0))), .second] [(.long ((2 : Int64) - (q0 * (own_nw q0 (own_nw q0 q0))))), (.long (own_nw q0 (own_nw q0 q0)))]))
  refine own_step (fun _ k => XS.lmul X0.here hx rfl (hb hby own_d2_30) rfl k) ?_
  show own_Ends _ _ _ _ _ _ _ (s₁.setTop (mkF m 31 #[.val (.long q0), .second, .val (.long (own_nw q0 (own_nw q0 q0))), .second] [(.long ((own_nw q0 (own_nw q0 q0)) * ((2 : Int64) - (q0 * (own_nw q0 (own_nw q0 q0))))))]))
  show own_Ends _ _ _ _ _ _ _ (s₁.setTop (mkF m 31 #[.val (.long q0), .second, .val (.long (own_nw q0 (own_nw q0 q0))), .second] [(.long (own_nw q0 (own_nw q0 (own_nw q0 q0))))]))
  refine own_step (fun _ k => XS.lstoreN X0.here hx rfl (hb hby own_d2_31) rfl (l' := #[.val (.long q0), .second, .val (.long (own_nw q0 (own_nw q0 (own_nw q0 q0)))), .second]) rfl k) ?_
  show own_Ends _ _ _ _ _ _ _ (s₁.setTop (mkF m 32 #[.val (.long q0), .second, .val (.long (own_nw q0 (own_nw q0 (own_nw q0 q0)))), .second] []))
  refine own_step (fun _ k => XS.lloadN X0.here hx rfl (hb hby own_d2_32) rfl k) ?_
  show own_Ends _ _ _ _ _ _ _ (s₁.setTop (mkF m 33 #[.val (.long q0), .second, .val (.long (own_nw q0 (own_nw q0 (own_nw q0 q0)))), .second] [(.long (own_nw q0 (own_nw q0 (own_nw q0 q0))))]))
  refine own_step (fun _ k => X0.ldc2Long hx hown (mvT hZ (hw _ (List.mem_of_getElem? (i := 12) rfl))) (g := (mkF m 33 #[.val (.long q0), .second, .val (.long (own_nw q0 (own_nw q0 (own_nw q0 q0)))), .second] [(.long (own_nw q0 (own_nw q0 (own_nw q0 q0))))])) rfl (hb hby own_d2_33) _ k) ?_
  show own_Ends _ _ _ _ _ _ _ (s₁.setTop (mkF m 36 #[.val (.long q0), .second, .val (.long (own_nw q0 (own_nw q0 (own_nw q0 q0)))), .second] [(.long (2 : Int64)), (.long (own_nw q0 (own_nw q0 (own_nw q0 q0))))]))
  refine own_step (fun _ k => XS.lloadN X0.here hx rfl (hb hby own_d2_36) rfl k) ?_
  show own_Ends _ _ _ _ _ _ _ (s₁.setTop (mkF m 37 #[.val (.long q0), .second, .val (.long (own_nw q0 (own_nw q0 (own_nw q0 q0)))), .second] [(.long q0), (.long (2 : Int64)), (.long (own_nw q0 (own_nw q0 (own_nw q0 q0))))]))
  refine own_step (fun _ k => XS.lloadN X0.here hx rfl (hb hby own_d2_37) rfl k) ?_
  show own_Ends _ _ _ _ _ _ _ (s₁.setTop (mkF m 38 #[.val (.long q0), .second, .val (.long (own_nw q0 (own_nw q0 (own_nw q0 q0)))), .second] [(.long (own_nw q0 (own_nw q0 (own_nw q0 q0)))), (.long q0), (.long (2 : Int64)), (.long (own_nw q0 (own_nw q0 (own_nw q0 q0))))]))
  refine own_step (fun _ k => XS.lmul X0.here hx rfl (hb hby own_d2_38) rfl k) ?_
  show own_Ends _ _ _ _ _ _ _ (s₁.setTop (mkF m 39 #[.val (.long q0), .second, .val (.long (own_nw q0 (own_nw q0 (own_nw q0 q0)))), .second] [(.long (q0 * (own_nw q0 (own_nw q0 (own_nw q0 q0))))), (.long (2 : Int64)), (.long (own_nw q0 (own_nw q0 (own_nw q0 q0))))]))
  refine own_step (fun _ k => XS.lsub X0.here hx rfl (hb hby own_d2_39) rfl k) ?_
  show own_Ends _ _ _ _ _ _ _ (s₁.setTop (mkF m 40 #[.val (.long q0), .second, .val (.long (own_nw q0 (own_nw q0 (own_nw q0 q0)))), .second] [(.long ((2 : Int64) - (q0 * (own_nw q0 (own_nw q0 (own_nw q0 q0)))))), (.long (own_nw q0 (own_nw q0 (own_nw q0 q0))))]))
  refine own_step (fun _ k => XS.lmul X0.here hx rfl (hb hby own_d2_40) rfl k) ?_
  show own_Ends _ _ _ _ _ _ _ (s₁.setTop (mkF m 41 #[.val (.long q0), .second, .val (.long (own_nw q0 (own_nw q0 (own_nw q0 q0)))), .second] [(.long ((own_nw q0 (own_nw q0 (own_nw q0 q0))) * ((2 : Int64) - (q0 * (own_nw q0 (own_nw q0 (own_nw q0 q0)))))))]))
  show own_Ends _ _ _ _ _ _ _ (s₁.setTop (mkF m 41 #[.val (.long q0), .second, .val (.long (own_nw q0 (own_nw q0 (own_nw q0 q0)))), .second] [(.long (own_nw q0 (own_nw q0 (own_nw q0 (own_nw q0 q0)))))]))
  refine own_step (fun _ k => XS.lstoreN X0.here hx rfl (hb hby own_d2_41) rfl (l' := #[.val (.long q0), .second, .val (.long (own_nw q0 (own_nw q0 (own_nw q0 (own_nw q0 q0))))), .second]) rfl k) ?_
  show own_Ends _ _ _ _ _ _ _ (s₁.setTop (mkF m 42 #[.val (.long q0), .second, .val (.long (own_nw q0 (own_nw q0 (own_nw q0 (own_nw q0 q0))))), .second] []))
  refine own_step (fun _ k => XS.lloadN X0.here hx rfl (hb hby own_d2_42) rfl k) ?_
  show own_Ends _ _ _ _ _ _ _ (s₁.setTop (mkF m 43 #[.val (.long q0), .second, .val (.long (own_nw q0 (own_nw q0 (own_nw q0 (own_nw q0 q0))))), .second] [(.long (own_nw q0 (own_nw q0 (own_nw q0 (own_nw q0 q0)))))]))
  refine own_step (fun _ k => X0.ldc2Long hx hown (mvT hZ (hw _ (List.mem_of_getElem? (i := 12) rfl))) (g := (mkF m 43 #[.val (.long q0), .second, .val (.long (own_nw q0 (own_nw q0 (own_nw q0 (own_nw q0 q0))))), .second] [(.long (own_nw q0 (own_nw q0 (own_nw q0 (own_nw q0 q0)))))])) rfl (hb hby own_d2_43) _ k) ?_
  show own_Ends _ _ _ _ _ _ _ (s₁.setTop (mkF m 46 #[.val (.long q0), .second, .val (.long (own_nw q0 (own_nw q0 (own_nw q0 (own_nw q0 q0))))), .second] [(.long (2 : Int64)), (.long (own_nw q0 (own_nw q0 (own_nw q0 (own_nw q0 q0)))))]))
  refine own_step (fun _ k => XS.lloadN X0.here hx rfl (hb hby own_d2_46) rfl k) ?_
  show own_Ends _ _ _ _ _ _ _ (s₁.setTop (mkF m 47 #[.val (.long q0), .second, .val (.long (own_nw q0 (own_nw q0 (own_nw q0 (own_nw q0 q0))))), .second] [(.long q0), (.long (2 : Int64)), (.long (own_nw q0 (own_nw q0 (own_nw q0 (own_nw q0 q0)))))]))
  refine own_step (fun _ k => XS.lloadN X0.here hx rfl (hb hby own_d2_47) rfl k) ?_
  show own_Ends _ _ _ _ _ _ _ (s₁.setTop (mkF m 48 #[.val (.long q0), .second, .val (.long (own_nw q0 (own_nw q0 (own_nw q0 (own_nw q0 q0))))), .second] [(.long (own_nw q0 (own_nw q0 (own_nw q0 (own_nw q0 q0))))), (.long q0), (.long (2 : Int64)), (.long (own_nw q0 (own_nw q0 (own_nw q0 (own_nw q0 q0)))))]))
  refine own_step (fun _ k => XS.lmul X0.here hx rfl (hb hby own_d2_48) rfl k) ?_
  show own_Ends _ _ _ _ _ _ _ (s₁.setTop (mkF m 49 #[.val (.long q0), .second, .val (.long (own_nw q0 (own_nw q0 (own_nw q0 (own_nw q0 q0))))), .second] [(.long (q0 * (own_nw q0 (own_nw q0 (own_nw q0 (own_nw q0 q0)))))), (.long (2 : Int64)), (.long (own_nw q0 (own_nw q0 (own_nw q0 (own_nw q0 q0)))))]))
  refine own_step (fun _ k => XS.lsub X0.here hx rfl (hb hby own_d2_49) rfl k) ?_
  show own_Ends _ _ _ _ _ _ _ (s₁.setTop (mkF m 50 #[.val (.long q0), .second, .val (.long (own_nw q0 (own_nw q0 (own_nw q0 (own_nw q0 q0))))), .second] [(.long ((2 : Int64) - (q0 * (own_nw q0 (own_nw q0 (own_nw q0 (own_nw q0 q0))))))), (.long (own_nw q0 (own_nw q0 (own_nw q0 (own_nw q0 q0)))))]))
  refine own_step (fun _ k => XS.lmul X0.here hx rfl (hb hby own_d2_50) rfl k) ?_
  show own_Ends _ _ _ _ _ _ _ (s₁.setTop (mkF m 51 #[.val (.long q0), .second, .val (.long (own_nw q0 (own_nw q0 (own_nw q0 (own_nw q0 q0))))), .second] [(.long ((own_nw q0 (own_nw q0 (own_nw q0 (own_nw q0 q0)))) * ((2 : Int64) - (q0 * (own_nw q0 (own_nw q0 (own_nw q0 (own_nw q0 q0))))))))]))
  show own_Ends _ _ _ _ _ _ _ (s₁.setTop (mkF m 51 #[.val (.long q0), .second, .val (.long (own_nw q0 (own_nw q0 (own_nw q0 (own_nw q0 q0))))), .second] [(.long (own_nw q0 (own_nw q0 (own_nw q0 (own_nw q0 (own_nw q0 q0))))))]))
  refine own_step (fun _ k => XS.lstoreN X0.here hx rfl (hb hby own_d2_51) rfl (l' := #[.val (.long q0), .second, .val (.long (own_nw q0 (own_nw q0 (own_nw q0 (own_nw q0 (own_nw q0 q0)))))), .second]) rfl k) ?_
  show own_Ends _ _ _ _ _ _ _ (s₁.setTop (mkF m 52 #[.val (.long q0), .second, .val (.long (own_nw q0 (own_nw q0 (own_nw q0 (own_nw q0 (own_nw q0 q0)))))), .second] []))
  refine own_step (fun _ k => XS.lloadN X0.here hx rfl (hb hby own_d2_52) rfl k) ?_
  show own_Ends _ _ _ _ _ _ _ (s₁.setTop (mkF m 53 #[.val (.long q0), .second, .val (.long (own_nw q0 (own_nw q0 (own_nw q0 (own_nw q0 (own_nw q0 q0)))))), .second] [(.long (own_nw q0 (own_nw q0 (own_nw q0 (own_nw q0 (own_nw q0 q0))))))]))
  show own_Ends _ _ _ _ _ _ _ (s₁.setTop (mkF m 53 #[.val (.long q0), .second, .val (.long (own_nw q0 (own_nw q0 (own_nw q0 (own_nw q0 (own_nw q0 q0)))))), .second] [(.long (own_inv q0))]))
  refine own_ret X0 (BodyLoose.notSynchronized Bd) (v := (some (.long (own_inv q0)))) (fun h => by rw [Bd.returns] at h; cases h) ?_ (by decide) (by decide) (fun fs hr => X0.lreturnOut hx Bd.returns (hb hby own_d2_53) hr)
  show own_Q2 Z q0  h0 n0 (some (.long (own_inv q0))) s₁.heap _
  rw [e0]
  exact ⟨rfl, N0, rfl⟩
theorem own_ef0 (m : MethodId) (q0 : Int64) (q1 : Int64) : entryFrame m #[(.long q0), (.long q1)] maxLocals = mkF m 0 #[.val (.long q0), .second, .val (.long q1), .second, .unset, .unset, .unset, .unset, .unset, .unset] [] := by first | (simp [entryFrame, mkF, argsToLocals, Value.category, maxLocals]; done) | rfl
theorem own_pd0 : parseMethodDescriptor "(JJ)J" = some ⟨[.long, .long], some .long⟩ := by decide +kernel
theorem own_pd1 : parseMethodDescriptor "(J)J" = some ⟨[.long], some .long⟩ := by decide +kernel
def own_Q0 (Z : State) (q0 : Int64) (q1 : Int64)  (h0 : Heap) (n0 : Nat) (v : Option Value) (h : Heap) (L : List Loc) : Prop := v = some (.int 1) ∧ Fr n0 L
set_option maxRecDepth 65536 in
set_option maxHeartbeats 40000000 in
theorem own_rm0 (l : Launch) (Z : State) (a0 : Array Value) (hw : ∀ d ∈ tables_1, d.before a0 Z = true) (ws : List Jvm.Cond) (q0 : Int64) (q1 : Int64)  (h0 : Heap) (n0 : Nat) (Z0 : n0 ≤ h0.size)  :
    MetFree l x (head1 (Jvm.Cond.code x code maxLocals ret :: ws) room_1) (fun a U => a = #[(.long q0), (.long q1)] ∧ Z.Warmed39 U.vm ∧ U.heap = h0) (fun _ _ _ _ _ => True) (fun _ U o U' => ∃ v L, o = .returned v ∧ own_Q0 Z q0 q1  h0 n0 v U'.heap L ∧ FrameEnd U o U' L 0 0) := by
  refine MetFree.of_bodySF (plainFor_of_name own_pn1) hisR ?_
  intro p e s m args below meth c s₁ Bd hml0 hP hK
  obtain ⟨rfl, hZ, hh⟩ := hP
  have hx := Bd.exec
  have hby := Bd.bytes
  have hml : c.maxLocals = 10 := hml0
  have hown : s.vm.findClass "com/example/parley/parley/cli/SeedsDerivedPinLaw" = some m.cls := findClass_of_methodNamed Bd.named
  have hnm := (name_of_methodNamed Bd.named Bd.method).1
  have X0 : Stand p l e room_1 s m #[(.long q0), (.long q1)] below meth c s₁ [] 0 0 := Stand.of_body Bd
  have e0 : s₁.heap = h0 := by rw [← hh, Bd.state]; rfl
  have N0 := Fr.nil n0
  suffices H : own_Ends p e below s 0 0 (own_Q0 Z q0 q1  h0 n0) (s₁.setTop (mkF m 0 #[.val (.long q0), .second, .val (.long q1), .second, .unset, .unset, .unset, .unset, .unset, .unset] [])) by
    obtain ⟨s₂, o, h1, h2⟩ := H
    exact ⟨s₂, o, castTop (own_ef0 m q0 q1) h1, h2⟩
  show own_Ends _ _ _ _ _ _ _ (s₁.setTop (mkF m 0 #[.val (.long q0), .second, .val (.long q1), .second, .unset, .unset, .unset, .unset, .unset, .unset] []))
  refine own_step (fun _ k => XS.lloadN X0.here hx rfl (hb hby at_0) rfl k) ?_
  show own_Ends _ _ _ _ _ _ _ (s₁.setTop (mkF m 1 #[.val (.long q0), .second, .val (.long q1), .second, .unset, .unset, .unset, .unset, .unset, .unset] [(.long q0)]))
  refine own_step (fun _ k => XS.lloadN X0.here hx rfl (hb hby at_1) rfl k) ?_
  show own_Ends _ _ _ _ _ _ _ (s₁.setTop (mkF m 2 #[.val (.long q0), .second, .val (.long q1), .second, .unset, .unset, .unset, .unset, .unset, .unset] [(.long q1), (.long q0)]))
  obtain ⟨_, _, ⟨T1, L1, k1, n1⟩, -, X1, ⟨Lc1, hQ1, l1, y1, z1⟩, st1⟩ := Jvm.LawKit.callS X0 hx (y := (⟨"com/example/parley/parley/cli/Seeds", "derived", "(JJ)J"⟩ : MethodName)) hown (mvT hZ (hw _ (List.mem_of_getElem? (i := 0) rfl))) (mvT hZ (hw _ (List.mem_of_getElem? (i := 1) rfl))) (mvT hZ (hw _ (List.mem_of_getElem? (i := 2) rfl))) (mvT hZ (hw _ (List.mem_of_getElem? (i := 3) rfl))) (by decide) (backOf (W := 0) (own_rm1 l Z a0 hw [] q0 q1  h0 n0 Z0 ) hZ (hw _ (List.mem_of_getElem? (i := 3) rfl)) (hw _ (List.mem_of_getElem? (i := 2) rfl)) (by decide) (by decide)) (g := (mkF m 2 #[.val (.long q0), .second, .val (.long q1), .second, .unset, .unset, .unset, .unset, .unset, .unset] [(.long q1), (.long q0)])) rfl (by rw [hml]; rfl) (argsL := [(.long q0), (.long q1)]) (rest := []) (lenOf own_pd0 rfl) rfl (by show 2 * 0 + _ ≤ _; exact Nat.le_of_eq rfl) (hb hby at_2) (fun _ _ => ⟨rfl, e0, (by decide : 0 + 0 ≤ _), (by decide : 0 + 0 ≤ _)⟩)
  dsimp only [Pt.U, Pt.locs, Pt.cells, Pt.slots] at X1 l1 y1 z1 st1 hQ1
  subst l1 y1 z1
  obtain ⟨rfl, Nq1, e1⟩ := hQ1
  have N1 := Fr.app N0 Nq1
  refine own_step (fun _ k => st1 _ k) ?_
  show own_Ends _ _ _ _ _ _ _ (T1.setTop (mkF m 5 #[.val (.long q0), .second, .val (.long q1), .second, .unset, .unset, .unset, .unset, .unset, .unset] [(.long (own_der q0 q1))]))
  refine own_step (fun _ k => XS.lstore X1.here hx rfl (hb hby at_5) rfl (l' := #[.val (.long q0), .second, .val (.long q1), .second, .val (.long (own_der q0 q1)), .second, .unset, .unset, .unset, .unset]) rfl k) ?_
  show own_Ends _ _ _ _ _ _ _ (T1.setTop (mkF m 7 #[.val (.long q0), .second, .val (.long q1), .second, .val (.long (own_der q0 q1)), .second, .unset, .unset, .unset, .unset] []))
  refine own_step (fun _ k => XS.lload X1.here hx rfl (hb hby at_7) rfl k) ?_
  show own_Ends _ _ _ _ _ _ _ (T1.setTop (mkF m 9 #[.val (.long q0), .second, .val (.long q1), .second, .val (.long (own_der q0 q1)), .second, .unset, .unset, .unset, .unset] [(.long (own_der q0 q1))]))
  refine own_step (fun _ k => XS.lstore X1.here hx rfl (hb hby at_9) rfl (l' := #[.val (.long q0), .second, .val (.long q1), .second, .val (.long (own_der q0 q1)), .second, .val (.long (own_der q0 q1)), .second, .unset, .unset]) rfl k) ?_
  show own_Ends _ _ _ _ _ _ _ (T1.setTop (mkF m 11 #[.val (.long q0), .second, .val (.long q1), .second, .val (.long (own_der q0 q1)), .second, .val (.long (own_der q0 q1)), .second, .unset, .unset] []))
  refine own_step (fun _ k => XS.lload X1.here hx rfl (hb hby at_11) rfl k) ?_
  show own_Ends _ _ _ _ _ _ _ (T1.setTop (mkF m 13 #[.val (.long q0), .second, .val (.long q1), .second, .val (.long (own_der q0 q1)), .second, .val (.long (own_der q0 q1)), .second, .unset, .unset] [(.long (own_der q0 q1))]))
  refine own_step (fun _ k => XS.lload X1.here hx rfl (hb hby at_13) rfl k) ?_
  show own_Ends _ _ _ _ _ _ _ (T1.setTop (mkF m 15 #[.val (.long q0), .second, .val (.long q1), .second, .val (.long (own_der q0 q1)), .second, .val (.long (own_der q0 q1)), .second, .unset, .unset] [(.long (own_der q0 q1)), (.long (own_der q0 q1))]))
  refine own_step (fun _ k => XS.bipush X1.here hx rfl (hb hby at_15) k) ?_
  show own_Ends _ _ _ _ _ _ _ (T1.setTop (mkF m 17 #[.val (.long q0), .second, .val (.long q1), .second, .val (.long (own_der q0 q1)), .second, .val (.long (own_der q0 q1)), .second, .unset, .unset] [(.int (31 : Int32)), (.long (own_der q0 q1)), (.long (own_der q0 q1))]))
  refine own_step (fun _ k => XT.lushr X1.here hx rfl (hb hby at_17) rfl k) ?_
  show own_Ends _ _ _ _ _ _ _ (T1.setTop (mkF m 18 #[.val (.long q0), .second, .val (.long q1), .second, .val (.long (own_der q0 q1)), .second, .val (.long (own_der q0 q1)), .second, .unset, .unset] [(.long (XT.ushrL (own_der q0 q1) (31 : Int32))), (.long (own_der q0 q1))]))
  refine own_step (fun _ k => XS.lxor X1.here hx rfl (hb hby at_18) rfl k) ?_
  show own_Ends _ _ _ _ _ _ _ (T1.setTop (mkF m 19 #[.val (.long q0), .second, .val (.long q1), .second, .val (.long (own_der q0 q1)), .second, .val (.long (own_der q0 q1)), .second, .unset, .unset] [(.long ((own_der q0 q1) ^^^ (XT.ushrL (own_der q0 q1) (31 : Int32))))]))
  refine own_step (fun _ k => XS.lload X1.here hx rfl (hb hby at_19) rfl k) ?_
  show own_Ends _ _ _ _ _ _ _ (T1.setTop (mkF m 21 #[.val (.long q0), .second, .val (.long q1), .second, .val (.long (own_der q0 q1)), .second, .val (.long (own_der q0 q1)), .second, .unset, .unset] [(.long (own_der q0 q1)), (.long ((own_der q0 q1) ^^^ (XT.ushrL (own_der q0 q1) (31 : Int32))))]))
  refine own_step (fun _ k => XS.bipush X1.here hx rfl (hb hby at_21) k) ?_
  show own_Ends _ _ _ _ _ _ _ (T1.setTop (mkF m 23 #[.val (.long q0), .second, .val (.long q1), .second, .val (.long (own_der q0 q1)), .second, .val (.long (own_der q0 q1)), .second, .unset, .unset] [(.int (62 : Int32)), (.long (own_der q0 q1)), (.long ((own_der q0 q1) ^^^ (XT.ushrL (own_der q0 q1) (31 : Int32))))]))
  refine own_step (fun _ k => XT.lushr X1.here hx rfl (hb hby at_23) rfl k) ?_
  show own_Ends _ _ _ _ _ _ _ (T1.setTop (mkF m 24 #[.val (.long q0), .second, .val (.long q1), .second, .val (.long (own_der q0 q1)), .second, .val (.long (own_der q0 q1)), .second, .unset, .unset] [(.long (XT.ushrL (own_der q0 q1) (62 : Int32))), (.long ((own_der q0 q1) ^^^ (XT.ushrL (own_der q0 q1) (31 : Int32))))]))
  refine own_step (fun _ k => XS.lxor X1.here hx rfl (hb hby at_24) rfl k) ?_
  show own_Ends _ _ _ _ _ _ _ (T1.setTop (mkF m 25 #[.val (.long q0), .second, .val (.long q1), .second, .val (.long (own_der q0 q1)), .second, .val (.long (own_der q0 q1)), .second, .unset, .unset] [(.long (((own_der q0 q1) ^^^ (XT.ushrL (own_der q0 q1) (31 : Int32))) ^^^ (XT.ushrL (own_der q0 q1) (62 : Int32))))]))
  show own_Ends _ _ _ _ _ _ _ (T1.setTop (mkF m 25 #[.val (.long q0), .second, .val (.long q1), .second, .val (.long (own_der q0 q1)), .second, .val (.long (own_der q0 q1)), .second, .unset, .unset] [(.long (own_x3 (own_der q0 q1) 31 62))]))
  refine own_step (fun _ k => XS.lstore X1.here hx rfl (hb hby at_25) rfl (l' := #[.val (.long q0), .second, .val (.long q1), .second, .val (.long (own_der q0 q1)), .second, .val (.long (own_x3 (own_der q0 q1) 31 62)), .second, .unset, .unset]) rfl k) ?_
  show own_Ends _ _ _ _ _ _ _ (T1.setTop (mkF m 27 #[.val (.long q0), .second, .val (.long q1), .second, .val (.long (own_der q0 q1)), .second, .val (.long (own_x3 (own_der q0 q1) 31 62)), .second, .unset, .unset] []))
  refine own_step (fun _ k => XS.lload X1.here hx rfl (hb hby at_27) rfl k) ?_
  show own_Ends _ _ _ _ _ _ _ (T1.setTop (mkF m 29 #[.val (.long q0), .second, .val (.long q1), .second, .val (.long (own_der q0 q1)), .second, .val (.long (own_x3 (own_der q0 q1) 31 62)), .second, .unset, .unset] [(.long (own_x3 (own_der q0 q1) 31 62))]))
  refine own_step (fun _ k => X1.ldc2Long hx hown (mvT hZ (hw _ (List.mem_of_getElem? (i := 7) rfl))) (g := (mkF m 29 #[.val (.long q0), .second, .val (.long q1), .second, .val (.long (own_der q0 q1)), .second, .val (.long (own_x3 (own_der q0 q1) 31 62)), .second, .unset, .unset] [(.long (own_x3 (own_der q0 q1) 31 62))])) rfl (hb hby at_29) _ k) ?_
  show own_Ends _ _ _ _ _ _ _ (T1.setTop (mkF m 32 #[.val (.long q0), .second, .val (.long q1), .second, .val (.long (own_der q0 q1)), .second, .val (.long (own_x3 (own_der q0 q1) 31 62)), .second, .unset, .unset] [(.long (-7723592293110705685 : Int64)), (.long (own_x3 (own_der q0 q1) 31 62))]))
  obtain ⟨_, _, ⟨T2, L2, k2, n2⟩, -, X2, ⟨Lc2, hQ2, l2, y2, z2⟩, st2⟩ := Jvm.LawKit.callS X1 hx (y := (⟨"com/example/parley/parley/cli/SeedsDerivedPinLaw", "inverse", "(J)J"⟩ : MethodName)) hown (mvT hZ (hw _ (List.mem_of_getElem? (i := 8) rfl))) (mvT hZ (hw _ (List.mem_of_getElem? (i := 9) rfl))) (mvT hZ (hw _ (List.mem_of_getElem? (i := 10) rfl))) (mvT hZ (hw _ (List.mem_of_getElem? (i := 11) rfl))) (by decide) (backOf (W := 2) (own_rm2 l Z a0 hw [] (-7723592293110705685 : Int64)  h0 n0 Z0 ) hZ (hw _ (List.mem_of_getElem? (i := 11) rfl)) (hw _ (List.mem_of_getElem? (i := 10) rfl)) (by decide) (by decide)) (g := (mkF m 32 #[.val (.long q0), .second, .val (.long q1), .second, .val (.long (own_der q0 q1)), .second, .val (.long (own_x3 (own_der q0 q1) 31 62)), .second, .unset, .unset] [(.long (-7723592293110705685 : Int64)), (.long (own_x3 (own_der q0 q1) 31 62))])) rfl (by rw [hml]; rfl) (argsL := [(.long (-7723592293110705685 : Int64))]) (rest := [(.long (own_x3 (own_der q0 q1) 31 62))]) (lenOf own_pd1 rfl) rfl (by show 2 * 0 + _ ≤ _; exact Nat.le_of_eq rfl) (hb hby at_32) (fun _ _ => ⟨rfl, e1, (by decide : 0 + 0 ≤ _), (by decide : 0 + 0 ≤ _)⟩)
  dsimp only [Pt.U, Pt.locs, Pt.cells, Pt.slots] at X2 l2 y2 z2 st2 hQ2
  subst l2 y2 z2
  obtain ⟨rfl, Nq2, e2⟩ := hQ2
  have N2 := Fr.app N1 Nq2
  refine own_step (fun _ k => st2 _ k) ?_
  show own_Ends _ _ _ _ _ _ _ (T2.setTop (mkF m 35 #[.val (.long q0), .second, .val (.long q1), .second, .val (.long (own_der q0 q1)), .second, .val (.long (own_x3 (own_der q0 q1) 31 62)), .second, .unset, .unset] [(.long (own_inv (-7723592293110705685 : Int64))), (.long (own_x3 (own_der q0 q1) 31 62))]))
  refine own_step (fun _ k => XS.lmul X2.here hx rfl (hb hby at_35) rfl k) ?_
  show own_Ends _ _ _ _ _ _ _ (T2.setTop (mkF m 36 #[.val (.long q0), .second, .val (.long q1), .second, .val (.long (own_der q0 q1)), .second, .val (.long (own_x3 (own_der q0 q1) 31 62)), .second, .unset, .unset] [(.long ((own_x3 (own_der q0 q1) 31 62) * (own_inv (-7723592293110705685 : Int64))))]))
  refine own_step (fun _ k => XS.lstore X2.here hx rfl (hb hby at_36) rfl (l' := #[.val (.long q0), .second, .val (.long q1), .second, .val (.long (own_der q0 q1)), .second, .val (.long ((own_x3 (own_der q0 q1) 31 62) * (own_inv (-7723592293110705685 : Int64)))), .second, .unset, .unset]) rfl k) ?_
  show own_Ends _ _ _ _ _ _ _ (T2.setTop (mkF m 38 #[.val (.long q0), .second, .val (.long q1), .second, .val (.long (own_der q0 q1)), .second, .val (.long ((own_x3 (own_der q0 q1) 31 62) * (own_inv (-7723592293110705685 : Int64)))), .second, .unset, .unset] []))
  refine own_step (fun _ k => XS.lload X2.here hx rfl (hb hby at_38) rfl k) ?_
  show own_Ends _ _ _ _ _ _ _ (T2.setTop (mkF m 40 #[.val (.long q0), .second, .val (.long q1), .second, .val (.long (own_der q0 q1)), .second, .val (.long ((own_x3 (own_der q0 q1) 31 62) * (own_inv (-7723592293110705685 : Int64)))), .second, .unset, .unset] [(.long ((own_x3 (own_der q0 q1) 31 62) * (own_inv (-7723592293110705685 : Int64))))]))
  refine own_step (fun _ k => XS.lload X2.here hx rfl (hb hby at_40) rfl k) ?_
  show own_Ends _ _ _ _ _ _ _ (T2.setTop (mkF m 42 #[.val (.long q0), .second, .val (.long q1), .second, .val (.long (own_der q0 q1)), .second, .val (.long ((own_x3 (own_der q0 q1) 31 62) * (own_inv (-7723592293110705685 : Int64)))), .second, .unset, .unset] [(.long ((own_x3 (own_der q0 q1) 31 62) * (own_inv (-7723592293110705685 : Int64)))), (.long ((own_x3 (own_der q0 q1) 31 62) * (own_inv (-7723592293110705685 : Int64))))]))
  refine own_step (fun _ k => XS.bipush X2.here hx rfl (hb hby at_42) k) ?_
  show own_Ends _ _ _ _ _ _ _ (T2.setTop (mkF m 44 #[.val (.long q0), .second, .val (.long q1), .second, .val (.long (own_der q0 q1)), .second, .val (.long ((own_x3 (own_der q0 q1) 31 62) * (own_inv (-7723592293110705685 : Int64)))), .second, .unset, .unset] [(.int (27 : Int32)), (.long ((own_x3 (own_der q0 q1) 31 62) * (own_inv (-7723592293110705685 : Int64)))), (.long ((own_x3 (own_der q0 q1) 31 62) * (own_inv (-7723592293110705685 : Int64))))]))
  refine own_step (fun _ k => XT.lushr X2.here hx rfl (hb hby at_44) rfl k) ?_
  show own_Ends _ _ _ _ _ _ _ (T2.setTop (mkF m 45 #[.val (.long q0), .second, .val (.long q1), .second, .val (.long (own_der q0 q1)), .second, .val (.long ((own_x3 (own_der q0 q1) 31 62) * (own_inv (-7723592293110705685 : Int64)))), .second, .unset, .unset] [(.long (XT.ushrL ((own_x3 (own_der q0 q1) 31 62) * (own_inv (-7723592293110705685 : Int64))) (27 : Int32))), (.long ((own_x3 (own_der q0 q1) 31 62) * (own_inv (-7723592293110705685 : Int64))))]))
  refine own_step (fun _ k => XS.lxor X2.here hx rfl (hb hby at_45) rfl k) ?_
  show own_Ends _ _ _ _ _ _ _ (T2.setTop (mkF m 46 #[.val (.long q0), .second, .val (.long q1), .second, .val (.long (own_der q0 q1)), .second, .val (.long ((own_x3 (own_der q0 q1) 31 62) * (own_inv (-7723592293110705685 : Int64)))), .second, .unset, .unset] [(.long (((own_x3 (own_der q0 q1) 31 62) * (own_inv (-7723592293110705685 : Int64))) ^^^ (XT.ushrL ((own_x3 (own_der q0 q1) 31 62) * (own_inv (-7723592293110705685 : Int64))) (27 : Int32))))]))
  refine own_step (fun _ k => XS.lload X2.here hx rfl (hb hby at_46) rfl k) ?_
  show own_Ends _ _ _ _ _ _ _ (T2.setTop (mkF m 48 #[.val (.long q0), .second, .val (.long q1), .second, .val (.long (own_der q0 q1)), .second, .val (.long ((own_x3 (own_der q0 q1) 31 62) * (own_inv (-7723592293110705685 : Int64)))), .second, .unset, .unset] [(.long ((own_x3 (own_der q0 q1) 31 62) * (own_inv (-7723592293110705685 : Int64)))), (.long (((own_x3 (own_der q0 q1) 31 62) * (own_inv (-7723592293110705685 : Int64))) ^^^ (XT.ushrL ((own_x3 (own_der q0 q1) 31 62) * (own_inv (-7723592293110705685 : Int64))) (27 : Int32))))]))
  refine own_step (fun _ k => XS.bipush X2.here hx rfl (hb hby at_48) k) ?_
  show own_Ends _ _ _ _ _ _ _ (T2.setTop (mkF m 50 #[.val (.long q0), .second, .val (.long q1), .second, .val (.long (own_der q0 q1)), .second, .val (.long ((own_x3 (own_der q0 q1) 31 62) * (own_inv (-7723592293110705685 : Int64)))), .second, .unset, .unset] [(.int (54 : Int32)), (.long ((own_x3 (own_der q0 q1) 31 62) * (own_inv (-7723592293110705685 : Int64)))), (.long (((own_x3 (own_der q0 q1) 31 62) * (own_inv (-7723592293110705685 : Int64))) ^^^ (XT.ushrL ((own_x3 (own_der q0 q1) 31 62) * (own_inv (-7723592293110705685 : Int64))) (27 : Int32))))]))
  refine own_step (fun _ k => XT.lushr X2.here hx rfl (hb hby at_50) rfl k) ?_
  show own_Ends _ _ _ _ _ _ _ (T2.setTop (mkF m 51 #[.val (.long q0), .second, .val (.long q1), .second, .val (.long (own_der q0 q1)), .second, .val (.long ((own_x3 (own_der q0 q1) 31 62) * (own_inv (-7723592293110705685 : Int64)))), .second, .unset, .unset] [(.long (XT.ushrL ((own_x3 (own_der q0 q1) 31 62) * (own_inv (-7723592293110705685 : Int64))) (54 : Int32))), (.long (((own_x3 (own_der q0 q1) 31 62) * (own_inv (-7723592293110705685 : Int64))) ^^^ (XT.ushrL ((own_x3 (own_der q0 q1) 31 62) * (own_inv (-7723592293110705685 : Int64))) (27 : Int32))))]))
  refine own_step (fun _ k => XS.lxor X2.here hx rfl (hb hby at_51) rfl k) ?_
  show own_Ends _ _ _ _ _ _ _ (T2.setTop (mkF m 52 #[.val (.long q0), .second, .val (.long q1), .second, .val (.long (own_der q0 q1)), .second, .val (.long ((own_x3 (own_der q0 q1) 31 62) * (own_inv (-7723592293110705685 : Int64)))), .second, .unset, .unset] [(.long ((((own_x3 (own_der q0 q1) 31 62) * (own_inv (-7723592293110705685 : Int64))) ^^^ (XT.ushrL ((own_x3 (own_der q0 q1) 31 62) * (own_inv (-7723592293110705685 : Int64))) (27 : Int32))) ^^^ (XT.ushrL ((own_x3 (own_der q0 q1) 31 62) * (own_inv (-7723592293110705685 : Int64))) (54 : Int32))))]))
  show own_Ends _ _ _ _ _ _ _ (T2.setTop (mkF m 52 #[.val (.long q0), .second, .val (.long q1), .second, .val (.long (own_der q0 q1)), .second, .val (.long ((own_x3 (own_der q0 q1) 31 62) * (own_inv (-7723592293110705685 : Int64)))), .second, .unset, .unset] [(.long (own_x3 ((own_x3 (own_der q0 q1) 31 62) * own_inv (-7723592293110705685 : Int64)) 27 54))]))
  refine own_step (fun _ k => XS.lstore X2.here hx rfl (hb hby at_52) rfl (l' := #[.val (.long q0), .second, .val (.long q1), .second, .val (.long (own_der q0 q1)), .second, .val (.long (own_x3 ((own_x3 (own_der q0 q1) 31 62) * own_inv (-7723592293110705685 : Int64)) 27 54)), .second, .unset, .unset]) rfl k) ?_
  show own_Ends _ _ _ _ _ _ _ (T2.setTop (mkF m 54 #[.val (.long q0), .second, .val (.long q1), .second, .val (.long (own_der q0 q1)), .second, .val (.long (own_x3 ((own_x3 (own_der q0 q1) 31 62) * own_inv (-7723592293110705685 : Int64)) 27 54)), .second, .unset, .unset] []))
  refine own_step (fun _ k => XS.lload X2.here hx rfl (hb hby at_54) rfl k) ?_
  show own_Ends _ _ _ _ _ _ _ (T2.setTop (mkF m 56 #[.val (.long q0), .second, .val (.long q1), .second, .val (.long (own_der q0 q1)), .second, .val (.long (own_x3 ((own_x3 (own_der q0 q1) 31 62) * own_inv (-7723592293110705685 : Int64)) 27 54)), .second, .unset, .unset] [(.long (own_x3 ((own_x3 (own_der q0 q1) 31 62) * own_inv (-7723592293110705685 : Int64)) 27 54))]))
  refine own_step (fun _ k => X2.ldc2Long hx hown (mvT hZ (hw _ (List.mem_of_getElem? (i := 13) rfl))) (g := (mkF m 56 #[.val (.long q0), .second, .val (.long q1), .second, .val (.long (own_der q0 q1)), .second, .val (.long (own_x3 ((own_x3 (own_der q0 q1) 31 62) * own_inv (-7723592293110705685 : Int64)) 27 54)), .second, .unset, .unset] [(.long (own_x3 ((own_x3 (own_der q0 q1) 31 62) * own_inv (-7723592293110705685 : Int64)) 27 54))])) rfl (hb hby at_56) _ k) ?_
  show own_Ends _ _ _ _ _ _ _ (T2.setTop (mkF m 59 #[.val (.long q0), .second, .val (.long q1), .second, .val (.long (own_der q0 q1)), .second, .val (.long (own_x3 ((own_x3 (own_der q0 q1) 31 62) * own_inv (-7723592293110705685 : Int64)) 27 54)), .second, .unset, .unset] [(.long (-4658895280553007687 : Int64)), (.long (own_x3 ((own_x3 (own_der q0 q1) 31 62) * own_inv (-7723592293110705685 : Int64)) 27 54))]))
  obtain ⟨_, _, ⟨T3, L3, k3, n3⟩, -, X3, ⟨Lc3, hQ3, l3, y3, z3⟩, st3⟩ := Jvm.LawKit.callS X2 hx (y := (⟨"com/example/parley/parley/cli/SeedsDerivedPinLaw", "inverse", "(J)J"⟩ : MethodName)) hown (mvT hZ (hw _ (List.mem_of_getElem? (i := 8) rfl))) (mvT hZ (hw _ (List.mem_of_getElem? (i := 9) rfl))) (mvT hZ (hw _ (List.mem_of_getElem? (i := 10) rfl))) (mvT hZ (hw _ (List.mem_of_getElem? (i := 11) rfl))) (by decide) (backOf (W := 2) (own_rm2 l Z a0 hw [] (-4658895280553007687 : Int64)  h0 n0 Z0 ) hZ (hw _ (List.mem_of_getElem? (i := 11) rfl)) (hw _ (List.mem_of_getElem? (i := 10) rfl)) (by decide) (by decide)) (g := (mkF m 59 #[.val (.long q0), .second, .val (.long q1), .second, .val (.long (own_der q0 q1)), .second, .val (.long (own_x3 ((own_x3 (own_der q0 q1) 31 62) * own_inv (-7723592293110705685 : Int64)) 27 54)), .second, .unset, .unset] [(.long (-4658895280553007687 : Int64)), (.long (own_x3 ((own_x3 (own_der q0 q1) 31 62) * own_inv (-7723592293110705685 : Int64)) 27 54))])) rfl (by rw [hml]; rfl) (argsL := [(.long (-4658895280553007687 : Int64))]) (rest := [(.long (own_x3 ((own_x3 (own_der q0 q1) 31 62) * own_inv (-7723592293110705685 : Int64)) 27 54))]) (lenOf own_pd1 rfl) rfl (by show 2 * 0 + _ ≤ _; exact Nat.le_of_eq rfl) (hb hby at_59) (fun _ _ => ⟨rfl, e2, (by decide : 0 + 0 ≤ _), (by decide : 0 + 0 ≤ _)⟩)
  dsimp only [Pt.U, Pt.locs, Pt.cells, Pt.slots] at X3 l3 y3 z3 st3 hQ3
  subst l3 y3 z3
  obtain ⟨rfl, Nq3, e3⟩ := hQ3
  have N3 := Fr.app N2 Nq3
  refine own_step (fun _ k => st3 _ k) ?_
  show own_Ends _ _ _ _ _ _ _ (T3.setTop (mkF m 62 #[.val (.long q0), .second, .val (.long q1), .second, .val (.long (own_der q0 q1)), .second, .val (.long (own_x3 ((own_x3 (own_der q0 q1) 31 62) * own_inv (-7723592293110705685 : Int64)) 27 54)), .second, .unset, .unset] [(.long (own_inv (-4658895280553007687 : Int64))), (.long (own_x3 ((own_x3 (own_der q0 q1) 31 62) * own_inv (-7723592293110705685 : Int64)) 27 54))]))
  refine own_step (fun _ k => XS.lmul X3.here hx rfl (hb hby at_62) rfl k) ?_
  show own_Ends _ _ _ _ _ _ _ (T3.setTop (mkF m 63 #[.val (.long q0), .second, .val (.long q1), .second, .val (.long (own_der q0 q1)), .second, .val (.long (own_x3 ((own_x3 (own_der q0 q1) 31 62) * own_inv (-7723592293110705685 : Int64)) 27 54)), .second, .unset, .unset] [(.long ((own_x3 ((own_x3 (own_der q0 q1) 31 62) * own_inv (-7723592293110705685 : Int64)) 27 54) * (own_inv (-4658895280553007687 : Int64))))]))
  refine own_step (fun _ k => XS.lstore X3.here hx rfl (hb hby at_63) rfl (l' := #[.val (.long q0), .second, .val (.long q1), .second, .val (.long (own_der q0 q1)), .second, .val (.long ((own_x3 ((own_x3 (own_der q0 q1) 31 62) * own_inv (-7723592293110705685 : Int64)) 27 54) * (own_inv (-4658895280553007687 : Int64)))), .second, .unset, .unset]) rfl k) ?_
  show own_Ends _ _ _ _ _ _ _ (T3.setTop (mkF m 65 #[.val (.long q0), .second, .val (.long q1), .second, .val (.long (own_der q0 q1)), .second, .val (.long ((own_x3 ((own_x3 (own_der q0 q1) 31 62) * own_inv (-7723592293110705685 : Int64)) 27 54) * (own_inv (-4658895280553007687 : Int64)))), .second, .unset, .unset] []))
  refine own_step (fun _ k => XS.lload X3.here hx rfl (hb hby at_65) rfl k) ?_
  show own_Ends _ _ _ _ _ _ _ (T3.setTop (mkF m 67 #[.val (.long q0), .second, .val (.long q1), .second, .val (.long (own_der q0 q1)), .second, .val (.long ((own_x3 ((own_x3 (own_der q0 q1) 31 62) * own_inv (-7723592293110705685 : Int64)) 27 54) * (own_inv (-4658895280553007687 : Int64)))), .second, .unset, .unset] [(.long ((own_x3 ((own_x3 (own_der q0 q1) 31 62) * own_inv (-7723592293110705685 : Int64)) 27 54) * (own_inv (-4658895280553007687 : Int64))))]))
  refine own_step (fun _ k => XS.lload X3.here hx rfl (hb hby at_67) rfl k) ?_
  show own_Ends _ _ _ _ _ _ _ (T3.setTop (mkF m 69 #[.val (.long q0), .second, .val (.long q1), .second, .val (.long (own_der q0 q1)), .second, .val (.long ((own_x3 ((own_x3 (own_der q0 q1) 31 62) * own_inv (-7723592293110705685 : Int64)) 27 54) * (own_inv (-4658895280553007687 : Int64)))), .second, .unset, .unset] [(.long ((own_x3 ((own_x3 (own_der q0 q1) 31 62) * own_inv (-7723592293110705685 : Int64)) 27 54) * (own_inv (-4658895280553007687 : Int64)))), (.long ((own_x3 ((own_x3 (own_der q0 q1) 31 62) * own_inv (-7723592293110705685 : Int64)) 27 54) * (own_inv (-4658895280553007687 : Int64))))]))
  refine own_step (fun _ k => XS.bipush X3.here hx rfl (hb hby at_69) k) ?_
  show own_Ends _ _ _ _ _ _ _ (T3.setTop (mkF m 71 #[.val (.long q0), .second, .val (.long q1), .second, .val (.long (own_der q0 q1)), .second, .val (.long ((own_x3 ((own_x3 (own_der q0 q1) 31 62) * own_inv (-7723592293110705685 : Int64)) 27 54) * (own_inv (-4658895280553007687 : Int64)))), .second, .unset, .unset] [(.int (30 : Int32)), (.long ((own_x3 ((own_x3 (own_der q0 q1) 31 62) * own_inv (-7723592293110705685 : Int64)) 27 54) * (own_inv (-4658895280553007687 : Int64)))), (.long ((own_x3 ((own_x3 (own_der q0 q1) 31 62) * own_inv (-7723592293110705685 : Int64)) 27 54) * (own_inv (-4658895280553007687 : Int64))))]))
  refine own_step (fun _ k => XT.lushr X3.here hx rfl (hb hby at_71) rfl k) ?_
  show own_Ends _ _ _ _ _ _ _ (T3.setTop (mkF m 72 #[.val (.long q0), .second, .val (.long q1), .second, .val (.long (own_der q0 q1)), .second, .val (.long ((own_x3 ((own_x3 (own_der q0 q1) 31 62) * own_inv (-7723592293110705685 : Int64)) 27 54) * (own_inv (-4658895280553007687 : Int64)))), .second, .unset, .unset] [(.long (XT.ushrL ((own_x3 ((own_x3 (own_der q0 q1) 31 62) * own_inv (-7723592293110705685 : Int64)) 27 54) * (own_inv (-4658895280553007687 : Int64))) (30 : Int32))), (.long ((own_x3 ((own_x3 (own_der q0 q1) 31 62) * own_inv (-7723592293110705685 : Int64)) 27 54) * (own_inv (-4658895280553007687 : Int64))))]))
  refine own_step (fun _ k => XS.lxor X3.here hx rfl (hb hby at_72) rfl k) ?_
  show own_Ends _ _ _ _ _ _ _ (T3.setTop (mkF m 73 #[.val (.long q0), .second, .val (.long q1), .second, .val (.long (own_der q0 q1)), .second, .val (.long ((own_x3 ((own_x3 (own_der q0 q1) 31 62) * own_inv (-7723592293110705685 : Int64)) 27 54) * (own_inv (-4658895280553007687 : Int64)))), .second, .unset, .unset] [(.long (((own_x3 ((own_x3 (own_der q0 q1) 31 62) * own_inv (-7723592293110705685 : Int64)) 27 54) * (own_inv (-4658895280553007687 : Int64))) ^^^ (XT.ushrL ((own_x3 ((own_x3 (own_der q0 q1) 31 62) * own_inv (-7723592293110705685 : Int64)) 27 54) * (own_inv (-4658895280553007687 : Int64))) (30 : Int32))))]))
  refine own_step (fun _ k => XS.lload X3.here hx rfl (hb hby at_73) rfl k) ?_
  show own_Ends _ _ _ _ _ _ _ (T3.setTop (mkF m 75 #[.val (.long q0), .second, .val (.long q1), .second, .val (.long (own_der q0 q1)), .second, .val (.long ((own_x3 ((own_x3 (own_der q0 q1) 31 62) * own_inv (-7723592293110705685 : Int64)) 27 54) * (own_inv (-4658895280553007687 : Int64)))), .second, .unset, .unset] [(.long ((own_x3 ((own_x3 (own_der q0 q1) 31 62) * own_inv (-7723592293110705685 : Int64)) 27 54) * (own_inv (-4658895280553007687 : Int64)))), (.long (((own_x3 ((own_x3 (own_der q0 q1) 31 62) * own_inv (-7723592293110705685 : Int64)) 27 54) * (own_inv (-4658895280553007687 : Int64))) ^^^ (XT.ushrL ((own_x3 ((own_x3 (own_der q0 q1) 31 62) * own_inv (-7723592293110705685 : Int64)) 27 54) * (own_inv (-4658895280553007687 : Int64))) (30 : Int32))))]))
  refine own_step (fun _ k => XS.bipush X3.here hx rfl (hb hby at_75) k) ?_
  show own_Ends _ _ _ _ _ _ _ (T3.setTop (mkF m 77 #[.val (.long q0), .second, .val (.long q1), .second, .val (.long (own_der q0 q1)), .second, .val (.long ((own_x3 ((own_x3 (own_der q0 q1) 31 62) * own_inv (-7723592293110705685 : Int64)) 27 54) * (own_inv (-4658895280553007687 : Int64)))), .second, .unset, .unset] [(.int (60 : Int32)), (.long ((own_x3 ((own_x3 (own_der q0 q1) 31 62) * own_inv (-7723592293110705685 : Int64)) 27 54) * (own_inv (-4658895280553007687 : Int64)))), (.long (((own_x3 ((own_x3 (own_der q0 q1) 31 62) * own_inv (-7723592293110705685 : Int64)) 27 54) * (own_inv (-4658895280553007687 : Int64))) ^^^ (XT.ushrL ((own_x3 ((own_x3 (own_der q0 q1) 31 62) * own_inv (-7723592293110705685 : Int64)) 27 54) * (own_inv (-4658895280553007687 : Int64))) (30 : Int32))))]))
  refine own_step (fun _ k => XT.lushr X3.here hx rfl (hb hby at_77) rfl k) ?_
  show own_Ends _ _ _ _ _ _ _ (T3.setTop (mkF m 78 #[.val (.long q0), .second, .val (.long q1), .second, .val (.long (own_der q0 q1)), .second, .val (.long ((own_x3 ((own_x3 (own_der q0 q1) 31 62) * own_inv (-7723592293110705685 : Int64)) 27 54) * (own_inv (-4658895280553007687 : Int64)))), .second, .unset, .unset] [(.long (XT.ushrL ((own_x3 ((own_x3 (own_der q0 q1) 31 62) * own_inv (-7723592293110705685 : Int64)) 27 54) * (own_inv (-4658895280553007687 : Int64))) (60 : Int32))), (.long (((own_x3 ((own_x3 (own_der q0 q1) 31 62) * own_inv (-7723592293110705685 : Int64)) 27 54) * (own_inv (-4658895280553007687 : Int64))) ^^^ (XT.ushrL ((own_x3 ((own_x3 (own_der q0 q1) 31 62) * own_inv (-7723592293110705685 : Int64)) 27 54) * (own_inv (-4658895280553007687 : Int64))) (30 : Int32))))]))
  refine own_step (fun _ k => XS.lxor X3.here hx rfl (hb hby at_78) rfl k) ?_
  show own_Ends _ _ _ _ _ _ _ (T3.setTop (mkF m 79 #[.val (.long q0), .second, .val (.long q1), .second, .val (.long (own_der q0 q1)), .second, .val (.long ((own_x3 ((own_x3 (own_der q0 q1) 31 62) * own_inv (-7723592293110705685 : Int64)) 27 54) * (own_inv (-4658895280553007687 : Int64)))), .second, .unset, .unset] [(.long ((((own_x3 ((own_x3 (own_der q0 q1) 31 62) * own_inv (-7723592293110705685 : Int64)) 27 54) * (own_inv (-4658895280553007687 : Int64))) ^^^ (XT.ushrL ((own_x3 ((own_x3 (own_der q0 q1) 31 62) * own_inv (-7723592293110705685 : Int64)) 27 54) * (own_inv (-4658895280553007687 : Int64))) (30 : Int32))) ^^^ (XT.ushrL ((own_x3 ((own_x3 (own_der q0 q1) 31 62) * own_inv (-7723592293110705685 : Int64)) 27 54) * (own_inv (-4658895280553007687 : Int64))) (60 : Int32))))]))
  show own_Ends _ _ _ _ _ _ _ (T3.setTop (mkF m 79 #[.val (.long q0), .second, .val (.long q1), .second, .val (.long (own_der q0 q1)), .second, .val (.long ((own_x3 ((own_x3 (own_der q0 q1) 31 62) * own_inv (-7723592293110705685 : Int64)) 27 54) * (own_inv (-4658895280553007687 : Int64)))), .second, .unset, .unset] [(.long (own_x3 ((own_x3 ((own_x3 (own_der q0 q1) 31 62) * own_inv (-7723592293110705685 : Int64)) 27 54) * own_inv (-4658895280553007687 : Int64)) 30 60))]))
  refine own_step (fun _ k => XS.lstore X3.here hx rfl (hb hby at_79) rfl (l' := #[.val (.long q0), .second, .val (.long q1), .second, .val (.long (own_der q0 q1)), .second, .val (.long (own_x3 ((own_x3 ((own_x3 (own_der q0 q1) 31 62) * own_inv (-7723592293110705685 : Int64)) 27 54) * own_inv (-4658895280553007687 : Int64)) 30 60)), .second, .unset, .unset]) rfl k) ?_
  show own_Ends _ _ _ _ _ _ _ (T3.setTop (mkF m 81 #[.val (.long q0), .second, .val (.long q1), .second, .val (.long (own_der q0 q1)), .second, .val (.long (own_x3 ((own_x3 ((own_x3 (own_der q0 q1) 31 62) * own_inv (-7723592293110705685 : Int64)) 27 54) * own_inv (-4658895280553007687 : Int64)) 30 60)), .second, .unset, .unset] []))
  refine own_step (fun _ k => XS.lloadN X3.here hx rfl (hb hby at_81) rfl k) ?_
  show own_Ends _ _ _ _ _ _ _ (T3.setTop (mkF m 82 #[.val (.long q0), .second, .val (.long q1), .second, .val (.long (own_der q0 q1)), .second, .val (.long (own_x3 ((own_x3 ((own_x3 (own_der q0 q1) 31 62) * own_inv (-7723592293110705685 : Int64)) 27 54) * own_inv (-4658895280553007687 : Int64)) 30 60)), .second, .unset, .unset] [(.long q0)]))
  refine own_step (fun _ k => XS.lloadN X3.here hx rfl (hb hby at_82) rfl k) ?_
  show own_Ends _ _ _ _ _ _ _ (T3.setTop (mkF m 83 #[.val (.long q0), .second, .val (.long q1), .second, .val (.long (own_der q0 q1)), .second, .val (.long (own_x3 ((own_x3 ((own_x3 (own_der q0 q1) 31 62) * own_inv (-7723592293110705685 : Int64)) 27 54) * own_inv (-4658895280553007687 : Int64)) 30 60)), .second, .unset, .unset] [(.long q1), (.long q0)]))
  refine own_step (fun _ k => XS.lconst X3.here hx rfl (hb hby at_83) k) ?_
  show own_Ends _ _ _ _ _ _ _ (T3.setTop (mkF m 84 #[.val (.long q0), .second, .val (.long q1), .second, .val (.long (own_der q0 q1)), .second, .val (.long (own_x3 ((own_x3 ((own_x3 (own_der q0 q1) 31 62) * own_inv (-7723592293110705685 : Int64)) 27 54) * own_inv (-4658895280553007687 : Int64)) 30 60)), .second, .unset, .unset] [(.long (1 : Int64)), (.long q1), (.long q0)]))
  refine own_step (fun _ k => XS.ladd X3.here hx rfl (hb hby at_84) rfl k) ?_
  show own_Ends _ _ _ _ _ _ _ (T3.setTop (mkF m 85 #[.val (.long q0), .second, .val (.long q1), .second, .val (.long (own_der q0 q1)), .second, .val (.long (own_x3 ((own_x3 ((own_x3 (own_der q0 q1) 31 62) * own_inv (-7723592293110705685 : Int64)) 27 54) * own_inv (-4658895280553007687 : Int64)) 30 60)), .second, .unset, .unset] [(.long (q1 + (1 : Int64))), (.long q0)]))
  refine own_step (fun _ k => X3.ldc2Long hx hown (mvT hZ (hw _ (List.mem_of_getElem? (i := 14) rfl))) (g := (mkF m 85 #[.val (.long q0), .second, .val (.long q1), .second, .val (.long (own_der q0 q1)), .second, .val (.long (own_x3 ((own_x3 ((own_x3 (own_der q0 q1) 31 62) * own_inv (-7723592293110705685 : Int64)) 27 54) * own_inv (-4658895280553007687 : Int64)) 30 60)), .second, .unset, .unset] [(.long (q1 + (1 : Int64))), (.long q0)])) rfl (hb hby at_85) _ k) ?_
  show own_Ends _ _ _ _ _ _ _ (T3.setTop (mkF m 88 #[.val (.long q0), .second, .val (.long q1), .second, .val (.long (own_der q0 q1)), .second, .val (.long (own_x3 ((own_x3 ((own_x3 (own_der q0 q1) 31 62) * own_inv (-7723592293110705685 : Int64)) 27 54) * own_inv (-4658895280553007687 : Int64)) 30 60)), .second, .unset, .unset] [(.long (-7046029254386353131 : Int64)), (.long (q1 + (1 : Int64))), (.long q0)]))
  refine own_step (fun _ k => XS.lmul X3.here hx rfl (hb hby at_88) rfl k) ?_
  show own_Ends _ _ _ _ _ _ _ (T3.setTop (mkF m 89 #[.val (.long q0), .second, .val (.long q1), .second, .val (.long (own_der q0 q1)), .second, .val (.long (own_x3 ((own_x3 ((own_x3 (own_der q0 q1) 31 62) * own_inv (-7723592293110705685 : Int64)) 27 54) * own_inv (-4658895280553007687 : Int64)) 30 60)), .second, .unset, .unset] [(.long ((q1 + (1 : Int64)) * (-7046029254386353131 : Int64))), (.long q0)]))
  refine own_step (fun _ k => XS.ladd X3.here hx rfl (hb hby at_89) rfl k) ?_
  show own_Ends _ _ _ _ _ _ _ (T3.setTop (mkF m 90 #[.val (.long q0), .second, .val (.long q1), .second, .val (.long (own_der q0 q1)), .second, .val (.long (own_x3 ((own_x3 ((own_x3 (own_der q0 q1) 31 62) * own_inv (-7723592293110705685 : Int64)) 27 54) * own_inv (-4658895280553007687 : Int64)) 30 60)), .second, .unset, .unset] [(.long (q0 + ((q1 + (1 : Int64)) * (-7046029254386353131 : Int64))))]))
  show own_Ends _ _ _ _ _ _ _ (T3.setTop (mkF m 90 #[.val (.long q0), .second, .val (.long q1), .second, .val (.long (own_der q0 q1)), .second, .val (.long (own_x3 ((own_x3 ((own_x3 (own_der q0 q1) 31 62) * own_inv (-7723592293110705685 : Int64)) 27 54) * own_inv (-4658895280553007687 : Int64)) 30 60)), .second, .unset, .unset] [(.long (own_st q0 q1))]))
  refine own_step (fun _ k => XS.lstore X3.here hx rfl (hb hby at_90) rfl (l' := #[.val (.long q0), .second, .val (.long q1), .second, .val (.long (own_der q0 q1)), .second, .val (.long (own_x3 ((own_x3 ((own_x3 (own_der q0 q1) 31 62) * own_inv (-7723592293110705685 : Int64)) 27 54) * own_inv (-4658895280553007687 : Int64)) 30 60)), .second, .val (.long (own_st q0 q1)), .second]) rfl k) ?_
  show own_Ends _ _ _ _ _ _ _ (T3.setTop (mkF m 92 #[.val (.long q0), .second, .val (.long q1), .second, .val (.long (own_der q0 q1)), .second, .val (.long (own_x3 ((own_x3 ((own_x3 (own_der q0 q1) 31 62) * own_inv (-7723592293110705685 : Int64)) 27 54) * own_inv (-4658895280553007687 : Int64)) 30 60)), .second, .val (.long (own_st q0 q1)), .second] []))
  refine own_step (fun _ k => XS.lload X3.here hx rfl (hb hby at_92) rfl k) ?_
  show own_Ends _ _ _ _ _ _ _ (T3.setTop (mkF m 94 #[.val (.long q0), .second, .val (.long q1), .second, .val (.long (own_der q0 q1)), .second, .val (.long (own_x3 ((own_x3 ((own_x3 (own_der q0 q1) 31 62) * own_inv (-7723592293110705685 : Int64)) 27 54) * own_inv (-4658895280553007687 : Int64)) 30 60)), .second, .val (.long (own_st q0 q1)), .second] [(.long (own_x3 ((own_x3 ((own_x3 (own_der q0 q1) 31 62) * own_inv (-7723592293110705685 : Int64)) 27 54) * own_inv (-4658895280553007687 : Int64)) 30 60))]))
  refine own_step (fun _ k => XS.lload X3.here hx rfl (hb hby at_94) rfl k) ?_
  show own_Ends _ _ _ _ _ _ _ (T3.setTop (mkF m 96 #[.val (.long q0), .second, .val (.long q1), .second, .val (.long (own_der q0 q1)), .second, .val (.long (own_x3 ((own_x3 ((own_x3 (own_der q0 q1) 31 62) * own_inv (-7723592293110705685 : Int64)) 27 54) * own_inv (-4658895280553007687 : Int64)) 30 60)), .second, .val (.long (own_st q0 q1)), .second] [(.long (own_st q0 q1)), (.long (own_x3 ((own_x3 ((own_x3 (own_der q0 q1) 31 62) * own_inv (-7723592293110705685 : Int64)) 27 54) * own_inv (-4658895280553007687 : Int64)) 30 60))]))
  refine own_step (fun _ k => XS.lcmp X3.here hx rfl (hb hby at_96) rfl k) ?_
  show own_Ends _ _ _ _ _ _ _ (T3.setTop (mkF m 97 #[.val (.long q0), .second, .val (.long q1), .second, .val (.long (own_der q0 q1)), .second, .val (.long (own_x3 ((own_x3 ((own_x3 (own_der q0 q1) 31 62) * own_inv (-7723592293110705685 : Int64)) 27 54) * own_inv (-4658895280553007687 : Int64)) 30 60)), .second, .val (.long (own_st q0 q1)), .second] [(.int (lcmpW (own_x3 ((own_x3 ((own_x3 (own_der q0 q1) 31 62) * own_inv (-7723592293110705685 : Int64)) 27 54) * own_inv (-4658895280553007687 : Int64)) 30 60) (own_st q0 q1)))]))
  refine own_step (fun _ k => XS.ifNo X3.here hx rfl (hb hby at_97) rfl ((if0 _ _).trans (teq ((lw_eq _ _).mpr (own_back q0 q1))).2) k) ?_
  show own_Ends _ _ _ _ _ _ _ (T3.setTop (mkF m 100 #[.val (.long q0), .second, .val (.long q1), .second, .val (.long (own_der q0 q1)), .second, .val (.long (own_x3 ((own_x3 ((own_x3 (own_der q0 q1) 31 62) * own_inv (-7723592293110705685 : Int64)) 27 54) * own_inv (-4658895280553007687 : Int64)) 30 60)), .second, .val (.long (own_st q0 q1)), .second] []))
  refine own_step (fun _ k => XS.iconst X3.here hx rfl (hb hby at_100) k) ?_
  show own_Ends _ _ _ _ _ _ _ (T3.setTop (mkF m 101 #[.val (.long q0), .second, .val (.long q1), .second, .val (.long (own_der q0 q1)), .second, .val (.long (own_x3 ((own_x3 ((own_x3 (own_der q0 q1) 31 62) * own_inv (-7723592293110705685 : Int64)) 27 54) * own_inv (-4658895280553007687 : Int64)) 30 60)), .second, .val (.long (own_st q0 q1)), .second] [(.int (1 : Int32))]))
  refine own_step (fun _ k => XS.goto X3.here hx rfl (pc0 := 101) (pc' := 105) rfl (hb hby at_101) (by decide) (by decide) k) ?_
  show own_Ends _ _ _ _ _ _ _ (T3.setTop (mkF m 105 #[.val (.long q0), .second, .val (.long q1), .second, .val (.long (own_der q0 q1)), .second, .val (.long (own_x3 ((own_x3 ((own_x3 (own_der q0 q1) 31 62) * own_inv (-7723592293110705685 : Int64)) 27 54) * own_inv (-4658895280553007687 : Int64)) 30 60)), .second, .val (.long (own_st q0 q1)), .second] [(.int (1 : Int32))]))
  refine own_ret X3 (BodyLoose.notSynchronized Bd) (v := (some (.int (1 : Int32)))) (fun h => by rw [Bd.returns] at h; cases h) ?_ (by decide) (by decide) (fun fs hr => X3.ireturnOut hx Bd.returns rfl (by simp) (hb hby at_105) hr)
  show own_Q0 Z q0 q1  h0 n0 (some (.int (1 : Int32))) T3.heap _
  rw [e3]
  exact ⟨rfl, N3⟩
set_option maxRecDepth 65536 in
set_option maxHeartbeats 40000000 in
theorem comes_1 {Post : Tables → Env → Array Value → State → Outcome → State → Prop} (hpost : ∀ tb e args s v u, (limb_1_1.after args s (.returned v) u = true ∧ limb_1_2.after args s (.returned v) u = true ∧ True) → FrameEnd s (.returned v) u (Jvm.fieldLocs frame_1_writes args s ++ Jvm.arrayLocs frame_1_arrays args s ++ Jvm.staticLocs frame_1_statics s) 0 0 → Post tb e args s (.returned v) u) :
    ArmFor flags0 classFile x code maxLocals ret World_1 tables_1 room_1 Calls_1 rest_1 Pre_1 Post := by
  intro l hfl _ _ p e ha hc hk s m args below hf hA hF happ hP
  obtain ⟨hcalls, hrest, hpre⟩ := hP
  obtain ⟨-, -, -, hnamed, -, -, -, hat⟩ := (Spec.applies_iff hf).mp happ
  obtain ⟨hg, hn⟩ := and_e (Cond.before_iff.mp (show (Jvm.Cond.and given_1 narrow_1).before args s = true from hpre))
  obtain ⟨g0, hg⟩ := and_e hg
  obtain ⟨ga0, hg⟩ := and_e hg
  obtain ⟨w0, w1, rfl⟩ : ∃ w0 w1 : Value, args = #[w0, w1] := by
    have hs : args.size = 2 := by simpa [Cond.value, given_1] using g0
    obtain ⟨L⟩ := args
    match L, hs with
    | [w0, w1], _ => exact ⟨w0, w1, rfl⟩
  have hw := fun d (hd : d ∈ tables_1) => atoms_spec (ws := Jvm.Cond.code x code maxLocals ret :: tables_1) hat d (List.mem_cons_of_mem _ hd)
  obtain ⟨i0, ei0⟩ := isL_v ga0
  obtain rfl : w0 = (.long i0) := Option.some.inj ei0
  obtain ⟨i1, ei1⟩ := isL_v hg
  obtain rfl : w1 = (.long i1) := Option.some.inj ei1
  obtain ⟨n, o, h1, h2, h3, _, L, rfl, ⟨rfl, N⟩, hq⟩ := own_rm0 l s _ hw tables_1 i0 i1 s.heap s.heap.size (Nat.le_refl _)  p e ha hc hk s m _ below hf ((Spec.applies_iff_loose hf).mp happ).1 ⟨rfl, State.Warmed39.refl s, rfl⟩ trivial
  refine ⟨n, _, h1, h2, h3, hpost _ _ _ _ _ _ ⟨Cond.after_iff.mpr rfl, Cond.after_iff.mpr (eq_i res_at (Term.int_eval (1)) rfl), trivial⟩ ⟨hq.1, hq.2.1, (hq.2.2.sift fun y hy => Or.inr (N y hy)).mono (by decide) (by decide)⟩⟩
theorem main_1_1 : Claimed_1_1 := comes_1 fun _ _ _ _ _ _ h hF => ⟨h.1, hF⟩
theorem main_1_2 : Claimed_1_2 := comes_1 fun _ _ _ _ _ _ h hF => ⟨h.2.1, hF⟩
end Jvm.Pilot.@@N@@
namespace Jvm.Pilot.@@N@@
open Jvm Jvm.ClassFile Sem Op Lib Jvm.Free Jvm.Stand Jvm.Pilot.@@N@@.Jvm.D
/-! MADE BY PROGRAM (witnessworld.py) out of the Statement's table words and the real class files: 9 classes; the members and pool entries that the words name. The judged class is class 1, her method 2. -/
namespace start1
open Jvm.ClassFile
def u (s : String) : CpInfo := .utf8 (stringToUtf16 s)
/-- a pool by its gaps: so many unusable entries, then the entry; so many at the end -/
def gap : Nat → List CpInfo → List CpInfo
  | 0, r => r
  | n + 1, r => .unusable :: gap n r
def poolList (es : List (Nat × CpInfo)) (last : Nat) : List CpInfo := es.foldr (fun e r => gap e.1 (e.2 :: r)) (gap last [])
def pool (es : List (Nat × CpInfo)) (last : Nat) : Array CpInfo := ⟨poolList es last⟩
def fileOf (pool : Array CpInfo) (this : Nat) (attrs : Array Attribute := #[]) (ms : Array MethodInfo := #[]) (fl : Nat := 33) (sup : Nat := 0) (ifs : Array Nat := #[]) (fds : Array FieldInfo := #[]) : ClassFile where
  minorVersion := 0
  majorVersion := 65
  constantPool := pool
  accessFlags := fl
  thisClass := this
  superClass := sup
  interfaces := ifs
  fields := fds
  methods := ms
  attributes := attrs
def plain (name : String) (sup : Option ClassId) : Class where
  name := name
  kind := .ordinary
  loader := none
  accessFlags := 33
  super := sup
  interfaces := #[]
  cf := none
  fields := #[]
  methods := #[]
  instanceTypes := #[]
  staticTypes := #[]
  resolved := #[]
  callSites := []
  init := .initialized
  statics := none
  mirror := none

def pool0 : Array CpInfo := pool [(5, u "<init>"), (0, u "()V"), (1, .class_ 10), (1, u "java/lang/Object")] 113

def k0m0 : Method := { name := "<init>", desc := "()V", sig := { parameters := [], returnType := none }, accessFlags := 1, code := none }
/-- java/lang/Object -/
def k0 : Class := { plain "java/lang/Object" none with
  accessFlags := 33
  interfaces := #[]
  cf := some (fileOf pool0 8 #[] #[{ accessFlags := 1, nameIndex := 5, descriptorIndex := 6, attributes := #[] }] 33 0 #[] #[])
  fields := #[]
  methods := #[k0m0]
  instanceTypes := #[]
  staticTypes := #[]
  resolved := Array.replicate 124 none
  statics := none }

def pool1 : Array CpInfo := pool [(2, .class_ 4), (1, u "java/lang/Object"), (0, u "<init>"), (0, u "()V"), (0, .long 2), (1, .methodref 10 11), (0, .class_ 12), (0, .nameAndType 13 14), (0, u "com/example/parley/parley/cli/Seeds"), (0, u "derived"), (0, u "(JJ)J"), (0, .long 10723151780598845931), (1, .methodref 18 19), (0, .class_ 20), (0, .nameAndType 21 22), (0, u "com/example/parley/parley/cli/SeedsDerivedPinLaw"), (0, u "inverse"), (0, u "(J)J"), (0, .long 13787848793156543929), (1, .long 11400714819323198485), (3, u "law"), (0, u "(JJ)Z")] 3

def k1m0 : Method := { name := "<init>", desc := "()V", sig := { parameters := [], returnType := none }, accessFlags := 2, code := none }
def k1c1 : Code := { maxStack := 8, maxLocals := 4, code := method_2_code, exceptionTable := #[], attributes := #[] }
def k1m1 : Method := { name := "inverse", desc := "(J)J", sig := { parameters := [.long], returnType := some .long }, accessFlags := 10, code := some k1c1 }
def k1c2 : Code := { maxStack := 6, maxLocals := 10, code := code, exceptionTable := #[], attributes := #[] }
def k1m2 : Method := { name := "law", desc := "(JJ)Z", sig := { parameters := [.long, .long], returnType := some .boolean }, accessFlags := 9, code := some k1c2 }
/-- com/example/parley/parley/cli/SeedsDerivedPinLaw -/
def k1 : Class := { plain "com/example/parley/parley/cli/SeedsDerivedPinLaw" (some 0) with
  accessFlags := 49
  interfaces := #[]
  cf := some (fileOf pool1 18 #[] #[{ accessFlags := 2, nameIndex := 5, descriptorIndex := 6, attributes := #[] }, { accessFlags := 10, nameIndex := 21, descriptorIndex := 22, attributes := #[] }, { accessFlags := 9, nameIndex := 29, descriptorIndex := 30, attributes := #[] }] 49 2 #[] #[])
  fields := #[]
  methods := #[k1m0, k1m1, k1m2]
  instanceTypes := #[]
  staticTypes := #[]
  resolved := Array.replicate 34 none
  statics := none }

def pool2 : Array CpInfo := pool [(2, .class_ 4), (1, u "java/lang/Object"), (0, u "<init>"), (0, u "()V"), (0, .class_ 8), (0, u "com/example/parley/parley/cli/Seeds"), (0, .long 11400714819323198485), (1, .long 13787848793156543929), (1, .long 10723151780598845931), (3, u "derived"), (0, u "(JJ)J"), (0, u "GOLDEN_GAMMA"), (0, u "J")] 7

def k2m0 : Method := { name := "<init>", desc := "()V", sig := { parameters := [], returnType := none }, accessFlags := 2, code := none }
def k2c1 : Code := { maxStack := 6, maxLocals := 6, code := prog_26_method_2_code, exceptionTable := #[], attributes := #[] }
def k2m1 : Method := { name := "derived", desc := "(JJ)J", sig := { parameters := [.long, .long], returnType := some .long }, accessFlags := 8, code := some k2c1 }
/-- com/example/parley/parley/cli/Seeds -/
def k2 : Class := { plain "com/example/parley/parley/cli/Seeds" (some 0) with
  accessFlags := 48
  interfaces := #[]
  cf := some (fileOf pool2 7 #[] #[{ accessFlags := 2, nameIndex := 5, descriptorIndex := 6, attributes := #[] }, { accessFlags := 8, nameIndex := 17, descriptorIndex := 18, attributes := #[] }] 48 2 #[] #[{ accessFlags := 26, nameIndex := 19, descriptorIndex := 20, attributes := #[] }])
  fields := #[{ name := "GOLDEN_GAMMA", type := .long, accessFlags := 26, slot := 0, constantValue := 0 }]
  methods := #[k2m0, k2m1]
  instanceTypes := #[]
  staticTypes := #[.long]
  resolved := Array.replicate 28 none
  statics := none }

def pool3 : Array CpInfo := pool [(1, u "java/lang/Cloneable"), (0, .class_ 1), (0, u "java/lang/Object"), (0, .class_ 3)] 3

/-- java/lang/Cloneable -/
def k3 : Class := { plain "java/lang/Cloneable" (some 0) with
  accessFlags := 1537
  interfaces := #[]
  cf := some (fileOf pool3 2 #[] #[] 1537 4 #[] #[])
  fields := #[]
  methods := #[]
  instanceTypes := #[]
  staticTypes := #[]
  resolved := Array.replicate 8 none
  statics := none }

def pool4 : Array CpInfo := pool [(1, u "java/io/Serializable"), (0, .class_ 1), (0, u "java/lang/Object"), (0, .class_ 3)] 3

/-- java/io/Serializable -/
def k4 : Class := { plain "java/io/Serializable" (some 0) with
  accessFlags := 1537
  interfaces := #[]
  cf := some (fileOf pool4 2 #[] #[] 1537 4 #[] #[])
  fields := #[]
  methods := #[]
  instanceTypes := #[]
  staticTypes := #[]
  resolved := Array.replicate 8 none
  statics := none }

/-- the primitive byte -/
def k5 : Class := { plain "byte" none with kind := .primitive 'B', accessFlags := 0x411 }
/-- [B -/
def k6 : Class := { plain "[B" (some 0) with kind := .array 5 .byte, interfaces := #[3, 4], accessFlags := 1041 }

/-- the primitive int -/
def k7 : Class := { plain "int" none with kind := .primitive 'I', accessFlags := 0x411 }
/-- [I -/
def k8 : Class := { plain "[I" (some 0) with kind := .array 7 .int, interfaces := #[3, 4], accessFlags := 1041 }

def heap : Heap := #[]
def classes : Array Class := #[k0, k1, k2, k3, k4, k5, k6, k7, k8]
def interned : List (Array UInt16 × Addr) := []
def slotsUsed : Nat := 0
def theMethod : MethodId := ⟨1, 2⟩
def args0 : Array Value := #[.long 5, .long 7]
def aboutOver (below : List Frame) : State where
  vm := { classes := classes, interned := interned.toArray }
  heap := heap
  slotsUsed := slotsUsed
  threads := #[{ frames := .invoking theMethod args0 :: below }]
def below0 : List Frame := [.native { method := ⟨0, 0⟩, args := #[] }]
def about1 : State := aboutOver below0
def p0 : Program := .bare "" "" ""
def e0 : Env := launch0.env 0 0 0
theorem w_frames : about1.frames = Frame.invoking theMethod args0 :: below0 := rfl
set_option maxRecDepth 65536 in
theorem w_args : argsFit about1.vm theMethod args0 = true := by decide +kernel
set_option maxRecDepth 65536 in
theorem w_heap : heapFits about1 = true := by decide +kernel
set_option maxRecDepth 65536 in
theorem w_runnable : about1.curStatus? = some .runnable := by decide +kernel
set_option maxRecDepth 65536 in
theorem w_alone : about1.alone = true := by decide +kernel
set_option maxRecDepth 65536 in
theorem w_named : about1.methodNamed? x = some theMethod := by decide +kernel
set_option maxRecDepth 65536 in
theorem w_hears : about1.hears theMethod below0 = true := by decide +kernel
set_option maxRecDepth 65536 in
theorem w_ripe : about1.ripe theMethod args0 below0 = true := by decide +kernel
theorem w_running : about1.status = .running := rfl
set_option maxRecDepth 65536 in
theorem w_room : about1.hasRoom e0.platform room_1 = true :=
  launch0.hasRoom_least _ room_1 (by decide +kernel) (by decide +kernel) (by decide +kernel) (by decide +kernel) (by decide +kernel) (by decide +kernel)
theorem allAtoms_all (ts : List Jvm.Cond) (a : Array Jvm.Value) (st : Jvm.State) : (allAtoms ts).before a st = ts.all (fun c => c.before a st) := by
  induction ts with
  | nil => rfl
  | cons c t ih =>
    show (Jvm.Cond.and c (allAtoms t)).before a st = _
    rw [Jvm.Cond.before_and, ih, List.all_cons]
def words1 : List Jvm.Cond := Jvm.Cond.code x code maxLocals ret :: tables_1
/-- a 'code' word, met by the world's own term for the bytes: nothing is compared byte by byte -/
theorem code_word {y : MethodName} {bytes : ByteArray} {mx : Nat} {rt : Option FieldType} {a : Array Value} {s : State} {m : MethodId} {meth : Method} {c : Code} (h1 : s.methodNamed? y = some m) (h2 : s.vm.method? m = some meth) (h3 : meth.code = some c) (h4 : c.code = bytes)
    (h5 : (c.maxLocals == mx && c.exceptionTable.isEmpty && decide (c.maxStack ≤ mostOperands) && decide (meth.sig.returnType = rt) && !meth.locks && decide (parseMethodDescriptor y.desc = some meth.sig)) = true) : (Jvm.Cond.code y bytes mx rt).before a s = true := by
  simp only [Bool.and_eq_true, beq_iff_eq, Bool.not_eq_true', decide_eq_true_eq] at h5
  obtain ⟨⟨⟨⟨⟨g1, g2⟩, g3⟩, g4⟩, g5⟩, g6⟩ := h5
  simp [Cond.before, Cond.holds, Cond.value, h1, h2, h3, h4, g1, g2, g3, g4, g5, g6]
def isCode : Jvm.Cond → Bool
  | .code _ _ _ _ => true
  | _ => false
theorem all_split {L : List Jvm.Cond} {P : Jvm.Cond → Bool} (h1 : L.all (fun c => isCode c || P c) = true) (h2 : ∀ c ∈ L.filter isCode, P c = true) : L.all P = true := by
  refine List.all_eq_true.mpr fun c hc => ?_
  have h := List.all_eq_true.mp h1 c hc
  rcases Bool.eq_false_or_eq_true (isCode c) with hi | hi
  · exact h2 c (List.mem_filter.mpr ⟨hc, hi⟩)
  · simpa [hi] using h
set_option maxRecDepth 65536 in
theorem w_c0 : (Jvm.Cond.code x code maxLocals ret).before args0 about1 = true := code_word (m := ⟨1, 2⟩) (meth := k1m2) (c := k1c2) (by decide +kernel) rfl rfl rfl (by decide +kernel)
set_option maxRecDepth 65536 in
theorem w_c1 : (Jvm.Cond.code ({ cls := "com/example/parley/parley/cli/Seeds", name := "derived", desc := "(JJ)J" } : Jvm.MethodName) prog_26_method_2_code (6 : Nat) (Option.some Jvm.ClassFile.FieldType.long)).before args0 about1 = true := code_word (m := ⟨2, 1⟩) (meth := k2m1) (c := k2c1) (by decide +kernel) rfl rfl rfl (by decide +kernel)
set_option maxRecDepth 65536 in
theorem w_c2 : (Jvm.Cond.code ({ cls := "com/example/parley/parley/cli/SeedsDerivedPinLaw", name := "inverse", desc := "(J)J" } : Jvm.MethodName) method_2_code (4 : Nat) (Option.some Jvm.ClassFile.FieldType.long)).before args0 about1 = true := code_word (m := ⟨1, 1⟩) (meth := k1m1) (c := k1c1) (by decide +kernel) rfl rfl rfl (by decide +kernel)
def codes1 : List Jvm.Cond := [Jvm.Cond.code x code maxLocals ret, Jvm.Cond.code ({ cls := "com/example/parley/parley/cli/Seeds", name := "derived", desc := "(JJ)J" } : Jvm.MethodName) prog_26_method_2_code (6 : Nat) (Option.some Jvm.ClassFile.FieldType.long), Jvm.Cond.code ({ cls := "com/example/parley/parley/cli/SeedsDerivedPinLaw", name := "inverse", desc := "(J)J" } : Jvm.MethodName) method_2_code (4 : Nat) (Option.some Jvm.ClassFile.FieldType.long)]
set_option maxRecDepth 65536 in
theorem codes_eq : words1.filter isCode = codes1 := rfl
theorem w_codes : ∀ c ∈ words1.filter isCode, c.before args0 about1 = true := by
  rw [codes_eq]
  intro c hc
  simp only [codes1, List.mem_cons, List.not_mem_nil, or_false] at hc
  rcases hc with rfl | rfl | rfl
  · exact w_c0
  · exact w_c1
  · exact w_c2
set_option maxRecDepth 65536 in
theorem w_t1 : words1.all (fun c => isCode c || c.before args0 about1) = true := by decide +kernel
theorem w_tables : (allAtoms (Jvm.Cond.code x code maxLocals ret :: tables_1)).before args0 about1 = true := by
  rw [allAtoms_all]
  show words1.all (fun c => c.before args0 about1) = true
  refine all_split ?_ w_codes
  rw [w_t1]
set_option maxRecDepth 65536 in
theorem w_case : (Jvm.Cond.and given_1 narrow_1).before args0 about1 = true := by decide +kernel
theorem w_applies : (headSpec (Jvm.Cond.code x code maxLocals ret :: tables_1) room_1).applies x e0.platform about1 = true :=
  (Spec.applies_iff w_frames).mpr ⟨w_running, w_runnable, w_alone, w_named, w_hears, w_ripe, w_room, w_tables⟩
theorem atStart : AtStart classFile x code maxLocals ret World_1 tables_1 room_1 Calls_1 rest_1 Pre_1 launch0 p0 e0 about1 theMethod args0 below0 :=
  ⟨lists_1, trivial, launch0.admits_env _ _ _, launch0.least_env, fairChoices_fair.cas, fairChoices_fair.clock, w_frames, w_args, w_heap, w_applies, trivial, trivial, w_case⟩
end start1
theorem witness_1 : WitnessClaimed_1 := ⟨start1.p0, start1.e0, start1.about1, start1.theMethod, start1.args0, start1.below0, start1.atStart⟩
end Jvm.Pilot.@@N@@
