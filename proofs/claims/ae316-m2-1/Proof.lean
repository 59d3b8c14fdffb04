import JvmDerived
import JvmDerived.Pilot.@@N@@Statement
import JvmDerived.Pilot.@@N@@Code
set_option linter.unusedVariables false
set_option linter.unusedSimpArgs false
@@BLOCK:NumsL.lean.txt@@
namespace Jvm.Pilot.@@N@@
open Jvm Jvm.ClassFile Sem Op Lib Jvm.Free Jvm.Stand Jvm.LawKit Jvm.RoadKit Bundle Jvm.Pilot.@@N@@.Jvm.D
/-- the run that stands at st comes to a return: Q says what is returned, the heap and the places written; at most kc cells and ks slots are new -/
def own_Ends (p : Program) (e : Env) (below : List Frame) (s : State) (kc ks : Nat) (Q : Option Value → Heap → List Loc → Prop) (st : State) : Prop :=
  ∃ s₂ o, Steps p.tables e below st s₂ ∧ s₂.status = .running ∧ Ended s₂ below o ∧ ∃ v L, o = .returned v ∧ Q v s₂.heap L ∧ FrameEnd s o s₂ L kc ks
theorem own_step {p : Program} {e : Env} {below : List Frame} {s : State} {kc ks : Nat} {Q : Option Value → Heap → List Loc → Prop} {st st' : State}
    (h : ∀ t, Steps p.tables e below st' t → Steps p.tables e below st t) (k : own_Ends p e below s kc ks Q st') : own_Ends p e below s kc ks Q st := by
  obtain ⟨s₂, o, h1, h2⟩ := k
  exact ⟨s₂, o, h _ h1, h2⟩
theorem own_ret {p : Program} {l : Launch} {e : Env} {R : Room} {s : State} {m : MethodId} {args : Array Value} {below : List Frame} {meth : Method} {c : Code} {T : State} {locs : List Loc} {cells slots : Nat} {kc ks : Nat} {Q : Option Value → Heap → List Loc → Prop} {st : State}
    (X : Stand p l e R s m args below meth c T locs cells slots) (hlocks : meth.locks = false) {v : Option Value} (hv : meth.sig.returnType = none → v = none) (hq : Q v T.heap locs) (hc : cells ≤ kc) (hs : slots ≤ ks)
    (hr : ∀ fs, (∀ (f : JFrame) (acts : List Action), f.method = m → f.locked = none → f.entered = [] → (doReturn e (T.setTop f) acts v).1 = T.setFrames fs) → Steps p.tables e below st (T.setFrames fs)) : own_Ends p e below s kc ks Q st := by
  obtain ⟨fs, h1, hrun, hended, hW, hsame⟩ := X.leave (v := v) hv hlocks
  exact ⟨_, _, hr fs h1, hrun, hended, v, locs, rfl, hq, ⟨_, rfl⟩, hW, hsame.mono hc hs⟩

theorem own_xor3 {w : Nat} (x a b : BitVec w) : (x ^^^ a) ^^^ (a ^^^ b) ^^^ (b ^^^ 0#w) = x := by
  apply BitVec.eq_of_getLsbD_eq
  intro i hi
  simp only [BitVec.getLsbD_xor, BitVec.getLsbD_zero]
  cases x.getLsbD i <;> cases a.getLsbD i <;> cases b.getLsbD i <;> rfl
theorem own_xor3' {w : Nat} (x a b : BitVec w) : (x ^^^ a ^^^ b) ^^^ (a ^^^ b ^^^ 0#w) = x := by
  apply BitVec.eq_of_getLsbD_eq
  intro i hi
  simp only [BitVec.getLsbD_xor, BitVec.getLsbD_zero]
  cases x.getLsbD i <;> cases a.getLsbD i <;> cases b.getLsbD i <;> rfl
theorem own_xor2 {w : Nat} (x a : BitVec w) : (x ^^^ a) ^^^ (a ^^^ 0#w) = x := by
  apply BitVec.eq_of_getLsbD_eq
  intro i hi
  simp only [BitVec.getLsbD_xor, BitVec.getLsbD_zero]
  cases x.getLsbD i <;> cases a.getLsbD i <;> rfl
theorem own_undoB (x : BitVec 32) (n k t : Nat) (h1 : n + n = k) (h2 : n + k = t) (h3 : 32 ≤ t) : (x ^^^ x >>> n) ^^^ (x ^^^ x >>> n) >>> n ^^^ (x ^^^ x >>> n) >>> k = x := by
  have e : x >>> t = 0#32 := BitVec.ushiftRight_eq_zero h3
  simp only [BitVec.ushiftRight_xor_distrib, ← BitVec.shiftRight_add, h1, h2, e]
  exact own_xor3 _ _ _
theorem own_redoB (x : BitVec 32) (n k t : Nat) (h1 : n + n = k) (h2 : k + n = t) (h3 : 32 ≤ t) : (x ^^^ x >>> n ^^^ x >>> k) ^^^ (x ^^^ x >>> n ^^^ x >>> k) >>> n = x := by
  have e : x >>> t = 0#32 := BitVec.ushiftRight_eq_zero h3
  simp only [BitVec.ushiftRight_xor_distrib, ← BitVec.shiftRight_add, h1, h2, e]
  exact own_xor3' _ _ _
theorem own_undo2B (x : BitVec 32) (n k : Nat) (h1 : n + n = k) (h3 : 32 ≤ k) : (x ^^^ x >>> n) ^^^ (x ^^^ x >>> n) >>> n = x := by
  have e : x >>> k = 0#32 := BitVec.ushiftRight_eq_zero h3
  simp only [BitVec.ushiftRight_xor_distrib, ← BitVec.shiftRight_add, h1, e]
  exact own_xor2 _ _
def own_x2 (z : Int32) (n : Int32) : Int32 := z ^^^ XT.ushr z n
def own_x3 (z : Int32) (n k : Int32) : Int32 := z ^^^ XT.ushr z n ^^^ XT.ushr z k
def own_nw (a x : Int32) : Int32 := x * (2 - a * x)
def own_inv (a : Int32) : Int32 := own_nw a (own_nw a (own_nw a (own_nw a (own_nw a a))))
def own_spread (z : Int32) : Int32 := own_x2 (own_x2 z 16 * (-2048144789 : Int32)) 13
def own_unspread (z : Int32) : Int32 := own_x2 (own_x3 z 13 26 * own_inv (-2048144789 : Int32)) 16
theorem own_u13 (z : Int32) : own_x3 (own_x2 z 13) 13 26 = z := by
  apply Int32.toBitVec_inj.mp
  exact own_undoB z.toBitVec 13 26 39 rfl rfl (by decide)
theorem own_r13 (z : Int32) : own_x2 (own_x3 z 13 26) 13 = z := by
  apply Int32.toBitVec_inj.mp
  exact own_redoB z.toBitVec 13 26 39 rfl rfl (by decide)
theorem own_u16 (z : Int32) : own_x2 (own_x2 z 16) 16 = z := by
  apply Int32.toBitVec_inj.mp
  exact own_undo2B z.toBitVec 16 32 rfl (by decide)
theorem own_i1 : (-2048144789 : Int32) * own_inv (-2048144789 : Int32) = 1 := by decide +kernel
theorem own_i2 : own_inv (-2048144789 : Int32) * (-2048144789 : Int32) = 1 := by decide +kernel
theorem own_there (z : Int32) : own_unspread (own_spread z) = z := by
  rw [own_unspread, own_spread, own_u13, Int32.mul_assoc, own_i1, Int32.mul_one, own_u16]
theorem own_again (z : Int32) : own_spread (own_unspread z) = z := by
  rw [own_unspread, own_spread, own_u16, Int32.mul_assoc, own_i2, Int32.mul_one, own_r13]
theorem own_d1_0 : decode prog_84_method_23_code 0 = .ok (.iload_n 0, 1) := by decide +kernel
theorem own_d1_1 : decode prog_84_method_23_code 1 = .ok (.istore_n 1, 1) := by decide +kernel
theorem own_d1_2 : decode prog_84_method_23_code 2 = .ok (.iload_n 1, 1) := by decide +kernel
theorem own_d1_3 : decode prog_84_method_23_code 3 = .ok (.iload_n 1, 1) := by decide +kernel
theorem own_d1_4 : decode prog_84_method_23_code 4 = .ok (.bipush 16, 2) := by decide +kernel
theorem own_d1_6 : decode prog_84_method_23_code 6 = .ok (.iushr, 1) := by decide +kernel
theorem own_d1_7 : decode prog_84_method_23_code 7 = .ok (.ixor, 1) := by decide +kernel
theorem own_d1_8 : decode prog_84_method_23_code 8 = .ok (.istore_n 1, 1) := by decide +kernel
theorem own_d1_9 : decode prog_84_method_23_code 9 = .ok (.iload_n 1, 1) := by decide +kernel
theorem own_d1_10 : decode prog_84_method_23_code 10 = .ok (.ldc 180, 2) := by decide +kernel
theorem own_d1_12 : decode prog_84_method_23_code 12 = .ok (.imul, 1) := by decide +kernel
theorem own_d1_13 : decode prog_84_method_23_code 13 = .ok (.istore_n 1, 1) := by decide +kernel
theorem own_d1_14 : decode prog_84_method_23_code 14 = .ok (.iload_n 1, 1) := by decide +kernel
theorem own_d1_15 : decode prog_84_method_23_code 15 = .ok (.iload_n 1, 1) := by decide +kernel
theorem own_d1_16 : decode prog_84_method_23_code 16 = .ok (.bipush 13, 2) := by decide +kernel
theorem own_d1_18 : decode prog_84_method_23_code 18 = .ok (.iushr, 1) := by decide +kernel
theorem own_d1_19 : decode prog_84_method_23_code 19 = .ok (.ixor, 1) := by decide +kernel
theorem own_d1_20 : decode prog_84_method_23_code 20 = .ok (.istore_n 1, 1) := by decide +kernel
theorem own_d1_21 : decode prog_84_method_23_code 21 = .ok (.iload_n 1, 1) := by decide +kernel
theorem own_d1_22 : decode prog_84_method_23_code 22 = .ok (.ireturn, 1) := by decide +kernel
theorem own_pn0 : plainName "com/example/derivant/derivant/core/PersistentMap" = true := by first | (simp [plainName, overriddenIn]; done) | decide +kernel
theorem own_ef1 (m : MethodId) (p0 : Int32) : entryFrame m #[(.int p0)] 2 = mkF m 0 #[.val (.int p0), .unset] [] := by first | (simp [entryFrame, mkF, argsToLocals, Value.category]; done) | rfl
def own_Q1 (Z : State) (p0 : Int32)  (h0 : Heap) (n0 : Nat) (v : Option Value) (h : Heap) (L : List Loc) : Prop := v = some (.int (own_spread p0)) ∧ Fr n0 L ∧ h = h0
set_option maxRecDepth 65536 in
set_option maxHeartbeats 40000000 in
theorem own_rm1 (l : Launch) (Z : State) (a0 : Array Value) (hw : ∀ d ∈ tables_1, d.before a0 Z = true) (ws : List Jvm.Cond) (p0 : Int32)  (h0 : Heap) (n0 : Nat) (Z0 : n0 ≤ h0.size)  :
    MetFree l (⟨"com/example/derivant/derivant/core/PersistentMap", "spread", "(I)I"⟩ : MethodName) (head1 (Jvm.Cond.code (⟨"com/example/derivant/derivant/core/PersistentMap", "spread", "(I)I"⟩ : MethodName) prog_84_method_23_code 2 (some .int) :: ws) ({ frames := 0, cells := 0, slots := 0, locals := 0 } : Room)) (fun a U => a = #[(.int p0)] ∧ Z.Warmed39 U.vm ∧ U.heap = h0) (fun _ _ _ _ _ => True) (fun _ U o U' => ∃ v L, o = .returned v ∧ own_Q1 Z p0  h0 n0 v U'.heap L ∧ FrameEnd U o U' L ({ frames := 0, cells := 0, slots := 0, locals := 0 } : Room).cells ({ frames := 0, cells := 0, slots := 0, locals := 0 } : Room).slots) := by
  refine MetFree.of_bodySF (plainFor_of_name own_pn0) hisR ?_
  intro p e s m args below meth c s₁ Bd hml0 hP hK
  obtain ⟨rfl, hZ, hh⟩ := hP
  have hx := Bd.exec
  have hby := Bd.bytes
  have hml : c.maxLocals = 2 := hml0
  have hown : s.vm.findClass "com/example/derivant/derivant/core/PersistentMap" = some m.cls := findClass_of_methodNamed Bd.named
  have hnm := (name_of_methodNamed Bd.named Bd.method).1
  have X0 : Stand p l e ({ frames := 0, cells := 0, slots := 0, locals := 0 } : Room) s m #[(.int p0)] below meth c s₁ [] 0 0 := Stand.of_body Bd
  have e0 : s₁.heap = h0 := by rw [← hh, Bd.state]; rfl
  have N0 := Fr.nil n0
  suffices H : own_Ends p e below s ({ frames := 0, cells := 0, slots := 0, locals := 0 } : Room).cells ({ frames := 0, cells := 0, slots := 0, locals := 0 } : Room).slots (own_Q1 Z p0  h0 n0) (s₁.setTop (mkF m 0 #[.val (.int p0), .unset] [])) by
    obtain ⟨s₂, o, h1, h2⟩ := H
    exact ⟨s₂, o, castTop (own_ef1 m p0) h1, h2⟩
  show own_Ends _ _ _ _ _ _ _ (s₁.setTop (mkF m 0 #[.val (.int p0), .unset] []))
  refine own_step (fun _ k => XS.iloadN X0.here hx rfl (hb hby own_d1_0) rfl k) ?_
  show own_Ends _ _ _ _ _ _ _ (s₁.setTop (mkF m 1 #[.val (.int p0), .unset] [(.int p0)]))
  refine own_step (fun _ k => XS.istoreN X0.here hx rfl (hb hby own_d1_1) rfl (l' := #[.val (.int p0), .val (.int p0)]) rfl k) ?_
  show own_Ends _ _ _ _ _ _ _ (s₁.setTop (mkF m 2 #[.val (.int p0), .val (.int p0)] []))
  refine own_step (fun _ k => XS.iloadN X0.here hx rfl (hb hby own_d1_2) rfl k) ?_
  show own_Ends _ _ _ _ _ _ _ (s₁.setTop (mkF m 3 #[.val (.int p0), .val (.int p0)] [(.int p0)]))
  refine own_step (fun _ k => XS.iloadN X0.here hx rfl (hb hby own_d1_3) rfl k) ?_
  show own_Ends _ _ _ _ _ _ _ (s₁.setTop (mkF m 4 #[.val (.int p0), .val (.int p0)] [(.int p0), (.int p0)]))
  refine own_step (fun _ k => XS.bipush X0.here hx rfl (hb hby own_d1_4) k) ?_
  show own_Ends _ _ _ _ _ _ _ (s₁.setTop (mkF m 6 #[.val (.int p0), .val (.int p0)] [(.int (16 : Int32)), (.int p0), (.int p0)]))
  refine own_step (fun _ k => XT.iushr X0.here hx rfl (hb hby own_d1_6) rfl k) ?_
  show own_Ends _ _ _ _ _ _ _ (s₁.setTop (mkF m 7 #[.val (.int p0), .val (.int p0)] [(.int (XT.ushr p0 (16 : Int32))), (.int p0)]))
  refine own_step (fun _ k => XS.ixor X0.here hx rfl (hb hby own_d1_7) rfl k) ?_
  show own_Ends _ _ _ _ _ _ _ (s₁.setTop (mkF m 8 #[.val (.int p0), .val (.int p0)] [(.int (p0 ^^^ (XT.ushr p0 (16 : Int32))))]))
  show own_Ends _ _ _ _ _ _ _ (s₁.setTop (mkF m 8 #[.val (.int p0), .val (.int p0)] [(.int (own_x2 p0 16))]))
  refine own_step (fun _ k => XS.istoreN X0.here hx rfl (hb hby own_d1_8) rfl (l' := #[.val (.int p0), .val (.int (own_x2 p0 16))]) rfl k) ?_
  show own_Ends _ _ _ _ _ _ _ (s₁.setTop (mkF m 9 #[.val (.int p0), .val (.int (own_x2 p0 16))] []))
  refine own_step (fun _ k => XS.iloadN X0.here hx rfl (hb hby own_d1_9) rfl k) ?_
  show own_Ends _ _ _ _ _ _ _ (s₁.setTop (mkF m 10 #[.val (.int p0), .val (.int (own_x2 p0 16))] [(.int (own_x2 p0 16))]))
  refine own_step (fun _ k => X0.ldcInt hx hown (mvT hZ (hw _ (List.mem_of_getElem? (i := 4) rfl))) (g := (mkF m 10 #[.val (.int p0), .val (.int (own_x2 p0 16))] [(.int (own_x2 p0 16))])) rfl (hb hby own_d1_10) _ k) ?_
  show own_Ends _ _ _ _ _ _ _ (s₁.setTop (mkF m 12 #[.val (.int p0), .val (.int (own_x2 p0 16))] [(.int (-2048144789 : Int32)), (.int (own_x2 p0 16))]))
  refine own_step (fun _ k => XS.imul X0.here hx rfl (hb hby own_d1_12) rfl k) ?_
  show own_Ends _ _ _ _ _ _ _ (s₁.setTop (mkF m 13 #[.val (.int p0), .val (.int (own_x2 p0 16))] [(.int ((own_x2 p0 16) * (-2048144789 : Int32)))]))
  refine own_step (fun _ k => XS.istoreN X0.here hx rfl (hb hby own_d1_13) rfl (l' := #[.val (.int p0), .val (.int ((own_x2 p0 16) * (-2048144789 : Int32)))]) rfl k) ?_
  show own_Ends _ _ _ _ _ _ _ (s₁.setTop (mkF m 14 #[.val (.int p0), .val (.int ((own_x2 p0 16) * (-2048144789 : Int32)))] []))
  refine own_step (fun _ k => XS.iloadN X0.here hx rfl (hb hby own_d1_14) rfl k) ?_
  show own_Ends _ _ _ _ _ _ _ (s₁.setTop (mkF m 15 #[.val (.int p0), .val (.int ((own_x2 p0 16) * (-2048144789 : Int32)))] [(.int ((own_x2 p0 16) * (-2048144789 : Int32)))]))
  refine own_step (fun _ k => XS.iloadN X0.here hx rfl (hb hby own_d1_15) rfl k) ?_
  show own_Ends _ _ _ _ _ _ _ (s₁.setTop (mkF m 16 #[.val (.int p0), .val (.int ((own_x2 p0 16) * (-2048144789 : Int32)))] [(.int ((own_x2 p0 16) * (-2048144789 : Int32))), (.int ((own_x2 p0 16) * (-2048144789 : Int32)))]))
  refine own_step (fun _ k => XS.bipush X0.here hx rfl (hb hby own_d1_16) k) ?_
  show own_Ends _ _ _ _ _ _ _ (s₁.setTop (mkF m 18 #[.val (.int p0), .val (.int ((own_x2 p0 16) * (-2048144789 : Int32)))] [(.int (13 : Int32)), (.int ((own_x2 p0 16) * (-2048144789 : Int32))), (.int ((own_x2 p0 16) * (-2048144789 : Int32)))]))
  refine own_step (fun _ k => XT.iushr X0.here hx rfl (hb hby own_d1_18) rfl k) ?_
  show own_Ends _ _ _ _ _ _ _ (s₁.setTop (mkF m 19 #[.val (.int p0), .val (.int ((own_x2 p0 16) * (-2048144789 : Int32)))] [(.int (XT.ushr ((own_x2 p0 16) * (-2048144789 : Int32)) (13 : Int32))), (.int ((own_x2 p0 16) * (-2048144789 : Int32)))]))
  refine own_step (fun _ k => XS.ixor X0.here hx rfl (hb hby own_d1_19) rfl k) ?_
  show own_Ends _ _ _ _ _ _ _ (s₁.setTop (mkF m 20 #[.val (.int p0), .val (.int ((own_x2 p0 16) * (-2048144789 : Int32)))] [(.int (((own_x2 p0 16) * (-2048144789 : Int32)) ^^^ (XT.ushr ((own_x2 p0 16) * (-2048144789 : Int32)) (13 : Int32))))]))
  show own_Ends _ _ _ _ _ _ _ (s₁.setTop (mkF m 20 #[.val (.int p0), .val (.int ((own_x2 p0 16) * (-2048144789 : Int32)))] [(.int (own_spread p0))]))
  refine own_step (fun _ k => XS.istoreN X0.here hx rfl (hb hby own_d1_20) rfl (l' := #[.val (.int p0), .val (.int (own_spread p0))]) rfl k) ?_
  show own_Ends _ _ _ _ _ _ _ (s₁.setTop (mkF m 21 #[.val (.int p0), .val (.int (own_spread p0))] []))
  refine own_step (fun _ k => XS.iloadN X0.here hx rfl (hb hby own_d1_21) rfl k) ?_
  show own_Ends _ _ _ _ _ _ _ (s₁.setTop (mkF m 22 #[.val (.int p0), .val (.int (own_spread p0))] [(.int (own_spread p0))]))
  refine own_ret X0 (BodyLoose.notSynchronized Bd) (v := (some (.int (own_spread p0)))) (fun h => by rw [Bd.returns] at h; cases h) ?_ (by decide) (by decide) (fun fs hr => X0.ireturnOut hx Bd.returns rfl (by simp) (hb hby own_d1_22) hr)
  show own_Q1 Z p0  h0 n0 (some (.int (own_spread p0))) s₁.heap _
  rw [e0]
  exact ⟨rfl, N0, rfl⟩
theorem own_d2_0 : decode method_2_code 0 = .ok (.iload_n 0, 1) := by decide +kernel
theorem own_d2_1 : decode method_2_code 1 = .ok (.istore_n 1, 1) := by decide +kernel
theorem own_d2_2 : decode method_2_code 2 = .ok (.iload_n 1, 1) := by decide +kernel
theorem own_d2_3 : decode method_2_code 3 = .ok (.iconst 2, 1) := by decide +kernel
theorem own_d2_4 : decode method_2_code 4 = .ok (.iload_n 0, 1) := by decide +kernel
theorem own_d2_5 : decode method_2_code 5 = .ok (.iload_n 1, 1) := by decide +kernel
theorem own_d2_6 : decode method_2_code 6 = .ok (.imul, 1) := by decide +kernel
theorem own_d2_7 : decode method_2_code 7 = .ok (.isub, 1) := by decide +kernel
theorem own_d2_8 : decode method_2_code 8 = .ok (.imul, 1) := by decide +kernel
theorem own_d2_9 : decode method_2_code 9 = .ok (.istore_n 1, 1) := by decide +kernel
theorem own_d2_10 : decode method_2_code 10 = .ok (.iload_n 1, 1) := by decide +kernel
theorem own_d2_11 : decode method_2_code 11 = .ok (.iconst 2, 1) := by decide +kernel
theorem own_d2_12 : decode method_2_code 12 = .ok (.iload_n 0, 1) := by decide +kernel
theorem own_d2_13 : decode method_2_code 13 = .ok (.iload_n 1, 1) := by decide +kernel
theorem own_d2_14 : decode method_2_code 14 = .ok (.imul, 1) := by decide +kernel
theorem own_d2_15 : decode method_2_code 15 = .ok (.isub, 1) := by decide +kernel
theorem own_d2_16 : decode method_2_code 16 = .ok (.imul, 1) := by decide +kernel
theorem own_d2_17 : decode method_2_code 17 = .ok (.istore_n 1, 1) := by decide +kernel
theorem own_d2_18 : decode method_2_code 18 = .ok (.iload_n 1, 1) := by decide +kernel
theorem own_d2_19 : decode method_2_code 19 = .ok (.iconst 2, 1) := by decide +kernel
theorem own_d2_20 : decode method_2_code 20 = .ok (.iload_n 0, 1) := by decide +kernel
theorem own_d2_21 : decode method_2_code 21 = .ok (.iload_n 1, 1) := by decide +kernel
theorem own_d2_22 : decode method_2_code 22 = .ok (.imul, 1) := by decide +kernel
theorem own_d2_23 : decode method_2_code 23 = .ok (.isub, 1) := by decide +kernel
theorem own_d2_24 : decode method_2_code 24 = .ok (.imul, 1) := by decide +kernel
theorem own_d2_25 : decode method_2_code 25 = .ok (.istore_n 1, 1) := by decide +kernel
theorem own_d2_26 : decode method_2_code 26 = .ok (.iload_n 1, 1) := by decide +kernel
theorem own_d2_27 : decode method_2_code 27 = .ok (.iconst 2, 1) := by decide +kernel
theorem own_d2_28 : decode method_2_code 28 = .ok (.iload_n 0, 1) := by decide +kernel
theorem own_d2_29 : decode method_2_code 29 = .ok (.iload_n 1, 1) := by decide +kernel
theorem own_d2_30 : decode method_2_code 30 = .ok (.imul, 1) := by decide +kernel
theorem own_d2_31 : decode method_2_code 31 = .ok (.isub, 1) := by decide +kernel
theorem own_d2_32 : decode method_2_code 32 = .ok (.imul, 1) := by decide +kernel
theorem own_d2_33 : decode method_2_code 33 = .ok (.istore_n 1, 1) := by decide +kernel
theorem own_d2_34 : decode method_2_code 34 = .ok (.iload_n 1, 1) := by decide +kernel
theorem own_d2_35 : decode method_2_code 35 = .ok (.iconst 2, 1) := by decide +kernel
theorem own_d2_36 : decode method_2_code 36 = .ok (.iload_n 0, 1) := by decide +kernel
theorem own_d2_37 : decode method_2_code 37 = .ok (.iload_n 1, 1) := by decide +kernel
theorem own_d2_38 : decode method_2_code 38 = .ok (.imul, 1) := by decide +kernel
theorem own_d2_39 : decode method_2_code 39 = .ok (.isub, 1) := by decide +kernel
theorem own_d2_40 : decode method_2_code 40 = .ok (.imul, 1) := by decide +kernel
theorem own_d2_41 : decode method_2_code 41 = .ok (.istore_n 1, 1) := by decide +kernel
theorem own_d2_42 : decode method_2_code 42 = .ok (.iload_n 1, 1) := by decide +kernel
theorem own_d2_43 : decode method_2_code 43 = .ok (.ireturn, 1) := by decide +kernel
theorem own_pn1 : plainName "com/example/derivant/derivant/core/PersistentMapSpreadPinLaw" = true := by first | (simp [plainName, overriddenIn]; done) | decide +kernel
theorem own_ef2 (m : MethodId) (p0 : Int32) : entryFrame m #[(.int p0)] 2 = mkF m 0 #[.val (.int p0), .unset] [] := by first | (simp [entryFrame, mkF, argsToLocals, Value.category]; done) | rfl
def own_Q2 (Z : State) (p0 : Int32)  (h0 : Heap) (n0 : Nat) (v : Option Value) (h : Heap) (L : List Loc) : Prop := v = some (.int (own_inv p0)) ∧ Fr n0 L ∧ h = h0
set_option maxRecDepth 65536 in
set_option maxHeartbeats 40000000 in
theorem own_rm2 (l : Launch) (Z : State) (a0 : Array Value) (hw : ∀ d ∈ tables_1, d.before a0 Z = true) (ws : List Jvm.Cond) (p0 : Int32)  (h0 : Heap) (n0 : Nat) (Z0 : n0 ≤ h0.size)  :
    MetFree l (⟨"com/example/derivant/derivant/core/PersistentMapSpreadPinLaw", "inverseOf", "(I)I"⟩ : MethodName) (head1 (Jvm.Cond.code (⟨"com/example/derivant/derivant/core/PersistentMapSpreadPinLaw", "inverseOf", "(I)I"⟩ : MethodName) method_2_code 2 (some .int) :: ws) ({ frames := 0, cells := 0, slots := 0, locals := 0 } : Room)) (fun a U => a = #[(.int p0)] ∧ Z.Warmed39 U.vm ∧ U.heap = h0) (fun _ _ _ _ _ => True) (fun _ U o U' => ∃ v L, o = .returned v ∧ own_Q2 Z p0  h0 n0 v U'.heap L ∧ FrameEnd U o U' L ({ frames := 0, cells := 0, slots := 0, locals := 0 } : Room).cells ({ frames := 0, cells := 0, slots := 0, locals := 0 } : Room).slots) := by
  refine MetFree.of_bodySF (plainFor_of_name own_pn1) hisR ?_
  intro p e s m args below meth c s₁ Bd hml0 hP hK
  obtain ⟨rfl, hZ, hh⟩ := hP
  have hx := Bd.exec
  have hby := Bd.bytes
  have hml : c.maxLocals = 2 := hml0
  have hown : s.vm.findClass "com/example/derivant/derivant/core/PersistentMapSpreadPinLaw" = some m.cls := findClass_of_methodNamed Bd.named
  have hnm := (name_of_methodNamed Bd.named Bd.method).1
  have X0 : Stand p l e ({ frames := 0, cells := 0, slots := 0, locals := 0 } : Room) s m #[(.int p0)] below meth c s₁ [] 0 0 := Stand.of_body Bd
  have e0 : s₁.heap = h0 := by rw [← hh, Bd.state]; rfl
  have N0 := Fr.nil n0
  suffices H : own_Ends p e below s ({ frames := 0, cells := 0, slots := 0, locals := 0 } : Room).cells ({ frames := 0, cells := 0, slots := 0, locals := 0 } : Room).slots (own_Q2 Z p0  h0 n0) (s₁.setTop (mkF m 0 #[.val (.int p0), .unset] [])) by
    obtain ⟨s₂, o, h1, h2⟩ := H
    exact ⟨s₂, o, castTop (own_ef2 m p0) h1, h2⟩
  show own_Ends _ _ _ _ _ _ _ (s₁.setTop (mkF m 0 #[.val (.int p0), .unset] []))
  refine own_step (fun _ k => XS.iloadN X0.here hx rfl (hb hby own_d2_0) rfl k) ?_
  show own_Ends _ _ _ _ _ _ _ (s₁.setTop (mkF m 1 #[.val (.int p0), .unset] [(.int p0)]))
  refine own_step (fun _ k => XS.istoreN X0.here hx rfl (hb hby own_d2_1) rfl (l' := #[.val (.int p0), .val (.int p0)]) rfl k) ?_
  show own_Ends _ _ _ _ _ _ _ (s₁.setTop (mkF m 2 #[.val (.int p0), .val (.int p0)] []))
  refine own_step (fun _ k => XS.iloadN X0.here hx rfl (hb hby own_d2_2) rfl k) ?_
  show own_Ends _ _ _ _ _ _ _ (s₁.setTop (mkF m 3 #[.val (.int p0), .val (.int p0)] [(.int p0)]))
  refine own_step (fun _ k => XS.iconst X0.here hx rfl (hb hby own_d2_3) k) ?_
  show own_Ends _ _ _ _ _ _ _ (s₁.setTop (mkF m 4 #[.val (.int p0), .val (.int p0)] [(.int (2 : Int32)), (.int p0)]))
  refine own_step (fun _ k => XS.iloadN X0.here hx rfl (hb hby own_d2_4) rfl k) ?_
  show own_Ends _ _ _ _ _ _ _ (s₁.setTop (mkF m 5 #[.val (.int p0), .val (.int p0)] [(.int p0), (.int (2 : Int32)), (.int p0)]))
  refine own_step (fun _ k => XS.iloadN X0.here hx rfl (hb hby own_d2_5) rfl k) ?_
  show own_Ends _ _ _ _ _ _ _ (s₁.setTop (mkF m 6 #[.val (.int p0), .val (.int p0)] [(.int p0), (.int p0), (.int (2 : Int32)), (.int p0)]))
  refine own_step (fun _ k => XS.imul X0.here hx rfl (hb hby own_d2_6) rfl k) ?_
  show own_Ends _ _ _ _ _ _ _ (s₁.setTop (mkF m 7 #[.val (.int p0), .val (.int p0)] [(.int (p0 * p0)), (.int (2 : Int32)), (.int p0)]))
  refine own_step (fun _ k => XS.isub X0.here hx rfl (hb hby own_d2_7) rfl k) ?_
  show own_Ends _ _ _ _ _ _ _ (s₁.setTop (mkF m 8 #[.val (.int p0), .val (.int p0)] [(.int ((2 : Int32) - (p0 * p0))), (.int p0)]))
  refine own_step (fun _ k => XS.imul X0.here hx rfl (hb hby own_d2_8) rfl k) ?_
  show own_Ends _ _ _ _ _ _ _ (s₁.setTop (mkF m 9 #[.val (.int p0), .val (.int p0)] [(.int (p0 * ((2 : Int32) - (p0 * p0))))]))
  show own_Ends _ _ _ _ _ _ _ (s₁.setTop (mkF m 9 #[.val (.int p0), .val (.int p0)] [(.int (own_nw p0 p0))]))
  refine own_step (fun _ k => XS.istoreN X0.here hx rfl (hb hby own_d2_9) rfl (l' := #[.val (.int p0), .val (.int (own_nw p0 p0))]) rfl k) ?_
  show own_Ends _ _ _ _ _ _ _ (s₁.setTop (mkF m 10 #[.val (.int p0), .val (.int (own_nw p0 p0))] []))
  refine own_step (fun _ k => XS.iloadN X0.here hx rfl (hb hby own_d2_10) rfl k) ?_
  show own_Ends _ _ _ _ _ _ _ (s₁.setTop (mkF m 11 #[.val (.int p0), .val (.int (own_nw p0 p0))] [(.int (own_nw p0 p0))]))
  refine own_step (fun _ k => XS.iconst X0.here hx rfl (hb hby own_d2_11) k) ?_
  show own_Ends _ _ _ _ _ _ _ (s₁.setTop (mkF m 12 #[.val (.int p0), .val (.int (own_nw p0 p0))] [(.int (2 : Int32)), (.int (own_nw p0 p0))]))
  refine own_step (fun _ k => XS.iloadN X0.here hx rfl (hb hby own_d2_12) rfl k) ?_
  show own_Ends _ _ _ _ _ _ _ (s₁.setTop (mkF m 13 #[.val (.int p0), .val (.int (own_nw p0 p0))] [(.int p0), (.int (2 : Int32)), (.int (own_nw p0 p0))]))
  refine own_step (fun _ k => XS.iloadN X0.here hx rfl (hb hby own_d2_13) rfl k) ?_
  show own_Ends _ _ _ _ _ _ _ (s₁.setTop (mkF m 14 #[.val (.int p0), .val (.int (own_nw p0 p0))] [(.int (own_nw p0 p0)), (.int p0), (.int (2 : Int32)), (.int (own_nw p0 p0))]))
  refine own_step (fun _ k => XS.imul X0.here hx rfl (hb hby own_d2_14) rfl k) ?_
  show own_Ends _ _ _ _ _ _ _ (s₁.setTop (mkF m 15 #[.val (.int p0), .val (.int (own_nw p0 p0))] [(.int (p0 * (own_nw p0 p0))), (.int (2 : Int32)), (.int (own_nw p0 p0))]))
  refine own_step (fun _ k => XS.isub X0.here hx rfl (hb hby own_d2_15) rfl k) ?_
  show own_Ends _ _ _ _ _ _ _ (s₁.setTop (mkF m 16 #[.val (.int p0), .val (.int (own_nw p0 p0))] [(.int ((2 : Int32) - (p0 * (own_nw p0 p0)))), (.int (own_nw p0 p0))]))
  refine own_step (fun _ k => XS.imul X0.here hx rfl (hb hby own_d2_16) rfl k) ?_
  show own_Ends _ _ _ _ _ _ _ (s₁.setTop (mkF m 17 #[.val (.int p0), .val (.int (own_nw p0 p0))] [(.int ((own_nw p0 p0) * ((2 : Int32) - (p0 * (own_nw p0 p0)))))]))
  show own_Ends _ _ _ _ _ _ _ (s₁.setTop (mkF m 17 #[.val (.int p0), .val (.int (own_nw p0 p0))] [(.int (own_nw p0 (own_nw p0 p0)))]))
  refine own_step (fun _ k => XS.istoreN X0.here hx rfl (hb hby own_d2_17) rfl (l' := #[.val (.int p0), .val (.int (own_nw p0 (own_nw p0 p0)))]) rfl k) ?_
  show own_Ends _ _ _ _ _ _ _ (s₁.setTop (mkF m 18 #[.val (.int p0), .val (.int (own_nw p0 (own_nw p0 p0)))] []))
  refine own_step (fun _ k => XS.iloadN X0.here hx rfl (hb hby own_d2_18) rfl k) ?_
  show own_Ends _ _ _ _ _ _ _ (s₁.setTop (mkF m 19 #[.val (.int p0), .val (.int (own_nw p0 (own_nw p0 p0)))] [(.int (own_nw p0 (own_nw p0 p0)))]))
  refine own_step (fun _ k => XS.iconst X0.here hx rfl (hb hby own_d2_19) k) ?_
  show own_Ends _ _ _ _ _ _ _ (s₁.setTop (mkF m 20 #[.val (.int p0), .val (.int (own_nw p0 (own_nw p0 p0)))] [(.int (2 : Int32)), (.int (own_nw p0 (own_nw p0 p0)))]))
  refine own_step (fun _ k => XS.iloadN X0.here hx rfl (hb hby own_d2_20) rfl k) ?_
  show own_Ends _ _ _ _ _ _ _ (s₁.setTop (mkF m 21 #[.val (.int p0), .val (.int (own_nw p0 (own_nw p0 p0)))] [(.int p0), (.int (2 : Int32)), (.int (own_nw p0 (own_nw p0 p0)))]))
  refine own_step (fun _ k => XS.iloadN X0.here hx rfl (hb hby own_d2_21) rfl k) ?_
  show own_Ends _ _ _ _ _ _ _ (s₁.setTop (mkF m 22 #[.val (.int p0), .val (.int (own_nw p0 (own_nw p0 p0)))] [(.int (own_nw p0 (own_nw p0 p0))), (.int p0), (.int (2 : Int32)), (.int (own_nw p0 (own_nw p0 p0)))]))
  refine own_step (fun _ k => XS.imul X0.here hx rfl (hb hby own_d2_22) rfl k) ?_
  show own_Ends _ _ _ _ _ _ _ (s₁.setTop (mkF m 23 #[.val (.int p0), .val (.int (own_nw p0 (own_nw p0 p0)))] [(.int (p0 * (own_nw p0 (own_nw p0 p0)))), (.int (2 : Int32)), (.int (own_nw p0 (own_nw p0 p0)))]))
  refine own_step (fun _ k => XS.isub X0.here hx rfl (hb hby own_d2_23) rfl k) ?_
  show own_Ends _ _ _ _ _ _ _ (s₁.setTop (mkF m 24 #[.val (.int p0), .val (.int (own_nw p0 (own_nw p0 p0)))] [(.int ((2 : Int32) - (p0 * (own_nw p0 (own_nw p0 p0))))), (.int (own_nw p0 (own_nw p0 p0)))]))
  refine own_step (fun _ k => XS.imul X0.here hx rfl (hb hby own_d2_24) rfl k) ?_
  show own_Ends _ _ _ _ _ _ _ (s₁.setTop (mkF m 25 #[.val (.int p0), .val (.int (own_nw p0 (own_nw p0 p0)))] [(.int ((own_nw p0 (own_nw p0 p0)) * ((2 : Int32) - (p0 * (own_nw p0 (own_nw p0 p0))))))]))
  show own_Ends _ _ _ _ _ _ _ (s₁.setTop (mkF m 25 #[.val (.int p0), .val (.int (own_nw p0 (own_nw p0 p0)))] [(.int (own_nw p0 (own_nw p0 (own_nw p0 p0))))]))
  refine own_step (fun _ k => XS.istoreN X0.here hx rfl (hb hby own_d2_25) rfl (l' := #[.val (.int p0), .val (.int (own_nw p0 (own_nw p0 (own_nw p0 p0))))]) rfl k) ?_
  show own_Ends _ _ _ _ _ _ _ (s₁.setTop (mkF m 26 #[.val (.int p0), .val (.int (own_nw p0 (own_nw p0 (own_nw p0 p0))))] []))
  refine own_step (fun _ k => XS.iloadN X0.here hx rfl (hb hby own_d2_26) rfl k) ?_
  show own_Ends _ _ _ _ _ _ _ (s₁.setTop (mkF m 27 #[.val (.int p0), .val (.int (own_nw p0 (own_nw p0 (own_nw p0 p0))))] [(.int (own_nw p0 (own_nw p0 (own_nw p0 p0))))]))
  refine own_step (fun _ k => XS.iconst X0.here hx rfl (hb hby own_d2_27) k) ?_
  show own_Ends _ _ _ _ _ _ _ (s₁.setTop (mkF m 28 #[.val (.int p0), .val (.int (own_nw p0 (own_nw p0 (own_nw p0 p0))))] [(.int (2 : Int32)), (.int (own_nw p0 (own_nw p0 (own_nw p0 p0))))]))
  refine own_step (fun _ k => XS.iloadN X0.here hx rfl (hb hby own_d2_28) rfl k) ?_
  show own_Ends _ _ _ _ _ _ _ (s₁.setTop (mkF m 29 #[.val (.int p0), .val (.int (own_nw p0 (own_nw p0 (own_nw p0 p0))))] [(.int p0), (.int (2 : Int32)), (.int (own_nw p0 (own_nw p0 (own_nw p0 p0))))]))
  refine own_step (fun _ k => XS.iloadN X0.here hx rfl (hb hby own_d2_29) rfl k) ?_
  show own_Ends _ _ _ _ _ _ _ (s₁.setTop (mkF m 30 #[.val (.int p0), .val (.int (own_nw p0 (own_nw p0 (own_nw p0 p0))))] [(.int (own_nw p0 (own_nw p0 (own_nw p0 p0)))), (.int p0), (.int (2 : Int32)), (.int (own_nw p0 (own_nw p0 (own_nw p0 p0))))]))
  refine own_step (fun _ k => XS.imul X0.here hx rfl (hb hby own_d2_30) rfl k) ?_
  show own_Ends _ _ _ _ _ _ _ (s₁.setTop (mkF m 31 #[.val (.int p0), .val (.int (own_nw p0 (own_nw p0 (own_nw p0 p0))))] [(.int (p0 * (own_nw p0 (own_nw p0 (own_nw p0 p0))))), (.int (2 : Int32)), (.int (own_nw p0 (own_nw p0 (own_nw p0 p0))))]))
  refine own_step (fun _ k => XS.isub X0.here hx rfl (hb hby own_d2_31) rfl k) ?_
  show own_Ends _ _ _ _ _ _ _ (s₁.setTop (mkF m 32 #[.val (.int p0), .val (.int (own_nw p0 (own_nw p0 (own_nw p0 p0))))] [(.int ((2 : Int32) - (p0 * (own_nw p0 (own_nw p0 (own_nw p0 p0)))))), (.int (own_nw p0 (own_nw p0 (own_nw p0 p0))))]))
  refine own_step (fun _ k => XS.imul X0.here hx rfl (hb hby own_d2_32) rfl k) ?_
  show own_Ends _ _ _ _ _ _ _ (s₁.setTop (mkF m 33 #[.val (.int p0), .val (.int (own_nw p0 (own_nw p0 (own_nw p0 p0))))] [(.int ((own_nw p0 (own_nw p0 (own_nw p0 p0))) * ((2 : Int32) - (p0 * (own_nw p0 (own_nw p0 (own_nw p0 p0)))))))]))
  show own_Ends _ _ _ _ _ _ _ (s₁.setTop (mkF m 33 #[.val (.int p0), .val (.int (own_nw p0 (own_nw p0 (own_nw p0 p0))))] [(.int (own_nw p0 (own_nw p0 (own_nw p0 (own_nw p0 p0)))))]))
  refine own_step (fun _ k => XS.istoreN X0.here hx rfl (hb hby own_d2_33) rfl (l' := #[.val (.int p0), .val (.int (own_nw p0 (own_nw p0 (own_nw p0 (own_nw p0 p0)))))]) rfl k) ?_
  show own_Ends _ _ _ _ _ _ _ (s₁.setTop (mkF m 34 #[.val (.int p0), .val (.int (own_nw p0 (own_nw p0 (own_nw p0 (own_nw p0 p0)))))] []))
  refine own_step (fun _ k => XS.iloadN X0.here hx rfl (hb hby own_d2_34) rfl k) ?_
  show own_Ends _ _ _ _ _ _ _ (s₁.setTop (mkF m 35 #[.val (.int p0), .val (.int (own_nw p0 (own_nw p0 (own_nw p0 (own_nw p0 p0)))))] [(.int (own_nw p0 (own_nw p0 (own_nw p0 (own_nw p0 p0)))))]))
  refine own_step (fun _ k => XS.iconst X0.here hx rfl (hb hby own_d2_35) k) ?_
  show own_Ends _ _ _ _ _ _ _ (s₁.setTop (mkF m 36 #[.val (.int p0), .val (.int (own_nw p0 (own_nw p0 (own_nw p0 (own_nw p0 p0)))))] [(.int (2 : Int32)), (.int (own_nw p0 (own_nw p0 (own_nw p0 (own_nw p0 p0)))))]))
  refine own_step (fun _ k => XS.iloadN X0.here hx rfl (hb hby own_d2_36) rfl k) ?_
  show own_Ends _ _ _ _ _ _ _ (s₁.setTop (mkF m 37 #[.val (.int p0), .val (.int (own_nw p0 (own_nw p0 (own_nw p0 (own_nw p0 p0)))))] [(.int p0), (.int (2 : Int32)), (.int (own_nw p0 (own_nw p0 (own_nw p0 (own_nw p0 p0)))))]))
  refine own_step (fun _ k => XS.iloadN X0.here hx rfl (hb hby own_d2_37) rfl k) ?_
  show own_Ends _ _ _ _ _ _ _ (s₁.setTop (mkF m 38 #[.val (.int p0), .val (.int (own_nw p0 (own_nw p0 (own_nw p0 (own_nw p0 p0)))))] [(.int (own_nw p0 (own_nw p0 (own_nw p0 (own_nw p0 p0))))), (.int p0), (.int (2 : Int32)), (.int (own_nw p0 (own_nw p0 (own_nw p0 (own_nw p0 p0)))))]))
  refine own_step (fun _ k => XS.imul X0.here hx rfl (hb hby own_d2_38) rfl k) ?_
  show own_Ends _ _ _ _ _ _ _ (s₁.setTop (mkF m 39 #[.val (.int p0), .val (.int (own_nw p0 (own_nw p0 (own_nw p0 (own_nw p0 p0)))))] [(.int (p0 * (own_nw p0 (own_nw p0 (own_nw p0 (own_nw p0 p0)))))), (.int (2 : Int32)), (.int (own_nw p0 (own_nw p0 (own_nw p0 (own_nw p0 p0)))))]))
  refine own_step (fun _ k => XS.isub X0.here hx rfl (hb hby own_d2_39) rfl k) ?_
  show own_Ends _ _ _ _ _ _ _ (s₁.setTop (mkF m 40 #[.val (.int p0), .val (.int (own_nw p0 (own_nw p0 (own_nw p0 (own_nw p0 p0)))))] [(.int ((2 : Int32) - (p0 * (own_nw p0 (own_nw p0 (own_nw p0 (own_nw p0 p0))))))), (.int (own_nw p0 (own_nw p0 (own_nw p0 (own_nw p0 p0)))))]))
  refine own_step (fun _ k => XS.imul X0.here hx rfl (hb hby own_d2_40) rfl k) ?_
  show own_Ends _ _ _ _ _ _ _ (s₁.setTop (mkF m 41 #[.val (.int p0), .val (.int (own_nw p0 (own_nw p0 (own_nw p0 (own_nw p0 p0)))))] [(.int ((own_nw p0 (own_nw p0 (own_nw p0 (own_nw p0 p0)))) * ((2 : Int32) - (p0 * (own_nw p0 (own_nw p0 (own_nw p0 (own_nw p0 p0))))))))]))
  show own_Ends _ _ _ _ _ _ _ (s₁.setTop (mkF m 41 #[.val (.int p0), .val (.int (own_nw p0 (own_nw p0 (own_nw p0 (own_nw p0 p0)))))] [(.int (own_nw p0 (own_nw p0 (own_nw p0 (own_nw p0 (own_nw p0 p0))))))]))
  refine own_step (fun _ k => XS.istoreN X0.here hx rfl (hb hby own_d2_41) rfl (l' := #[.val (.int p0), .val (.int (own_nw p0 (own_nw p0 (own_nw p0 (own_nw p0 (own_nw p0 p0))))))]) rfl k) ?_
  show own_Ends _ _ _ _ _ _ _ (s₁.setTop (mkF m 42 #[.val (.int p0), .val (.int (own_nw p0 (own_nw p0 (own_nw p0 (own_nw p0 (own_nw p0 p0))))))] []))
  refine own_step (fun _ k => XS.iloadN X0.here hx rfl (hb hby own_d2_42) rfl k) ?_
  show own_Ends _ _ _ _ _ _ _ (s₁.setTop (mkF m 43 #[.val (.int p0), .val (.int (own_nw p0 (own_nw p0 (own_nw p0 (own_nw p0 (own_nw p0 p0))))))] [(.int (own_nw p0 (own_nw p0 (own_nw p0 (own_nw p0 (own_nw p0 p0))))))]))
  show own_Ends _ _ _ _ _ _ _ (s₁.setTop (mkF m 43 #[.val (.int p0), .val (.int (own_nw p0 (own_nw p0 (own_nw p0 (own_nw p0 (own_nw p0 p0))))))] [(.int (own_inv p0))]))
  refine own_ret X0 (BodyLoose.notSynchronized Bd) (v := (some (.int (own_inv p0)))) (fun h => by rw [Bd.returns] at h; cases h) ?_ (by decide) (by decide) (fun fs hr => X0.ireturnOut hx Bd.returns rfl (by simp) (hb hby own_d2_43) hr)
  show own_Q2 Z p0  h0 n0 (some (.int (own_inv p0))) s₁.heap _
  rw [e0]
  exact ⟨rfl, N0, rfl⟩
theorem own_d3_0 : decode method_3_code 0 = .ok (.iload_n 0, 1) := by decide +kernel
theorem own_d3_1 : decode method_3_code 1 = .ok (.istore_n 1, 1) := by decide +kernel
theorem own_d3_2 : decode method_3_code 2 = .ok (.iload_n 1, 1) := by decide +kernel
theorem own_d3_3 : decode method_3_code 3 = .ok (.iload_n 1, 1) := by decide +kernel
theorem own_d3_4 : decode method_3_code 4 = .ok (.bipush 13, 2) := by decide +kernel
theorem own_d3_6 : decode method_3_code 6 = .ok (.iushr, 1) := by decide +kernel
theorem own_d3_7 : decode method_3_code 7 = .ok (.ixor, 1) := by decide +kernel
theorem own_d3_8 : decode method_3_code 8 = .ok (.iload_n 1, 1) := by decide +kernel
theorem own_d3_9 : decode method_3_code 9 = .ok (.bipush 26, 2) := by decide +kernel
theorem own_d3_11 : decode method_3_code 11 = .ok (.iushr, 1) := by decide +kernel
theorem own_d3_12 : decode method_3_code 12 = .ok (.ixor, 1) := by decide +kernel
theorem own_d3_13 : decode method_3_code 13 = .ok (.istore_n 1, 1) := by decide +kernel
theorem own_d3_14 : decode method_3_code 14 = .ok (.iload_n 1, 1) := by decide +kernel
theorem own_d3_15 : decode method_3_code 15 = .ok (.ldc 7, 2) := by decide +kernel
theorem own_d3_17 : decode method_3_code 17 = .ok (.invokestatic 8, 3) := by decide +kernel
theorem own_d3_20 : decode method_3_code 20 = .ok (.imul, 1) := by decide +kernel
theorem own_d3_21 : decode method_3_code 21 = .ok (.istore_n 1, 1) := by decide +kernel
theorem own_d3_22 : decode method_3_code 22 = .ok (.iload_n 1, 1) := by decide +kernel
theorem own_d3_23 : decode method_3_code 23 = .ok (.iload_n 1, 1) := by decide +kernel
theorem own_d3_24 : decode method_3_code 24 = .ok (.bipush 16, 2) := by decide +kernel
theorem own_d3_26 : decode method_3_code 26 = .ok (.iushr, 1) := by decide +kernel
theorem own_d3_27 : decode method_3_code 27 = .ok (.ixor, 1) := by decide +kernel
theorem own_d3_28 : decode method_3_code 28 = .ok (.istore_n 1, 1) := by decide +kernel
theorem own_d3_29 : decode method_3_code 29 = .ok (.iload_n 1, 1) := by decide +kernel
theorem own_d3_30 : decode method_3_code 30 = .ok (.ireturn, 1) := by decide +kernel
theorem own_ef3 (m : MethodId) (p0 : Int32) : entryFrame m #[(.int p0)] 2 = mkF m 0 #[.val (.int p0), .unset] [] := by first | (simp [entryFrame, mkF, argsToLocals, Value.category]; done) | rfl
theorem own_pd0 : parseMethodDescriptor "(I)I" = some ⟨[.int], some .int⟩ := by decide +kernel
def own_Q3 (Z : State) (p0 : Int32)  (h0 : Heap) (n0 : Nat) (v : Option Value) (h : Heap) (L : List Loc) : Prop := v = some (.int (own_unspread p0)) ∧ Fr n0 L ∧ h = h0
set_option maxRecDepth 65536 in
set_option maxHeartbeats 40000000 in
theorem own_rm3 (l : Launch) (Z : State) (a0 : Array Value) (hw : ∀ d ∈ tables_1, d.before a0 Z = true) (ws : List Jvm.Cond) (p0 : Int32)  (h0 : Heap) (n0 : Nat) (Z0 : n0 ≤ h0.size)  :
    MetFree l (⟨"com/example/derivant/derivant/core/PersistentMapSpreadPinLaw", "unspread", "(I)I"⟩ : MethodName) (head1 (Jvm.Cond.code (⟨"com/example/derivant/derivant/core/PersistentMapSpreadPinLaw", "unspread", "(I)I"⟩ : MethodName) method_3_code 2 (some .int) :: ws) ({ frames := 1, cells := 0, slots := 0, locals := 14 } : Room)) (fun a U => a = #[(.int p0)] ∧ Z.Warmed39 U.vm ∧ U.heap = h0) (fun _ _ _ _ _ => True) (fun _ U o U' => ∃ v L, o = .returned v ∧ own_Q3 Z p0  h0 n0 v U'.heap L ∧ FrameEnd U o U' L ({ frames := 1, cells := 0, slots := 0, locals := 14 } : Room).cells ({ frames := 1, cells := 0, slots := 0, locals := 14 } : Room).slots) := by
  refine MetFree.of_bodySF (plainFor_of_name own_pn1) hisR ?_
  intro p e s m args below meth c s₁ Bd hml0 hP hK
  obtain ⟨rfl, hZ, hh⟩ := hP
  have hx := Bd.exec
  have hby := Bd.bytes
  have hml : c.maxLocals = 2 := hml0
  have hown : s.vm.findClass "com/example/derivant/derivant/core/PersistentMapSpreadPinLaw" = some m.cls := findClass_of_methodNamed Bd.named
  have hnm := (name_of_methodNamed Bd.named Bd.method).1
  have X0 : Stand p l e ({ frames := 1, cells := 0, slots := 0, locals := 14 } : Room) s m #[(.int p0)] below meth c s₁ [] 0 0 := Stand.of_body Bd
  have e0 : s₁.heap = h0 := by rw [← hh, Bd.state]; rfl
  have N0 := Fr.nil n0
  suffices H : own_Ends p e below s ({ frames := 1, cells := 0, slots := 0, locals := 14 } : Room).cells ({ frames := 1, cells := 0, slots := 0, locals := 14 } : Room).slots (own_Q3 Z p0  h0 n0) (s₁.setTop (mkF m 0 #[.val (.int p0), .unset] [])) by
    obtain ⟨s₂, o, h1, h2⟩ := H
    exact ⟨s₂, o, castTop (own_ef3 m p0) h1, h2⟩
  show own_Ends _ _ _ _ _ _ _ (s₁.setTop (mkF m 0 #[.val (.int p0), .unset] []))
  refine own_step (fun _ k => XS.iloadN X0.here hx rfl (hb hby own_d3_0) rfl k) ?_
  show own_Ends _ _ _ _ _ _ _ (s₁.setTop (mkF m 1 #[.val (.int p0), .unset] [(.int p0)]))
  refine own_step (fun _ k => XS.istoreN X0.here hx rfl (hb hby own_d3_1) rfl (l' := #[.val (.int p0), .val (.int p0)]) rfl k) ?_
  show own_Ends _ _ _ _ _ _ _ (s₁.setTop (mkF m 2 #[.val (.int p0), .val (.int p0)] []))
  refine own_step (fun _ k => XS.iloadN X0.here hx rfl (hb hby own_d3_2) rfl k) ?_
  show own_Ends _ _ _ _ _ _ _ (s₁.setTop (mkF m 3 #[.val (.int p0), .val (.int p0)] [(.int p0)]))
  refine own_step (fun _ k => XS.iloadN X0.here hx rfl (hb hby own_d3_3) rfl k) ?_
  show own_Ends _ _ _ _ _ _ _ (s₁.setTop (mkF m 4 #[.val (.int p0), .val (.int p0)] [(.int p0), (.int p0)]))
  refine own_step (fun _ k => XS.bipush X0.here hx rfl (hb hby own_d3_4) k) ?_
  show own_Ends _ _ _ _ _ _ _ (s₁.setTop (mkF m 6 #[.val (.int p0), .val (.int p0)] [(.int (13 : Int32)), (.int p0), (.int p0)]))
  refine own_step (fun _ k => XT.iushr X0.here hx rfl (hb hby own_d3_6) rfl k) ?_
  show own_Ends _ _ _ _ _ _ _ (s₁.setTop (mkF m 7 #[.val (.int p0), .val (.int p0)] [(.int (XT.ushr p0 (13 : Int32))), (.int p0)]))
  refine own_step (fun _ k => XS.ixor X0.here hx rfl (hb hby own_d3_7) rfl k) ?_
  show own_Ends _ _ _ _ _ _ _ (s₁.setTop (mkF m 8 #[.val (.int p0), .val (.int p0)] [(.int (p0 ^^^ (XT.ushr p0 (13 : Int32))))]))
  refine own_step (fun _ k => XS.iloadN X0.here hx rfl (hb hby own_d3_8) rfl k) ?_
  show own_Ends _ _ _ _ _ _ _ (s₁.setTop (mkF m 9 #[.val (.int p0), .val (.int p0)] [(.int p0), (.int (p0 ^^^ (XT.ushr p0 (13 : Int32))))]))
  refine own_step (fun _ k => XS.bipush X0.here hx rfl (hb hby own_d3_9) k) ?_
  show own_Ends _ _ _ _ _ _ _ (s₁.setTop (mkF m 11 #[.val (.int p0), .val (.int p0)] [(.int (26 : Int32)), (.int p0), (.int (p0 ^^^ (XT.ushr p0 (13 : Int32))))]))
  refine own_step (fun _ k => XT.iushr X0.here hx rfl (hb hby own_d3_11) rfl k) ?_
  show own_Ends _ _ _ _ _ _ _ (s₁.setTop (mkF m 12 #[.val (.int p0), .val (.int p0)] [(.int (XT.ushr p0 (26 : Int32))), (.int (p0 ^^^ (XT.ushr p0 (13 : Int32))))]))
  refine own_step (fun _ k => XS.ixor X0.here hx rfl (hb hby own_d3_12) rfl k) ?_
  show own_Ends _ _ _ _ _ _ _ (s₁.setTop (mkF m 13 #[.val (.int p0), .val (.int p0)] [(.int ((p0 ^^^ (XT.ushr p0 (13 : Int32))) ^^^ (XT.ushr p0 (26 : Int32))))]))
  show own_Ends _ _ _ _ _ _ _ (s₁.setTop (mkF m 13 #[.val (.int p0), .val (.int p0)] [(.int (own_x3 p0 13 26))]))
  refine own_step (fun _ k => XS.istoreN X0.here hx rfl (hb hby own_d3_13) rfl (l' := #[.val (.int p0), .val (.int (own_x3 p0 13 26))]) rfl k) ?_
  show own_Ends _ _ _ _ _ _ _ (s₁.setTop (mkF m 14 #[.val (.int p0), .val (.int (own_x3 p0 13 26))] []))
  refine own_step (fun _ k => XS.iloadN X0.here hx rfl (hb hby own_d3_14) rfl k) ?_
  show own_Ends _ _ _ _ _ _ _ (s₁.setTop (mkF m 15 #[.val (.int p0), .val (.int (own_x3 p0 13 26))] [(.int (own_x3 p0 13 26))]))
  refine own_step (fun _ k => X0.ldcInt hx hown (mvT hZ (hw _ (List.mem_of_getElem? (i := 9) rfl))) (g := (mkF m 15 #[.val (.int p0), .val (.int (own_x3 p0 13 26))] [(.int (own_x3 p0 13 26))])) rfl (hb hby own_d3_15) _ k) ?_
  show own_Ends _ _ _ _ _ _ _ (s₁.setTop (mkF m 17 #[.val (.int p0), .val (.int (own_x3 p0 13 26))] [(.int (-2048144789 : Int32)), (.int (own_x3 p0 13 26))]))
  obtain ⟨_, _, ⟨T1, L1, k1, n1⟩, -, X1, ⟨Lc1, hQ1, l1, y1, z1⟩, st1⟩ := Jvm.LawKit.callS X0 hx (y := (⟨"com/example/derivant/derivant/core/PersistentMapSpreadPinLaw", "inverseOf", "(I)I"⟩ : MethodName)) hown (mvT hZ (hw _ (List.mem_of_getElem? (i := 10) rfl))) (mvT hZ (hw _ (List.mem_of_getElem? (i := 11) rfl))) (mvT hZ (hw _ (List.mem_of_getElem? (i := 7) rfl))) (mvT hZ (hw _ (List.mem_of_getElem? (i := 12) rfl))) (by decide) (backOf (W := 1) (own_rm2 l Z a0 hw [] (-2048144789 : Int32)  h0 n0 Z0 ) hZ (hw _ (List.mem_of_getElem? (i := 12) rfl)) (hw _ (List.mem_of_getElem? (i := 7) rfl)) (by decide) (by decide)) (g := (mkF m 17 #[.val (.int p0), .val (.int (own_x3 p0 13 26))] [(.int (-2048144789 : Int32)), (.int (own_x3 p0 13 26))])) rfl (by rw [hml]; rfl) (argsL := [(.int (-2048144789 : Int32))]) (rest := [(.int (own_x3 p0 13 26))]) (lenOf own_pd0 rfl) rfl (by show 2 * 0 + _ ≤ _; exact Nat.le_of_eq rfl) (hb hby own_d3_17) (fun _ _ => ⟨rfl, e0, (by decide : 0 + 0 ≤ _), (by decide : 0 + 0 ≤ _)⟩)
  dsimp only [Pt.U, Pt.locs, Pt.cells, Pt.slots] at X1 l1 y1 z1 st1 hQ1
  subst l1 y1 z1
  obtain ⟨rfl, Nq1, e1⟩ := hQ1
  have N1 := Fr.app N0 Nq1
  refine own_step (fun _ k => st1 _ k) ?_
  show own_Ends _ _ _ _ _ _ _ (T1.setTop (mkF m 20 #[.val (.int p0), .val (.int (own_x3 p0 13 26))] [(.int (own_inv (-2048144789 : Int32))), (.int (own_x3 p0 13 26))]))
  refine own_step (fun _ k => XS.imul X1.here hx rfl (hb hby own_d3_20) rfl k) ?_
  show own_Ends _ _ _ _ _ _ _ (T1.setTop (mkF m 21 #[.val (.int p0), .val (.int (own_x3 p0 13 26))] [(.int ((own_x3 p0 13 26) * (own_inv (-2048144789 : Int32))))]))
  refine own_step (fun _ k => XS.istoreN X1.here hx rfl (hb hby own_d3_21) rfl (l' := #[.val (.int p0), .val (.int ((own_x3 p0 13 26) * (own_inv (-2048144789 : Int32))))]) rfl k) ?_
  show own_Ends _ _ _ _ _ _ _ (T1.setTop (mkF m 22 #[.val (.int p0), .val (.int ((own_x3 p0 13 26) * (own_inv (-2048144789 : Int32))))] []))
  refine own_step (fun _ k => XS.iloadN X1.here hx rfl (hb hby own_d3_22) rfl k) ?_
  show own_Ends _ _ _ _ _ _ _ (T1.setTop (mkF m 23 #[.val (.int p0), .val (.int ((own_x3 p0 13 26) * (own_inv (-2048144789 : Int32))))] [(.int ((own_x3 p0 13 26) * (own_inv (-2048144789 : Int32))))]))
  refine own_step (fun _ k => XS.iloadN X1.here hx rfl (hb hby own_d3_23) rfl k) ?_
  show own_Ends _ _ _ _ _ _ _ (T1.setTop (mkF m 24 #[.val (.int p0), .val (.int ((own_x3 p0 13 26) * (own_inv (-2048144789 : Int32))))] [(.int ((own_x3 p0 13 26) * (own_inv (-2048144789 : Int32)))), (.int ((own_x3 p0 13 26) * (own_inv (-2048144789 : Int32))))]))
  refine own_step (fun _ k => XS.bipush X1.here hx rfl (hb hby own_d3_24) k) ?_
  show own_Ends _ _ _ _ _ _ _ (T1.setTop (mkF m 26 #[.val (.int p0), .val (.int ((own_x3 p0 13 26) * (own_inv (-2048144789 : Int32))))] [(.int (16 : Int32)), (.int ((own_x3 p0 13 26) * (own_inv (-2048144789 : Int32)))), (.int ((own_x3 p0 13 26) * (own_inv (-2048144789 : Int32))))]))
  refine own_step (fun _ k => XT.iushr X1.here hx rfl (hb hby own_d3_26) rfl k) ?_
  show own_Ends _ _ _ _ _ _ _ (T1.setTop (mkF m 27 #[.val (.int p0), .val (.int ((own_x3 p0 13 26) * (own_inv (-2048144789 : Int32))))] [(.int (XT.ushr ((own_x3 p0 13 26) * (own_inv (-2048144789 : Int32))) (16 : Int32))), (.int ((own_x3 p0 13 26) * (own_inv (-2048144789 : Int32))))]))
  refine own_step (fun _ k => XS.ixor X1.here hx rfl (hb hby own_d3_27) rfl k) ?_
  show own_Ends _ _ _ _ _ _ _ (T1.setTop (mkF m 28 #[.val (.int p0), .val (.int ((own_x3 p0 13 26) * (own_inv (-2048144789 : Int32))))] [(.int (((own_x3 p0 13 26) * (own_inv (-2048144789 : Int32))) ^^^ (XT.ushr ((own_x3 p0 13 26) * (own_inv (-2048144789 : Int32))) (16 : Int32))))]))
  show own_Ends _ _ _ _ _ _ _ (T1.setTop (mkF m 28 #[.val (.int p0), .val (.int ((own_x3 p0 13 26) * (own_inv (-2048144789 : Int32))))] [(.int (own_unspread p0))]))
  refine own_step (fun _ k => XS.istoreN X1.here hx rfl (hb hby own_d3_28) rfl (l' := #[.val (.int p0), .val (.int (own_unspread p0))]) rfl k) ?_
  show own_Ends _ _ _ _ _ _ _ (T1.setTop (mkF m 29 #[.val (.int p0), .val (.int (own_unspread p0))] []))
  refine own_step (fun _ k => XS.iloadN X1.here hx rfl (hb hby own_d3_29) rfl k) ?_
  show own_Ends _ _ _ _ _ _ _ (T1.setTop (mkF m 30 #[.val (.int p0), .val (.int (own_unspread p0))] [(.int (own_unspread p0))]))
  refine own_ret X1 (BodyLoose.notSynchronized Bd) (v := (some (.int (own_unspread p0)))) (fun h => by rw [Bd.returns] at h; cases h) ?_ (by decide) (by decide) (fun fs hr => X1.ireturnOut hx Bd.returns rfl (by simp) (hb hby own_d3_30) hr)
  show own_Q3 Z p0  h0 n0 (some (.int (own_unspread p0))) T1.heap _
  rw [e1]
  exact ⟨rfl, N1, rfl⟩
theorem own_ef0 (m : MethodId) (p0 : Int32) (p1 : Int32) : entryFrame m #[(.int p0), (.int p1)] maxLocals = mkF m 0 #[.val (.int p0), .val (.int p1), .unset, .unset] [] := by first | (simp [entryFrame, mkF, argsToLocals, Value.category, maxLocals]; done) | rfl
def own_Q0 (Z : State) (p0 : Int32) (p1 : Int32)  (h0 : Heap) (n0 : Nat) (v : Option Value) (h : Heap) (L : List Loc) : Prop := v = some (.int 1) ∧ Fr n0 L
set_option maxRecDepth 65536 in
set_option maxHeartbeats 40000000 in
theorem own_rm0 (l : Launch) (Z : State) (a0 : Array Value) (hw : ∀ d ∈ tables_1, d.before a0 Z = true) (ws : List Jvm.Cond) (p0 : Int32) (p1 : Int32)  (h0 : Heap) (n0 : Nat) (Z0 : n0 ≤ h0.size)  :
    MetFree l x (head1 (Jvm.Cond.code x code maxLocals ret :: ws) room_1) (fun a U => a = #[(.int p0), (.int p1)] ∧ Z.Warmed39 U.vm ∧ U.heap = h0) (fun _ _ _ _ _ => True) (fun _ U o U' => ∃ v L, o = .returned v ∧ own_Q0 Z p0 p1  h0 n0 v U'.heap L ∧ FrameEnd U o U' L 0 0) := by
  refine MetFree.of_bodySF (plainFor_of_name own_pn1) hisR ?_
  intro p e s m args below meth c s₁ Bd hml0 hP hK
  obtain ⟨rfl, hZ, hh⟩ := hP
  have hx := Bd.exec
  have hby := Bd.bytes
  have hml : c.maxLocals = 4 := hml0
  have hown : s.vm.findClass "com/example/derivant/derivant/core/PersistentMapSpreadPinLaw" = some m.cls := findClass_of_methodNamed Bd.named
  have hnm := (name_of_methodNamed Bd.named Bd.method).1
  have X0 : Stand p l e room_1 s m #[(.int p0), (.int p1)] below meth c s₁ [] 0 0 := Stand.of_body Bd
  have e0 : s₁.heap = h0 := by rw [← hh, Bd.state]; rfl
  have N0 := Fr.nil n0
  suffices H : own_Ends p e below s 0 0 (own_Q0 Z p0 p1  h0 n0) (s₁.setTop (mkF m 0 #[.val (.int p0), .val (.int p1), .unset, .unset] [])) by
    obtain ⟨s₂, o, h1, h2⟩ := H
    exact ⟨s₂, o, castTop (own_ef0 m p0 p1) h1, h2⟩
  show own_Ends _ _ _ _ _ _ _ (s₁.setTop (mkF m 0 #[.val (.int p0), .val (.int p1), .unset, .unset] []))
  refine own_step (fun _ k => XS.iloadN X0.here hx rfl (hb hby at_0) rfl k) ?_
  show own_Ends _ _ _ _ _ _ _ (s₁.setTop (mkF m 1 #[.val (.int p0), .val (.int p1), .unset, .unset] [(.int p0)]))
  obtain ⟨_, _, ⟨T2, L2, k2, n2⟩, -, X2, ⟨Lc2, hQ2, l2, y2, z2⟩, st2⟩ := Jvm.LawKit.callS X0 hx (y := (⟨"com/example/derivant/derivant/core/PersistentMap", "spread", "(I)I"⟩ : MethodName)) hown (mvT hZ (hw _ (List.mem_of_getElem? (i := 0) rfl))) (mvT hZ (hw _ (List.mem_of_getElem? (i := 1) rfl))) (mvT hZ (hw _ (List.mem_of_getElem? (i := 2) rfl))) (mvT hZ (hw _ (List.mem_of_getElem? (i := 3) rfl))) (by decide) (backOf (W := 0) (own_rm1 l Z a0 hw [] p0  h0 n0 Z0 ) hZ (hw _ (List.mem_of_getElem? (i := 3) rfl)) (hw _ (List.mem_of_getElem? (i := 2) rfl)) (by decide) (by decide)) (g := (mkF m 1 #[.val (.int p0), .val (.int p1), .unset, .unset] [(.int p0)])) rfl (by rw [hml]; rfl) (argsL := [(.int p0)]) (rest := []) (lenOf own_pd0 rfl) rfl (by show 2 * 0 + _ ≤ _; exact Nat.le_of_eq rfl) (hb hby at_1) (fun _ _ => ⟨rfl, e0, (by decide : 0 + 0 ≤ _), (by decide : 0 + 0 ≤ _)⟩)
  dsimp only [Pt.U, Pt.locs, Pt.cells, Pt.slots] at X2 l2 y2 z2 st2 hQ2
  subst l2 y2 z2
  obtain ⟨rfl, Nq2, e2⟩ := hQ2
  have N2 := Fr.app N0 Nq2
  refine own_step (fun _ k => st2 _ k) ?_
  show own_Ends _ _ _ _ _ _ _ (T2.setTop (mkF m 4 #[.val (.int p0), .val (.int p1), .unset, .unset] [(.int (own_spread p0))]))
  obtain ⟨_, _, ⟨T3, L3, k3, n3⟩, -, X3, ⟨Lc3, hQ3, l3, y3, z3⟩, st3⟩ := Jvm.LawKit.callS X2 hx (y := (⟨"com/example/derivant/derivant/core/PersistentMapSpreadPinLaw", "unspread", "(I)I"⟩ : MethodName)) hown (mvT hZ (hw _ (List.mem_of_getElem? (i := 5) rfl))) (mvT hZ (hw _ (List.mem_of_getElem? (i := 6) rfl))) (mvT hZ (hw _ (List.mem_of_getElem? (i := 7) rfl))) (mvT hZ (hw _ (List.mem_of_getElem? (i := 8) rfl))) (by decide) (backOf (W := 0) (own_rm3 l Z a0 hw [] (own_spread p0)  h0 n0 Z0 ) hZ (hw _ (List.mem_of_getElem? (i := 8) rfl)) (hw _ (List.mem_of_getElem? (i := 7) rfl)) (by decide) (by decide)) (g := (mkF m 4 #[.val (.int p0), .val (.int p1), .unset, .unset] [(.int (own_spread p0))])) rfl (by rw [hml]; rfl) (argsL := [(.int (own_spread p0))]) (rest := []) (lenOf own_pd0 rfl) rfl (by show 2 * 0 + _ ≤ _; exact Nat.le_of_eq rfl) (hb hby at_4) (fun _ _ => ⟨rfl, e2, (by decide : 0 + 0 ≤ _), (by decide : 0 + 0 ≤ _)⟩)
  dsimp only [Pt.U, Pt.locs, Pt.cells, Pt.slots] at X3 l3 y3 z3 st3 hQ3
  subst l3 y3 z3
  obtain ⟨rfl, Nq3, e3⟩ := hQ3
  have N3 := Fr.app N2 Nq3
  refine own_step (fun _ k => st3 _ k) ?_
  show own_Ends _ _ _ _ _ _ _ (T3.setTop (mkF m 7 #[.val (.int p0), .val (.int p1), .unset, .unset] [(.int (own_unspread (own_spread p0)))]))
  refine own_step (fun _ k => XS.iloadN X3.here hx rfl (hb hby at_7) rfl k) ?_
  show own_Ends _ _ _ _ _ _ _ (T3.setTop (mkF m 8 #[.val (.int p0), .val (.int p1), .unset, .unset] [(.int p0), (.int (own_unspread (own_spread p0)))]))
  refine own_step (fun _ k => XS.icmpNo X3.here hx rfl (hb hby at_8) rfl (teq (own_there p0)).2 k) ?_
  show own_Ends _ _ _ _ _ _ _ (T3.setTop (mkF m 11 #[.val (.int p0), .val (.int p1), .unset, .unset] []))
  refine own_step (fun _ k => XS.iconst X3.here hx rfl (hb hby at_11) k) ?_
  show own_Ends _ _ _ _ _ _ _ (T3.setTop (mkF m 12 #[.val (.int p0), .val (.int p1), .unset, .unset] [(.int (1 : Int32))]))
  refine own_step (fun _ k => XS.goto X3.here hx rfl (pc0 := 12) (pc' := 16) rfl (hb hby at_12) (by decide) (by decide) k) ?_
  show own_Ends _ _ _ _ _ _ _ (T3.setTop (mkF m 16 #[.val (.int p0), .val (.int p1), .unset, .unset] [(.int (1 : Int32))]))
  refine own_step (fun _ k => XS.istoreN X3.here hx rfl (hb hby at_16) rfl (l' := #[.val (.int p0), .val (.int p1), .val (.int (1 : Int32)), .unset]) rfl k) ?_
  show own_Ends _ _ _ _ _ _ _ (T3.setTop (mkF m 17 #[.val (.int p0), .val (.int p1), .val (.int (1 : Int32)), .unset] []))
  refine own_step (fun _ k => XS.iloadN X3.here hx rfl (hb hby at_17) rfl k) ?_
  show own_Ends _ _ _ _ _ _ _ (T3.setTop (mkF m 18 #[.val (.int p0), .val (.int p1), .val (.int (1 : Int32)), .unset] [(.int p1)]))
  obtain ⟨_, _, ⟨T4, L4, k4, n4⟩, -, X4, ⟨Lc4, hQ4, l4, y4, z4⟩, st4⟩ := Jvm.LawKit.callS X3 hx (y := (⟨"com/example/derivant/derivant/core/PersistentMapSpreadPinLaw", "unspread", "(I)I"⟩ : MethodName)) hown (mvT hZ (hw _ (List.mem_of_getElem? (i := 5) rfl))) (mvT hZ (hw _ (List.mem_of_getElem? (i := 6) rfl))) (mvT hZ (hw _ (List.mem_of_getElem? (i := 7) rfl))) (mvT hZ (hw _ (List.mem_of_getElem? (i := 8) rfl))) (by decide) (backOf (W := 0) (own_rm3 l Z a0 hw [] p1  h0 n0 Z0 ) hZ (hw _ (List.mem_of_getElem? (i := 8) rfl)) (hw _ (List.mem_of_getElem? (i := 7) rfl)) (by decide) (by decide)) (g := (mkF m 18 #[.val (.int p0), .val (.int p1), .val (.int (1 : Int32)), .unset] [(.int p1)])) rfl (by rw [hml]; rfl) (argsL := [(.int p1)]) (rest := []) (lenOf own_pd0 rfl) rfl (by show 2 * 0 + _ ≤ _; exact Nat.le_of_eq rfl) (hb hby at_18) (fun _ _ => ⟨rfl, e3, (by decide : 0 + 0 ≤ _), (by decide : 0 + 0 ≤ _)⟩)
  dsimp only [Pt.U, Pt.locs, Pt.cells, Pt.slots] at X4 l4 y4 z4 st4 hQ4
  subst l4 y4 z4
  obtain ⟨rfl, Nq4, e4⟩ := hQ4
  have N4 := Fr.app N3 Nq4
  refine own_step (fun _ k => st4 _ k) ?_
  show own_Ends _ _ _ _ _ _ _ (T4.setTop (mkF m 21 #[.val (.int p0), .val (.int p1), .val (.int (1 : Int32)), .unset] [(.int (own_unspread p1))]))
  obtain ⟨_, _, ⟨T5, L5, k5, n5⟩, -, X5, ⟨Lc5, hQ5, l5, y5, z5⟩, st5⟩ := Jvm.LawKit.callS X4 hx (y := (⟨"com/example/derivant/derivant/core/PersistentMap", "spread", "(I)I"⟩ : MethodName)) hown (mvT hZ (hw _ (List.mem_of_getElem? (i := 0) rfl))) (mvT hZ (hw _ (List.mem_of_getElem? (i := 1) rfl))) (mvT hZ (hw _ (List.mem_of_getElem? (i := 2) rfl))) (mvT hZ (hw _ (List.mem_of_getElem? (i := 3) rfl))) (by decide) (backOf (W := 0) (own_rm1 l Z a0 hw [] (own_unspread p1)  h0 n0 Z0 ) hZ (hw _ (List.mem_of_getElem? (i := 3) rfl)) (hw _ (List.mem_of_getElem? (i := 2) rfl)) (by decide) (by decide)) (g := (mkF m 21 #[.val (.int p0), .val (.int p1), .val (.int (1 : Int32)), .unset] [(.int (own_unspread p1))])) rfl (by rw [hml]; rfl) (argsL := [(.int (own_unspread p1))]) (rest := []) (lenOf own_pd0 rfl) rfl (by show 2 * 0 + _ ≤ _; exact Nat.le_of_eq rfl) (hb hby at_21) (fun _ _ => ⟨rfl, e4, (by decide : 0 + 0 ≤ _), (by decide : 0 + 0 ≤ _)⟩)
  dsimp only [Pt.U, Pt.locs, Pt.cells, Pt.slots] at X5 l5 y5 z5 st5 hQ5
  subst l5 y5 z5
  obtain ⟨rfl, Nq5, e5⟩ := hQ5
  have N5 := Fr.app N4 Nq5
  refine own_step (fun _ k => st5 _ k) ?_
  show own_Ends _ _ _ _ _ _ _ (T5.setTop (mkF m 24 #[.val (.int p0), .val (.int p1), .val (.int (1 : Int32)), .unset] [(.int (own_spread (own_unspread p1)))]))
  refine own_step (fun _ k => XS.iloadN X5.here hx rfl (hb hby at_24) rfl k) ?_
  show own_Ends _ _ _ _ _ _ _ (T5.setTop (mkF m 25 #[.val (.int p0), .val (.int p1), .val (.int (1 : Int32)), .unset] [(.int p1), (.int (own_spread (own_unspread p1)))]))
  refine own_step (fun _ k => XS.icmpNo X5.here hx rfl (hb hby at_25) rfl (teq (own_again p1)).2 k) ?_
  show own_Ends _ _ _ _ _ _ _ (T5.setTop (mkF m 28 #[.val (.int p0), .val (.int p1), .val (.int (1 : Int32)), .unset] []))
  refine own_step (fun _ k => XS.iconst X5.here hx rfl (hb hby at_28) k) ?_
  show own_Ends _ _ _ _ _ _ _ (T5.setTop (mkF m 29 #[.val (.int p0), .val (.int p1), .val (.int (1 : Int32)), .unset] [(.int (1 : Int32))]))
  refine own_step (fun _ k => XS.goto X5.here hx rfl (pc0 := 29) (pc' := 33) rfl (hb hby at_29) (by decide) (by decide) k) ?_
  show own_Ends _ _ _ _ _ _ _ (T5.setTop (mkF m 33 #[.val (.int p0), .val (.int p1), .val (.int (1 : Int32)), .unset] [(.int (1 : Int32))]))
  refine own_step (fun _ k => XS.istoreN X5.here hx rfl (hb hby at_33) rfl (l' := #[.val (.int p0), .val (.int p1), .val (.int (1 : Int32)), .val (.int (1 : Int32))]) rfl k) ?_
  show own_Ends _ _ _ _ _ _ _ (T5.setTop (mkF m 34 #[.val (.int p0), .val (.int p1), .val (.int (1 : Int32)), .val (.int (1 : Int32))] []))
  refine own_step (fun _ k => XS.iloadN X5.here hx rfl (hb hby at_34) rfl k) ?_
  show own_Ends _ _ _ _ _ _ _ (T5.setTop (mkF m 35 #[.val (.int p0), .val (.int p1), .val (.int (1 : Int32)), .val (.int (1 : Int32))] [(.int (1 : Int32))]))
  refine own_step (fun _ k => XS.ifNo X5.here hx rfl (hb hby at_35) rfl ((if0 _ _).trans (feq (by decide)).1) k) ?_
  show own_Ends _ _ _ _ _ _ _ (T5.setTop (mkF m 38 #[.val (.int p0), .val (.int p1), .val (.int (1 : Int32)), .val (.int (1 : Int32))] []))
  refine own_step (fun _ k => XS.iloadN X5.here hx rfl (hb hby at_38) rfl k) ?_
  show own_Ends _ _ _ _ _ _ _ (T5.setTop (mkF m 39 #[.val (.int p0), .val (.int p1), .val (.int (1 : Int32)), .val (.int (1 : Int32))] [(.int (1 : Int32))]))
  refine own_step (fun _ k => XS.ifNo X5.here hx rfl (hb hby at_39) rfl ((if0 _ _).trans (feq (by decide)).1) k) ?_
  show own_Ends _ _ _ _ _ _ _ (T5.setTop (mkF m 42 #[.val (.int p0), .val (.int p1), .val (.int (1 : Int32)), .val (.int (1 : Int32))] []))
  refine own_step (fun _ k => XS.iconst X5.here hx rfl (hb hby at_42) k) ?_
  show own_Ends _ _ _ _ _ _ _ (T5.setTop (mkF m 43 #[.val (.int p0), .val (.int p1), .val (.int (1 : Int32)), .val (.int (1 : Int32))] [(.int (1 : Int32))]))
  refine own_step (fun _ k => XS.goto X5.here hx rfl (pc0 := 43) (pc' := 47) rfl (hb hby at_43) (by decide) (by decide) k) ?_
  show own_Ends _ _ _ _ _ _ _ (T5.setTop (mkF m 47 #[.val (.int p0), .val (.int p1), .val (.int (1 : Int32)), .val (.int (1 : Int32))] [(.int (1 : Int32))]))
  refine own_ret X5 (BodyLoose.notSynchronized Bd) (v := (some (.int (1 : Int32)))) (fun h => by rw [Bd.returns] at h; cases h) ?_ (by decide) (by decide) (fun fs hr => X5.ireturnOut hx Bd.returns rfl (by simp) (hb hby at_47) hr)
  show own_Q0 Z p0 p1  h0 n0 (some (.int (1 : Int32))) T5.heap _
  rw [e5]
  exact ⟨rfl, N5⟩
set_option maxRecDepth 65536 in
set_option maxHeartbeats 40000000 in
theorem comes_1 {Post : Tables → Env → Array Value → State → Outcome → State → Prop} (hpost : ∀ tb e args s v u, (limb_1_1.after args s (.returned v) u = true ∧ limb_1_2.after args s (.returned v) u = true ∧ True) → FrameEnd s (.returned v) u (Jvm.fieldLocs frame_1_writes args s ++ Jvm.arrayLocs frame_1_arrays args s ++ Jvm.staticLocs frame_1_statics s) 0 0 → Post tb e args s (.returned v) u) :
    ArmFor flags0 classFile x code maxLocals ret World_1 tables_1 room_1 Calls_1 rest_1 Pre_1 Post := by
  intro l hfl _ _ p e ha hc hk s m args below hf hA hF happ hP
  obtain ⟨hcalls, hrest, hpre⟩ := hP
  obtain ⟨-, -, -, hnamed, -, -, -, hat⟩ := (Spec.applies_iff hf).mp happ
  obtain ⟨hg, hn⟩ := and_e (Cond.before_iff.mp (show (Jvm.Cond.and given_1 narrow_1).before args s = true from hpre))
  obtain ⟨g0, hg⟩ := and_e hg
  obtain ⟨ga0, hg⟩ := and_e hg
  obtain ⟨w0, w1, rfl⟩ : ∃ w0 w1 : Value, args = #[w0, w1] := by
    have hs : args.size = 2 := by simpa [Cond.value, given_1] using g0
    obtain ⟨L⟩ := args
    match L, hs with
    | [w0, w1], _ => exact ⟨w0, w1, rfl⟩
  have hw := fun d (hd : d ∈ tables_1) => atoms_spec (ws := Jvm.Cond.code x code maxLocals ret :: tables_1) hat d (List.mem_cons_of_mem _ hd)
  obtain ⟨i0, ei0⟩ := is_v ga0
  obtain rfl : w0 = (.int i0) := Option.some.inj ei0
  obtain ⟨i1, ei1⟩ := is_v hg
  obtain rfl : w1 = (.int i1) := Option.some.inj ei1
  obtain ⟨n, o, h1, h2, h3, _, L, rfl, ⟨rfl, N⟩, hq⟩ := own_rm0 l s _ hw tables_1 i0 i1 s.heap s.heap.size (Nat.le_refl _)  p e ha hc hk s m _ below hf ((Spec.applies_iff_loose hf).mp happ).1 ⟨rfl, State.Warmed39.refl s, rfl⟩ trivial
  refine ⟨n, _, h1, h2, h3, hpost _ _ _ _ _ _ ⟨Cond.after_iff.mpr rfl, Cond.after_iff.mpr (eq_i res_at (Term.int_eval (1)) rfl), trivial⟩ ⟨hq.1, hq.2.1, (hq.2.2.sift fun y hy => Or.inr (N y hy)).mono (by decide) (by decide)⟩⟩
theorem main_1_1 : Claimed_1_1 := comes_1 fun _ _ _ _ _ _ h hF => ⟨h.1, hF⟩
theorem main_1_2 : Claimed_1_2 := comes_1 fun _ _ _ _ _ _ h hF => ⟨h.2.1, hF⟩
end Jvm.Pilot.@@N@@
namespace Jvm.Pilot.@@N@@
open Jvm Jvm.ClassFile Sem Op Lib Jvm.Free Jvm.Stand Jvm.Pilot.@@N@@.Jvm.D
/-! MADE BY PROGRAM (witnessworld.py) out of the Statement's table words and the real class files: 9 classes; the members and pool entries that the words name. The judged class is class 1, her method 3. -/
namespace start1
open Jvm.ClassFile
def u (s : String) : CpInfo := .utf8 (stringToUtf16 s)
/-- a pool by its gaps: so many unusable entries, then the entry; so many at the end -/
def gap : Nat → List CpInfo → List CpInfo
  | 0, r => r
  | n + 1, r => .unusable :: gap n r
def poolList (es : List (Nat × CpInfo)) (last : Nat) : List CpInfo := es.foldr (fun e r => gap e.1 (e.2 :: r)) (gap last [])
def pool (es : List (Nat × CpInfo)) (last : Nat) : Array CpInfo := ⟨poolList es last⟩
def fileOf (pool : Array CpInfo) (this : Nat) (attrs : Array Attribute := #[]) (ms : Array MethodInfo := #[]) (fl : Nat := 33) (sup : Nat := 0) (ifs : Array Nat := #[]) (fds : Array FieldInfo := #[]) : ClassFile where
  minorVersion := 0
  majorVersion := 65
  constantPool := pool
  accessFlags := fl
  thisClass := this
  superClass := sup
  interfaces := ifs
  fields := fds
  methods := ms
  attributes := attrs
def plain (name : String) (sup : Option ClassId) : Class where
  name := name
  kind := .ordinary
  loader := none
  accessFlags := 33
  super := sup
  interfaces := #[]
  cf := none
  fields := #[]
  methods := #[]
  instanceTypes := #[]
  staticTypes := #[]
  resolved := #[]
  callSites := []
  init := .initialized
  statics := none
  mirror := none

def pool0 : Array CpInfo := pool [(5, u "<init>"), (0, u "()V"), (1, .class_ 10), (1, u "java/lang/Object")] 113

def k0m0 : Method := { name := "<init>", desc := "()V", sig := { parameters := [], returnType := none }, accessFlags := 1, code := none }
/-- java/lang/Object -/
def k0 : Class := { plain "java/lang/Object" none with
  accessFlags := 33
  interfaces := #[]
  cf := some (fileOf pool0 8 #[] #[{ accessFlags := 1, nameIndex := 5, descriptorIndex := 6, attributes := #[] }] 33 0 #[] #[])
  fields := #[]
  methods := #[k0m0]
  instanceTypes := #[]
  staticTypes := #[]
  resolved := Array.replicate 124 none
  statics := none }

def pool1 : Array CpInfo := pool [(2, .class_ 4), (1, u "java/lang/Object"), (0, u "<init>"), (0, u "()V"), (0, .integer 2246822507), (0, .methodref 9 10), (0, .class_ 11), (0, .nameAndType 12 13), (0, u "com/example/derivant/derivant/core/PersistentMapSpreadPinLaw"), (0, u "inverseOf"), (0, u "(I)I"), (0, .methodref 15 16), (0, .class_ 17), (0, .nameAndType 18 13), (0, u "com/example/derivant/derivant/core/PersistentMap"), (0, u "spread"), (0, .methodref 9 20), (0, .nameAndType 21 13), (0, u "unspread"), (2, u "law"), (0, u "(II)Z")] 3

def k1m0 : Method := { name := "<init>", desc := "()V", sig := { parameters := [], returnType := none }, accessFlags := 2, code := none }
def k1c1 : Code := { maxStack := 4, maxLocals := 2, code := method_2_code, exceptionTable := #[], attributes := #[] }
def k1m1 : Method := { name := "inverseOf", desc := "(I)I", sig := { parameters := [.int], returnType := some .int }, accessFlags := 10, code := some k1c1 }
def k1c2 : Code := { maxStack := 3, maxLocals := 2, code := method_3_code, exceptionTable := #[], attributes := #[] }
def k1m2 : Method := { name := "unspread", desc := "(I)I", sig := { parameters := [.int], returnType := some .int }, accessFlags := 10, code := some k1c2 }
def k1c3 : Code := { maxStack := 2, maxLocals := 4, code := code, exceptionTable := #[], attributes := #[] }
def k1m3 : Method := { name := "law", desc := "(II)Z", sig := { parameters := [.int, .int], returnType := some .boolean }, accessFlags := 9, code := some k1c3 }
/-- com/example/derivant/derivant/core/PersistentMapSpreadPinLaw -/
def k1 : Class := { plain "com/example/derivant/derivant/core/PersistentMapSpreadPinLaw" (some 0) with
  accessFlags := 49
  interfaces := #[]
  cf := some (fileOf pool1 9 #[] #[{ accessFlags := 2, nameIndex := 5, descriptorIndex := 6, attributes := #[] }, { accessFlags := 10, nameIndex := 12, descriptorIndex := 13, attributes := #[] }, { accessFlags := 10, nameIndex := 21, descriptorIndex := 13, attributes := #[] }, { accessFlags := 9, nameIndex := 24, descriptorIndex := 25, attributes := #[] }] 49 2 #[] #[])
  fields := #[]
  methods := #[k1m0, k1m1, k1m2, k1m3]
  instanceTypes := #[]
  staticTypes := #[]
  resolved := Array.replicate 29 none
  statics := none }

def pool2 : Array CpInfo := pool [(3, .class_ 4), (0, u "com/example/derivant/derivant/core/PersistentMap"), (1, .class_ 8), (1, u "java/lang/Object"), (4, u "root"), (0, u "Lcom/example/derivant/derivant/core/PersistentMap$Node;"), (2, u "size"), (0, u "I"), (2, u "keys"), (0, u "Lcom/example/derivant/derivant/core/PersistentMap$Equivalence;"), (2, u "NATURAL"), (4, .class_ 31), (0, u "com/example/derivant/derivant/core/PersistentMap$Node"), (32, .class_ 66), (1, u "com/example/derivant/derivant/core/PersistentMap$Equivalence"), (4, u "spread"), (0, u "(I)I"), (8, .class_ 82), (0, u "com/example/derivant/derivant/core/PersistentMap$Built"), (12, .class_ 97), (1, u "com/example/derivant/derivant/core/PersistentMap$Entry"), (37, .class_ 137), (1, u "com/example/derivant/derivant/core/PersistentMap$SameHash"), (24, .class_ 163), (0, u "com/example/derivant/derivant/core/PersistentMap$Walk"), (16, .integer 2246822507), (10, .class_ 192), (0, u "com/example/derivant/derivant/core/PersistentMap$1"), (1, u "BITS"), (2, u "LEVELS"), (54, .class_ 253), (0, u "com/example/derivant/derivant/core/PersistentMap$Builder")] 39

def k2c0 : Code := { maxStack := 3, maxLocals := 2, code := prog_84_method_23_code, exceptionTable := #[], attributes := #[] }
def k2m0 : Method := { name := "spread", desc := "(I)I", sig := { parameters := [.int], returnType := some .int }, accessFlags := 8, code := some k2c0 }
/-- com/example/derivant/derivant/core/PersistentMap -/
def k2 : Class := { plain "com/example/derivant/derivant/core/PersistentMap" (some 0) with
  accessFlags := 48
  interfaces := #[]
  cf := some (fileOf pool2 3 #[.nestMembers #[162, 81, 135, 30, 95, 252, 64, 191]] #[{ accessFlags := 8, nameIndex := 71, descriptorIndex := 72, attributes := #[] }] 48 6 #[] #[{ accessFlags := 26, nameIndex := 194, descriptorIndex := 18, attributes := #[] }, { accessFlags := 26, nameIndex := 197, descriptorIndex := 18, attributes := #[] }, { accessFlags := 26, nameIndex := 25, descriptorIndex := 22, attributes := #[] }, { accessFlags := 18, nameIndex := 13, descriptorIndex := 14, attributes := #[] }, { accessFlags := 18, nameIndex := 17, descriptorIndex := 18, attributes := #[] }, { accessFlags := 18, nameIndex := 21, descriptorIndex := 22, attributes := #[] }])
  fields := #[{ name := "BITS", type := .int, accessFlags := 26, slot := 0, constantValue := 0 }, { name := "LEVELS", type := .int, accessFlags := 26, slot := 1, constantValue := 0 }, { name := "NATURAL", type := (.object "com/example/derivant/derivant/core/PersistentMap$Equivalence"), accessFlags := 26, slot := 2, constantValue := 0 }, { name := "root", type := (.object "com/example/derivant/derivant/core/PersistentMap$Node"), accessFlags := 18, slot := 0, constantValue := 0 }, { name := "size", type := .int, accessFlags := 18, slot := 1, constantValue := 0 }, { name := "keys", type := (.object "com/example/derivant/derivant/core/PersistentMap$Equivalence"), accessFlags := 18, slot := 2, constantValue := 0 }]
  methods := #[k2m0]
  instanceTypes := #[(.object "com/example/derivant/derivant/core/PersistentMap$Node"), .int, (.object "com/example/derivant/derivant/core/PersistentMap$Equivalence")]
  staticTypes := #[.int, .int, (.object "com/example/derivant/derivant/core/PersistentMap$Equivalence")]
  resolved := Array.replicate 293 none
  statics := none }

def pool3 : Array CpInfo := pool [(1, u "java/lang/Cloneable"), (0, .class_ 1), (0, u "java/lang/Object"), (0, .class_ 3)] 3

/-- java/lang/Cloneable -/
def k3 : Class := { plain "java/lang/Cloneable" (some 0) with
  accessFlags := 1537
  interfaces := #[]
  cf := some (fileOf pool3 2 #[] #[] 1537 4 #[] #[])
  fields := #[]
  methods := #[]
  instanceTypes := #[]
  staticTypes := #[]
  resolved := Array.replicate 8 none
  statics := none }

def pool4 : Array CpInfo := pool [(1, u "java/io/Serializable"), (0, .class_ 1), (0, u "java/lang/Object"), (0, .class_ 3)] 3

/-- java/io/Serializable -/
def k4 : Class := { plain "java/io/Serializable" (some 0) with
  accessFlags := 1537
  interfaces := #[]
  cf := some (fileOf pool4 2 #[] #[] 1537 4 #[] #[])
  fields := #[]
  methods := #[]
  instanceTypes := #[]
  staticTypes := #[]
  resolved := Array.replicate 8 none
  statics := none }

/-- the primitive byte -/
def k5 : Class := { plain "byte" none with kind := .primitive 'B', accessFlags := 0x411 }
/-- [B -/
def k6 : Class := { plain "[B" (some 0) with kind := .array 5 .byte, interfaces := #[3, 4], accessFlags := 1041 }

/-- the primitive int -/
def k7 : Class := { plain "int" none with kind := .primitive 'I', accessFlags := 0x411 }
/-- [I -/
def k8 : Class := { plain "[I" (some 0) with kind := .array 7 .int, interfaces := #[3, 4], accessFlags := 1041 }

def heap : Heap := #[]
def classes : Array Class := #[k0, k1, k2, k3, k4, k5, k6, k7, k8]
def interned : List (Array UInt16 × Addr) := []
def slotsUsed : Nat := 0
def theMethod : MethodId := ⟨1, 3⟩
def args0 : Array Value := #[.int 5, .int 7]
def aboutOver (below : List Frame) : State where
  vm := { classes := classes, interned := interned.toArray }
  heap := heap
  slotsUsed := slotsUsed
  threads := #[{ frames := .invoking theMethod args0 :: below }]
def below0 : List Frame := [.native { method := ⟨0, 0⟩, args := #[] }]
def about1 : State := aboutOver below0
def p0 : Program := .bare "" "" ""
def e0 : Env := launch0.env 0 0 0
theorem w_frames : about1.frames = Frame.invoking theMethod args0 :: below0 := rfl
set_option maxRecDepth 65536 in
theorem w_args : argsFit about1.vm theMethod args0 = true := by decide +kernel
set_option maxRecDepth 65536 in
theorem w_heap : heapFits about1 = true := by decide +kernel
set_option maxRecDepth 65536 in
theorem w_runnable : about1.curStatus? = some .runnable := by decide +kernel
set_option maxRecDepth 65536 in
theorem w_alone : about1.alone = true := by decide +kernel
set_option maxRecDepth 65536 in
theorem w_named : about1.methodNamed? x = some theMethod := by decide +kernel
set_option maxRecDepth 65536 in
theorem w_hears : about1.hears theMethod below0 = true := by decide +kernel
set_option maxRecDepth 65536 in
theorem w_ripe : about1.ripe theMethod args0 below0 = true := by decide +kernel
theorem w_running : about1.status = .running := rfl
set_option maxRecDepth 65536 in
theorem w_room : about1.hasRoom e0.platform room_1 = true :=
  launch0.hasRoom_least _ room_1 (by decide +kernel) (by decide +kernel) (by decide +kernel) (by decide +kernel) (by decide +kernel) (by decide +kernel)
theorem allAtoms_all (ts : List Jvm.Cond) (a : Array Jvm.Value) (st : Jvm.State) : (allAtoms ts).before a st = ts.all (fun c => c.before a st) := by
  induction ts with
  | nil => rfl
  | cons c t ih =>
    show (Jvm.Cond.and c (allAtoms t)).before a st = _
    rw [Jvm.Cond.before_and, ih, List.all_cons]
def words1 : List Jvm.Cond := Jvm.Cond.code x code maxLocals ret :: tables_1
/-- a 'code' word, met by the world's own term for the bytes: nothing is compared byte by byte -/
theorem code_word {y : MethodName} {bytes : ByteArray} {mx : Nat} {rt : Option FieldType} {a : Array Value} {s : State} {m : MethodId} {meth : Method} {c : Code} (h1 : s.methodNamed? y = some m) (h2 : s.vm.method? m = some meth) (h3 : meth.code = some c) (h4 : c.code = bytes)
    (h5 : (c.maxLocals == mx && c.exceptionTable.isEmpty && decide (c.maxStack ≤ mostOperands) && decide (meth.sig.returnType = rt) && !meth.locks && decide (parseMethodDescriptor y.desc = some meth.sig)) = true) : (Jvm.Cond.code y bytes mx rt).before a s = true := by
  simp only [Bool.and_eq_true, beq_iff_eq, Bool.not_eq_true', decide_eq_true_eq] at h5
  obtain ⟨⟨⟨⟨⟨g1, g2⟩, g3⟩, g4⟩, g5⟩, g6⟩ := h5
  simp [Cond.before, Cond.holds, Cond.value, h1, h2, h3, h4, g1, g2, g3, g4, g5, g6]
def isCode : Jvm.Cond → Bool
  | .code _ _ _ _ => true
  | _ => false
theorem all_split {L : List Jvm.Cond} {P : Jvm.Cond → Bool} (h1 : L.all (fun c => isCode c || P c) = true) (h2 : ∀ c ∈ L.filter isCode, P c = true) : L.all P = true := by
  refine List.all_eq_true.mpr fun c hc => ?_
  have h := List.all_eq_true.mp h1 c hc
  rcases Bool.eq_false_or_eq_true (isCode c) with hi | hi
  · exact h2 c (List.mem_filter.mpr ⟨hc, hi⟩)
  · simpa [hi] using h
set_option maxRecDepth 65536 in
theorem w_c0 : (Jvm.Cond.code x code maxLocals ret).before args0 about1 = true := code_word (m := ⟨1, 3⟩) (meth := k1m3) (c := k1c3) (by decide +kernel) rfl rfl rfl (by decide +kernel)
set_option maxRecDepth 65536 in
theorem w_c1 : (Jvm.Cond.code ({ cls := "com/example/derivant/derivant/core/PersistentMap", name := "spread", desc := "(I)I" } : Jvm.MethodName) prog_84_method_23_code (2 : Nat) (Option.some Jvm.ClassFile.FieldType.int)).before args0 about1 = true := code_word (m := ⟨2, 0⟩) (meth := k2m0) (c := k2c0) (by decide +kernel) rfl rfl rfl (by decide +kernel)
set_option maxRecDepth 65536 in
theorem w_c2 : (Jvm.Cond.code ({ cls := "com/example/derivant/derivant/core/PersistentMapSpreadPinLaw", name := "unspread", desc := "(I)I" } : Jvm.MethodName) method_3_code (2 : Nat) (Option.some Jvm.ClassFile.FieldType.int)).before args0 about1 = true := code_word (m := ⟨1, 2⟩) (meth := k1m2) (c := k1c2) (by decide +kernel) rfl rfl rfl (by decide +kernel)
set_option maxRecDepth 65536 in
theorem w_c3 : (Jvm.Cond.code ({ cls := "com/example/derivant/derivant/core/PersistentMapSpreadPinLaw", name := "inverseOf", desc := "(I)I" } : Jvm.MethodName) method_2_code (2 : Nat) (Option.some Jvm.ClassFile.FieldType.int)).before args0 about1 = true := code_word (m := ⟨1, 1⟩) (meth := k1m1) (c := k1c1) (by decide +kernel) rfl rfl rfl (by decide +kernel)
def codes1 : List Jvm.Cond := [Jvm.Cond.code x code maxLocals ret, Jvm.Cond.code ({ cls := "com/example/derivant/derivant/core/PersistentMap", name := "spread", desc := "(I)I" } : Jvm.MethodName) prog_84_method_23_code (2 : Nat) (Option.some Jvm.ClassFile.FieldType.int), Jvm.Cond.code ({ cls := "com/example/derivant/derivant/core/PersistentMapSpreadPinLaw", name := "unspread", desc := "(I)I" } : Jvm.MethodName) method_3_code (2 : Nat) (Option.some Jvm.ClassFile.FieldType.int), Jvm.Cond.code ({ cls := "com/example/derivant/derivant/core/PersistentMapSpreadPinLaw", name := "inverseOf", desc := "(I)I" } : Jvm.MethodName) method_2_code (2 : Nat) (Option.some Jvm.ClassFile.FieldType.int)]
set_option maxRecDepth 65536 in
theorem codes_eq : words1.filter isCode = codes1 := rfl
theorem w_codes : ∀ c ∈ words1.filter isCode, c.before args0 about1 = true := by
  rw [codes_eq]
  intro c hc
  simp only [codes1, List.mem_cons, List.not_mem_nil, or_false] at hc
  rcases hc with rfl | rfl | rfl | rfl
  · exact w_c0
  · exact w_c1
  · exact w_c2
  · exact w_c3
set_option maxRecDepth 65536 in
theorem w_t1 : words1.all (fun c => isCode c || c.before args0 about1) = true := by decide +kernel
theorem w_tables : (allAtoms (Jvm.Cond.code x code maxLocals ret :: tables_1)).before args0 about1 = true := by
  rw [allAtoms_all]
  show words1.all (fun c => c.before args0 about1) = true
  refine all_split ?_ w_codes
  rw [w_t1]
set_option maxRecDepth 65536 in
theorem w_case : (Jvm.Cond.and given_1 narrow_1).before args0 about1 = true := by decide +kernel
theorem w_applies : (headSpec (Jvm.Cond.code x code maxLocals ret :: tables_1) room_1).applies x e0.platform about1 = true :=
  (Spec.applies_iff w_frames).mpr ⟨w_running, w_runnable, w_alone, w_named, w_hears, w_ripe, w_room, w_tables⟩
theorem atStart : AtStart classFile x code maxLocals ret World_1 tables_1 room_1 Calls_1 rest_1 Pre_1 launch0 p0 e0 about1 theMethod args0 below0 :=
  ⟨lists_1, trivial, launch0.admits_env _ _ _, launch0.least_env, fairChoices_fair.cas, fairChoices_fair.clock, w_frames, w_args, w_heap, w_applies, trivial, trivial, w_case⟩
end start1
theorem witness_1 : WitnessClaimed_1 := ⟨start1.p0, start1.e0, start1.about1, start1.theMethod, start1.args0, start1.below0, start1.atStart⟩
end Jvm.Pilot.@@N@@
