import JvmDerived
import JvmDerived.Pilot.@@N@@Statement
import JvmDerived.Pilot.@@N@@Code
set_option linter.unusedVariables false
set_option linter.unusedSimpArgs false
@@BLOCK:NumsL.lean.txt@@
namespace Jvm.Pilot.@@N@@
open Jvm Jvm.ClassFile Sem Op Lib Jvm.Free Jvm.Stand Jvm.LawKit Jvm.RoadKit Bundle Jvm.Pilot.@@N@@.Jvm.D
/-- the run that stands at st comes to a return: Q says what is returned, the heap and the places written; at most kc cells and ks slots are new -/
def own_Ends (p : Program) (e : Env) (below : List Frame) (s : State) (kc ks : Nat) (Q : Option Value → Heap → List Loc → Prop) (st : State) : Prop :=
  ∃ s₂ o, Steps p.tables e below st s₂ ∧ s₂.status = .running ∧ Ended s₂ below o ∧ ∃ v L, o = .returned v ∧ Q v s₂.heap L ∧ FrameEnd s o s₂ L kc ks
theorem own_step {p : Program} {e : Env} {below : List Frame} {s : State} {kc ks : Nat} {Q : Option Value → Heap → List Loc → Prop} {st st' : State}
    (h : ∀ t, Steps p.tables e below st' t → Steps p.tables e below st t) (k : own_Ends p e below s kc ks Q st') : own_Ends p e below s kc ks Q st := by
  obtain ⟨s₂, o, h1, h2⟩ := k
  exact ⟨s₂, o, h _ h1, h2⟩
theorem own_ret {p : Program} {l : Launch} {e : Env} {R : Room} {s : State} {m : MethodId} {args : Array Value} {below : List Frame} {meth : Method} {c : Code} {T : State} {locs : List Loc} {cells slots : Nat} {kc ks : Nat} {Q : Option Value → Heap → List Loc → Prop} {st : State}
    (X : Stand p l e R s m args below meth c T locs cells slots) (hlocks : meth.locks = false) {v : Option Value} (hv : meth.sig.returnType = none → v = none) (hq : Q v T.heap locs) (hc : cells ≤ kc) (hs : slots ≤ ks)
    (hr : ∀ fs, (∀ (f : JFrame) (acts : List Action), f.method = m → f.locked = none → f.entered = [] → (doReturn e (T.setTop f) acts v).1 = T.setFrames fs) → Steps p.tables e below st (T.setFrames fs)) : own_Ends p e below s kc ks Q st := by
  obtain ⟨fs, h1, hrun, hended, hW, hsame⟩ := X.leave (v := v) hv hlocks
  exact ⟨_, _, hr fs h1, hrun, hended, v, locs, rfl, hq, ⟨_, rfl⟩, hW, hsame.mono hc hs⟩

def own_m (x y : Int32) : Int32 := if x = y then 1 else 0
theorem own_three (x : Int32) : ∀ r, r = ((x &&& (2147483647 : Int32)) - (x &&& (2147483647 : Int32)) / (3 : Int32) * (3 : Int32)) → r = 0 ∨ r = 1 ∨ r = 2 := by
  intro r hr
  have e := Jvm.Kit.i32_mask x 2147483647 (k := 31) (by decide) (by decide)
  generalize x &&& (2147483647 : Int32) = y at *
  rw [irem_eq_mod] at hr
  have h := Jvm.Kit.i32_rem_nonneg (x := y) (y := 3) (by omega)
  rw [← hr] at h
  have e5 : (3 : Int32).toInt = 3 := rfl
  rw [e5] at h
  have h2 : r.toInt = 0 ∨ r.toInt = 1 ∨ r.toInt = 2 := by omega
  rcases h2 with h | h | h
  · exact Or.inl (Int32.toInt_inj.mp h)
  · exact Or.inr (Or.inl (Int32.toInt_inj.mp h))
  · exact Or.inr (Or.inr (Int32.toInt_inj.mp h))
theorem own_oct (x : Int32) : ∀ r, r = x &&& (7 : Int32) → r = 0 ∨ r = 1 ∨ r = 2 ∨ r = 3 ∨ r = 4 ∨ r = 5 ∨ r = 6 ∨ r = 7 := by
  intro r hr
  have e := Jvm.Kit.i32_mask x 7 (k := 3) (by decide) (by decide)
  rw [← hr] at e
  have h2 : r.toInt = (0 : Int32).toInt ∨ r.toInt = (1 : Int32).toInt ∨ r.toInt = (2 : Int32).toInt ∨ r.toInt = (3 : Int32).toInt ∨ r.toInt = (4 : Int32).toInt ∨ r.toInt = (5 : Int32).toInt ∨ r.toInt = (6 : Int32).toInt ∨ r.toInt = (7 : Int32).toInt := by
    have : (0 : Int32).toInt = 0 ∧ (1 : Int32).toInt = 1 ∧ (2 : Int32).toInt = 2 ∧ (3 : Int32).toInt = 3 ∧ (4 : Int32).toInt = 4 ∧ (5 : Int32).toInt = 5 ∧ (6 : Int32).toInt = 6 ∧ (7 : Int32).toInt = 7 := by decide
    omega
  rcases h2 with h | h | h | h | h | h | h | h <;> (have h' := Int32.toInt_inj.mp h; subst h'; decide)
theorem own_b0 {r : Int32} (h : r = 0 ∨ r = 1 ∨ r = 2 ∨ r = 3 ∨ r = 4 ∨ r = 5 ∨ r = 6 ∨ r = 7) : (XT.ushr r 0 &&& 1 = 0 ↔ r &&& 1 = 0) ∧ (XT.ushr r 1 &&& 1 = 0 ↔ r &&& 2 = 0) ∧ (XT.ushr r 2 &&& 1 = 0 ↔ r &&& 4 = 0) := by
  rcases h with rfl | rfl | rfl | rfl | rfl | rfl | rfl | rfl <;> decide
theorem own_c3 (x : Int32) : x &&& 3 = 0 ↔ (x &&& 1 = 0 ∧ x &&& 2 = 0) := by
  have e := Jvm.Kit.i32_mask x 3 (k := 2) (by decide) (by decide)
  have h1 : x &&& 1 = (x &&& 3) &&& 1 := by rw [Int32.and_assoc]; rfl
  have h2 : x &&& 2 = (x &&& 3) &&& 2 := by rw [Int32.and_assoc]; rfl
  rw [h1, h2]
  generalize x &&& 3 = r at *
  have h3 : r.toInt = (0 : Int32).toInt ∨ r.toInt = (1 : Int32).toInt ∨ r.toInt = (2 : Int32).toInt ∨ r.toInt = (3 : Int32).toInt := by
    have : (0 : Int32).toInt = 0 := rfl
    have : (1 : Int32).toInt = 1 := rfl
    have : (2 : Int32).toInt = 2 := rfl
    have : (3 : Int32).toInt = 3 := rfl
    omega
  rcases h3 with h | h | h | h <;> (have h' := Int32.toInt_inj.mp h; subst h'; decide)
theorem own_f1 {ia ib cv x y t : Int32} (hia : ia = 0 ∧ y = x ∨ ia = 1 ∧ y = t) (hib : ib = 0 ∧ x = 0 ∨ ib = 1 ∧ x = 1) (hcv : cv = 0 ∧ t = 1 ∨ cv = 1 ∧ (t = 2 ∨ t = 3)) (k1 : ¬ ia = 0) : own_m y t = 1 := by
  rcases hia with ⟨rfl, rfl⟩ | ⟨rfl, rfl⟩
  · exact absurd rfl k1
  · exact if_pos rfl
theorem own_f2 {ia ib cv x y t : Int32} (hia : ia = 0 ∧ y = x ∨ ia = 1 ∧ y = t) (hib : ib = 0 ∧ x = 0 ∨ ib = 1 ∧ x = 1) (hcv : cv = 0 ∧ t = 1 ∨ cv = 1 ∧ (t = 2 ∨ t = 3)) (k1 : ia = 0) (k2 : ¬ cv = 0) : own_m y t = 0 := by
  rcases hia with ⟨rfl, rfl⟩ | ⟨rfl, rfl⟩
  · rcases hcv with ⟨rfl, rfl⟩ | ⟨rfl, rfl | rfl⟩
    · exact absurd rfl k2
    · rcases hib with ⟨rfl, rfl⟩ | ⟨rfl, rfl⟩ <;> decide
    · rcases hib with ⟨rfl, rfl⟩ | ⟨rfl, rfl⟩ <;> decide
  · exact absurd k1 (by decide)
theorem own_f3 {ia ib cv x y t : Int32} (hia : ia = 0 ∧ y = x ∨ ia = 1 ∧ y = t) (hib : ib = 0 ∧ x = 0 ∨ ib = 1 ∧ x = 1) (hcv : cv = 0 ∧ t = 1 ∨ cv = 1 ∧ (t = 2 ∨ t = 3)) (k1 : ia = 0) (k2 : cv = 0) (k3 : ib = 0) : own_m y t = 0 := by
  rcases hia with ⟨rfl, rfl⟩ | ⟨rfl, rfl⟩
  · rcases hcv with ⟨rfl, rfl⟩ | ⟨rfl, -⟩
    · rcases hib with ⟨rfl, rfl⟩ | ⟨rfl, rfl⟩
      · decide
      · exact absurd k3 (by decide)
    · exact absurd k2 (by decide)
  · exact absurd k1 (by decide)
theorem own_f4 {ia ib cv x y t : Int32} (hia : ia = 0 ∧ y = x ∨ ia = 1 ∧ y = t) (hib : ib = 0 ∧ x = 0 ∨ ib = 1 ∧ x = 1) (hcv : cv = 0 ∧ t = 1 ∨ cv = 1 ∧ (t = 2 ∨ t = 3)) (k1 : ia = 0) (k2 : cv = 0) (k3 : ¬ ib = 0) : own_m y t = 1 := by
  rcases hia with ⟨rfl, rfl⟩ | ⟨rfl, rfl⟩
  · rcases hcv with ⟨rfl, rfl⟩ | ⟨rfl, -⟩
    · rcases hib with ⟨rfl, rfl⟩ | ⟨rfl, rfl⟩
      · exact absurd rfl k3
      · decide
    · exact absurd k2 (by decide)
  · exact absurd k1 (by decide)

theorem own_d1_0 : decode prog_58_method_1_code 0 = .ok (.aload_n 0, 1) := by decide +kernel
theorem own_d1_1 : decode prog_58_method_1_code 1 = .ok (.invokespecial 1, 3) := by decide +kernel
theorem own_d1_4 : decode prog_58_method_1_code 4 = .ok (.aload_n 0, 1) := by decide +kernel
theorem own_d1_5 : decode prog_58_method_1_code 5 = .ok (.iconst 1, 1) := by decide +kernel
theorem own_d1_6 : decode prog_58_method_1_code 6 = .ok (.putfield 7, 3) := by decide +kernel
theorem own_d1_9 : decode prog_58_method_1_code 9 = .ok (.aload_n 0, 1) := by decide +kernel
theorem own_d1_10 : decode prog_58_method_1_code 10 = .ok (.iload_n 1, 1) := by decide +kernel
theorem own_d1_11 : decode prog_58_method_1_code 11 = .ok (.newarray .int, 2) := by decide +kernel
theorem own_d1_13 : decode prog_58_method_1_code 13 = .ok (.putfield 13, 3) := by decide +kernel
theorem own_d1_16 : decode prog_58_method_1_code 16 = .ok (.return_, 1) := by decide +kernel
theorem own_pn0 : plainName "com/example/diptych/diptych/solver/Marks" = true := by first | (simp [plainName, overriddenIn]; done) | decide +kernel
theorem own_ef1 (m : MethodId) (r0 : Addr) (p1 : Int32) : entryFrame m #[(.ref r0), (.int p1)] 2 = mkF m 0 #[.val (.ref r0), .val (.int p1)] [] := by first | (simp [entryFrame, mkF, argsToLocals, Value.category]; done) | rfl
def own_Q1 (Z : State) (r0 : Addr) (p1 : Int32)  (h0 : Heap) (n0 : Nat) (v : Option Value) (h : Heap) (L : List Loc) : Prop := ∃ (b : Addr) (k : ClassId), v = none ∧ Fr n0 L ∧ n0 ≤ b ∧ r0 ≠ b ∧ Keep h0 h [r0] ∧ Exa Z h r0 "com/example/diptych/diptych/solver/Marks" ∧ Fld Z h r0 "com/example/diptych/diptych/solver/Marks" "stamp" "I" (.int (1 : Int32)) ∧ Fld Z h r0 "com/example/diptych/diptych/solver/Marks" "stamps" "[I" (.ref b) ∧ Arv Z h b k .int 3 [(.int (0 : Int32)), (.int (0 : Int32)), (.int (0 : Int32))] (.int (0 : Int32))
set_option maxRecDepth 65536 in
set_option maxHeartbeats 40000000 in
theorem own_rm1 (l : Launch) (Z : State) (a0 : Array Value) (hw : ∀ d ∈ tables_1, d.before a0 Z = true) (ws : List Jvm.Cond) (r0 : Addr) (p1 : Int32)  (h0 : Heap) (n0 : Nat) (Z0 : n0 ≤ h0.size) (F0 : Fld Z h0 r0 "com/example/diptych/diptych/solver/Marks" "stamp" "I" (.int (0 : Int32))) (F1 : Fld Z h0 r0 "com/example/diptych/diptych/solver/Marks" "stamps" "[I" .null) (EX : Exa Z h0 r0 "com/example/diptych/diptych/solver/Marks") (G : n0 ≤ r0) (hp : p1 = 3) :
    MetFree l (⟨"com/example/diptych/diptych/solver/Marks", "<init>", "(I)V"⟩ : MethodName) (head1 (Jvm.Cond.code (⟨"com/example/diptych/diptych/solver/Marks", "<init>", "(I)V"⟩ : MethodName) prog_58_method_1_code 2 none :: ws) ({ frames := 1, cells := 1, slots := 3, locals := 12 } : Room)) (fun a U => a = #[(.ref r0), (.int p1)] ∧ Z.Warmed39 U.vm ∧ U.heap = h0) (fun _ _ _ _ _ => True) (fun _ U o U' => ∃ v L, o = .returned v ∧ own_Q1 Z r0 p1  h0 n0 v U'.heap L ∧ FrameEnd U o U' L ({ frames := 1, cells := 1, slots := 3, locals := 12 } : Room).cells ({ frames := 1, cells := 1, slots := 3, locals := 12 } : Room).slots) := by
  refine MetFree.of_bodySF (plainFor_of_name own_pn0) hisR ?_
  intro p e s m args below meth c s₁ Bd hml0 hP hK
  obtain ⟨rfl, hZ, hh⟩ := hP
  have hx := Bd.exec
  have hby := Bd.bytes
  have hml : c.maxLocals = 2 := hml0
  have hown : s.vm.findClass "com/example/diptych/diptych/solver/Marks" = some m.cls := findClass_of_methodNamed Bd.named
  have hnm := (name_of_methodNamed Bd.named Bd.method).1
  have X0 : Stand p l e ({ frames := 1, cells := 1, slots := 3, locals := 12 } : Room) s m #[(.ref r0), (.int p1)] below meth c s₁ [] 0 0 := Stand.of_body Bd
  have e0 : s₁.heap = h0 := by rw [← hh, Bd.state]; rfl
  have N0 := Fr.nil n0
  suffices H : own_Ends p e below s ({ frames := 1, cells := 1, slots := 3, locals := 12 } : Room).cells ({ frames := 1, cells := 1, slots := 3, locals := 12 } : Room).slots (own_Q1 Z r0 p1  h0 n0) (s₁.setTop (mkF m 0 #[.val (.ref r0), .val (.int p1)] [])) by
    obtain ⟨s₂, o, h1, h2⟩ := H
    exact ⟨s₂, o, castTop (own_ef1 m r0 p1) h1, h2⟩
  show own_Ends _ _ _ _ _ _ _ (s₁.setTop (mkF m 0 #[.val (.ref r0), .val (.int p1)] []))
  have Kp0 := Keep.refl h0 [r0]
  subst hp
  show own_Ends _ _ _ _ _ _ _ (s₁.setTop (mkF m 0 #[.val (.ref r0), .val (.int (3 : Int32))] []))
  refine own_step (fun _ k => XS.aloadN X0.here hx rfl (hb hby own_d1_0) rfl rfl k) ?_
  show own_Ends _ _ _ _ _ _ _ (s₁.setTop (mkF m 1 #[.val (.ref r0), .val (.int (3 : Int32))] [(.ref r0)]))
  obtain ⟨T1, X1, e1, st1⟩ := initO X0 hx hZ hown (hw _ (List.mem_of_getElem? (i := 7) rfl)) (hw _ (List.mem_of_getElem? (i := 8) rfl)) (hw _ (List.mem_of_getElem? (i := 9) rfl)) e0 (g := (mkF m 1 #[.val (.ref r0), .val (.int (3 : Int32))] [(.ref r0)])) rfl (by rw [hml]; rfl) rfl (hb hby own_d1_1) (by decide) (W := 0) (by show 2 * 0 + _ ≤ _; exact Nat.le_of_eq rfl) (by decide)
  refine own_step (fun _ k => st1 _ k) ?_
  show own_Ends _ _ _ _ _ _ _ (T1.setTop (mkF m 4 #[.val (.ref r0), .val (.int (3 : Int32))] []))
  refine own_step (fun _ k => XS.aloadN X1.here hx rfl (hb hby own_d1_4) rfl rfl k) ?_
  show own_Ends _ _ _ _ _ _ _ (T1.setTop (mkF m 5 #[.val (.ref r0), .val (.int (3 : Int32))] [(.ref r0)]))
  refine own_step (fun _ k => XS.iconst X1.here hx rfl (hb hby own_d1_5) k) ?_
  show own_Ends _ _ _ _ _ _ _ (T1.setTop (mkF m 6 #[.val (.ref r0), .val (.int (3 : Int32))] [(.int (1 : Int32)), (.ref r0)]))
  obtain ⟨T2, h2, X2, e2, W2, st2⟩ := putF X1 hx hZ hown (host := "") (Or.inl (hw _ (List.mem_of_getElem? (i := 10) rfl))) Via.refl e1 F0 EX (Or.inl (hw _ (List.mem_of_getElem? (i := 11) rfl))) (hw _ (List.mem_of_getElem? (i := 2) rfl)) (ty := .int) (by decide) rfl rfl (g := (mkF m 6 #[.val (.ref r0), .val (.int (3 : Int32))] [(.int (1 : Int32)), (.ref r0)])) rfl rfl (hb hby own_d1_6)
  have N2 := Fr.snoc X2 N0 G
  have F2_r0_stamps := Fld.other W2 F1 (Or.inr (RoadKit.slot_ne (Or.inr (hw _ (List.mem_of_getElem? (i := 14) rfl))) (Or.inl (hw _ (List.mem_of_getElem? (i := 11) rfl))) (by decide) (t := (.array .int)) (t' := .int) (by decide) (by decide)))
  have A2_r0 := Exa.wr W2 EX
  have Z2 := Nat.le_trans Z0 (Keep.of_wr W2).1
  have Kp2 := Kp0.wr W2 (Or.inl (List.mem_of_getElem? (i := 0) rfl))
  have F2_r0_stamp := Fld.same W2 F0
  refine own_step (fun _ k => st2 _ k) ?_
  show own_Ends _ _ _ _ _ _ _ (T2.setTop (mkF m 9 #[.val (.ref r0), .val (.int (3 : Int32))] []))
  refine own_step (fun _ k => XS.aloadN X2.here hx rfl (hb hby own_d1_9) rfl rfl k) ?_
  show own_Ends _ _ _ _ _ _ _ (T2.setTop (mkF m 10 #[.val (.ref r0), .val (.int (3 : Int32))] [(.ref r0)]))
  refine own_step (fun _ k => XS.iloadN X2.here hx rfl (hb hby own_d1_10) rfl k) ?_
  show own_Ends _ _ _ _ _ _ _ (T2.setTop (mkF m 11 #[.val (.ref r0), .val (.int (3 : Int32))] [(.int (3 : Int32)), (.ref r0)]))
  obtain ⟨T3, h3, k3, X3, e3, E3, A3, st3⟩ := newP X2 hx hZ (hw _ (List.mem_of_getElem? (i := 12) rfl)) e2 (g := (mkF m 11 #[.val (.ref r0), .val (.int (3 : Int32))] [(.int (3 : Int32)), (.ref r0)])) rfl (hb hby own_d1_11) rfl (by decide) (cap := 3) (by decide) (by decide) (by decide) (by decide)
  obtain ⟨b3, g3⟩ : ∃ z, z = h2.size := ⟨_, rfl⟩
  rw [← g3] at A3 st3
  have gn3 : n0 ≤ b3 := Nat.le_trans Z2 (Nat.le_of_eq g3.symm)
  have bo3 : h0.size ≤ b3 := Nat.le_trans Kp2.1 (Nat.le_of_eq g3.symm)
  have ne3_r0 : r0 ≠ b3 := Nat.ne_of_lt (Nat.lt_of_lt_of_le F2_r0_stamp.lt (Nat.le_of_eq g3.symm))
  have F3_r0_stamp := Fld.ext E3 F2_r0_stamp
  have F3_r0_stamps := Fld.ext E3 F2_r0_stamps
  have A3_r0 := Exa.ext E3 A2_r0
  have Z3 := Nat.le_trans Z2 E3.1
  have Kp3 := Kp2.ext E3
  have V3_b3 : Arv Z h3 b3 k3 .int (3 : Int32) [(.int (0 : Int32)), (.int (0 : Int32)), (.int (0 : Int32))] (.int (0 : Int32)) := (Arv.new A3 (by decide)).pad (pad_rep [] (.int (0 : Int32)) 3)
  refine own_step (fun _ k => st3 _ k) ?_
  show own_Ends _ _ _ _ _ _ _ (T3.setTop (mkF m 13 #[.val (.ref r0), .val (.int (3 : Int32))] [(.ref b3), (.ref r0)]))
  obtain ⟨T4, h4, X4, e4, W4, st4⟩ := putF X3 hx hZ hown (host := "") (Or.inl (hw _ (List.mem_of_getElem? (i := 13) rfl))) Via.refl e3 F3_r0_stamps A3_r0 (Or.inr ⟨(hw _ (List.mem_of_getElem? (i := 14) rfl)), rfl, hnm⟩) (hw _ (List.mem_of_getElem? (i := 2) rfl)) (ty := (.array .int)) (by decide) rfl rfl (g := (mkF m 13 #[.val (.ref r0), .val (.int (3 : Int32))] [(.ref b3), (.ref r0)])) rfl rfl (hb hby own_d1_13)
  have N4 := Fr.snoc X4 N2 G
  have F4_r0_stamp := Fld.other W4 F3_r0_stamp (Or.inr (RoadKit.slot_ne (Or.inl (hw _ (List.mem_of_getElem? (i := 11) rfl))) (Or.inr (hw _ (List.mem_of_getElem? (i := 14) rfl))) (by decide) (t := .int) (t' := (.array .int)) (by decide) (by decide)))
  have A4_r0 := Exa.wr W4 A3_r0
  have V4_b3 := Arv.other V3_b3 W4 (Ne.symm ne3_r0)
  have Z4 := Nat.le_trans Z3 (Keep.of_wr W4).1
  have Kp4 := Kp3.wr W4 (Or.inl (List.mem_of_getElem? (i := 0) rfl))
  have F4_r0_stamps := Fld.same W4 F3_r0_stamps
  refine own_step (fun _ k => st4 _ k) ?_
  show own_Ends _ _ _ _ _ _ _ (T4.setTop (mkF m 16 #[.val (.ref r0), .val (.int (3 : Int32))] []))
  refine own_ret X4 (BodyLoose.notSynchronized Bd) (v := none) (fun _ => rfl) ?_ (by decide) (by decide) (fun fs hr => X4.returnOut hx Bd.returns (hb hby own_d1_16) hr)
  show own_Q1 Z r0 3 h0 n0 none T4.heap _
  rw [e4]
  exact ⟨_, _, rfl, N4, gn3, ne3_r0, Kp4, A4_r0, F4_r0_stamp, F4_r0_stamps, V4_b3⟩
theorem own_d2_0 : decode prog_58_method_2_code 0 = .ok (.aload_n 0, 1) := by decide +kernel
theorem own_d2_1 : decode prog_58_method_2_code 1 = .ok (.dup, 1) := by decide +kernel
theorem own_d2_2 : decode prog_58_method_2_code 2 = .ok (.getfield 7, 3) := by decide +kernel
theorem own_d2_5 : decode prog_58_method_2_code 5 = .ok (.iconst 1, 1) := by decide +kernel
theorem own_d2_6 : decode prog_58_method_2_code 6 = .ok (.iadd, 1) := by decide +kernel
theorem own_d2_7 : decode prog_58_method_2_code 7 = .ok (.dup_x1, 1) := by decide +kernel
theorem own_d2_8 : decode prog_58_method_2_code 8 = .ok (.putfield 7, 3) := by decide +kernel
theorem own_d2_11 : decode prog_58_method_2_code 11 = .ok (.ldc 19, 2) := by decide +kernel
theorem own_d2_13 : decode prog_58_method_2_code 13 = .ok (.if_icmp .ne 16, 3) := by decide +kernel
theorem own_d2_16 : decode prog_58_method_2_code 16 = .ok (.aload_n 0, 1) := by decide +kernel
theorem own_d2_17 : decode prog_58_method_2_code 17 = .ok (.getfield 13, 3) := by decide +kernel
theorem own_d2_20 : decode prog_58_method_2_code 20 = .ok (.iconst 0, 1) := by decide +kernel
theorem own_d2_21 : decode prog_58_method_2_code 21 = .ok (.invokestatic 20, 3) := by decide +kernel
theorem own_d2_24 : decode prog_58_method_2_code 24 = .ok (.aload_n 0, 1) := by decide +kernel
theorem own_d2_25 : decode prog_58_method_2_code 25 = .ok (.iconst 1, 1) := by decide +kernel
theorem own_d2_26 : decode prog_58_method_2_code 26 = .ok (.putfield 7, 3) := by decide +kernel
theorem own_d2_29 : decode prog_58_method_2_code 29 = .ok (.return_, 1) := by decide +kernel
theorem own_ef2 (m : MethodId) (r0 : Addr) : entryFrame m #[(.ref r0)] 1 = mkF m 0 #[.val (.ref r0)] [] := by first | (simp [entryFrame, mkF, argsToLocals, Value.category]; done) | rfl
def own_Q2 (Z : State) (r0 : Addr) (b : Addr) (sv : Int32) (h0 : Heap) (n0 : Nat) (v : Option Value) (h : Heap) (L : List Loc) : Prop := v = none ∧ Fr n0 L ∧ Keep h0 h [r0] ∧ Exa Z h r0 "com/example/diptych/diptych/solver/Marks" ∧ Fld Z h r0 "com/example/diptych/diptych/solver/Marks" "stamp" "I" (.int (sv + 1)) ∧ Fld Z h r0 "com/example/diptych/diptych/solver/Marks" "stamps" "[I" (.ref b)
set_option maxRecDepth 65536 in
set_option maxHeartbeats 40000000 in
theorem own_rm2 (l : Launch) (Z : State) (a0 : Array Value) (hw : ∀ d ∈ tables_1, d.before a0 Z = true) (ws : List Jvm.Cond) (r0 : Addr) (b : Addr) (sv : Int32) (h0 : Heap) (n0 : Nat) (Z0 : n0 ≤ h0.size) (F0 : Fld Z h0 r0 "com/example/diptych/diptych/solver/Marks" "stamp" "I" (.int sv)) (F1 : Fld Z h0 r0 "com/example/diptych/diptych/solver/Marks" "stamps" "[I" (.ref b)) (EX : Exa Z h0 r0 "com/example/diptych/diptych/solver/Marks") (G : n0 ≤ r0) (hmx : ¬ sv + 1 = 2147483647) :
    MetFree l (⟨"com/example/diptych/diptych/solver/Marks", "clear", "()V"⟩ : MethodName) (head1 (Jvm.Cond.code (⟨"com/example/diptych/diptych/solver/Marks", "clear", "()V"⟩ : MethodName) prog_58_method_2_code 1 none :: ws) ({ frames := 0, cells := 0, slots := 0, locals := 0 } : Room)) (fun a U => a = #[(.ref r0)] ∧ Z.Warmed39 U.vm ∧ U.heap = h0) (fun _ _ _ _ _ => True) (fun _ U o U' => ∃ v L, o = .returned v ∧ own_Q2 Z r0 b sv h0 n0 v U'.heap L ∧ FrameEnd U o U' L ({ frames := 0, cells := 0, slots := 0, locals := 0 } : Room).cells ({ frames := 0, cells := 0, slots := 0, locals := 0 } : Room).slots) := by
  refine MetFree.of_bodySF (plainFor_of_name own_pn0) hisR ?_
  intro p e s m args below meth c s₁ Bd hml0 hP hK
  obtain ⟨rfl, hZ, hh⟩ := hP
  have hx := Bd.exec
  have hby := Bd.bytes
  have hml : c.maxLocals = 1 := hml0
  have hown : s.vm.findClass "com/example/diptych/diptych/solver/Marks" = some m.cls := findClass_of_methodNamed Bd.named
  have hnm := (name_of_methodNamed Bd.named Bd.method).1
  have X0 : Stand p l e ({ frames := 0, cells := 0, slots := 0, locals := 0 } : Room) s m #[(.ref r0)] below meth c s₁ [] 0 0 := Stand.of_body Bd
  have e0 : s₁.heap = h0 := by rw [← hh, Bd.state]; rfl
  have N0 := Fr.nil n0
  suffices H : own_Ends p e below s ({ frames := 0, cells := 0, slots := 0, locals := 0 } : Room).cells ({ frames := 0, cells := 0, slots := 0, locals := 0 } : Room).slots (own_Q2 Z r0 b sv h0 n0) (s₁.setTop (mkF m 0 #[.val (.ref r0)] [])) by
    obtain ⟨s₂, o, h1, h2⟩ := H
    exact ⟨s₂, o, castTop (own_ef2 m r0) h1, h2⟩
  show own_Ends _ _ _ _ _ _ _ (s₁.setTop (mkF m 0 #[.val (.ref r0)] []))
  have Kp0 := Keep.refl h0 [r0]
  refine own_step (fun _ k => XS.aloadN X0.here hx rfl (hb hby own_d2_0) rfl rfl k) ?_
  show own_Ends _ _ _ _ _ _ _ (s₁.setTop (mkF m 1 #[.val (.ref r0)] [(.ref r0)]))
  refine own_step (fun _ k => XS.dup X0.here hx rfl (hb hby own_d2_1) rfl rfl k) ?_
  show own_Ends _ _ _ _ _ _ _ (s₁.setTop (mkF m 2 #[.val (.ref r0)] [(.ref r0), (.ref r0)]))
  obtain ⟨T5, X5, e5, st5⟩ := getF X0 hx hZ hown (host := "") (Or.inl (hw _ (List.mem_of_getElem? (i := 10) rfl))) Via.refl e0 F0 (g := (mkF m 2 #[.val (.ref r0)] [(.ref r0), (.ref r0)])) rfl rfl (hb hby own_d2_2)
  refine own_step (fun _ k => st5 _ k) ?_
  show own_Ends _ _ _ _ _ _ _ (T5.setTop (mkF m 5 #[.val (.ref r0)] [(.int sv), (.ref r0)]))
  refine own_step (fun _ k => XS.iconst X5.here hx rfl (hb hby own_d2_5) k) ?_
  show own_Ends _ _ _ _ _ _ _ (T5.setTop (mkF m 6 #[.val (.ref r0)] [(.int (1 : Int32)), (.int sv), (.ref r0)]))
  refine own_step (fun _ k => XS.iadd X5.here hx rfl (hb hby own_d2_6) rfl k) ?_
  show own_Ends _ _ _ _ _ _ _ (T5.setTop (mkF m 7 #[.val (.ref r0)] [(.int (sv + (1 : Int32))), (.ref r0)]))
  refine own_step (fun _ k => XS.dupX1 X5.here hx rfl (hb hby own_d2_7) rfl rfl rfl k) ?_
  show own_Ends _ _ _ _ _ _ _ (T5.setTop (mkF m 8 #[.val (.ref r0)] [(.int (sv + (1 : Int32))), (.ref r0), (.int (sv + (1 : Int32)))]))
  obtain ⟨T6, h6, X6, e6, W6, st6⟩ := putF X5 hx hZ hown (host := "") (Or.inl (hw _ (List.mem_of_getElem? (i := 10) rfl))) Via.refl e5 F0 EX (Or.inl (hw _ (List.mem_of_getElem? (i := 11) rfl))) (hw _ (List.mem_of_getElem? (i := 2) rfl)) (ty := .int) (by decide) rfl rfl (g := (mkF m 8 #[.val (.ref r0)] [(.int (sv + (1 : Int32))), (.ref r0), (.int (sv + (1 : Int32)))])) rfl rfl (hb hby own_d2_8)
  have N6 := Fr.snoc X6 N0 G
  have F6_r0_stamps := Fld.other W6 F1 (Or.inr (RoadKit.slot_ne (Or.inr (hw _ (List.mem_of_getElem? (i := 14) rfl))) (Or.inl (hw _ (List.mem_of_getElem? (i := 11) rfl))) (by decide) (t := (.array .int)) (t' := .int) (by decide) (by decide)))
  have A6_r0 := Exa.wr W6 EX
  have Z6 := Nat.le_trans Z0 (Keep.of_wr W6).1
  have Kp6 := Kp0.wr W6 (Or.inl (List.mem_of_getElem? (i := 0) rfl))
  have F6_r0_stamp := Fld.same W6 F0
  refine own_step (fun _ k => st6 _ k) ?_
  show own_Ends _ _ _ _ _ _ _ (T6.setTop (mkF m 11 #[.val (.ref r0)] [(.int (sv + (1 : Int32)))]))
  refine own_step (fun _ k => X6.ldcInt hx hown (mvT hZ (hw _ (List.mem_of_getElem? (i := 20) rfl))) (g := (mkF m 11 #[.val (.ref r0)] [(.int (sv + (1 : Int32)))])) rfl (hb hby own_d2_11) _ k) ?_
  show own_Ends _ _ _ _ _ _ _ (T6.setTop (mkF m 13 #[.val (.ref r0)] [(.int (2147483647 : Int32)), (.int (sv + (1 : Int32)))]))
  refine own_step (fun _ k => XS.icmpYes X6.here hx rfl (pc0 := 13) (pc' := 29) rfl (hb hby own_d2_13) rfl (feq hmx).2 (by decide) (by decide) k) ?_
  show own_Ends _ _ _ _ _ _ _ (T6.setTop (mkF m 29 #[.val (.ref r0)] []))
  refine own_ret X6 (BodyLoose.notSynchronized Bd) (v := none) (fun _ => rfl) ?_ (by decide) (by decide) (fun fs hr => X6.returnOut hx Bd.returns (hb hby own_d2_29) hr)
  show own_Q2 Z r0 b sv h0 n0 none T6.heap _
  rw [e6]
  exact ⟨rfl, N6, Kp6, A6_r0, F6_r0_stamp, F6_r0_stamps⟩
theorem own_d3_0 : decode prog_58_method_4_code 0 = .ok (.aload_n 0, 1) := by decide +kernel
theorem own_d3_1 : decode prog_58_method_4_code 1 = .ok (.getfield 13, 3) := by decide +kernel
theorem own_d3_4 : decode prog_58_method_4_code 4 = .ok (.iload_n 1, 1) := by decide +kernel
theorem own_d3_5 : decode prog_58_method_4_code 5 = .ok (.aload_n 0, 1) := by decide +kernel
theorem own_d3_6 : decode prog_58_method_4_code 6 = .ok (.getfield 7, 3) := by decide +kernel
theorem own_d3_9 : decode prog_58_method_4_code 9 = .ok (.iastore, 1) := by decide +kernel
theorem own_d3_10 : decode prog_58_method_4_code 10 = .ok (.return_, 1) := by decide +kernel
theorem own_ef3 (m : MethodId) (r0 : Addr) (p1 : Int32) : entryFrame m #[(.ref r0), (.int p1)] 2 = mkF m 0 #[.val (.ref r0), .val (.int p1)] [] := by first | (simp [entryFrame, mkF, argsToLocals, Value.category]; done) | rfl
def own_Q3 (Z : State) (r0 : Addr) (p1 : Int32) (b : Addr) (cl : Cell) (sv : Int32) (h0 : Heap) (n0 : Nat) (v : Option Value) (h : Heap) (L : List Loc) : Prop := v = none ∧ Fr n0 L ∧ Wr h0 h b p1.toNatClampNeg (.int sv)
set_option maxRecDepth 65536 in
set_option maxHeartbeats 40000000 in
theorem own_rm3 (l : Launch) (Z : State) (a0 : Array Value) (hw : ∀ d ∈ tables_1, d.before a0 Z = true) (ws : List Jvm.Cond) (r0 : Addr) (p1 : Int32) (b : Addr) (cl : Cell) (sv : Int32) (h0 : Heap) (n0 : Nat) (Z0 : n0 ≤ h0.size) (F0 : Fld Z h0 r0 "com/example/diptych/diptych/solver/Marks" "stamp" "I" (.int sv)) (F1 : Fld Z h0 r0 "com/example/diptych/diptych/solver/Marks" "stamps" "[I" (.ref b)) (Ar : Arr Z h0 b cl .int) (hin : ¬ (p1 < 0 ∨ cl.slots.size ≤ p1.toNatClampNeg)) (Gb : n0 ≤ b) :
    MetFree l (⟨"com/example/diptych/diptych/solver/Marks", "mark", "(I)V"⟩ : MethodName) (head1 (Jvm.Cond.code (⟨"com/example/diptych/diptych/solver/Marks", "mark", "(I)V"⟩ : MethodName) prog_58_method_4_code 2 none :: ws) ({ frames := 0, cells := 0, slots := 0, locals := 0 } : Room)) (fun a U => a = #[(.ref r0), (.int p1)] ∧ Z.Warmed39 U.vm ∧ U.heap = h0) (fun _ _ _ _ _ => True) (fun _ U o U' => ∃ v L, o = .returned v ∧ own_Q3 Z r0 p1 b cl sv h0 n0 v U'.heap L ∧ FrameEnd U o U' L ({ frames := 0, cells := 0, slots := 0, locals := 0 } : Room).cells ({ frames := 0, cells := 0, slots := 0, locals := 0 } : Room).slots) := by
  refine MetFree.of_bodySF (plainFor_of_name own_pn0) hisR ?_
  intro p e s m args below meth c s₁ Bd hml0 hP hK
  obtain ⟨rfl, hZ, hh⟩ := hP
  have hx := Bd.exec
  have hby := Bd.bytes
  have hml : c.maxLocals = 2 := hml0
  have hown : s.vm.findClass "com/example/diptych/diptych/solver/Marks" = some m.cls := findClass_of_methodNamed Bd.named
  have hnm := (name_of_methodNamed Bd.named Bd.method).1
  have X0 : Stand p l e ({ frames := 0, cells := 0, slots := 0, locals := 0 } : Room) s m #[(.ref r0), (.int p1)] below meth c s₁ [] 0 0 := Stand.of_body Bd
  have e0 : s₁.heap = h0 := by rw [← hh, Bd.state]; rfl
  have N0 := Fr.nil n0
  suffices H : own_Ends p e below s ({ frames := 0, cells := 0, slots := 0, locals := 0 } : Room).cells ({ frames := 0, cells := 0, slots := 0, locals := 0 } : Room).slots (own_Q3 Z r0 p1 b cl sv h0 n0) (s₁.setTop (mkF m 0 #[.val (.ref r0), .val (.int p1)] [])) by
    obtain ⟨s₂, o, h1, h2⟩ := H
    exact ⟨s₂, o, castTop (own_ef3 m r0 p1) h1, h2⟩
  show own_Ends _ _ _ _ _ _ _ (s₁.setTop (mkF m 0 #[.val (.ref r0), .val (.int p1)] []))
  refine own_step (fun _ k => XS.aloadN X0.here hx rfl (hb hby own_d3_0) rfl rfl k) ?_
  show own_Ends _ _ _ _ _ _ _ (s₁.setTop (mkF m 1 #[.val (.ref r0), .val (.int p1)] [(.ref r0)]))
  obtain ⟨T7, X7, e7, st7⟩ := getF X0 hx hZ hown (host := "") (Or.inl (hw _ (List.mem_of_getElem? (i := 13) rfl))) Via.refl e0 F1 (g := (mkF m 1 #[.val (.ref r0), .val (.int p1)] [(.ref r0)])) rfl rfl (hb hby own_d3_1)
  refine own_step (fun _ k => st7 _ k) ?_
  show own_Ends _ _ _ _ _ _ _ (T7.setTop (mkF m 4 #[.val (.ref r0), .val (.int p1)] [(.ref b)]))
  refine own_step (fun _ k => XS.iloadN X7.here hx rfl (hb hby own_d3_4) rfl k) ?_
  show own_Ends _ _ _ _ _ _ _ (T7.setTop (mkF m 5 #[.val (.ref r0), .val (.int p1)] [(.int p1), (.ref b)]))
  refine own_step (fun _ k => XS.aloadN X7.here hx rfl (hb hby own_d3_5) rfl rfl k) ?_
  show own_Ends _ _ _ _ _ _ _ (T7.setTop (mkF m 6 #[.val (.ref r0), .val (.int p1)] [(.ref r0), (.int p1), (.ref b)]))
  obtain ⟨T8, X8, e8, st8⟩ := getF X7 hx hZ hown (host := "") (Or.inl (hw _ (List.mem_of_getElem? (i := 10) rfl))) Via.refl e7 F0 (g := (mkF m 6 #[.val (.ref r0), .val (.int p1)] [(.ref r0), (.int p1), (.ref b)])) rfl rfl (hb hby own_d3_6)
  refine own_step (fun _ k => st8 _ k) ?_
  show own_Ends _ _ _ _ _ _ _ (T8.setTop (mkF m 9 #[.val (.ref r0), .val (.int p1)] [(.int sv), (.int p1), (.ref b)]))
  obtain ⟨Tw, hw', Xw, ew, Ww, stw⟩ := stI X8 hx hZ e8 Ar (j := p1) hin (g := (mkF m 9 #[.val (.ref r0), .val (.int p1)] [(.int sv), (.int p1), (.ref b)])) rfl rfl (hb hby own_d3_9)
  have Nw := Fr.snoc Xw N0 Gb
  refine own_step (fun _ k => stw _ k) ?_
  show own_Ends _ _ _ _ _ _ _ (Tw.setTop (mkF m 10 #[.val (.ref r0), .val (.int p1)] []))
  refine own_ret Xw (BodyLoose.notSynchronized Bd) (v := none) (fun _ => rfl) ?_ (by decide) (by decide) (fun fs hr => Xw.returnOut hx Bd.returns (hb hby own_d3_10) hr)
  show own_Q3 Z r0 p1 b cl sv h0 n0 none Tw.heap _
  rw [ew]
  exact ⟨rfl, Nw, Ww⟩
theorem own_d4_0 : decode prog_58_method_3_code 0 = .ok (.aload_n 0, 1) := by decide +kernel
theorem own_d4_1 : decode prog_58_method_3_code 1 = .ok (.getfield 13, 3) := by decide +kernel
theorem own_d4_4 : decode prog_58_method_3_code 4 = .ok (.iload_n 1, 1) := by decide +kernel
theorem own_d4_5 : decode prog_58_method_3_code 5 = .ok (.iaload, 1) := by decide +kernel
theorem own_d4_6 : decode prog_58_method_3_code 6 = .ok (.aload_n 0, 1) := by decide +kernel
theorem own_d4_7 : decode prog_58_method_3_code 7 = .ok (.getfield 7, 3) := by decide +kernel
theorem own_d4_10 : decode prog_58_method_3_code 10 = .ok (.if_icmp .ne 7, 3) := by decide +kernel
theorem own_d4_13 : decode prog_58_method_3_code 13 = .ok (.iconst 1, 1) := by decide +kernel
theorem own_d4_14 : decode prog_58_method_3_code 14 = .ok (.goto 4, 3) := by decide +kernel
theorem own_d4_17 : decode prog_58_method_3_code 17 = .ok (.iconst 0, 1) := by decide +kernel
theorem own_d4_18 : decode prog_58_method_3_code 18 = .ok (.ireturn, 1) := by decide +kernel
theorem own_ef4 (m : MethodId) (r0 : Addr) (p1 : Int32) : entryFrame m #[(.ref r0), (.int p1)] 2 = mkF m 0 #[.val (.ref r0), .val (.int p1)] [] := by first | (simp [entryFrame, mkF, argsToLocals, Value.category]; done) | rfl
def own_Q4 (Z : State) (r0 : Addr) (p1 : Int32) (b : Addr) (cl : Cell) (y sv : Int32) (h0 : Heap) (n0 : Nat) (v : Option Value) (h : Heap) (L : List Loc) : Prop := v = some (.int (own_m y sv)) ∧ Fr n0 L ∧ h = h0
set_option maxRecDepth 65536 in
set_option maxHeartbeats 40000000 in
theorem own_rm4 (l : Launch) (Z : State) (a0 : Array Value) (hw : ∀ d ∈ tables_1, d.before a0 Z = true) (ws : List Jvm.Cond) (r0 : Addr) (p1 : Int32) (b : Addr) (cl : Cell) (y sv : Int32) (h0 : Heap) (n0 : Nat) (Z0 : n0 ≤ h0.size) (F0 : Fld Z h0 r0 "com/example/diptych/diptych/solver/Marks" "stamp" "I" (.int sv)) (F1 : Fld Z h0 r0 "com/example/diptych/diptych/solver/Marks" "stamps" "[I" (.ref b)) (Ar : Arr Z h0 b cl .int) (hin : ¬ (p1 < 0 ∨ cl.slots.size ≤ p1.toNatClampNeg)) (hat : cl.slots[p1.toNatClampNeg]? = some (.int y)) :
    MetFree l (⟨"com/example/diptych/diptych/solver/Marks", "marked", "(I)Z"⟩ : MethodName) (head1 (Jvm.Cond.code (⟨"com/example/diptych/diptych/solver/Marks", "marked", "(I)Z"⟩ : MethodName) prog_58_method_3_code 2 (some .boolean) :: ws) ({ frames := 0, cells := 0, slots := 0, locals := 0 } : Room)) (fun a U => a = #[(.ref r0), (.int p1)] ∧ Z.Warmed39 U.vm ∧ U.heap = h0) (fun _ _ _ _ _ => True) (fun _ U o U' => ∃ v L, o = .returned v ∧ own_Q4 Z r0 p1 b cl y sv h0 n0 v U'.heap L ∧ FrameEnd U o U' L ({ frames := 0, cells := 0, slots := 0, locals := 0 } : Room).cells ({ frames := 0, cells := 0, slots := 0, locals := 0 } : Room).slots) := by
  refine MetFree.of_bodySF (plainFor_of_name own_pn0) hisR ?_
  intro p e s m args below meth c s₁ Bd hml0 hP hK
  obtain ⟨rfl, hZ, hh⟩ := hP
  have hx := Bd.exec
  have hby := Bd.bytes
  have hml : c.maxLocals = 2 := hml0
  have hown : s.vm.findClass "com/example/diptych/diptych/solver/Marks" = some m.cls := findClass_of_methodNamed Bd.named
  have hnm := (name_of_methodNamed Bd.named Bd.method).1
  have X0 : Stand p l e ({ frames := 0, cells := 0, slots := 0, locals := 0 } : Room) s m #[(.ref r0), (.int p1)] below meth c s₁ [] 0 0 := Stand.of_body Bd
  have e0 : s₁.heap = h0 := by rw [← hh, Bd.state]; rfl
  have N0 := Fr.nil n0
  suffices H : own_Ends p e below s ({ frames := 0, cells := 0, slots := 0, locals := 0 } : Room).cells ({ frames := 0, cells := 0, slots := 0, locals := 0 } : Room).slots (own_Q4 Z r0 p1 b cl y sv h0 n0) (s₁.setTop (mkF m 0 #[.val (.ref r0), .val (.int p1)] [])) by
    obtain ⟨s₂, o, h1, h2⟩ := H
    exact ⟨s₂, o, castTop (own_ef4 m r0 p1) h1, h2⟩
  show own_Ends _ _ _ _ _ _ _ (s₁.setTop (mkF m 0 #[.val (.ref r0), .val (.int p1)] []))
  refine own_step (fun _ k => XS.aloadN X0.here hx rfl (hb hby own_d4_0) rfl rfl k) ?_
  show own_Ends _ _ _ _ _ _ _ (s₁.setTop (mkF m 1 #[.val (.ref r0), .val (.int p1)] [(.ref r0)]))
  obtain ⟨T9, X9, e9, st9⟩ := getF X0 hx hZ hown (host := "") (Or.inl (hw _ (List.mem_of_getElem? (i := 13) rfl))) Via.refl e0 F1 (g := (mkF m 1 #[.val (.ref r0), .val (.int p1)] [(.ref r0)])) rfl rfl (hb hby own_d4_1)
  refine own_step (fun _ k => st9 _ k) ?_
  show own_Ends _ _ _ _ _ _ _ (T9.setTop (mkF m 4 #[.val (.ref r0), .val (.int p1)] [(.ref b)]))
  refine own_step (fun _ k => XS.iloadN X9.here hx rfl (hb hby own_d4_4) rfl k) ?_
  show own_Ends _ _ _ _ _ _ _ (T9.setTop (mkF m 5 #[.val (.ref r0), .val (.int p1)] [(.int p1), (.ref b)]))
  refine own_step (fun _ k => X9.iaload hx (j := p1) (v := (.int y)) (by rw [e9]; exact Ar.1) (State.isArrayOf_alike hZ.alike Ar.2.1) Ar.2.2 hin hat (g := (mkF m 5 #[.val (.ref r0), .val (.int p1)] [(.int p1), (.ref b)])) rfl rfl (hb hby own_d4_5) _ k) ?_
  show own_Ends _ _ _ _ _ _ _ (T9.setTop (mkF m 6 #[.val (.ref r0), .val (.int p1)] [(.int y)]))
  refine own_step (fun _ k => XS.aloadN X9.here hx rfl (hb hby own_d4_6) rfl rfl k) ?_
  show own_Ends _ _ _ _ _ _ _ (T9.setTop (mkF m 7 #[.val (.ref r0), .val (.int p1)] [(.ref r0), (.int y)]))
  obtain ⟨T10, X10, e10, st10⟩ := getF X9 hx hZ hown (host := "") (Or.inl (hw _ (List.mem_of_getElem? (i := 10) rfl))) Via.refl e9 F0 (g := (mkF m 7 #[.val (.ref r0), .val (.int p1)] [(.ref r0), (.int y)])) rfl rfl (hb hby own_d4_7)
  refine own_step (fun _ k => st10 _ k) ?_
  show own_Ends _ _ _ _ _ _ _ (T10.setTop (mkF m 10 #[.val (.ref r0), .val (.int p1)] [(.int sv), (.int y)]))
  by_cases h1 : y = sv
  · refine own_step (fun _ k => XS.icmpNo X10.here hx rfl (hb hby own_d4_10) rfl (teq h1).2 k) ?_
    show own_Ends _ _ _ _ _ _ _ (T10.setTop (mkF m 13 #[.val (.ref r0), .val (.int p1)] []))
    refine own_step (fun _ k => XS.iconst X10.here hx rfl (hb hby own_d4_13) k) ?_
    show own_Ends _ _ _ _ _ _ _ (T10.setTop (mkF m 14 #[.val (.ref r0), .val (.int p1)] [(.int (1 : Int32))]))
    refine own_step (fun _ k => XS.goto X10.here hx rfl (pc0 := 14) (pc' := 18) rfl (hb hby own_d4_14) (by decide) (by decide) k) ?_
    show own_Ends _ _ _ _ _ _ _ (T10.setTop (mkF m 18 #[.val (.ref r0), .val (.int p1)] [(.int (1 : Int32))]))
    refine own_ret X10 (BodyLoose.notSynchronized Bd) (v := (some (.int (1 : Int32)))) (fun h => by rw [Bd.returns] at h; cases h) ?_ (by decide) (by decide) (fun fs hr => X10.ireturnOut hx Bd.returns rfl (by simp) (hb hby own_d4_18) hr)
    show own_Q4 Z r0 p1 b cl y sv h0 n0 (some (.int (1 : Int32))) T10.heap _
    rw [e10]
    exact ⟨by simp [own_m, h1], N0, rfl⟩
  · refine own_step (fun _ k => XS.icmpYes X10.here hx rfl (pc0 := 10) (pc' := 17) rfl (hb hby own_d4_10) rfl (feq h1).2 (by decide) (by decide) k) ?_
    show own_Ends _ _ _ _ _ _ _ (T10.setTop (mkF m 17 #[.val (.ref r0), .val (.int p1)] []))
    refine own_step (fun _ k => XS.iconst X10.here hx rfl (hb hby own_d4_17) k) ?_
    show own_Ends _ _ _ _ _ _ _ (T10.setTop (mkF m 18 #[.val (.ref r0), .val (.int p1)] [(.int (0 : Int32))]))
    refine own_ret X10 (BodyLoose.notSynchronized Bd) (v := (some (.int (0 : Int32)))) (fun h => by rw [Bd.returns] at h; cases h) ?_ (by decide) (by decide) (fun fs hr => X10.ireturnOut hx Bd.returns rfl (by simp) (hb hby own_d4_18) hr)
    show own_Q4 Z r0 p1 b cl y sv h0 n0 (some (.int (0 : Int32))) T10.heap _
    rw [e10]
    exact ⟨by simp [own_m, h1], N0, rfl⟩
theorem own_pn1 : plainName "com/example/diptych/diptych/solver/MarksMarkedPinLaw" = true := by first | (simp [plainName, overriddenIn]; done) | decide +kernel
theorem own_ef0 (m : MethodId) (p0 : Int32) (p1 : Int32) (p2 : Int32) (p3 : Int32) : entryFrame m #[(.int p0), (.int p1), (.int p2), (.int p3)] maxLocals = mkF m 0 #[.val (.int p0), .val (.int p1), .val (.int p2), .val (.int p3), .unset, .unset, .unset, .unset, .unset, .unset, .unset, .unset] [] := by first | (simp [entryFrame, mkF, argsToLocals, Value.category, maxLocals]; done) | rfl
theorem own_pd0 : parseMethodDescriptor "(I)V" = some ⟨[.int], none⟩ := by decide +kernel
theorem own_pd1 : parseMethodDescriptor "()V" = some ⟨[], none⟩ := by decide +kernel
theorem own_pd2 : parseMethodDescriptor "(I)Z" = some ⟨[.int], some .boolean⟩ := by decide +kernel
def own_Q0 (Z : State) (p0 : Int32) (p1 : Int32) (p2 : Int32) (p3 : Int32)  (h0 : Heap) (n0 : Nat) (v : Option Value) (h : Heap) (L : List Loc) : Prop := v = some (.int 1) ∧ Fr n0 L
set_option maxRecDepth 65536 in
set_option maxHeartbeats 40000000 in
theorem own_rm0 (l : Launch) (Z : State) (a0 : Array Value) (hw : ∀ d ∈ tables_1, d.before a0 Z = true) (ws : List Jvm.Cond) (p0 : Int32) (p1 : Int32) (p2 : Int32) (p3 : Int32)  (h0 : Heap) (n0 : Nat) (Z0 : n0 ≤ h0.size)  :
    MetFree l x (head1 (Jvm.Cond.code x code maxLocals ret :: ws) room_1) (fun a U => a = #[(.int p0), (.int p1), (.int p2), (.int p3)] ∧ Z.Warmed39 U.vm ∧ U.heap = h0) (fun _ _ _ _ _ => True) (fun _ U o U' => ∃ v L, o = .returned v ∧ own_Q0 Z p0 p1 p2 p3  h0 n0 v U'.heap L ∧ FrameEnd U o U' L 2 5) := by
  refine MetFree.of_bodySF (plainFor_of_name own_pn1) hisR ?_
  intro p e s m args below meth c s₁ Bd hml0 hP hK
  obtain ⟨rfl, hZ, hh⟩ := hP
  have hx := Bd.exec
  have hby := Bd.bytes
  have hml : c.maxLocals = 12 := hml0
  have hown : s.vm.findClass "com/example/diptych/diptych/solver/MarksMarkedPinLaw" = some m.cls := findClass_of_methodNamed Bd.named
  have hnm := (name_of_methodNamed Bd.named Bd.method).1
  have X0 : Stand p l e room_1 s m #[(.int p0), (.int p1), (.int p2), (.int p3)] below meth c s₁ [] 0 0 := Stand.of_body Bd
  have e0 : s₁.heap = h0 := by rw [← hh, Bd.state]; rfl
  have N0 := Fr.nil n0
  suffices H : own_Ends p e below s 2 5 (own_Q0 Z p0 p1 p2 p3  h0 n0) (s₁.setTop (mkF m 0 #[.val (.int p0), .val (.int p1), .val (.int p2), .val (.int p3), .unset, .unset, .unset, .unset, .unset, .unset, .unset, .unset] [])) by
    obtain ⟨s₂, o, h1, h2⟩ := H
    exact ⟨s₂, o, castTop (own_ef0 m p0 p1 p2 p3) h1, h2⟩
  show own_Ends _ _ _ _ _ _ _ (s₁.setTop (mkF m 0 #[.val (.int p0), .val (.int p1), .val (.int p2), .val (.int p3), .unset, .unset, .unset, .unset, .unset, .unset, .unset, .unset] []))
  refine own_step (fun _ k => XS.iloadN X0.here hx rfl (hb hby at_0) rfl k) ?_
  show own_Ends _ _ _ _ _ _ _ (s₁.setTop (mkF m 1 #[.val (.int p0), .val (.int p1), .val (.int p2), .val (.int p3), .unset, .unset, .unset, .unset, .unset, .unset, .unset, .unset] [(.int p0)]))
  refine own_step (fun _ k => XS.bipush X0.here hx rfl (hb hby at_1) k) ?_
  show own_Ends _ _ _ _ _ _ _ (s₁.setTop (mkF m 3 #[.val (.int p0), .val (.int p1), .val (.int p2), .val (.int p3), .unset, .unset, .unset, .unset, .unset, .unset, .unset, .unset] [(.int (7 : Int32)), (.int p0)]))
  refine own_step (fun _ k => XS.iand X0.here hx rfl (hb hby at_3) rfl k) ?_
  show own_Ends _ _ _ _ _ _ _ (s₁.setTop (mkF m 4 #[.val (.int p0), .val (.int p1), .val (.int p2), .val (.int p3), .unset, .unset, .unset, .unset, .unset, .unset, .unset, .unset] [(.int (p0 &&& (7 : Int32)))]))
  have hbf := own_oct p0 _ rfl
  generalize (p0 &&& (7 : Int32)) = bf at hbf ⊢
  refine own_step (fun _ k => XS.istore X0.here hx rfl (hb hby at_4) rfl (l' := #[.val (.int p0), .val (.int p1), .val (.int p2), .val (.int p3), .val (.int bf), .unset, .unset, .unset, .unset, .unset, .unset, .unset]) rfl k) ?_
  show own_Ends _ _ _ _ _ _ _ (s₁.setTop (mkF m 6 #[.val (.int p0), .val (.int p1), .val (.int p2), .val (.int p3), .val (.int bf), .unset, .unset, .unset, .unset, .unset, .unset, .unset] []))
  refine own_step (fun _ k => XS.iloadN X0.here hx rfl (hb hby at_6) rfl k) ?_
  show own_Ends _ _ _ _ _ _ _ (s₁.setTop (mkF m 7 #[.val (.int p0), .val (.int p1), .val (.int p2), .val (.int p3), .val (.int bf), .unset, .unset, .unset, .unset, .unset, .unset, .unset] [(.int p1)]))
  refine own_step (fun _ k => XS.bipush X0.here hx rfl (hb hby at_7) k) ?_
  show own_Ends _ _ _ _ _ _ _ (s₁.setTop (mkF m 9 #[.val (.int p0), .val (.int p1), .val (.int p2), .val (.int p3), .val (.int bf), .unset, .unset, .unset, .unset, .unset, .unset, .unset] [(.int (7 : Int32)), (.int p1)]))
  refine own_step (fun _ k => XS.iand X0.here hx rfl (hb hby at_9) rfl k) ?_
  show own_Ends _ _ _ _ _ _ _ (s₁.setTop (mkF m 10 #[.val (.int p0), .val (.int p1), .val (.int p2), .val (.int p3), .val (.int bf), .unset, .unset, .unset, .unset, .unset, .unset, .unset] [(.int (p1 &&& (7 : Int32)))]))
  have haf := own_oct p1 _ rfl
  generalize (p1 &&& (7 : Int32)) = af at haf ⊢
  refine own_step (fun _ k => XS.istore X0.here hx rfl (hb hby at_10) rfl (l' := #[.val (.int p0), .val (.int p1), .val (.int p2), .val (.int p3), .val (.int bf), .val (.int af), .unset, .unset, .unset, .unset, .unset, .unset]) rfl k) ?_
  show own_Ends _ _ _ _ _ _ _ (s₁.setTop (mkF m 12 #[.val (.int p0), .val (.int p1), .val (.int p2), .val (.int p3), .val (.int bf), .val (.int af), .unset, .unset, .unset, .unset, .unset, .unset] []))
  refine own_step (fun _ k => XS.iloadN X0.here hx rfl (hb hby at_12) rfl k) ?_
  show own_Ends _ _ _ _ _ _ _ (s₁.setTop (mkF m 13 #[.val (.int p0), .val (.int p1), .val (.int p2), .val (.int p3), .val (.int bf), .val (.int af), .unset, .unset, .unset, .unset, .unset, .unset] [(.int p3)]))
  refine own_step (fun _ k => X0.ldcInt hx hown (mvT hZ (hw _ (List.mem_of_getElem? (i := 0) rfl))) (g := (mkF m 13 #[.val (.int p0), .val (.int p1), .val (.int p2), .val (.int p3), .val (.int bf), .val (.int af), .unset, .unset, .unset, .unset, .unset, .unset] [(.int p3)])) rfl (hb hby at_13) _ k) ?_
  show own_Ends _ _ _ _ _ _ _ (s₁.setTop (mkF m 15 #[.val (.int p0), .val (.int p1), .val (.int p2), .val (.int p3), .val (.int bf), .val (.int af), .unset, .unset, .unset, .unset, .unset, .unset] [(.int (2147483647 : Int32)), (.int p3)]))
  refine own_step (fun _ k => XS.iand X0.here hx rfl (hb hby at_15) rfl k) ?_
  show own_Ends _ _ _ _ _ _ _ (s₁.setTop (mkF m 16 #[.val (.int p0), .val (.int p1), .val (.int p2), .val (.int p3), .val (.int bf), .val (.int af), .unset, .unset, .unset, .unset, .unset, .unset] [(.int (p3 &&& (2147483647 : Int32)))]))
  refine own_step (fun _ k => XS.iconst X0.here hx rfl (hb hby at_16) k) ?_
  show own_Ends _ _ _ _ _ _ _ (s₁.setTop (mkF m 17 #[.val (.int p0), .val (.int p1), .val (.int p2), .val (.int p3), .val (.int bf), .val (.int af), .unset, .unset, .unset, .unset, .unset, .unset] [(.int (3 : Int32)), (.int (p3 &&& (2147483647 : Int32)))]))
  refine own_step (fun _ k => XS.irem X0.here hx rfl (hb hby at_17) rfl (by decide) k) ?_
  show own_Ends _ _ _ _ _ _ _ (s₁.setTop (mkF m 18 #[.val (.int p0), .val (.int p1), .val (.int p2), .val (.int p3), .val (.int bf), .val (.int af), .unset, .unset, .unset, .unset, .unset, .unset] [(.int ((p3 &&& (2147483647 : Int32)) - ((p3 &&& (2147483647 : Int32)) / (3 : Int32)) * (3 : Int32)))]))
  have hqv := own_three p3 _ rfl
  generalize ((p3 &&& (2147483647 : Int32)) - ((p3 &&& (2147483647 : Int32)) / (3 : Int32)) * (3 : Int32)) = qv at hqv ⊢
  refine own_step (fun _ k => XS.istore X0.here hx rfl (hb hby at_18) rfl (l' := #[.val (.int p0), .val (.int p1), .val (.int p2), .val (.int p3), .val (.int bf), .val (.int af), .val (.int qv), .unset, .unset, .unset, .unset, .unset]) rfl k) ?_
  show own_Ends _ _ _ _ _ _ _ (s₁.setTop (mkF m 20 #[.val (.int p0), .val (.int p1), .val (.int p2), .val (.int p3), .val (.int bf), .val (.int af), .val (.int qv), .unset, .unset, .unset, .unset, .unset] []))
  obtain ⟨T11, h11, X11, e11, E11, A11, D11, -, st11⟩ := newO X0 hx hZ hown (hw _ (List.mem_of_getElem? (i := 1) rfl)) (hw _ (List.mem_of_getElem? (i := 2) rfl)) (hw _ (List.mem_of_getElem? (i := 3) rfl)) e0 (g := (mkF m 20 #[.val (.int p0), .val (.int p1), .val (.int p2), .val (.int p3), .val (.int bf), .val (.int af), .val (.int qv), .unset, .unset, .unset, .unset, .unset] [])) rfl (hb hby at_20) (by decide) (by decide)
  obtain ⟨b11, g11⟩ : ∃ z, z = h0.size := ⟨_, rfl⟩
  rw [← g11] at A11 D11 st11
  have gn11 : n0 ≤ b11 := Nat.le_trans Z0 (Nat.le_of_eq g11.symm)
  have Z11 := Nat.le_trans Z0 E11.1
  have F11_b11_stamp : Fld Z h11 b11 "com/example/diptych/diptych/solver/Marks" "stamp" "I" (.int (0 : Int32)) := D11 (Or.inl (hw _ (List.mem_of_getElem? (i := 11) rfl))) (ty := .int) (by decide)
  have F11_b11_stamps : Fld Z h11 b11 "com/example/diptych/diptych/solver/Marks" "stamps" "[I" .null := D11 (Or.inr (hw _ (List.mem_of_getElem? (i := 14) rfl))) (ty := (.array .int)) (by decide)
  refine own_step (fun _ k => st11 _ k) ?_
  show own_Ends _ _ _ _ _ _ _ (T11.setTop (mkF m 23 #[.val (.int p0), .val (.int p1), .val (.int p2), .val (.int p3), .val (.int bf), .val (.int af), .val (.int qv), .unset, .unset, .unset, .unset, .unset] [(.ref b11)]))
  refine own_step (fun _ k => XS.dup X11.here hx rfl (hb hby at_23) rfl rfl k) ?_
  show own_Ends _ _ _ _ _ _ _ (T11.setTop (mkF m 24 #[.val (.int p0), .val (.int p1), .val (.int p2), .val (.int p3), .val (.int bf), .val (.int af), .val (.int qv), .unset, .unset, .unset, .unset, .unset] [(.ref b11), (.ref b11)]))
  refine own_step (fun _ k => XS.iconst X11.here hx rfl (hb hby at_24) k) ?_
  show own_Ends _ _ _ _ _ _ _ (T11.setTop (mkF m 25 #[.val (.int p0), .val (.int p1), .val (.int p2), .val (.int p3), .val (.int bf), .val (.int af), .val (.int qv), .unset, .unset, .unset, .unset, .unset] [(.int (3 : Int32)), (.ref b11), (.ref b11)]))
  obtain ⟨_, _, ⟨T12, L12, k12, n12⟩, -, X12, ⟨Lc12, hQ12, l12, y12, z12⟩, st12⟩ := X11.specialBack hx (y := (⟨"com/example/diptych/diptych/solver/Marks", "<init>", "(I)V"⟩ : MethodName)) rfl hown (mvT hZ (hw _ (List.mem_of_getElem? (i := 4) rfl))) (mvT hZ (hw _ (List.mem_of_getElem? (i := 5) rfl))) (mvT hZ (hw _ (List.mem_of_getElem? (i := 6) rfl))) (by decide) (backOf (W := 1) (own_rm1 l Z a0 hw [] b11 (3 : Int32)  h11 n0 Z11 F11_b11_stamp F11_b11_stamps A11 gn11 rfl) hZ (hw _ (List.mem_of_getElem? (i := 6) rfl)) (hw _ (List.mem_of_getElem? (i := 3) rfl)) (by decide) (by decide)) (g := (mkF m 25 #[.val (.int p0), .val (.int p1), .val (.int p2), .val (.int p3), .val (.int bf), .val (.int af), .val (.int qv), .unset, .unset, .unset, .unset, .unset] [(.int (3 : Int32)), (.ref b11), (.ref b11)])) rfl (by rw [hml]; rfl) (Steps.refl _) (a := b11) (argsL := [(.int (3 : Int32))]) (rest := [(.ref b11)]) (lenOf own_pd0 rfl) rfl (by show 2 * 0 + _ ≤ _; exact Nat.le_of_eq rfl) (hb hby at_25) (fun _ _ => ⟨rfl, e11, (by decide : 1 + 1 ≤ _), (by decide : 2 + 3 ≤ _)⟩)
  dsimp only [Pt.U, Pt.locs, Pt.cells, Pt.slots] at X12 l12 y12 z12 st12 hQ12
  subst l12 y12 z12
  obtain ⟨ba, kk, rfl, Nq12, gb12, neb12, K12, AA12, FF12, GG12, VV12⟩ := hQ12
  have N12 := Fr.app N0 Nq12
  refine own_step (fun _ k => st12.trans k) ?_
  show own_Ends _ _ _ _ _ _ _ (T12.setTop (mkF m 28 #[.val (.int p0), .val (.int p1), .val (.int p2), .val (.int p3), .val (.int bf), .val (.int af), .val (.int qv), .unset, .unset, .unset, .unset, .unset] [(.ref b11)]))
  have Z12 := Nat.le_trans Z11 K12.1
  skip
  refine own_step (fun _ k => XS.astore X12.here hx rfl (hb hby at_28) rfl rfl (l' := #[.val (.int p0), .val (.int p1), .val (.int p2), .val (.int p3), .val (.int bf), .val (.int af), .val (.int qv), .val (.ref b11), .unset, .unset, .unset, .unset]) rfl k) ?_
  show own_Ends _ _ _ _ _ _ _ (T12.setTop (mkF m 30 #[.val (.int p0), .val (.int p1), .val (.int p2), .val (.int p3), .val (.int bf), .val (.int af), .val (.int qv), .val (.ref b11), .unset, .unset, .unset, .unset] []))
  refine own_step (fun _ k => XS.iload X12.here hx rfl (hb hby at_30) rfl k) ?_
  show own_Ends _ _ _ _ _ _ _ (T12.setTop (mkF m 32 #[.val (.int p0), .val (.int p1), .val (.int p2), .val (.int p3), .val (.int bf), .val (.int af), .val (.int qv), .val (.ref b11), .unset, .unset, .unset, .unset] [(.int bf)]))
  refine own_step (fun _ k => XS.iconst X12.here hx rfl (hb hby at_32) k) ?_
  show own_Ends _ _ _ _ _ _ _ (T12.setTop (mkF m 33 #[.val (.int p0), .val (.int p1), .val (.int p2), .val (.int p3), .val (.int bf), .val (.int af), .val (.int qv), .val (.ref b11), .unset, .unset, .unset, .unset] [(.int (1 : Int32)), (.int bf)]))
  refine own_step (fun _ k => XS.iand X12.here hx rfl (hb hby at_33) rfl k) ?_
  show own_Ends _ _ _ _ _ _ _ (T12.setTop (mkF m 34 #[.val (.int p0), .val (.int p1), .val (.int p2), .val (.int p3), .val (.int bf), .val (.int af), .val (.int qv), .val (.ref b11), .unset, .unset, .unset, .unset] [(.int (bf &&& (1 : Int32)))]))
  have J43_13 : ∀ (hJ13 : Heap) (ZJ13 : n0 ≤ hJ13.size) (lJ13 : List Loc) (NJ13 : Fr n0 lJ13) (TJ13 : State) (XJ13 : Stand p l e room_1 s m #[(.int p0), (.int p1), (.int p2), (.int p3)] below meth c TJ13 lJ13 2 5) (eJ13 : TJ13.heap = hJ13) (x0 : Int32) (hx0 : x0 = if bf &&& 1 = 0 then 0 else 1) (AJb0 : Exa Z hJ13 b11 "com/example/diptych/diptych/solver/Marks") (FJb0 : Fld Z hJ13 b11 "com/example/diptych/diptych/solver/Marks" "stamp" "I" (.int (1 : Int32))) (GJb0 : Fld Z hJ13 b11 "com/example/diptych/diptych/solver/Marks" "stamps" "[I" (.ref ba)) (VJb0 : Arv Z hJ13 ba kk .int 3 [(.int x0), (.int (0 : Int32)), (.int (0 : Int32))] (.int (0 : Int32))), own_Ends p e below s 2 5 (own_Q0 Z p0 p1 p2 p3  h0 n0) (TJ13.setTop (mkF m 43 #[.val (.int p0), .val (.int p1), .val (.int p2), .val (.int p3), .val (.int bf), .val (.int af), .val (.int qv), .val (.ref b11), .unset, .unset, .unset, .unset] [])) := by
    intro hJ13 ZJ13 lJ13 NJ13 TJ13 XJ13 eJ13 x0 hx0 AJb0 FJb0 GJb0 VJb0
    show own_Ends _ _ _ _ _ _ _ (TJ13.setTop (mkF m 43 #[.val (.int p0), .val (.int p1), .val (.int p2), .val (.int p3), .val (.int bf), .val (.int af), .val (.int qv), .val (.ref b11), .unset, .unset, .unset, .unset] []))
    refine own_step (fun _ k => XS.iload XJ13.here hx rfl (hb hby at_43) rfl k) ?_
    show own_Ends _ _ _ _ _ _ _ (TJ13.setTop (mkF m 45 #[.val (.int p0), .val (.int p1), .val (.int p2), .val (.int p3), .val (.int bf), .val (.int af), .val (.int qv), .val (.ref b11), .unset, .unset, .unset, .unset] [(.int bf)]))
    refine own_step (fun _ k => XS.iconst XJ13.here hx rfl (hb hby at_45) k) ?_
    show own_Ends _ _ _ _ _ _ _ (TJ13.setTop (mkF m 46 #[.val (.int p0), .val (.int p1), .val (.int p2), .val (.int p3), .val (.int bf), .val (.int af), .val (.int qv), .val (.ref b11), .unset, .unset, .unset, .unset] [(.int (2 : Int32)), (.int bf)]))
    refine own_step (fun _ k => XS.iand XJ13.here hx rfl (hb hby at_46) rfl k) ?_
    show own_Ends _ _ _ _ _ _ _ (TJ13.setTop (mkF m 47 #[.val (.int p0), .val (.int p1), .val (.int p2), .val (.int p3), .val (.int bf), .val (.int af), .val (.int qv), .val (.ref b11), .unset, .unset, .unset, .unset] [(.int (bf &&& (2 : Int32)))]))
    have J56_16 : ∀ (hJ16 : Heap) (ZJ16 : n0 ≤ hJ16.size) (lJ16 : List Loc) (NJ16 : Fr n0 lJ16) (TJ16 : State) (XJ16 : Stand p l e room_1 s m #[(.int p0), (.int p1), (.int p2), (.int p3)] below meth c TJ16 lJ16 2 5) (eJ16 : TJ16.heap = hJ16) (x1 : Int32) (hx1 : x1 = if bf &&& 2 = 0 then 0 else 1) (AJb1 : Exa Z hJ16 b11 "com/example/diptych/diptych/solver/Marks") (FJb1 : Fld Z hJ16 b11 "com/example/diptych/diptych/solver/Marks" "stamp" "I" (.int (1 : Int32))) (GJb1 : Fld Z hJ16 b11 "com/example/diptych/diptych/solver/Marks" "stamps" "[I" (.ref ba)) (VJb1 : Arv Z hJ16 ba kk .int 3 [(.int x0), (.int x1), (.int (0 : Int32))] (.int (0 : Int32))), own_Ends p e below s 2 5 (own_Q0 Z p0 p1 p2 p3  h0 n0) (TJ16.setTop (mkF m 56 #[.val (.int p0), .val (.int p1), .val (.int p2), .val (.int p3), .val (.int bf), .val (.int af), .val (.int qv), .val (.ref b11), .unset, .unset, .unset, .unset] [])) := by
      intro hJ16 ZJ16 lJ16 NJ16 TJ16 XJ16 eJ16 x1 hx1 AJb1 FJb1 GJb1 VJb1
      show own_Ends _ _ _ _ _ _ _ (TJ16.setTop (mkF m 56 #[.val (.int p0), .val (.int p1), .val (.int p2), .val (.int p3), .val (.int bf), .val (.int af), .val (.int qv), .val (.ref b11), .unset, .unset, .unset, .unset] []))
      refine own_step (fun _ k => XS.iload XJ16.here hx rfl (hb hby at_56) rfl k) ?_
      show own_Ends _ _ _ _ _ _ _ (TJ16.setTop (mkF m 58 #[.val (.int p0), .val (.int p1), .val (.int p2), .val (.int p3), .val (.int bf), .val (.int af), .val (.int qv), .val (.ref b11), .unset, .unset, .unset, .unset] [(.int bf)]))
      refine own_step (fun _ k => XS.iconst XJ16.here hx rfl (hb hby at_58) k) ?_
      show own_Ends _ _ _ _ _ _ _ (TJ16.setTop (mkF m 59 #[.val (.int p0), .val (.int p1), .val (.int p2), .val (.int p3), .val (.int bf), .val (.int af), .val (.int qv), .val (.ref b11), .unset, .unset, .unset, .unset] [(.int (4 : Int32)), (.int bf)]))
      refine own_step (fun _ k => XS.iand XJ16.here hx rfl (hb hby at_59) rfl k) ?_
      show own_Ends _ _ _ _ _ _ _ (TJ16.setTop (mkF m 60 #[.val (.int p0), .val (.int p1), .val (.int p2), .val (.int p3), .val (.int bf), .val (.int af), .val (.int qv), .val (.ref b11), .unset, .unset, .unset, .unset] [(.int (bf &&& (4 : Int32)))]))
      have J69_19 : ∀ (hJ19 : Heap) (ZJ19 : n0 ≤ hJ19.size) (lJ19 : List Loc) (NJ19 : Fr n0 lJ19) (TJ19 : State) (XJ19 : Stand p l e room_1 s m #[(.int p0), (.int p1), (.int p2), (.int p3)] below meth c TJ19 lJ19 2 5) (eJ19 : TJ19.heap = hJ19) (x2 : Int32) (hx2 : x2 = if bf &&& 4 = 0 then 0 else 1) (AJb2 : Exa Z hJ19 b11 "com/example/diptych/diptych/solver/Marks") (FJb2 : Fld Z hJ19 b11 "com/example/diptych/diptych/solver/Marks" "stamp" "I" (.int (1 : Int32))) (GJb2 : Fld Z hJ19 b11 "com/example/diptych/diptych/solver/Marks" "stamps" "[I" (.ref ba)) (VJb2 : Arv Z hJ19 ba kk .int 3 [(.int x0), (.int x1), (.int x2)] (.int (0 : Int32))), own_Ends p e below s 2 5 (own_Q0 Z p0 p1 p2 p3  h0 n0) (TJ19.setTop (mkF m 69 #[.val (.int p0), .val (.int p1), .val (.int p2), .val (.int p3), .val (.int bf), .val (.int af), .val (.int qv), .val (.ref b11), .unset, .unset, .unset, .unset] [])) := by
        intro hJ19 ZJ19 lJ19 NJ19 TJ19 XJ19 eJ19 x2 hx2 AJb2 FJb2 GJb2 VJb2
        show own_Ends _ _ _ _ _ _ _ (TJ19.setTop (mkF m 69 #[.val (.int p0), .val (.int p1), .val (.int p2), .val (.int p3), .val (.int bf), .val (.int af), .val (.int qv), .val (.ref b11), .unset, .unset, .unset, .unset] []))
        refine own_step (fun _ k => XS.iloadN XJ19.here hx rfl (hb hby at_69) rfl k) ?_
        show own_Ends _ _ _ _ _ _ _ (TJ19.setTop (mkF m 70 #[.val (.int p0), .val (.int p1), .val (.int p2), .val (.int p3), .val (.int bf), .val (.int af), .val (.int qv), .val (.ref b11), .unset, .unset, .unset, .unset] [(.int p2)]))
        refine own_step (fun _ k => XS.iconst XJ19.here hx rfl (hb hby at_70) k) ?_
        show own_Ends _ _ _ _ _ _ _ (TJ19.setTop (mkF m 71 #[.val (.int p0), .val (.int p1), .val (.int p2), .val (.int p3), .val (.int bf), .val (.int af), .val (.int qv), .val (.ref b11), .unset, .unset, .unset, .unset] [(.int (1 : Int32)), (.int p2)]))
        refine own_step (fun _ k => XS.iand XJ19.here hx rfl (hb hby at_71) rfl k) ?_
        show own_Ends _ _ _ _ _ _ _ (TJ19.setTop (mkF m 72 #[.val (.int p0), .val (.int p1), .val (.int p2), .val (.int p3), .val (.int bf), .val (.int af), .val (.int qv), .val (.ref b11), .unset, .unset, .unset, .unset] [(.int (p2 &&& (1 : Int32)))]))
        have J80_22 : ∀ (hJ22 : Heap) (ZJ22 : n0 ≤ hJ22.size) (lJ22 : List Loc) (NJ22 : Fr n0 lJ22) (TJ22 : State) (XJ22 : Stand p l e room_1 s m #[(.int p0), (.int p1), (.int p2), (.int p3)] below meth c TJ22 lJ22 2 5) (eJ22 : TJ22.heap = hJ22) (s0 : Int32) (hs0 : s0 = if p2 &&& 1 = 0 then 1 else 2) (AJc0 : Exa Z hJ22 b11 "com/example/diptych/diptych/solver/Marks") (FJc0 : Fld Z hJ22 b11 "com/example/diptych/diptych/solver/Marks" "stamp" "I" (.int s0)) (GJc0 : Fld Z hJ22 b11 "com/example/diptych/diptych/solver/Marks" "stamps" "[I" (.ref ba)) (VJc0 : Arv Z hJ22 ba kk .int 3 [(.int x0), (.int x1), (.int x2)] (.int (0 : Int32))), own_Ends p e below s 2 5 (own_Q0 Z p0 p1 p2 p3  h0 n0) (TJ22.setTop (mkF m 80 #[.val (.int p0), .val (.int p1), .val (.int p2), .val (.int p3), .val (.int bf), .val (.int af), .val (.int qv), .val (.ref b11), .unset, .unset, .unset, .unset] [])) := by
          intro hJ22 ZJ22 lJ22 NJ22 TJ22 XJ22 eJ22 s0 hs0 AJc0 FJc0 GJc0 VJc0
          show own_Ends _ _ _ _ _ _ _ (TJ22.setTop (mkF m 80 #[.val (.int p0), .val (.int p1), .val (.int p2), .val (.int p3), .val (.int bf), .val (.int af), .val (.int qv), .val (.ref b11), .unset, .unset, .unset, .unset] []))
          refine own_step (fun _ k => XS.iloadN XJ22.here hx rfl (hb hby at_80) rfl k) ?_
          show own_Ends _ _ _ _ _ _ _ (TJ22.setTop (mkF m 81 #[.val (.int p0), .val (.int p1), .val (.int p2), .val (.int p3), .val (.int bf), .val (.int af), .val (.int qv), .val (.ref b11), .unset, .unset, .unset, .unset] [(.int p2)]))
          refine own_step (fun _ k => XS.iconst XJ22.here hx rfl (hb hby at_81) k) ?_
          show own_Ends _ _ _ _ _ _ _ (TJ22.setTop (mkF m 82 #[.val (.int p0), .val (.int p1), .val (.int p2), .val (.int p3), .val (.int bf), .val (.int af), .val (.int qv), .val (.ref b11), .unset, .unset, .unset, .unset] [(.int (2 : Int32)), (.int p2)]))
          refine own_step (fun _ k => XS.iand XJ22.here hx rfl (hb hby at_82) rfl k) ?_
          show own_Ends _ _ _ _ _ _ _ (TJ22.setTop (mkF m 83 #[.val (.int p0), .val (.int p1), .val (.int p2), .val (.int p3), .val (.int bf), .val (.int af), .val (.int qv), .val (.ref b11), .unset, .unset, .unset, .unset] [(.int (p2 &&& (2 : Int32)))]))
          have J91_24 : ∀ (hJ24 : Heap) (ZJ24 : n0 ≤ hJ24.size) (lJ24 : List Loc) (NJ24 : Fr n0 lJ24) (TJ24 : State) (XJ24 : Stand p l e room_1 s m #[(.int p0), (.int p1), (.int p2), (.int p3)] below meth c TJ24 lJ24 2 5) (eJ24 : TJ24.heap = hJ24) (s1 : Int32) (hs1 : s1 = if p2 &&& 2 = 0 then s0 else s0 + 1) (AJc1 : Exa Z hJ24 b11 "com/example/diptych/diptych/solver/Marks") (FJc1 : Fld Z hJ24 b11 "com/example/diptych/diptych/solver/Marks" "stamp" "I" (.int s1)) (GJc1 : Fld Z hJ24 b11 "com/example/diptych/diptych/solver/Marks" "stamps" "[I" (.ref ba)) (VJc1 : Arv Z hJ24 ba kk .int 3 [(.int x0), (.int x1), (.int x2)] (.int (0 : Int32))), own_Ends p e below s 2 5 (own_Q0 Z p0 p1 p2 p3  h0 n0) (TJ24.setTop (mkF m 91 #[.val (.int p0), .val (.int p1), .val (.int p2), .val (.int p3), .val (.int bf), .val (.int af), .val (.int qv), .val (.ref b11), .unset, .unset, .unset, .unset] [])) := by
            intro hJ24 ZJ24 lJ24 NJ24 TJ24 XJ24 eJ24 s1 hs1 AJc1 FJc1 GJc1 VJc1
            show own_Ends _ _ _ _ _ _ _ (TJ24.setTop (mkF m 91 #[.val (.int p0), .val (.int p1), .val (.int p2), .val (.int p3), .val (.int bf), .val (.int af), .val (.int qv), .val (.ref b11), .unset, .unset, .unset, .unset] []))
            refine own_step (fun _ k => XS.iload XJ24.here hx rfl (hb hby at_91) rfl k) ?_
            show own_Ends _ _ _ _ _ _ _ (TJ24.setTop (mkF m 93 #[.val (.int p0), .val (.int p1), .val (.int p2), .val (.int p3), .val (.int bf), .val (.int af), .val (.int qv), .val (.ref b11), .unset, .unset, .unset, .unset] [(.int af)]))
            refine own_step (fun _ k => XS.iconst XJ24.here hx rfl (hb hby at_93) k) ?_
            show own_Ends _ _ _ _ _ _ _ (TJ24.setTop (mkF m 94 #[.val (.int p0), .val (.int p1), .val (.int p2), .val (.int p3), .val (.int bf), .val (.int af), .val (.int qv), .val (.ref b11), .unset, .unset, .unset, .unset] [(.int (1 : Int32)), (.int af)]))
            refine own_step (fun _ k => XS.iand XJ24.here hx rfl (hb hby at_94) rfl k) ?_
            show own_Ends _ _ _ _ _ _ _ (TJ24.setTop (mkF m 95 #[.val (.int p0), .val (.int p1), .val (.int p2), .val (.int p3), .val (.int bf), .val (.int af), .val (.int qv), .val (.ref b11), .unset, .unset, .unset, .unset] [(.int (af &&& (1 : Int32)))]))
            have J104_26 : ∀ (hJ26 : Heap) (ZJ26 : n0 ≤ hJ26.size) (lJ26 : List Loc) (NJ26 : Fr n0 lJ26) (TJ26 : State) (XJ26 : Stand p l e room_1 s m #[(.int p0), (.int p1), (.int p2), (.int p3)] below meth c TJ26 lJ26 2 5) (eJ26 : TJ26.heap = hJ26) (y0 : Int32) (hy0 : y0 = if af &&& 1 = 0 then x0 else s1) (AJa0 : Exa Z hJ26 b11 "com/example/diptych/diptych/solver/Marks") (FJa0 : Fld Z hJ26 b11 "com/example/diptych/diptych/solver/Marks" "stamp" "I" (.int s1)) (GJa0 : Fld Z hJ26 b11 "com/example/diptych/diptych/solver/Marks" "stamps" "[I" (.ref ba)) (VJa0 : Arv Z hJ26 ba kk .int 3 [(.int y0), (.int x1), (.int x2)] (.int (0 : Int32))), own_Ends p e below s 2 5 (own_Q0 Z p0 p1 p2 p3  h0 n0) (TJ26.setTop (mkF m 104 #[.val (.int p0), .val (.int p1), .val (.int p2), .val (.int p3), .val (.int bf), .val (.int af), .val (.int qv), .val (.ref b11), .unset, .unset, .unset, .unset] [])) := by
              intro hJ26 ZJ26 lJ26 NJ26 TJ26 XJ26 eJ26 y0 hy0 AJa0 FJa0 GJa0 VJa0
              show own_Ends _ _ _ _ _ _ _ (TJ26.setTop (mkF m 104 #[.val (.int p0), .val (.int p1), .val (.int p2), .val (.int p3), .val (.int bf), .val (.int af), .val (.int qv), .val (.ref b11), .unset, .unset, .unset, .unset] []))
              refine own_step (fun _ k => XS.iload XJ26.here hx rfl (hb hby at_104) rfl k) ?_
              show own_Ends _ _ _ _ _ _ _ (TJ26.setTop (mkF m 106 #[.val (.int p0), .val (.int p1), .val (.int p2), .val (.int p3), .val (.int bf), .val (.int af), .val (.int qv), .val (.ref b11), .unset, .unset, .unset, .unset] [(.int af)]))
              refine own_step (fun _ k => XS.iconst XJ26.here hx rfl (hb hby at_106) k) ?_
              show own_Ends _ _ _ _ _ _ _ (TJ26.setTop (mkF m 107 #[.val (.int p0), .val (.int p1), .val (.int p2), .val (.int p3), .val (.int bf), .val (.int af), .val (.int qv), .val (.ref b11), .unset, .unset, .unset, .unset] [(.int (2 : Int32)), (.int af)]))
              refine own_step (fun _ k => XS.iand XJ26.here hx rfl (hb hby at_107) rfl k) ?_
              show own_Ends _ _ _ _ _ _ _ (TJ26.setTop (mkF m 108 #[.val (.int p0), .val (.int p1), .val (.int p2), .val (.int p3), .val (.int bf), .val (.int af), .val (.int qv), .val (.ref b11), .unset, .unset, .unset, .unset] [(.int (af &&& (2 : Int32)))]))
              have J117_29 : ∀ (hJ29 : Heap) (ZJ29 : n0 ≤ hJ29.size) (lJ29 : List Loc) (NJ29 : Fr n0 lJ29) (TJ29 : State) (XJ29 : Stand p l e room_1 s m #[(.int p0), (.int p1), (.int p2), (.int p3)] below meth c TJ29 lJ29 2 5) (eJ29 : TJ29.heap = hJ29) (y1 : Int32) (hy1 : y1 = if af &&& 2 = 0 then x1 else s1) (AJa1 : Exa Z hJ29 b11 "com/example/diptych/diptych/solver/Marks") (FJa1 : Fld Z hJ29 b11 "com/example/diptych/diptych/solver/Marks" "stamp" "I" (.int s1)) (GJa1 : Fld Z hJ29 b11 "com/example/diptych/diptych/solver/Marks" "stamps" "[I" (.ref ba)) (VJa1 : Arv Z hJ29 ba kk .int 3 [(.int y0), (.int y1), (.int x2)] (.int (0 : Int32))), own_Ends p e below s 2 5 (own_Q0 Z p0 p1 p2 p3  h0 n0) (TJ29.setTop (mkF m 117 #[.val (.int p0), .val (.int p1), .val (.int p2), .val (.int p3), .val (.int bf), .val (.int af), .val (.int qv), .val (.ref b11), .unset, .unset, .unset, .unset] [])) := by
                intro hJ29 ZJ29 lJ29 NJ29 TJ29 XJ29 eJ29 y1 hy1 AJa1 FJa1 GJa1 VJa1
                show own_Ends _ _ _ _ _ _ _ (TJ29.setTop (mkF m 117 #[.val (.int p0), .val (.int p1), .val (.int p2), .val (.int p3), .val (.int bf), .val (.int af), .val (.int qv), .val (.ref b11), .unset, .unset, .unset, .unset] []))
                refine own_step (fun _ k => XS.iload XJ29.here hx rfl (hb hby at_117) rfl k) ?_
                show own_Ends _ _ _ _ _ _ _ (TJ29.setTop (mkF m 119 #[.val (.int p0), .val (.int p1), .val (.int p2), .val (.int p3), .val (.int bf), .val (.int af), .val (.int qv), .val (.ref b11), .unset, .unset, .unset, .unset] [(.int af)]))
                refine own_step (fun _ k => XS.iconst XJ29.here hx rfl (hb hby at_119) k) ?_
                show own_Ends _ _ _ _ _ _ _ (TJ29.setTop (mkF m 120 #[.val (.int p0), .val (.int p1), .val (.int p2), .val (.int p3), .val (.int bf), .val (.int af), .val (.int qv), .val (.ref b11), .unset, .unset, .unset, .unset] [(.int (4 : Int32)), (.int af)]))
                refine own_step (fun _ k => XS.iand XJ29.here hx rfl (hb hby at_120) rfl k) ?_
                show own_Ends _ _ _ _ _ _ _ (TJ29.setTop (mkF m 121 #[.val (.int p0), .val (.int p1), .val (.int p2), .val (.int p3), .val (.int bf), .val (.int af), .val (.int qv), .val (.ref b11), .unset, .unset, .unset, .unset] [(.int (af &&& (4 : Int32)))]))
                have J130_32 : ∀ (hJ32 : Heap) (ZJ32 : n0 ≤ hJ32.size) (lJ32 : List Loc) (NJ32 : Fr n0 lJ32) (TJ32 : State) (XJ32 : Stand p l e room_1 s m #[(.int p0), (.int p1), (.int p2), (.int p3)] below meth c TJ32 lJ32 2 5) (eJ32 : TJ32.heap = hJ32) (y2 : Int32) (hy2 : y2 = if af &&& 4 = 0 then x2 else s1) (AJa2 : Exa Z hJ32 b11 "com/example/diptych/diptych/solver/Marks") (FJa2 : Fld Z hJ32 b11 "com/example/diptych/diptych/solver/Marks" "stamp" "I" (.int s1)) (GJa2 : Fld Z hJ32 b11 "com/example/diptych/diptych/solver/Marks" "stamps" "[I" (.ref ba)) (VJa2 : Arv Z hJ32 ba kk .int 3 [(.int y0), (.int y1), (.int y2)] (.int (0 : Int32))), own_Ends p e below s 2 5 (own_Q0 Z p0 p1 p2 p3  h0 n0) (TJ32.setTop (mkF m 130 #[.val (.int p0), .val (.int p1), .val (.int p2), .val (.int p3), .val (.int bf), .val (.int af), .val (.int qv), .val (.ref b11), .unset, .unset, .unset, .unset] [])) := by
                  intro hJ32 ZJ32 lJ32 NJ32 TJ32 XJ32 eJ32 y2 hy2 AJa2 FJa2 GJa2 VJa2
                  show own_Ends _ _ _ _ _ _ _ (TJ32.setTop (mkF m 130 #[.val (.int p0), .val (.int p1), .val (.int p2), .val (.int p3), .val (.int bf), .val (.int af), .val (.int qv), .val (.ref b11), .unset, .unset, .unset, .unset] []))
                  have hst : (p2 &&& 3 = 0 → s1 = 1) ∧ (¬ p2 &&& 3 = 0 → s1 = 2 ∨ s1 = 3) := by
                    rw [own_c3, hs1, hs0]
                    by_cases u1 : p2 &&& 1 = 0 <;> by_cases u2 : p2 &&& 2 = 0 <;> simp [u1, u2] <;> decide
                  refine own_step (fun _ k => XS.iloadN XJ32.here hx rfl (hb hby at_130) rfl k) ?_
                  show own_Ends _ _ _ _ _ _ _ (TJ32.setTop (mkF m 131 #[.val (.int p0), .val (.int p1), .val (.int p2), .val (.int p3), .val (.int bf), .val (.int af), .val (.int qv), .val (.ref b11), .unset, .unset, .unset, .unset] [(.int p2)]))
                  refine own_step (fun _ k => XS.iconst XJ32.here hx rfl (hb hby at_131) k) ?_
                  show own_Ends _ _ _ _ _ _ _ (TJ32.setTop (mkF m 132 #[.val (.int p0), .val (.int p1), .val (.int p2), .val (.int p3), .val (.int bf), .val (.int af), .val (.int qv), .val (.ref b11), .unset, .unset, .unset, .unset] [(.int (3 : Int32)), (.int p2)]))
                  refine own_step (fun _ k => XS.iand XJ32.here hx rfl (hb hby at_132) rfl k) ?_
                  show own_Ends _ _ _ _ _ _ _ (TJ32.setTop (mkF m 133 #[.val (.int p0), .val (.int p1), .val (.int p2), .val (.int p3), .val (.int bf), .val (.int af), .val (.int qv), .val (.ref b11), .unset, .unset, .unset, .unset] [(.int (p2 &&& (3 : Int32)))]))
                  have J141_35 : ∀ (cv : Int32) (hcv : cv = 0 ∧ s1 = 1 ∨ cv = 1 ∧ (s1 = 2 ∨ s1 = 3)), own_Ends p e below s 2 5 (own_Q0 Z p0 p1 p2 p3  h0 n0) (TJ32.setTop (mkF m 141 #[.val (.int p0), .val (.int p1), .val (.int p2), .val (.int p3), .val (.int bf), .val (.int af), .val (.int qv), .val (.ref b11), .unset, .unset, .unset, .unset] [(.int cv)])) := by
                    intro cv hcv
                    show own_Ends _ _ _ _ _ _ _ (TJ32.setTop (mkF m 141 #[.val (.int p0), .val (.int p1), .val (.int p2), .val (.int p3), .val (.int bf), .val (.int af), .val (.int qv), .val (.ref b11), .unset, .unset, .unset, .unset] [(.int cv)]))
                    obtain ⟨hbl0, hbl1, hbl2⟩ := own_b0 hbf
                    obtain ⟨ha0, ha1, ha2⟩ := own_b0 haf
                    refine own_step (fun _ k => XS.istore XJ32.here hx rfl (hb hby at_141) rfl (l' := #[.val (.int p0), .val (.int p1), .val (.int p2), .val (.int p3), .val (.int bf), .val (.int af), .val (.int qv), .val (.ref b11), .val (.int cv), .unset, .unset, .unset]) rfl k) ?_
                    show own_Ends _ _ _ _ _ _ _ (TJ32.setTop (mkF m 143 #[.val (.int p0), .val (.int p1), .val (.int p2), .val (.int p3), .val (.int bf), .val (.int af), .val (.int qv), .val (.ref b11), .val (.int cv), .unset, .unset, .unset] []))
                    rcases hqv with rfl | rfl | rfl
                    · show own_Ends _ _ _ _ _ _ _ (TJ32.setTop (mkF m 143 #[.val (.int p0), .val (.int p1), .val (.int p2), .val (.int p3), .val (.int bf), .val (.int af), .val (.int (0 : Int32)), .val (.ref b11), .val (.int cv), .unset, .unset, .unset] []))
                      refine own_step (fun _ k => XS.iload XJ32.here hx rfl (hb hby at_143) rfl k) ?_
                      show own_Ends _ _ _ _ _ _ _ (TJ32.setTop (mkF m 145 #[.val (.int p0), .val (.int p1), .val (.int p2), .val (.int p3), .val (.int bf), .val (.int af), .val (.int (0 : Int32)), .val (.ref b11), .val (.int cv), .unset, .unset, .unset] [(.int bf)]))
                      refine own_step (fun _ k => XS.iload XJ32.here hx rfl (hb hby at_145) rfl k) ?_
                      show own_Ends _ _ _ _ _ _ _ (TJ32.setTop (mkF m 147 #[.val (.int p0), .val (.int p1), .val (.int p2), .val (.int p3), .val (.int bf), .val (.int af), .val (.int (0 : Int32)), .val (.ref b11), .val (.int cv), .unset, .unset, .unset] [(.int (0 : Int32)), (.int bf)]))
                      refine own_step (fun _ k => XT.iushr XJ32.here hx rfl (hb hby at_147) rfl k) ?_
                      show own_Ends _ _ _ _ _ _ _ (TJ32.setTop (mkF m 148 #[.val (.int p0), .val (.int p1), .val (.int p2), .val (.int p3), .val (.int bf), .val (.int af), .val (.int (0 : Int32)), .val (.ref b11), .val (.int cv), .unset, .unset, .unset] [(.int (XT.ushr bf (0 : Int32)))]))
                      refine own_step (fun _ k => XS.iconst XJ32.here hx rfl (hb hby at_148) k) ?_
                      show own_Ends _ _ _ _ _ _ _ (TJ32.setTop (mkF m 149 #[.val (.int p0), .val (.int p1), .val (.int p2), .val (.int p3), .val (.int bf), .val (.int af), .val (.int (0 : Int32)), .val (.ref b11), .val (.int cv), .unset, .unset, .unset] [(.int (1 : Int32)), (.int (XT.ushr bf (0 : Int32)))]))
                      refine own_step (fun _ k => XS.iand XJ32.here hx rfl (hb hby at_149) rfl k) ?_
                      show own_Ends _ _ _ _ _ _ _ (TJ32.setTop (mkF m 150 #[.val (.int p0), .val (.int p1), .val (.int p2), .val (.int p3), .val (.int bf), .val (.int af), .val (.int (0 : Int32)), .val (.ref b11), .val (.int cv), .unset, .unset, .unset] [(.int ((XT.ushr bf (0 : Int32)) &&& (1 : Int32)))]))
                      have J158_36 : ∀ (ib : Int32) (hib : ib = 0 ∧ x0 = 0 ∨ ib = 1 ∧ x0 = 1), own_Ends p e below s 2 5 (own_Q0 Z p0 p1 p2 p3  h0 n0) (TJ32.setTop (mkF m 158 #[.val (.int p0), .val (.int p1), .val (.int p2), .val (.int p3), .val (.int bf), .val (.int af), .val (.int (0 : Int32)), .val (.ref b11), .val (.int cv), .unset, .unset, .unset] [(.int ib)])) := by
                        intro ib hib
                        show own_Ends _ _ _ _ _ _ _ (TJ32.setTop (mkF m 158 #[.val (.int p0), .val (.int p1), .val (.int p2), .val (.int p3), .val (.int bf), .val (.int af), .val (.int (0 : Int32)), .val (.ref b11), .val (.int cv), .unset, .unset, .unset] [(.int ib)]))
                        refine own_step (fun _ k => XS.istore XJ32.here hx rfl (hb hby at_158) rfl (l' := #[.val (.int p0), .val (.int p1), .val (.int p2), .val (.int p3), .val (.int bf), .val (.int af), .val (.int (0 : Int32)), .val (.ref b11), .val (.int cv), .val (.int ib), .unset, .unset]) rfl k) ?_
                        show own_Ends _ _ _ _ _ _ _ (TJ32.setTop (mkF m 160 #[.val (.int p0), .val (.int p1), .val (.int p2), .val (.int p3), .val (.int bf), .val (.int af), .val (.int (0 : Int32)), .val (.ref b11), .val (.int cv), .val (.int ib), .unset, .unset] []))
                        refine own_step (fun _ k => XS.iload XJ32.here hx rfl (hb hby at_160) rfl k) ?_
                        show own_Ends _ _ _ _ _ _ _ (TJ32.setTop (mkF m 162 #[.val (.int p0), .val (.int p1), .val (.int p2), .val (.int p3), .val (.int bf), .val (.int af), .val (.int (0 : Int32)), .val (.ref b11), .val (.int cv), .val (.int ib), .unset, .unset] [(.int af)]))
                        refine own_step (fun _ k => XS.iload XJ32.here hx rfl (hb hby at_162) rfl k) ?_
                        show own_Ends _ _ _ _ _ _ _ (TJ32.setTop (mkF m 164 #[.val (.int p0), .val (.int p1), .val (.int p2), .val (.int p3), .val (.int bf), .val (.int af), .val (.int (0 : Int32)), .val (.ref b11), .val (.int cv), .val (.int ib), .unset, .unset] [(.int (0 : Int32)), (.int af)]))
                        refine own_step (fun _ k => XT.iushr XJ32.here hx rfl (hb hby at_164) rfl k) ?_
                        show own_Ends _ _ _ _ _ _ _ (TJ32.setTop (mkF m 165 #[.val (.int p0), .val (.int p1), .val (.int p2), .val (.int p3), .val (.int bf), .val (.int af), .val (.int (0 : Int32)), .val (.ref b11), .val (.int cv), .val (.int ib), .unset, .unset] [(.int (XT.ushr af (0 : Int32)))]))
                        refine own_step (fun _ k => XS.iconst XJ32.here hx rfl (hb hby at_165) k) ?_
                        show own_Ends _ _ _ _ _ _ _ (TJ32.setTop (mkF m 166 #[.val (.int p0), .val (.int p1), .val (.int p2), .val (.int p3), .val (.int bf), .val (.int af), .val (.int (0 : Int32)), .val (.ref b11), .val (.int cv), .val (.int ib), .unset, .unset] [(.int (1 : Int32)), (.int (XT.ushr af (0 : Int32)))]))
                        refine own_step (fun _ k => XS.iand XJ32.here hx rfl (hb hby at_166) rfl k) ?_
                        show own_Ends _ _ _ _ _ _ _ (TJ32.setTop (mkF m 167 #[.val (.int p0), .val (.int p1), .val (.int p2), .val (.int p3), .val (.int bf), .val (.int af), .val (.int (0 : Int32)), .val (.ref b11), .val (.int cv), .val (.int ib), .unset, .unset] [(.int ((XT.ushr af (0 : Int32)) &&& (1 : Int32)))]))
                        have J175_37 : ∀ (ia : Int32) (hia : ia = 0 ∧ y0 = x0 ∨ ia = 1 ∧ y0 = s1), own_Ends p e below s 2 5 (own_Q0 Z p0 p1 p2 p3  h0 n0) (TJ32.setTop (mkF m 175 #[.val (.int p0), .val (.int p1), .val (.int p2), .val (.int p3), .val (.int bf), .val (.int af), .val (.int (0 : Int32)), .val (.ref b11), .val (.int cv), .val (.int ib), .unset, .unset] [(.int ia)])) := by
                          intro ia hia
                          show own_Ends _ _ _ _ _ _ _ (TJ32.setTop (mkF m 175 #[.val (.int p0), .val (.int p1), .val (.int p2), .val (.int p3), .val (.int bf), .val (.int af), .val (.int (0 : Int32)), .val (.ref b11), .val (.int cv), .val (.int ib), .unset, .unset] [(.int ia)]))
                          refine own_step (fun _ k => XS.istore XJ32.here hx rfl (hb hby at_175) rfl (l' := #[.val (.int p0), .val (.int p1), .val (.int p2), .val (.int p3), .val (.int bf), .val (.int af), .val (.int (0 : Int32)), .val (.ref b11), .val (.int cv), .val (.int ib), .val (.int ia), .unset]) rfl k) ?_
                          show own_Ends _ _ _ _ _ _ _ (TJ32.setTop (mkF m 177 #[.val (.int p0), .val (.int p1), .val (.int p2), .val (.int p3), .val (.int bf), .val (.int af), .val (.int (0 : Int32)), .val (.ref b11), .val (.int cv), .val (.int ib), .val (.int ia), .unset] []))
                          refine own_step (fun _ k => XS.iload XJ32.here hx rfl (hb hby at_177) rfl k) ?_
                          show own_Ends _ _ _ _ _ _ _ (TJ32.setTop (mkF m 179 #[.val (.int p0), .val (.int p1), .val (.int p2), .val (.int p3), .val (.int bf), .val (.int af), .val (.int (0 : Int32)), .val (.ref b11), .val (.int cv), .val (.int ib), .val (.int ia), .unset] [(.int ia)]))
                          have J197_38 : ∀ (ev : Int32) (hev : own_m y0 s1 = ev), own_Ends p e below s 2 5 (own_Q0 Z p0 p1 p2 p3  h0 n0) (TJ32.setTop (mkF m 197 #[.val (.int p0), .val (.int p1), .val (.int p2), .val (.int p3), .val (.int bf), .val (.int af), .val (.int (0 : Int32)), .val (.ref b11), .val (.int cv), .val (.int ib), .val (.int ia), .unset] [(.int ev)])) := by
                            intro ev hev
                            show own_Ends _ _ _ _ _ _ _ (TJ32.setTop (mkF m 197 #[.val (.int p0), .val (.int p1), .val (.int p2), .val (.int p3), .val (.int bf), .val (.int af), .val (.int (0 : Int32)), .val (.ref b11), .val (.int cv), .val (.int ib), .val (.int ia), .unset] [(.int ev)]))
                            refine own_step (fun _ k => XS.istore XJ32.here hx rfl (hb hby at_197) rfl (l' := #[.val (.int p0), .val (.int p1), .val (.int p2), .val (.int p3), .val (.int bf), .val (.int af), .val (.int (0 : Int32)), .val (.ref b11), .val (.int cv), .val (.int ib), .val (.int ia), .val (.int ev)]) rfl k) ?_
                            show own_Ends _ _ _ _ _ _ _ (TJ32.setTop (mkF m 199 #[.val (.int p0), .val (.int p1), .val (.int p2), .val (.int p3), .val (.int bf), .val (.int af), .val (.int (0 : Int32)), .val (.ref b11), .val (.int cv), .val (.int ib), .val (.int ia), .val (.int ev)] []))
                            refine own_step (fun _ k => XS.aload XJ32.here hx rfl (hb hby at_199) rfl rfl k) ?_
                            show own_Ends _ _ _ _ _ _ _ (TJ32.setTop (mkF m 201 #[.val (.int p0), .val (.int p1), .val (.int p2), .val (.int p3), .val (.int bf), .val (.int af), .val (.int (0 : Int32)), .val (.ref b11), .val (.int cv), .val (.int ib), .val (.int ia), .val (.int ev)] [(.ref b11)]))
                            refine own_step (fun _ k => XS.iload XJ32.here hx rfl (hb hby at_201) rfl k) ?_
                            show own_Ends _ _ _ _ _ _ _ (TJ32.setTop (mkF m 203 #[.val (.int p0), .val (.int p1), .val (.int p2), .val (.int p3), .val (.int bf), .val (.int af), .val (.int (0 : Int32)), .val (.ref b11), .val (.int cv), .val (.int ib), .val (.int ia), .val (.int ev)] [(.int (0 : Int32)), (.ref b11)]))
                            obtain ⟨cl39, Ar39, qq39, S39, M39, H39, G39⟩ := id VJa2
                            have hin39 : ¬ ((0 : Int32) < 0 ∨ cl39.slots.size ≤ ((0 : Int32)).toNatClampNeg) := inb_of S39 ⟨by decide, by decide⟩
                            have hat39 : cl39.slots[((0 : Int32)).toNatClampNeg]? = some (.int y0) := Has.at H39 hin39 rfl
                            obtain ⟨cq40, kq40, qa40, qb40, qc40⟩ := isOf hZ eJ32 AJa2
                            obtain ⟨_, _, ⟨T40, L40, k40, n40⟩, -, X40, ⟨Lc40, hQ40, l40, y40, z40⟩, st40⟩ := XJ32.virtualBack hx (y := (⟨"com/example/diptych/diptych/solver/Marks", "marked", "(I)Z"⟩ : MethodName)) (z := (⟨"com/example/diptych/diptych/solver/Marks", "marked", "(I)Z"⟩ : MethodName)) hown (mvT hZ (hw _ (List.mem_of_getElem? (i := 26) rfl))) (mvT hZ (hw _ (List.mem_of_getElem? (i := 27) rfl))) (notFace_of_selects (args := #[]) (mvT hZ (hw _ (List.mem_of_getElem? (i := 29) rfl)))) (mvT hZ (hw _ (List.mem_of_getElem? (i := 29) rfl))) (mvT hZ (hw _ (List.mem_of_getElem? (i := 28) rfl))) (by decide) (backOf (W := 0) (own_rm4 l Z a0 hw [] b11 (0 : Int32) ba cl39 y0 s1 hJ32 n0 ZJ32 FJa2 GJa2 Ar39 hin39 hat39) hZ (hw _ (List.mem_of_getElem? (i := 30) rfl)) (hw _ (List.mem_of_getElem? (i := 3) rfl)) (by decide) (by decide)) qa40 qc40 (g := (mkF m 203 #[.val (.int p0), .val (.int p1), .val (.int p2), .val (.int p3), .val (.int bf), .val (.int af), .val (.int (0 : Int32)), .val (.ref b11), .val (.int cv), .val (.int ib), .val (.int ia), .val (.int ev)] [(.int (0 : Int32)), (.ref b11)])) rfl (by rw [hml]; rfl) (Steps.refl _) (argsL := [(.int (0 : Int32))]) (rest := []) (lenOf own_pd2 rfl) rfl (by show 2 * 0 + _ ≤ _; exact Nat.le_of_eq rfl) (hb hby at_203) (fun _ _ => ⟨rfl, eJ32, (by decide : 2 + 0 ≤ _), (by decide : 5 + 0 ≤ _)⟩)
                            dsimp only [Pt.U, Pt.locs, Pt.cells, Pt.slots] at X40 l40 y40 z40 st40 hQ40
                            subst l40 y40 z40
                            obtain ⟨rfl, Nq40, e40⟩ := hQ40
                            have N40 := Fr.app NJ32 Nq40
                            refine own_step (fun _ k => st40.trans k) ?_
                            show own_Ends _ _ _ _ _ _ _ (T40.setTop (mkF m 206 #[.val (.int p0), .val (.int p1), .val (.int p2), .val (.int p3), .val (.int bf), .val (.int af), .val (.int (0 : Int32)), .val (.ref b11), .val (.int cv), .val (.int ib), .val (.int ia), .val (.int ev)] [(.int (own_m y0 s1))]))
                            refine own_step (fun _ k => XS.iload X40.here hx rfl (hb hby at_206) rfl k) ?_
                            show own_Ends _ _ _ _ _ _ _ (T40.setTop (mkF m 208 #[.val (.int p0), .val (.int p1), .val (.int p2), .val (.int p3), .val (.int bf), .val (.int af), .val (.int (0 : Int32)), .val (.ref b11), .val (.int cv), .val (.int ib), .val (.int ia), .val (.int ev)] [(.int ev), (.int (own_m y0 s1))]))
                            refine own_step (fun _ k => XS.icmpNo X40.here hx rfl (hb hby at_208) rfl (teq hev).2 k) ?_
                            show own_Ends _ _ _ _ _ _ _ (T40.setTop (mkF m 211 #[.val (.int p0), .val (.int p1), .val (.int p2), .val (.int p3), .val (.int bf), .val (.int af), .val (.int (0 : Int32)), .val (.ref b11), .val (.int cv), .val (.int ib), .val (.int ia), .val (.int ev)] []))
                            refine own_step (fun _ k => XS.iconst X40.here hx rfl (hb hby at_211) k) ?_
                            show own_Ends _ _ _ _ _ _ _ (T40.setTop (mkF m 212 #[.val (.int p0), .val (.int p1), .val (.int p2), .val (.int p3), .val (.int bf), .val (.int af), .val (.int (0 : Int32)), .val (.ref b11), .val (.int cv), .val (.int ib), .val (.int ia), .val (.int ev)] [(.int (1 : Int32))]))
                            refine own_step (fun _ k => XS.goto X40.here hx rfl (pc0 := 212) (pc' := 216) rfl (hb hby at_212) (by decide) (by decide) k) ?_
                            show own_Ends _ _ _ _ _ _ _ (T40.setTop (mkF m 216 #[.val (.int p0), .val (.int p1), .val (.int p2), .val (.int p3), .val (.int bf), .val (.int af), .val (.int (0 : Int32)), .val (.ref b11), .val (.int cv), .val (.int ib), .val (.int ia), .val (.int ev)] [(.int (1 : Int32))]))
                            refine own_ret X40 (BodyLoose.notSynchronized Bd) (v := (some (.int (1 : Int32)))) (fun h => by rw [Bd.returns] at h; cases h) ?_ (by decide) (by decide) (fun fs hr => X40.ireturnOut hx Bd.returns rfl (by simp) (hb hby at_216) hr)
                            show own_Q0 Z p0 p1 p2 p3  h0 n0 (some (.int (1 : Int32))) T40.heap _
                            rw [e40]
                            exact ⟨rfl, N40⟩
                          by_cases k1 : ia = (0 : Int32)
                          · refine own_step (fun _ k => XS.ifNo XJ32.here hx rfl (hb hby at_179) rfl ((if0 _ _).trans (teq k1).2) k) ?_
                            show own_Ends _ _ _ _ _ _ _ (TJ32.setTop (mkF m 182 #[.val (.int p0), .val (.int p1), .val (.int p2), .val (.int p3), .val (.int bf), .val (.int af), .val (.int (0 : Int32)), .val (.ref b11), .val (.int cv), .val (.int ib), .val (.int ia), .unset] []))
                            refine own_step (fun _ k => XS.iload XJ32.here hx rfl (hb hby at_182) rfl k) ?_
                            show own_Ends _ _ _ _ _ _ _ (TJ32.setTop (mkF m 184 #[.val (.int p0), .val (.int p1), .val (.int p2), .val (.int p3), .val (.int bf), .val (.int af), .val (.int (0 : Int32)), .val (.ref b11), .val (.int cv), .val (.int ib), .val (.int ia), .unset] [(.int cv)]))
                            by_cases k2 : cv = (0 : Int32)
                            · refine own_step (fun _ k => XS.ifNo XJ32.here hx rfl (hb hby at_184) rfl ((if0 _ _).trans (teq k2).2) k) ?_
                              show own_Ends _ _ _ _ _ _ _ (TJ32.setTop (mkF m 187 #[.val (.int p0), .val (.int p1), .val (.int p2), .val (.int p3), .val (.int bf), .val (.int af), .val (.int (0 : Int32)), .val (.ref b11), .val (.int cv), .val (.int ib), .val (.int ia), .unset] []))
                              refine own_step (fun _ k => XS.iload XJ32.here hx rfl (hb hby at_187) rfl k) ?_
                              show own_Ends _ _ _ _ _ _ _ (TJ32.setTop (mkF m 189 #[.val (.int p0), .val (.int p1), .val (.int p2), .val (.int p3), .val (.int bf), .val (.int af), .val (.int (0 : Int32)), .val (.ref b11), .val (.int cv), .val (.int ib), .val (.int ia), .unset] [(.int ib)]))
                              by_cases k3 : ib = (0 : Int32)
                              · refine own_step (fun _ k => XS.ifYes XJ32.here hx rfl (pc0 := 189) (pc' := 196) rfl (hb hby at_189) rfl ((if0 _ _).trans (teq k3).1) (by decide) (by decide) k) ?_
                                show own_Ends _ _ _ _ _ _ _ (TJ32.setTop (mkF m 196 #[.val (.int p0), .val (.int p1), .val (.int p2), .val (.int p3), .val (.int bf), .val (.int af), .val (.int (0 : Int32)), .val (.ref b11), .val (.int cv), .val (.int ib), .val (.int ia), .unset] []))
                                refine own_step (fun _ k => XS.iconst XJ32.here hx rfl (hb hby at_196) k) ?_
                                show own_Ends _ _ _ _ _ _ _ (TJ32.setTop (mkF m 197 #[.val (.int p0), .val (.int p1), .val (.int p2), .val (.int p3), .val (.int bf), .val (.int af), .val (.int (0 : Int32)), .val (.ref b11), .val (.int cv), .val (.int ib), .val (.int ia), .unset] [(.int (0 : Int32))]))
                                exact J197_38 _ (own_f3 hia hib hcv k1 k2 k3)
                              · refine own_step (fun _ k => XS.ifNo XJ32.here hx rfl (hb hby at_189) rfl ((if0 _ _).trans (feq k3).1) k) ?_
                                show own_Ends _ _ _ _ _ _ _ (TJ32.setTop (mkF m 192 #[.val (.int p0), .val (.int p1), .val (.int p2), .val (.int p3), .val (.int bf), .val (.int af), .val (.int (0 : Int32)), .val (.ref b11), .val (.int cv), .val (.int ib), .val (.int ia), .unset] []))
                                refine own_step (fun _ k => XS.iconst XJ32.here hx rfl (hb hby at_192) k) ?_
                                show own_Ends _ _ _ _ _ _ _ (TJ32.setTop (mkF m 193 #[.val (.int p0), .val (.int p1), .val (.int p2), .val (.int p3), .val (.int bf), .val (.int af), .val (.int (0 : Int32)), .val (.ref b11), .val (.int cv), .val (.int ib), .val (.int ia), .unset] [(.int (1 : Int32))]))
                                refine own_step (fun _ k => XS.goto XJ32.here hx rfl (pc0 := 193) (pc' := 197) rfl (hb hby at_193) (by decide) (by decide) k) ?_
                                show own_Ends _ _ _ _ _ _ _ (TJ32.setTop (mkF m 197 #[.val (.int p0), .val (.int p1), .val (.int p2), .val (.int p3), .val (.int bf), .val (.int af), .val (.int (0 : Int32)), .val (.ref b11), .val (.int cv), .val (.int ib), .val (.int ia), .unset] [(.int (1 : Int32))]))
                                exact J197_38 _ (own_f4 hia hib hcv k1 k2 k3)
                            · refine own_step (fun _ k => XS.ifYes XJ32.here hx rfl (pc0 := 184) (pc' := 196) rfl (hb hby at_184) rfl ((if0 _ _).trans (feq k2).2) (by decide) (by decide) k) ?_
                              show own_Ends _ _ _ _ _ _ _ (TJ32.setTop (mkF m 196 #[.val (.int p0), .val (.int p1), .val (.int p2), .val (.int p3), .val (.int bf), .val (.int af), .val (.int (0 : Int32)), .val (.ref b11), .val (.int cv), .val (.int ib), .val (.int ia), .unset] []))
                              refine own_step (fun _ k => XS.iconst XJ32.here hx rfl (hb hby at_196) k) ?_
                              show own_Ends _ _ _ _ _ _ _ (TJ32.setTop (mkF m 197 #[.val (.int p0), .val (.int p1), .val (.int p2), .val (.int p3), .val (.int bf), .val (.int af), .val (.int (0 : Int32)), .val (.ref b11), .val (.int cv), .val (.int ib), .val (.int ia), .unset] [(.int (0 : Int32))]))
                              exact J197_38 _ (own_f2 hia hib hcv k1 k2)
                          · refine own_step (fun _ k => XS.ifYes XJ32.here hx rfl (pc0 := 179) (pc' := 192) rfl (hb hby at_179) rfl ((if0 _ _).trans (feq k1).2) (by decide) (by decide) k) ?_
                            show own_Ends _ _ _ _ _ _ _ (TJ32.setTop (mkF m 192 #[.val (.int p0), .val (.int p1), .val (.int p2), .val (.int p3), .val (.int bf), .val (.int af), .val (.int (0 : Int32)), .val (.ref b11), .val (.int cv), .val (.int ib), .val (.int ia), .unset] []))
                            refine own_step (fun _ k => XS.iconst XJ32.here hx rfl (hb hby at_192) k) ?_
                            show own_Ends _ _ _ _ _ _ _ (TJ32.setTop (mkF m 193 #[.val (.int p0), .val (.int p1), .val (.int p2), .val (.int p3), .val (.int bf), .val (.int af), .val (.int (0 : Int32)), .val (.ref b11), .val (.int cv), .val (.int ib), .val (.int ia), .unset] [(.int (1 : Int32))]))
                            refine own_step (fun _ k => XS.goto XJ32.here hx rfl (pc0 := 193) (pc' := 197) rfl (hb hby at_193) (by decide) (by decide) k) ?_
                            show own_Ends _ _ _ _ _ _ _ (TJ32.setTop (mkF m 197 #[.val (.int p0), .val (.int p1), .val (.int p2), .val (.int p3), .val (.int bf), .val (.int af), .val (.int (0 : Int32)), .val (.ref b11), .val (.int cv), .val (.int ib), .val (.int ia), .unset] [(.int (1 : Int32))]))
                            exact J197_38 _ (own_f1 hia hib hcv k1)
                        by_cases f2 : ((XT.ushr af (0 : Int32)) &&& (1 : Int32)) = (0 : Int32)
                        · refine own_step (fun _ k => XS.ifYes XJ32.here hx rfl (pc0 := 167) (pc' := 174) rfl (hb hby at_167) rfl ((if0 _ _).trans (teq f2).1) (by decide) (by decide) k) ?_
                          show own_Ends _ _ _ _ _ _ _ (TJ32.setTop (mkF m 174 #[.val (.int p0), .val (.int p1), .val (.int p2), .val (.int p3), .val (.int bf), .val (.int af), .val (.int (0 : Int32)), .val (.ref b11), .val (.int cv), .val (.int ib), .unset, .unset] []))
                          refine own_step (fun _ k => XS.iconst XJ32.here hx rfl (hb hby at_174) k) ?_
                          show own_Ends _ _ _ _ _ _ _ (TJ32.setTop (mkF m 175 #[.val (.int p0), .val (.int p1), .val (.int p2), .val (.int p3), .val (.int bf), .val (.int af), .val (.int (0 : Int32)), .val (.ref b11), .val (.int cv), .val (.int ib), .unset, .unset] [(.int (0 : Int32))]))
                          exact J175_37 _ (Or.inl ⟨rfl, by rw [hy0, if_pos (ha0.mp f2)]⟩)
                        · refine own_step (fun _ k => XS.ifNo XJ32.here hx rfl (hb hby at_167) rfl ((if0 _ _).trans (feq f2).1) k) ?_
                          show own_Ends _ _ _ _ _ _ _ (TJ32.setTop (mkF m 170 #[.val (.int p0), .val (.int p1), .val (.int p2), .val (.int p3), .val (.int bf), .val (.int af), .val (.int (0 : Int32)), .val (.ref b11), .val (.int cv), .val (.int ib), .unset, .unset] []))
                          refine own_step (fun _ k => XS.iconst XJ32.here hx rfl (hb hby at_170) k) ?_
                          show own_Ends _ _ _ _ _ _ _ (TJ32.setTop (mkF m 171 #[.val (.int p0), .val (.int p1), .val (.int p2), .val (.int p3), .val (.int bf), .val (.int af), .val (.int (0 : Int32)), .val (.ref b11), .val (.int cv), .val (.int ib), .unset, .unset] [(.int (1 : Int32))]))
                          refine own_step (fun _ k => XS.goto XJ32.here hx rfl (pc0 := 171) (pc' := 175) rfl (hb hby at_171) (by decide) (by decide) k) ?_
                          show own_Ends _ _ _ _ _ _ _ (TJ32.setTop (mkF m 175 #[.val (.int p0), .val (.int p1), .val (.int p2), .val (.int p3), .val (.int bf), .val (.int af), .val (.int (0 : Int32)), .val (.ref b11), .val (.int cv), .val (.int ib), .unset, .unset] [(.int (1 : Int32))]))
                          exact J175_37 _ (Or.inr ⟨rfl, by rw [hy0, if_neg (fun q => f2 (ha0.mpr q))]⟩)
                      by_cases f1 : ((XT.ushr bf (0 : Int32)) &&& (1 : Int32)) = (0 : Int32)
                      · refine own_step (fun _ k => XS.ifYes XJ32.here hx rfl (pc0 := 150) (pc' := 157) rfl (hb hby at_150) rfl ((if0 _ _).trans (teq f1).1) (by decide) (by decide) k) ?_
                        show own_Ends _ _ _ _ _ _ _ (TJ32.setTop (mkF m 157 #[.val (.int p0), .val (.int p1), .val (.int p2), .val (.int p3), .val (.int bf), .val (.int af), .val (.int (0 : Int32)), .val (.ref b11), .val (.int cv), .unset, .unset, .unset] []))
                        refine own_step (fun _ k => XS.iconst XJ32.here hx rfl (hb hby at_157) k) ?_
                        show own_Ends _ _ _ _ _ _ _ (TJ32.setTop (mkF m 158 #[.val (.int p0), .val (.int p1), .val (.int p2), .val (.int p3), .val (.int bf), .val (.int af), .val (.int (0 : Int32)), .val (.ref b11), .val (.int cv), .unset, .unset, .unset] [(.int (0 : Int32))]))
                        exact J158_36 _ (Or.inl ⟨rfl, by rw [hx0, if_pos (hbl0.mp f1)]⟩)
                      · refine own_step (fun _ k => XS.ifNo XJ32.here hx rfl (hb hby at_150) rfl ((if0 _ _).trans (feq f1).1) k) ?_
                        show own_Ends _ _ _ _ _ _ _ (TJ32.setTop (mkF m 153 #[.val (.int p0), .val (.int p1), .val (.int p2), .val (.int p3), .val (.int bf), .val (.int af), .val (.int (0 : Int32)), .val (.ref b11), .val (.int cv), .unset, .unset, .unset] []))
                        refine own_step (fun _ k => XS.iconst XJ32.here hx rfl (hb hby at_153) k) ?_
                        show own_Ends _ _ _ _ _ _ _ (TJ32.setTop (mkF m 154 #[.val (.int p0), .val (.int p1), .val (.int p2), .val (.int p3), .val (.int bf), .val (.int af), .val (.int (0 : Int32)), .val (.ref b11), .val (.int cv), .unset, .unset, .unset] [(.int (1 : Int32))]))
                        refine own_step (fun _ k => XS.goto XJ32.here hx rfl (pc0 := 154) (pc' := 158) rfl (hb hby at_154) (by decide) (by decide) k) ?_
                        show own_Ends _ _ _ _ _ _ _ (TJ32.setTop (mkF m 158 #[.val (.int p0), .val (.int p1), .val (.int p2), .val (.int p3), .val (.int bf), .val (.int af), .val (.int (0 : Int32)), .val (.ref b11), .val (.int cv), .unset, .unset, .unset] [(.int (1 : Int32))]))
                        exact J158_36 _ (Or.inr ⟨rfl, by rw [hx0, if_neg (fun q => f1 (hbl0.mpr q))]⟩)
                    · show own_Ends _ _ _ _ _ _ _ (TJ32.setTop (mkF m 143 #[.val (.int p0), .val (.int p1), .val (.int p2), .val (.int p3), .val (.int bf), .val (.int af), .val (.int (1 : Int32)), .val (.ref b11), .val (.int cv), .unset, .unset, .unset] []))
                      refine own_step (fun _ k => XS.iload XJ32.here hx rfl (hb hby at_143) rfl k) ?_
                      show own_Ends _ _ _ _ _ _ _ (TJ32.setTop (mkF m 145 #[.val (.int p0), .val (.int p1), .val (.int p2), .val (.int p3), .val (.int bf), .val (.int af), .val (.int (1 : Int32)), .val (.ref b11), .val (.int cv), .unset, .unset, .unset] [(.int bf)]))
                      refine own_step (fun _ k => XS.iload XJ32.here hx rfl (hb hby at_145) rfl k) ?_
                      show own_Ends _ _ _ _ _ _ _ (TJ32.setTop (mkF m 147 #[.val (.int p0), .val (.int p1), .val (.int p2), .val (.int p3), .val (.int bf), .val (.int af), .val (.int (1 : Int32)), .val (.ref b11), .val (.int cv), .unset, .unset, .unset] [(.int (1 : Int32)), (.int bf)]))
                      refine own_step (fun _ k => XT.iushr XJ32.here hx rfl (hb hby at_147) rfl k) ?_
                      show own_Ends _ _ _ _ _ _ _ (TJ32.setTop (mkF m 148 #[.val (.int p0), .val (.int p1), .val (.int p2), .val (.int p3), .val (.int bf), .val (.int af), .val (.int (1 : Int32)), .val (.ref b11), .val (.int cv), .unset, .unset, .unset] [(.int (XT.ushr bf (1 : Int32)))]))
                      refine own_step (fun _ k => XS.iconst XJ32.here hx rfl (hb hby at_148) k) ?_
                      show own_Ends _ _ _ _ _ _ _ (TJ32.setTop (mkF m 149 #[.val (.int p0), .val (.int p1), .val (.int p2), .val (.int p3), .val (.int bf), .val (.int af), .val (.int (1 : Int32)), .val (.ref b11), .val (.int cv), .unset, .unset, .unset] [(.int (1 : Int32)), (.int (XT.ushr bf (1 : Int32)))]))
                      refine own_step (fun _ k => XS.iand XJ32.here hx rfl (hb hby at_149) rfl k) ?_
                      show own_Ends _ _ _ _ _ _ _ (TJ32.setTop (mkF m 150 #[.val (.int p0), .val (.int p1), .val (.int p2), .val (.int p3), .val (.int bf), .val (.int af), .val (.int (1 : Int32)), .val (.ref b11), .val (.int cv), .unset, .unset, .unset] [(.int ((XT.ushr bf (1 : Int32)) &&& (1 : Int32)))]))
                      have J158_41 : ∀ (ib : Int32) (hib : ib = 0 ∧ x1 = 0 ∨ ib = 1 ∧ x1 = 1), own_Ends p e below s 2 5 (own_Q0 Z p0 p1 p2 p3  h0 n0) (TJ32.setTop (mkF m 158 #[.val (.int p0), .val (.int p1), .val (.int p2), .val (.int p3), .val (.int bf), .val (.int af), .val (.int (1 : Int32)), .val (.ref b11), .val (.int cv), .unset, .unset, .unset] [(.int ib)])) := by
                        intro ib hib
                        show own_Ends _ _ _ _ _ _ _ (TJ32.setTop (mkF m 158 #[.val (.int p0), .val (.int p1), .val (.int p2), .val (.int p3), .val (.int bf), .val (.int af), .val (.int (1 : Int32)), .val (.ref b11), .val (.int cv), .unset, .unset, .unset] [(.int ib)]))
                        refine own_step (fun _ k => XS.istore XJ32.here hx rfl (hb hby at_158) rfl (l' := #[.val (.int p0), .val (.int p1), .val (.int p2), .val (.int p3), .val (.int bf), .val (.int af), .val (.int (1 : Int32)), .val (.ref b11), .val (.int cv), .val (.int ib), .unset, .unset]) rfl k) ?_
                        show own_Ends _ _ _ _ _ _ _ (TJ32.setTop (mkF m 160 #[.val (.int p0), .val (.int p1), .val (.int p2), .val (.int p3), .val (.int bf), .val (.int af), .val (.int (1 : Int32)), .val (.ref b11), .val (.int cv), .val (.int ib), .unset, .unset] []))
                        refine own_step (fun _ k => XS.iload XJ32.here hx rfl (hb hby at_160) rfl k) ?_
                        show own_Ends _ _ _ _ _ _ _ (TJ32.setTop (mkF m 162 #[.val (.int p0), .val (.int p1), .val (.int p2), .val (.int p3), .val (.int bf), .val (.int af), .val (.int (1 : Int32)), .val (.ref b11), .val (.int cv), .val (.int ib), .unset, .unset] [(.int af)]))
                        refine own_step (fun _ k => XS.iload XJ32.here hx rfl (hb hby at_162) rfl k) ?_
                        show own_Ends _ _ _ _ _ _ _ (TJ32.setTop (mkF m 164 #[.val (.int p0), .val (.int p1), .val (.int p2), .val (.int p3), .val (.int bf), .val (.int af), .val (.int (1 : Int32)), .val (.ref b11), .val (.int cv), .val (.int ib), .unset, .unset] [(.int (1 : Int32)), (.int af)]))
                        refine own_step (fun _ k => XT.iushr XJ32.here hx rfl (hb hby at_164) rfl k) ?_
                        show own_Ends _ _ _ _ _ _ _ (TJ32.setTop (mkF m 165 #[.val (.int p0), .val (.int p1), .val (.int p2), .val (.int p3), .val (.int bf), .val (.int af), .val (.int (1 : Int32)), .val (.ref b11), .val (.int cv), .val (.int ib), .unset, .unset] [(.int (XT.ushr af (1 : Int32)))]))
                        refine own_step (fun _ k => XS.iconst XJ32.here hx rfl (hb hby at_165) k) ?_
                        show own_Ends _ _ _ _ _ _ _ (TJ32.setTop (mkF m 166 #[.val (.int p0), .val (.int p1), .val (.int p2), .val (.int p3), .val (.int bf), .val (.int af), .val (.int (1 : Int32)), .val (.ref b11), .val (.int cv), .val (.int ib), .unset, .unset] [(.int (1 : Int32)), (.int (XT.ushr af (1 : Int32)))]))
                        refine own_step (fun _ k => XS.iand XJ32.here hx rfl (hb hby at_166) rfl k) ?_
                        show own_Ends _ _ _ _ _ _ _ (TJ32.setTop (mkF m 167 #[.val (.int p0), .val (.int p1), .val (.int p2), .val (.int p3), .val (.int bf), .val (.int af), .val (.int (1 : Int32)), .val (.ref b11), .val (.int cv), .val (.int ib), .unset, .unset] [(.int ((XT.ushr af (1 : Int32)) &&& (1 : Int32)))]))
                        have J175_42 : ∀ (ia : Int32) (hia : ia = 0 ∧ y1 = x1 ∨ ia = 1 ∧ y1 = s1), own_Ends p e below s 2 5 (own_Q0 Z p0 p1 p2 p3  h0 n0) (TJ32.setTop (mkF m 175 #[.val (.int p0), .val (.int p1), .val (.int p2), .val (.int p3), .val (.int bf), .val (.int af), .val (.int (1 : Int32)), .val (.ref b11), .val (.int cv), .val (.int ib), .unset, .unset] [(.int ia)])) := by
                          intro ia hia
                          show own_Ends _ _ _ _ _ _ _ (TJ32.setTop (mkF m 175 #[.val (.int p0), .val (.int p1), .val (.int p2), .val (.int p3), .val (.int bf), .val (.int af), .val (.int (1 : Int32)), .val (.ref b11), .val (.int cv), .val (.int ib), .unset, .unset] [(.int ia)]))
                          refine own_step (fun _ k => XS.istore XJ32.here hx rfl (hb hby at_175) rfl (l' := #[.val (.int p0), .val (.int p1), .val (.int p2), .val (.int p3), .val (.int bf), .val (.int af), .val (.int (1 : Int32)), .val (.ref b11), .val (.int cv), .val (.int ib), .val (.int ia), .unset]) rfl k) ?_
                          show own_Ends _ _ _ _ _ _ _ (TJ32.setTop (mkF m 177 #[.val (.int p0), .val (.int p1), .val (.int p2), .val (.int p3), .val (.int bf), .val (.int af), .val (.int (1 : Int32)), .val (.ref b11), .val (.int cv), .val (.int ib), .val (.int ia), .unset] []))
                          refine own_step (fun _ k => XS.iload XJ32.here hx rfl (hb hby at_177) rfl k) ?_
                          show own_Ends _ _ _ _ _ _ _ (TJ32.setTop (mkF m 179 #[.val (.int p0), .val (.int p1), .val (.int p2), .val (.int p3), .val (.int bf), .val (.int af), .val (.int (1 : Int32)), .val (.ref b11), .val (.int cv), .val (.int ib), .val (.int ia), .unset] [(.int ia)]))
                          have J197_43 : ∀ (ev : Int32) (hev : own_m y1 s1 = ev), own_Ends p e below s 2 5 (own_Q0 Z p0 p1 p2 p3  h0 n0) (TJ32.setTop (mkF m 197 #[.val (.int p0), .val (.int p1), .val (.int p2), .val (.int p3), .val (.int bf), .val (.int af), .val (.int (1 : Int32)), .val (.ref b11), .val (.int cv), .val (.int ib), .val (.int ia), .unset] [(.int ev)])) := by
                            intro ev hev
                            show own_Ends _ _ _ _ _ _ _ (TJ32.setTop (mkF m 197 #[.val (.int p0), .val (.int p1), .val (.int p2), .val (.int p3), .val (.int bf), .val (.int af), .val (.int (1 : Int32)), .val (.ref b11), .val (.int cv), .val (.int ib), .val (.int ia), .unset] [(.int ev)]))
                            refine own_step (fun _ k => XS.istore XJ32.here hx rfl (hb hby at_197) rfl (l' := #[.val (.int p0), .val (.int p1), .val (.int p2), .val (.int p3), .val (.int bf), .val (.int af), .val (.int (1 : Int32)), .val (.ref b11), .val (.int cv), .val (.int ib), .val (.int ia), .val (.int ev)]) rfl k) ?_
                            show own_Ends _ _ _ _ _ _ _ (TJ32.setTop (mkF m 199 #[.val (.int p0), .val (.int p1), .val (.int p2), .val (.int p3), .val (.int bf), .val (.int af), .val (.int (1 : Int32)), .val (.ref b11), .val (.int cv), .val (.int ib), .val (.int ia), .val (.int ev)] []))
                            refine own_step (fun _ k => XS.aload XJ32.here hx rfl (hb hby at_199) rfl rfl k) ?_
                            show own_Ends _ _ _ _ _ _ _ (TJ32.setTop (mkF m 201 #[.val (.int p0), .val (.int p1), .val (.int p2), .val (.int p3), .val (.int bf), .val (.int af), .val (.int (1 : Int32)), .val (.ref b11), .val (.int cv), .val (.int ib), .val (.int ia), .val (.int ev)] [(.ref b11)]))
                            refine own_step (fun _ k => XS.iload XJ32.here hx rfl (hb hby at_201) rfl k) ?_
                            show own_Ends _ _ _ _ _ _ _ (TJ32.setTop (mkF m 203 #[.val (.int p0), .val (.int p1), .val (.int p2), .val (.int p3), .val (.int bf), .val (.int af), .val (.int (1 : Int32)), .val (.ref b11), .val (.int cv), .val (.int ib), .val (.int ia), .val (.int ev)] [(.int (1 : Int32)), (.ref b11)]))
                            obtain ⟨cl44, Ar44, qq44, S44, M44, H44, G44⟩ := id VJa2
                            have hin44 : ¬ ((1 : Int32) < 0 ∨ cl44.slots.size ≤ ((1 : Int32)).toNatClampNeg) := inb_of S44 ⟨by decide, by decide⟩
                            have hat44 : cl44.slots[((1 : Int32)).toNatClampNeg]? = some (.int y1) := Has.at H44 hin44 rfl
                            obtain ⟨cq45, kq45, qa45, qb45, qc45⟩ := isOf hZ eJ32 AJa2
                            obtain ⟨_, _, ⟨T45, L45, k45, n45⟩, -, X45, ⟨Lc45, hQ45, l45, y45, z45⟩, st45⟩ := XJ32.virtualBack hx (y := (⟨"com/example/diptych/diptych/solver/Marks", "marked", "(I)Z"⟩ : MethodName)) (z := (⟨"com/example/diptych/diptych/solver/Marks", "marked", "(I)Z"⟩ : MethodName)) hown (mvT hZ (hw _ (List.mem_of_getElem? (i := 26) rfl))) (mvT hZ (hw _ (List.mem_of_getElem? (i := 27) rfl))) (notFace_of_selects (args := #[]) (mvT hZ (hw _ (List.mem_of_getElem? (i := 29) rfl)))) (mvT hZ (hw _ (List.mem_of_getElem? (i := 29) rfl))) (mvT hZ (hw _ (List.mem_of_getElem? (i := 28) rfl))) (by decide) (backOf (W := 0) (own_rm4 l Z a0 hw [] b11 (1 : Int32) ba cl44 y1 s1 hJ32 n0 ZJ32 FJa2 GJa2 Ar44 hin44 hat44) hZ (hw _ (List.mem_of_getElem? (i := 30) rfl)) (hw _ (List.mem_of_getElem? (i := 3) rfl)) (by decide) (by decide)) qa45 qc45 (g := (mkF m 203 #[.val (.int p0), .val (.int p1), .val (.int p2), .val (.int p3), .val (.int bf), .val (.int af), .val (.int (1 : Int32)), .val (.ref b11), .val (.int cv), .val (.int ib), .val (.int ia), .val (.int ev)] [(.int (1 : Int32)), (.ref b11)])) rfl (by rw [hml]; rfl) (Steps.refl _) (argsL := [(.int (1 : Int32))]) (rest := []) (lenOf own_pd2 rfl) rfl (by show 2 * 0 + _ ≤ _; exact Nat.le_of_eq rfl) (hb hby at_203) (fun _ _ => ⟨rfl, eJ32, (by decide : 2 + 0 ≤ _), (by decide : 5 + 0 ≤ _)⟩)
                            dsimp only [Pt.U, Pt.locs, Pt.cells, Pt.slots] at X45 l45 y45 z45 st45 hQ45
                            subst l45 y45 z45
                            obtain ⟨rfl, Nq45, e45⟩ := hQ45
                            have N45 := Fr.app NJ32 Nq45
                            refine own_step (fun _ k => st45.trans k) ?_
                            show own_Ends _ _ _ _ _ _ _ (T45.setTop (mkF m 206 #[.val (.int p0), .val (.int p1), .val (.int p2), .val (.int p3), .val (.int bf), .val (.int af), .val (.int (1 : Int32)), .val (.ref b11), .val (.int cv), .val (.int ib), .val (.int ia), .val (.int ev)] [(.int (own_m y1 s1))]))
                            refine own_step (fun _ k => XS.iload X45.here hx rfl (hb hby at_206) rfl k) ?_
                            show own_Ends _ _ _ _ _ _ _ (T45.setTop (mkF m 208 #[.val (.int p0), .val (.int p1), .val (.int p2), .val (.int p3), .val (.int bf), .val (.int af), .val (.int (1 : Int32)), .val (.ref b11), .val (.int cv), .val (.int ib), .val (.int ia), .val (.int ev)] [(.int ev), (.int (own_m y1 s1))]))
                            refine own_step (fun _ k => XS.icmpNo X45.here hx rfl (hb hby at_208) rfl (teq hev).2 k) ?_
                            show own_Ends _ _ _ _ _ _ _ (T45.setTop (mkF m 211 #[.val (.int p0), .val (.int p1), .val (.int p2), .val (.int p3), .val (.int bf), .val (.int af), .val (.int (1 : Int32)), .val (.ref b11), .val (.int cv), .val (.int ib), .val (.int ia), .val (.int ev)] []))
                            refine own_step (fun _ k => XS.iconst X45.here hx rfl (hb hby at_211) k) ?_
                            show own_Ends _ _ _ _ _ _ _ (T45.setTop (mkF m 212 #[.val (.int p0), .val (.int p1), .val (.int p2), .val (.int p3), .val (.int bf), .val (.int af), .val (.int (1 : Int32)), .val (.ref b11), .val (.int cv), .val (.int ib), .val (.int ia), .val (.int ev)] [(.int (1 : Int32))]))
                            refine own_step (fun _ k => XS.goto X45.here hx rfl (pc0 := 212) (pc' := 216) rfl (hb hby at_212) (by decide) (by decide) k) ?_
                            show own_Ends _ _ _ _ _ _ _ (T45.setTop (mkF m 216 #[.val (.int p0), .val (.int p1), .val (.int p2), .val (.int p3), .val (.int bf), .val (.int af), .val (.int (1 : Int32)), .val (.ref b11), .val (.int cv), .val (.int ib), .val (.int ia), .val (.int ev)] [(.int (1 : Int32))]))
                            refine own_ret X45 (BodyLoose.notSynchronized Bd) (v := (some (.int (1 : Int32)))) (fun h => by rw [Bd.returns] at h; cases h) ?_ (by decide) (by decide) (fun fs hr => X45.ireturnOut hx Bd.returns rfl (by simp) (hb hby at_216) hr)
                            show own_Q0 Z p0 p1 p2 p3  h0 n0 (some (.int (1 : Int32))) T45.heap _
                            rw [e45]
                            exact ⟨rfl, N45⟩
                          by_cases k1 : ia = (0 : Int32)
                          · refine own_step (fun _ k => XS.ifNo XJ32.here hx rfl (hb hby at_179) rfl ((if0 _ _).trans (teq k1).2) k) ?_
                            show own_Ends _ _ _ _ _ _ _ (TJ32.setTop (mkF m 182 #[.val (.int p0), .val (.int p1), .val (.int p2), .val (.int p3), .val (.int bf), .val (.int af), .val (.int (1 : Int32)), .val (.ref b11), .val (.int cv), .val (.int ib), .val (.int ia), .unset] []))
                            refine own_step (fun _ k => XS.iload XJ32.here hx rfl (hb hby at_182) rfl k) ?_
                            show own_Ends _ _ _ _ _ _ _ (TJ32.setTop (mkF m 184 #[.val (.int p0), .val (.int p1), .val (.int p2), .val (.int p3), .val (.int bf), .val (.int af), .val (.int (1 : Int32)), .val (.ref b11), .val (.int cv), .val (.int ib), .val (.int ia), .unset] [(.int cv)]))
                            by_cases k2 : cv = (0 : Int32)
                            · refine own_step (fun _ k => XS.ifNo XJ32.here hx rfl (hb hby at_184) rfl ((if0 _ _).trans (teq k2).2) k) ?_
                              show own_Ends _ _ _ _ _ _ _ (TJ32.setTop (mkF m 187 #[.val (.int p0), .val (.int p1), .val (.int p2), .val (.int p3), .val (.int bf), .val (.int af), .val (.int (1 : Int32)), .val (.ref b11), .val (.int cv), .val (.int ib), .val (.int ia), .unset] []))
                              refine own_step (fun _ k => XS.iload XJ32.here hx rfl (hb hby at_187) rfl k) ?_
                              show own_Ends _ _ _ _ _ _ _ (TJ32.setTop (mkF m 189 #[.val (.int p0), .val (.int p1), .val (.int p2), .val (.int p3), .val (.int bf), .val (.int af), .val (.int (1 : Int32)), .val (.ref b11), .val (.int cv), .val (.int ib), .val (.int ia), .unset] [(.int ib)]))
                              by_cases k3 : ib = (0 : Int32)
                              · refine own_step (fun _ k => XS.ifYes XJ32.here hx rfl (pc0 := 189) (pc' := 196) rfl (hb hby at_189) rfl ((if0 _ _).trans (teq k3).1) (by decide) (by decide) k) ?_
                                show own_Ends _ _ _ _ _ _ _ (TJ32.setTop (mkF m 196 #[.val (.int p0), .val (.int p1), .val (.int p2), .val (.int p3), .val (.int bf), .val (.int af), .val (.int (1 : Int32)), .val (.ref b11), .val (.int cv), .val (.int ib), .val (.int ia), .unset] []))
                                refine own_step (fun _ k => XS.iconst XJ32.here hx rfl (hb hby at_196) k) ?_
                                show own_Ends _ _ _ _ _ _ _ (TJ32.setTop (mkF m 197 #[.val (.int p0), .val (.int p1), .val (.int p2), .val (.int p3), .val (.int bf), .val (.int af), .val (.int (1 : Int32)), .val (.ref b11), .val (.int cv), .val (.int ib), .val (.int ia), .unset] [(.int (0 : Int32))]))
                                exact J197_43 _ (own_f3 hia hib hcv k1 k2 k3)
                              · refine own_step (fun _ k => XS.ifNo XJ32.here hx rfl (hb hby at_189) rfl ((if0 _ _).trans (feq k3).1) k) ?_
                                show own_Ends _ _ _ _ _ _ _ (TJ32.setTop (mkF m 192 #[.val (.int p0), .val (.int p1), .val (.int p2), .val (.int p3), .val (.int bf), .val (.int af), .val (.int (1 : Int32)), .val (.ref b11), .val (.int cv), .val (.int ib), .val (.int ia), .unset] []))
                                refine own_step (fun _ k => XS.iconst XJ32.here hx rfl (hb hby at_192) k) ?_
                                show own_Ends _ _ _ _ _ _ _ (TJ32.setTop (mkF m 193 #[.val (.int p0), .val (.int p1), .val (.int p2), .val (.int p3), .val (.int bf), .val (.int af), .val (.int (1 : Int32)), .val (.ref b11), .val (.int cv), .val (.int ib), .val (.int ia), .unset] [(.int (1 : Int32))]))
                                refine own_step (fun _ k => XS.goto XJ32.here hx rfl (pc0 := 193) (pc' := 197) rfl (hb hby at_193) (by decide) (by decide) k) ?_
                                show own_Ends _ _ _ _ _ _ _ (TJ32.setTop (mkF m 197 #[.val (.int p0), .val (.int p1), .val (.int p2), .val (.int p3), .val (.int bf), .val (.int af), .val (.int (1 : Int32)), .val (.ref b11), .val (.int cv), .val (.int ib), .val (.int ia), .unset] [(.int (1 : Int32))]))
                                exact J197_43 _ (own_f4 hia hib hcv k1 k2 k3)
                            · refine own_step (fun _ k => XS.ifYes XJ32.here hx rfl (pc0 := 184) (pc' := 196) rfl (hb hby at_184) rfl ((if0 _ _).trans (feq k2).2) (by decide) (by decide) k) ?_
                              show own_Ends _ _ _ _ _ _ _ (TJ32.setTop (mkF m 196 #[.val (.int p0), .val (.int p1), .val (.int p2), .val (.int p3), .val (.int bf), .val (.int af), .val (.int (1 : Int32)), .val (.ref b11), .val (.int cv), .val (.int ib), .val (.int ia), .unset] []))
                              refine own_step (fun _ k => XS.iconst XJ32.here hx rfl (hb hby at_196) k) ?_
                              show own_Ends _ _ _ _ _ _ _ (TJ32.setTop (mkF m 197 #[.val (.int p0), .val (.int p1), .val (.int p2), .val (.int p3), .val (.int bf), .val (.int af), .val (.int (1 : Int32)), .val (.ref b11), .val (.int cv), .val (.int ib), .val (.int ia), .unset] [(.int (0 : Int32))]))
                              exact J197_43 _ (own_f2 hia hib hcv k1 k2)
                          · refine own_step (fun _ k => XS.ifYes XJ32.here hx rfl (pc0 := 179) (pc' := 192) rfl (hb hby at_179) rfl ((if0 _ _).trans (feq k1).2) (by decide) (by decide) k) ?_
                            show own_Ends _ _ _ _ _ _ _ (TJ32.setTop (mkF m 192 #[.val (.int p0), .val (.int p1), .val (.int p2), .val (.int p3), .val (.int bf), .val (.int af), .val (.int (1 : Int32)), .val (.ref b11), .val (.int cv), .val (.int ib), .val (.int ia), .unset] []))
                            refine own_step (fun _ k => XS.iconst XJ32.here hx rfl (hb hby at_192) k) ?_
                            show own_Ends _ _ _ _ _ _ _ (TJ32.setTop (mkF m 193 #[.val (.int p0), .val (.int p1), .val (.int p2), .val (.int p3), .val (.int bf), .val (.int af), .val (.int (1 : Int32)), .val (.ref b11), .val (.int cv), .val (.int ib), .val (.int ia), .unset] [(.int (1 : Int32))]))
                            refine own_step (fun _ k => XS.goto XJ32.here hx rfl (pc0 := 193) (pc' := 197) rfl (hb hby at_193) (by decide) (by decide) k) ?_
                            show own_Ends _ _ _ _ _ _ _ (TJ32.setTop (mkF m 197 #[.val (.int p0), .val (.int p1), .val (.int p2), .val (.int p3), .val (.int bf), .val (.int af), .val (.int (1 : Int32)), .val (.ref b11), .val (.int cv), .val (.int ib), .val (.int ia), .unset] [(.int (1 : Int32))]))
                            exact J197_43 _ (own_f1 hia hib hcv k1)
                        by_cases f2 : ((XT.ushr af (1 : Int32)) &&& (1 : Int32)) = (0 : Int32)
                        · refine own_step (fun _ k => XS.ifYes XJ32.here hx rfl (pc0 := 167) (pc' := 174) rfl (hb hby at_167) rfl ((if0 _ _).trans (teq f2).1) (by decide) (by decide) k) ?_
                          show own_Ends _ _ _ _ _ _ _ (TJ32.setTop (mkF m 174 #[.val (.int p0), .val (.int p1), .val (.int p2), .val (.int p3), .val (.int bf), .val (.int af), .val (.int (1 : Int32)), .val (.ref b11), .val (.int cv), .val (.int ib), .unset, .unset] []))
                          refine own_step (fun _ k => XS.iconst XJ32.here hx rfl (hb hby at_174) k) ?_
                          show own_Ends _ _ _ _ _ _ _ (TJ32.setTop (mkF m 175 #[.val (.int p0), .val (.int p1), .val (.int p2), .val (.int p3), .val (.int bf), .val (.int af), .val (.int (1 : Int32)), .val (.ref b11), .val (.int cv), .val (.int ib), .unset, .unset] [(.int (0 : Int32))]))
                          exact J175_42 _ (Or.inl ⟨rfl, by rw [hy1, if_pos (ha1.mp f2)]⟩)
                        · refine own_step (fun _ k => XS.ifNo XJ32.here hx rfl (hb hby at_167) rfl ((if0 _ _).trans (feq f2).1) k) ?_
                          show own_Ends _ _ _ _ _ _ _ (TJ32.setTop (mkF m 170 #[.val (.int p0), .val (.int p1), .val (.int p2), .val (.int p3), .val (.int bf), .val (.int af), .val (.int (1 : Int32)), .val (.ref b11), .val (.int cv), .val (.int ib), .unset, .unset] []))
                          refine own_step (fun _ k => XS.iconst XJ32.here hx rfl (hb hby at_170) k) ?_
                          show own_Ends _ _ _ _ _ _ _ (TJ32.setTop (mkF m 171 #[.val (.int p0), .val (.int p1), .val (.int p2), .val (.int p3), .val (.int bf), .val (.int af), .val (.int (1 : Int32)), .val (.ref b11), .val (.int cv), .val (.int ib), .unset, .unset] [(.int (1 : Int32))]))
                          refine own_step (fun _ k => XS.goto XJ32.here hx rfl (pc0 := 171) (pc' := 175) rfl (hb hby at_171) (by decide) (by decide) k) ?_
                          show own_Ends _ _ _ _ _ _ _ (TJ32.setTop (mkF m 175 #[.val (.int p0), .val (.int p1), .val (.int p2), .val (.int p3), .val (.int bf), .val (.int af), .val (.int (1 : Int32)), .val (.ref b11), .val (.int cv), .val (.int ib), .unset, .unset] [(.int (1 : Int32))]))
                          exact J175_42 _ (Or.inr ⟨rfl, by rw [hy1, if_neg (fun q => f2 (ha1.mpr q))]⟩)
                      by_cases f1 : ((XT.ushr bf (1 : Int32)) &&& (1 : Int32)) = (0 : Int32)
                      · refine own_step (fun _ k => XS.ifYes XJ32.here hx rfl (pc0 := 150) (pc' := 157) rfl (hb hby at_150) rfl ((if0 _ _).trans (teq f1).1) (by decide) (by decide) k) ?_
                        show own_Ends _ _ _ _ _ _ _ (TJ32.setTop (mkF m 157 #[.val (.int p0), .val (.int p1), .val (.int p2), .val (.int p3), .val (.int bf), .val (.int af), .val (.int (1 : Int32)), .val (.ref b11), .val (.int cv), .unset, .unset, .unset] []))
                        refine own_step (fun _ k => XS.iconst XJ32.here hx rfl (hb hby at_157) k) ?_
                        show own_Ends _ _ _ _ _ _ _ (TJ32.setTop (mkF m 158 #[.val (.int p0), .val (.int p1), .val (.int p2), .val (.int p3), .val (.int bf), .val (.int af), .val (.int (1 : Int32)), .val (.ref b11), .val (.int cv), .unset, .unset, .unset] [(.int (0 : Int32))]))
                        exact J158_41 _ (Or.inl ⟨rfl, by rw [hx1, if_pos (hbl1.mp f1)]⟩)
                      · refine own_step (fun _ k => XS.ifNo XJ32.here hx rfl (hb hby at_150) rfl ((if0 _ _).trans (feq f1).1) k) ?_
                        show own_Ends _ _ _ _ _ _ _ (TJ32.setTop (mkF m 153 #[.val (.int p0), .val (.int p1), .val (.int p2), .val (.int p3), .val (.int bf), .val (.int af), .val (.int (1 : Int32)), .val (.ref b11), .val (.int cv), .unset, .unset, .unset] []))
                        refine own_step (fun _ k => XS.iconst XJ32.here hx rfl (hb hby at_153) k) ?_
                        show own_Ends _ _ _ _ _ _ _ (TJ32.setTop (mkF m 154 #[.val (.int p0), .val (.int p1), .val (.int p2), .val (.int p3), .val (.int bf), .val (.int af), .val (.int (1 : Int32)), .val (.ref b11), .val (.int cv), .unset, .unset, .unset] [(.int (1 : Int32))]))
                        refine own_step (fun _ k => XS.goto XJ32.here hx rfl (pc0 := 154) (pc' := 158) rfl (hb hby at_154) (by decide) (by decide) k) ?_
                        show own_Ends _ _ _ _ _ _ _ (TJ32.setTop (mkF m 158 #[.val (.int p0), .val (.int p1), .val (.int p2), .val (.int p3), .val (.int bf), .val (.int af), .val (.int (1 : Int32)), .val (.ref b11), .val (.int cv), .unset, .unset, .unset] [(.int (1 : Int32))]))
                        exact J158_41 _ (Or.inr ⟨rfl, by rw [hx1, if_neg (fun q => f1 (hbl1.mpr q))]⟩)
                    · show own_Ends _ _ _ _ _ _ _ (TJ32.setTop (mkF m 143 #[.val (.int p0), .val (.int p1), .val (.int p2), .val (.int p3), .val (.int bf), .val (.int af), .val (.int (2 : Int32)), .val (.ref b11), .val (.int cv), .unset, .unset, .unset] []))
                      refine own_step (fun _ k => XS.iload XJ32.here hx rfl (hb hby at_143) rfl k) ?_
                      show own_Ends _ _ _ _ _ _ _ (TJ32.setTop (mkF m 145 #[.val (.int p0), .val (.int p1), .val (.int p2), .val (.int p3), .val (.int bf), .val (.int af), .val (.int (2 : Int32)), .val (.ref b11), .val (.int cv), .unset, .unset, .unset] [(.int bf)]))
                      refine own_step (fun _ k => XS.iload XJ32.here hx rfl (hb hby at_145) rfl k) ?_
                      show own_Ends _ _ _ _ _ _ _ (TJ32.setTop (mkF m 147 #[.val (.int p0), .val (.int p1), .val (.int p2), .val (.int p3), .val (.int bf), .val (.int af), .val (.int (2 : Int32)), .val (.ref b11), .val (.int cv), .unset, .unset, .unset] [(.int (2 : Int32)), (.int bf)]))
                      refine own_step (fun _ k => XT.iushr XJ32.here hx rfl (hb hby at_147) rfl k) ?_
                      show own_Ends _ _ _ _ _ _ _ (TJ32.setTop (mkF m 148 #[.val (.int p0), .val (.int p1), .val (.int p2), .val (.int p3), .val (.int bf), .val (.int af), .val (.int (2 : Int32)), .val (.ref b11), .val (.int cv), .unset, .unset, .unset] [(.int (XT.ushr bf (2 : Int32)))]))
                      refine own_step (fun _ k => XS.iconst XJ32.here hx rfl (hb hby at_148) k) ?_
                      show own_Ends _ _ _ _ _ _ _ (TJ32.setTop (mkF m 149 #[.val (.int p0), .val (.int p1), .val (.int p2), .val (.int p3), .val (.int bf), .val (.int af), .val (.int (2 : Int32)), .val (.ref b11), .val (.int cv), .unset, .unset, .unset] [(.int (1 : Int32)), (.int (XT.ushr bf (2 : Int32)))]))
                      refine own_step (fun _ k => XS.iand XJ32.here hx rfl (hb hby at_149) rfl k) ?_
                      show own_Ends _ _ _ _ _ _ _ (TJ32.setTop (mkF m 150 #[.val (.int p0), .val (.int p1), .val (.int p2), .val (.int p3), .val (.int bf), .val (.int af), .val (.int (2 : Int32)), .val (.ref b11), .val (.int cv), .unset, .unset, .unset] [(.int ((XT.ushr bf (2 : Int32)) &&& (1 : Int32)))]))
                      have J158_46 : ∀ (ib : Int32) (hib : ib = 0 ∧ x2 = 0 ∨ ib = 1 ∧ x2 = 1), own_Ends p e below s 2 5 (own_Q0 Z p0 p1 p2 p3  h0 n0) (TJ32.setTop (mkF m 158 #[.val (.int p0), .val (.int p1), .val (.int p2), .val (.int p3), .val (.int bf), .val (.int af), .val (.int (2 : Int32)), .val (.ref b11), .val (.int cv), .unset, .unset, .unset] [(.int ib)])) := by
                        intro ib hib
                        show own_Ends _ _ _ _ _ _ _ (TJ32.setTop (mkF m 158 #[.val (.int p0), .val (.int p1), .val (.int p2), .val (.int p3), .val (.int bf), .val (.int af), .val (.int (2 : Int32)), .val (.ref b11), .val (.int cv), .unset, .unset, .unset] [(.int ib)]))
                        refine own_step (fun _ k => XS.istore XJ32.here hx rfl (hb hby at_158) rfl (l' := #[.val (.int p0), .val (.int p1), .val (.int p2), .val (.int p3), .val (.int bf), .val (.int af), .val (.int (2 : Int32)), .val (.ref b11), .val (.int cv), .val (.int ib), .unset, .unset]) rfl k) ?_
                        show own_Ends _ _ _ _ _ _ _ (TJ32.setTop (mkF m 160 #[.val (.int p0), .val (.int p1), .val (.int p2), .val (.int p3), .val (.int bf), .val (.int af), .val (.int (2 : Int32)), .val (.ref b11), .val (.int cv), .val (.int ib), .unset, .unset] []))
                        refine own_step (fun _ k => XS.iload XJ32.here hx rfl (hb hby at_160) rfl k) ?_
                        show own_Ends _ _ _ _ _ _ _ (TJ32.setTop (mkF m 162 #[.val (.int p0), .val (.int p1), .val (.int p2), .val (.int p3), .val (.int bf), .val (.int af), .val (.int (2 : Int32)), .val (.ref b11), .val (.int cv), .val (.int ib), .unset, .unset] [(.int af)]))
                        refine own_step (fun _ k => XS.iload XJ32.here hx rfl (hb hby at_162) rfl k) ?_
                        show own_Ends _ _ _ _ _ _ _ (TJ32.setTop (mkF m 164 #[.val (.int p0), .val (.int p1), .val (.int p2), .val (.int p3), .val (.int bf), .val (.int af), .val (.int (2 : Int32)), .val (.ref b11), .val (.int cv), .val (.int ib), .unset, .unset] [(.int (2 : Int32)), (.int af)]))
                        refine own_step (fun _ k => XT.iushr XJ32.here hx rfl (hb hby at_164) rfl k) ?_
                        show own_Ends _ _ _ _ _ _ _ (TJ32.setTop (mkF m 165 #[.val (.int p0), .val (.int p1), .val (.int p2), .val (.int p3), .val (.int bf), .val (.int af), .val (.int (2 : Int32)), .val (.ref b11), .val (.int cv), .val (.int ib), .unset, .unset] [(.int (XT.ushr af (2 : Int32)))]))
                        refine own_step (fun _ k => XS.iconst XJ32.here hx rfl (hb hby at_165) k) ?_
                        show own_Ends _ _ _ _ _ _ _ (TJ32.setTop (mkF m 166 #[.val (.int p0), .val (.int p1), .val (.int p2), .val (.int p3), .val (.int bf), .val (.int af), .val (.int (2 : Int32)), .val (.ref b11), .val (.int cv), .val (.int ib), .unset, .unset] [(.int (1 : Int32)), (.int (XT.ushr af (2 : Int32)))]))
                        refine own_step (fun _ k => XS.iand XJ32.here hx rfl (hb hby at_166) rfl k) ?_
                        show own_Ends _ _ _ _ _ _ _ (TJ32.setTop (mkF m 167 #[.val (.int p0), .val (.int p1), .val (.int p2), .val (.int p3), .val (.int bf), .val (.int af), .val (.int (2 : Int32)), .val (.ref b11), .val (.int cv), .val (.int ib), .unset, .unset] [(.int ((XT.ushr af (2 : Int32)) &&& (1 : Int32)))]))
                        have J175_47 : ∀ (ia : Int32) (hia : ia = 0 ∧ y2 = x2 ∨ ia = 1 ∧ y2 = s1), own_Ends p e below s 2 5 (own_Q0 Z p0 p1 p2 p3  h0 n0) (TJ32.setTop (mkF m 175 #[.val (.int p0), .val (.int p1), .val (.int p2), .val (.int p3), .val (.int bf), .val (.int af), .val (.int (2 : Int32)), .val (.ref b11), .val (.int cv), .val (.int ib), .unset, .unset] [(.int ia)])) := by
                          intro ia hia
                          show own_Ends _ _ _ _ _ _ _ (TJ32.setTop (mkF m 175 #[.val (.int p0), .val (.int p1), .val (.int p2), .val (.int p3), .val (.int bf), .val (.int af), .val (.int (2 : Int32)), .val (.ref b11), .val (.int cv), .val (.int ib), .unset, .unset] [(.int ia)]))
                          refine own_step (fun _ k => XS.istore XJ32.here hx rfl (hb hby at_175) rfl (l' := #[.val (.int p0), .val (.int p1), .val (.int p2), .val (.int p3), .val (.int bf), .val (.int af), .val (.int (2 : Int32)), .val (.ref b11), .val (.int cv), .val (.int ib), .val (.int ia), .unset]) rfl k) ?_
                          show own_Ends _ _ _ _ _ _ _ (TJ32.setTop (mkF m 177 #[.val (.int p0), .val (.int p1), .val (.int p2), .val (.int p3), .val (.int bf), .val (.int af), .val (.int (2 : Int32)), .val (.ref b11), .val (.int cv), .val (.int ib), .val (.int ia), .unset] []))
                          refine own_step (fun _ k => XS.iload XJ32.here hx rfl (hb hby at_177) rfl k) ?_
                          show own_Ends _ _ _ _ _ _ _ (TJ32.setTop (mkF m 179 #[.val (.int p0), .val (.int p1), .val (.int p2), .val (.int p3), .val (.int bf), .val (.int af), .val (.int (2 : Int32)), .val (.ref b11), .val (.int cv), .val (.int ib), .val (.int ia), .unset] [(.int ia)]))
                          have J197_48 : ∀ (ev : Int32) (hev : own_m y2 s1 = ev), own_Ends p e below s 2 5 (own_Q0 Z p0 p1 p2 p3  h0 n0) (TJ32.setTop (mkF m 197 #[.val (.int p0), .val (.int p1), .val (.int p2), .val (.int p3), .val (.int bf), .val (.int af), .val (.int (2 : Int32)), .val (.ref b11), .val (.int cv), .val (.int ib), .val (.int ia), .unset] [(.int ev)])) := by
                            intro ev hev
                            show own_Ends _ _ _ _ _ _ _ (TJ32.setTop (mkF m 197 #[.val (.int p0), .val (.int p1), .val (.int p2), .val (.int p3), .val (.int bf), .val (.int af), .val (.int (2 : Int32)), .val (.ref b11), .val (.int cv), .val (.int ib), .val (.int ia), .unset] [(.int ev)]))
                            refine own_step (fun _ k => XS.istore XJ32.here hx rfl (hb hby at_197) rfl (l' := #[.val (.int p0), .val (.int p1), .val (.int p2), .val (.int p3), .val (.int bf), .val (.int af), .val (.int (2 : Int32)), .val (.ref b11), .val (.int cv), .val (.int ib), .val (.int ia), .val (.int ev)]) rfl k) ?_
                            show own_Ends _ _ _ _ _ _ _ (TJ32.setTop (mkF m 199 #[.val (.int p0), .val (.int p1), .val (.int p2), .val (.int p3), .val (.int bf), .val (.int af), .val (.int (2 : Int32)), .val (.ref b11), .val (.int cv), .val (.int ib), .val (.int ia), .val (.int ev)] []))
                            refine own_step (fun _ k => XS.aload XJ32.here hx rfl (hb hby at_199) rfl rfl k) ?_
                            show own_Ends _ _ _ _ _ _ _ (TJ32.setTop (mkF m 201 #[.val (.int p0), .val (.int p1), .val (.int p2), .val (.int p3), .val (.int bf), .val (.int af), .val (.int (2 : Int32)), .val (.ref b11), .val (.int cv), .val (.int ib), .val (.int ia), .val (.int ev)] [(.ref b11)]))
                            refine own_step (fun _ k => XS.iload XJ32.here hx rfl (hb hby at_201) rfl k) ?_
                            show own_Ends _ _ _ _ _ _ _ (TJ32.setTop (mkF m 203 #[.val (.int p0), .val (.int p1), .val (.int p2), .val (.int p3), .val (.int bf), .val (.int af), .val (.int (2 : Int32)), .val (.ref b11), .val (.int cv), .val (.int ib), .val (.int ia), .val (.int ev)] [(.int (2 : Int32)), (.ref b11)]))
                            obtain ⟨cl49, Ar49, qq49, S49, M49, H49, G49⟩ := id VJa2
                            have hin49 : ¬ ((2 : Int32) < 0 ∨ cl49.slots.size ≤ ((2 : Int32)).toNatClampNeg) := inb_of S49 ⟨by decide, by decide⟩
                            have hat49 : cl49.slots[((2 : Int32)).toNatClampNeg]? = some (.int y2) := Has.at H49 hin49 rfl
                            obtain ⟨cq50, kq50, qa50, qb50, qc50⟩ := isOf hZ eJ32 AJa2
                            obtain ⟨_, _, ⟨T50, L50, k50, n50⟩, -, X50, ⟨Lc50, hQ50, l50, y50, z50⟩, st50⟩ := XJ32.virtualBack hx (y := (⟨"com/example/diptych/diptych/solver/Marks", "marked", "(I)Z"⟩ : MethodName)) (z := (⟨"com/example/diptych/diptych/solver/Marks", "marked", "(I)Z"⟩ : MethodName)) hown (mvT hZ (hw _ (List.mem_of_getElem? (i := 26) rfl))) (mvT hZ (hw _ (List.mem_of_getElem? (i := 27) rfl))) (notFace_of_selects (args := #[]) (mvT hZ (hw _ (List.mem_of_getElem? (i := 29) rfl)))) (mvT hZ (hw _ (List.mem_of_getElem? (i := 29) rfl))) (mvT hZ (hw _ (List.mem_of_getElem? (i := 28) rfl))) (by decide) (backOf (W := 0) (own_rm4 l Z a0 hw [] b11 (2 : Int32) ba cl49 y2 s1 hJ32 n0 ZJ32 FJa2 GJa2 Ar49 hin49 hat49) hZ (hw _ (List.mem_of_getElem? (i := 30) rfl)) (hw _ (List.mem_of_getElem? (i := 3) rfl)) (by decide) (by decide)) qa50 qc50 (g := (mkF m 203 #[.val (.int p0), .val (.int p1), .val (.int p2), .val (.int p3), .val (.int bf), .val (.int af), .val (.int (2 : Int32)), .val (.ref b11), .val (.int cv), .val (.int ib), .val (.int ia), .val (.int ev)] [(.int (2 : Int32)), (.ref b11)])) rfl (by rw [hml]; rfl) (Steps.refl _) (argsL := [(.int (2 : Int32))]) (rest := []) (lenOf own_pd2 rfl) rfl (by show 2 * 0 + _ ≤ _; exact Nat.le_of_eq rfl) (hb hby at_203) (fun _ _ => ⟨rfl, eJ32, (by decide : 2 + 0 ≤ _), (by decide : 5 + 0 ≤ _)⟩)
                            dsimp only [Pt.U, Pt.locs, Pt.cells, Pt.slots] at X50 l50 y50 z50 st50 hQ50
                            subst l50 y50 z50
                            obtain ⟨rfl, Nq50, e50⟩ := hQ50
                            have N50 := Fr.app NJ32 Nq50
                            refine own_step (fun _ k => st50.trans k) ?_
                            show own_Ends _ _ _ _ _ _ _ (T50.setTop (mkF m 206 #[.val (.int p0), .val (.int p1), .val (.int p2), .val (.int p3), .val (.int bf), .val (.int af), .val (.int (2 : Int32)), .val (.ref b11), .val (.int cv), .val (.int ib), .val (.int ia), .val (.int ev)] [(.int (own_m y2 s1))]))
                            refine own_step (fun _ k => XS.iload X50.here hx rfl (hb hby at_206) rfl k) ?_
                            show own_Ends _ _ _ _ _ _ _ (T50.setTop (mkF m 208 #[.val (.int p0), .val (.int p1), .val (.int p2), .val (.int p3), .val (.int bf), .val (.int af), .val (.int (2 : Int32)), .val (.ref b11), .val (.int cv), .val (.int ib), .val (.int ia), .val (.int ev)] [(.int ev), (.int (own_m y2 s1))]))
                            refine own_step (fun _ k => XS.icmpNo X50.here hx rfl (hb hby at_208) rfl (teq hev).2 k) ?_
                            show own_Ends _ _ _ _ _ _ _ (T50.setTop (mkF m 211 #[.val (.int p0), .val (.int p1), .val (.int p2), .val (.int p3), .val (.int bf), .val (.int af), .val (.int (2 : Int32)), .val (.ref b11), .val (.int cv), .val (.int ib), .val (.int ia), .val (.int ev)] []))
                            refine own_step (fun _ k => XS.iconst X50.here hx rfl (hb hby at_211) k) ?_
                            show own_Ends _ _ _ _ _ _ _ (T50.setTop (mkF m 212 #[.val (.int p0), .val (.int p1), .val (.int p2), .val (.int p3), .val (.int bf), .val (.int af), .val (.int (2 : Int32)), .val (.ref b11), .val (.int cv), .val (.int ib), .val (.int ia), .val (.int ev)] [(.int (1 : Int32))]))
                            refine own_step (fun _ k => XS.goto X50.here hx rfl (pc0 := 212) (pc' := 216) rfl (hb hby at_212) (by decide) (by decide) k) ?_
                            show own_Ends _ _ _ _ _ _ _ (T50.setTop (mkF m 216 #[.val (.int p0), .val (.int p1), .val (.int p2), .val (.int p3), .val (.int bf), .val (.int af), .val (.int (2 : Int32)), .val (.ref b11), .val (.int cv), .val (.int ib), .val (.int ia), .val (.int ev)] [(.int (1 : Int32))]))
                            refine own_ret X50 (BodyLoose.notSynchronized Bd) (v := (some (.int (1 : Int32)))) (fun h => by rw [Bd.returns] at h; cases h) ?_ (by decide) (by decide) (fun fs hr => X50.ireturnOut hx Bd.returns rfl (by simp) (hb hby at_216) hr)
                            show own_Q0 Z p0 p1 p2 p3  h0 n0 (some (.int (1 : Int32))) T50.heap _
                            rw [e50]
                            exact ⟨rfl, N50⟩
                          by_cases k1 : ia = (0 : Int32)
                          · refine own_step (fun _ k => XS.ifNo XJ32.here hx rfl (hb hby at_179) rfl ((if0 _ _).trans (teq k1).2) k) ?_
                            show own_Ends _ _ _ _ _ _ _ (TJ32.setTop (mkF m 182 #[.val (.int p0), .val (.int p1), .val (.int p2), .val (.int p3), .val (.int bf), .val (.int af), .val (.int (2 : Int32)), .val (.ref b11), .val (.int cv), .val (.int ib), .val (.int ia), .unset] []))
                            refine own_step (fun _ k => XS.iload XJ32.here hx rfl (hb hby at_182) rfl k) ?_
                            show own_Ends _ _ _ _ _ _ _ (TJ32.setTop (mkF m 184 #[.val (.int p0), .val (.int p1), .val (.int p2), .val (.int p3), .val (.int bf), .val (.int af), .val (.int (2 : Int32)), .val (.ref b11), .val (.int cv), .val (.int ib), .val (.int ia), .unset] [(.int cv)]))
                            by_cases k2 : cv = (0 : Int32)
                            · refine own_step (fun _ k => XS.ifNo XJ32.here hx rfl (hb hby at_184) rfl ((if0 _ _).trans (teq k2).2) k) ?_
                              show own_Ends _ _ _ _ _ _ _ (TJ32.setTop (mkF m 187 #[.val (.int p0), .val (.int p1), .val (.int p2), .val (.int p3), .val (.int bf), .val (.int af), .val (.int (2 : Int32)), .val (.ref b11), .val (.int cv), .val (.int ib), .val (.int ia), .unset] []))
                              refine own_step (fun _ k => XS.iload XJ32.here hx rfl (hb hby at_187) rfl k) ?_
                              show own_Ends _ _ _ _ _ _ _ (TJ32.setTop (mkF m 189 #[.val (.int p0), .val (.int p1), .val (.int p2), .val (.int p3), .val (.int bf), .val (.int af), .val (.int (2 : Int32)), .val (.ref b11), .val (.int cv), .val (.int ib), .val (.int ia), .unset] [(.int ib)]))
                              by_cases k3 : ib = (0 : Int32)
                              · refine own_step (fun _ k => XS.ifYes XJ32.here hx rfl (pc0 := 189) (pc' := 196) rfl (hb hby at_189) rfl ((if0 _ _).trans (teq k3).1) (by decide) (by decide) k) ?_
                                show own_Ends _ _ _ _ _ _ _ (TJ32.setTop (mkF m 196 #[.val (.int p0), .val (.int p1), .val (.int p2), .val (.int p3), .val (.int bf), .val (.int af), .val (.int (2 : Int32)), .val (.ref b11), .val (.int cv), .val (.int ib), .val (.int ia), .unset] []))
                                refine own_step (fun _ k => XS.iconst XJ32.here hx rfl (hb hby at_196) k) ?_
                                show own_Ends _ _ _ _ _ _ _ (TJ32.setTop (mkF m 197 #[.val (.int p0), .val (.int p1), .val (.int p2), .val (.int p3), .val (.int bf), .val (.int af), .val (.int (2 : Int32)), .val (.ref b11), .val (.int cv), .val (.int ib), .val (.int ia), .unset] [(.int (0 : Int32))]))
                                exact J197_48 _ (own_f3 hia hib hcv k1 k2 k3)
                              · refine own_step (fun _ k => XS.ifNo XJ32.here hx rfl (hb hby at_189) rfl ((if0 _ _).trans (feq k3).1) k) ?_
                                show own_Ends _ _ _ _ _ _ _ (TJ32.setTop (mkF m 192 #[.val (.int p0), .val (.int p1), .val (.int p2), .val (.int p3), .val (.int bf), .val (.int af), .val (.int (2 : Int32)), .val (.ref b11), .val (.int cv), .val (.int ib), .val (.int ia), .unset] []))
                                refine own_step (fun _ k => XS.iconst XJ32.here hx rfl (hb hby at_192) k) ?_
                                show own_Ends _ _ _ _ _ _ _ (TJ32.setTop (mkF m 193 #[.val (.int p0), .val (.int p1), .val (.int p2), .val (.int p3), .val (.int bf), .val (.int af), .val (.int (2 : Int32)), .val (.ref b11), .val (.int cv), .val (.int ib), .val (.int ia), .unset] [(.int (1 : Int32))]))
                                refine own_step (fun _ k => XS.goto XJ32.here hx rfl (pc0 := 193) (pc' := 197) rfl (hb hby at_193) (by decide) (by decide) k) ?_
                                show own_Ends _ _ _ _ _ _ _ (TJ32.setTop (mkF m 197 #[.val (.int p0), .val (.int p1), .val (.int p2), .val (.int p3), .val (.int bf), .val (.int af), .val (.int (2 : Int32)), .val (.ref b11), .val (.int cv), .val (.int ib), .val (.int ia), .unset] [(.int (1 : Int32))]))
                                exact J197_48 _ (own_f4 hia hib hcv k1 k2 k3)
                            · refine own_step (fun _ k => XS.ifYes XJ32.here hx rfl (pc0 := 184) (pc' := 196) rfl (hb hby at_184) rfl ((if0 _ _).trans (feq k2).2) (by decide) (by decide) k) ?_
                              show own_Ends _ _ _ _ _ _ _ (TJ32.setTop (mkF m 196 #[.val (.int p0), .val (.int p1), .val (.int p2), .val (.int p3), .val (.int bf), .val (.int af), .val (.int (2 : Int32)), .val (.ref b11), .val (.int cv), .val (.int ib), .val (.int ia), .unset] []))
                              refine own_step (fun _ k => XS.iconst XJ32.here hx rfl (hb hby at_196) k) ?_
                              show own_Ends _ _ _ _ _ _ _ (TJ32.setTop (mkF m 197 #[.val (.int p0), .val (.int p1), .val (.int p2), .val (.int p3), .val (.int bf), .val (.int af), .val (.int (2 : Int32)), .val (.ref b11), .val (.int cv), .val (.int ib), .val (.int ia), .unset] [(.int (0 : Int32))]))
                              exact J197_48 _ (own_f2 hia hib hcv k1 k2)
                          · refine own_step (fun _ k => XS.ifYes XJ32.here hx rfl (pc0 := 179) (pc' := 192) rfl (hb hby at_179) rfl ((if0 _ _).trans (feq k1).2) (by decide) (by decide) k) ?_
                            show own_Ends _ _ _ _ _ _ _ (TJ32.setTop (mkF m 192 #[.val (.int p0), .val (.int p1), .val (.int p2), .val (.int p3), .val (.int bf), .val (.int af), .val (.int (2 : Int32)), .val (.ref b11), .val (.int cv), .val (.int ib), .val (.int ia), .unset] []))
                            refine own_step (fun _ k => XS.iconst XJ32.here hx rfl (hb hby at_192) k) ?_
                            show own_Ends _ _ _ _ _ _ _ (TJ32.setTop (mkF m 193 #[.val (.int p0), .val (.int p1), .val (.int p2), .val (.int p3), .val (.int bf), .val (.int af), .val (.int (2 : Int32)), .val (.ref b11), .val (.int cv), .val (.int ib), .val (.int ia), .unset] [(.int (1 : Int32))]))
                            refine own_step (fun _ k => XS.goto XJ32.here hx rfl (pc0 := 193) (pc' := 197) rfl (hb hby at_193) (by decide) (by decide) k) ?_
                            show own_Ends _ _ _ _ _ _ _ (TJ32.setTop (mkF m 197 #[.val (.int p0), .val (.int p1), .val (.int p2), .val (.int p3), .val (.int bf), .val (.int af), .val (.int (2 : Int32)), .val (.ref b11), .val (.int cv), .val (.int ib), .val (.int ia), .unset] [(.int (1 : Int32))]))
                            exact J197_48 _ (own_f1 hia hib hcv k1)
                        by_cases f2 : ((XT.ushr af (2 : Int32)) &&& (1 : Int32)) = (0 : Int32)
                        · refine own_step (fun _ k => XS.ifYes XJ32.here hx rfl (pc0 := 167) (pc' := 174) rfl (hb hby at_167) rfl ((if0 _ _).trans (teq f2).1) (by decide) (by decide) k) ?_
                          show own_Ends _ _ _ _ _ _ _ (TJ32.setTop (mkF m 174 #[.val (.int p0), .val (.int p1), .val (.int p2), .val (.int p3), .val (.int bf), .val (.int af), .val (.int (2 : Int32)), .val (.ref b11), .val (.int cv), .val (.int ib), .unset, .unset] []))
                          refine own_step (fun _ k => XS.iconst XJ32.here hx rfl (hb hby at_174) k) ?_
                          show own_Ends _ _ _ _ _ _ _ (TJ32.setTop (mkF m 175 #[.val (.int p0), .val (.int p1), .val (.int p2), .val (.int p3), .val (.int bf), .val (.int af), .val (.int (2 : Int32)), .val (.ref b11), .val (.int cv), .val (.int ib), .unset, .unset] [(.int (0 : Int32))]))
                          exact J175_47 _ (Or.inl ⟨rfl, by rw [hy2, if_pos (ha2.mp f2)]⟩)
                        · refine own_step (fun _ k => XS.ifNo XJ32.here hx rfl (hb hby at_167) rfl ((if0 _ _).trans (feq f2).1) k) ?_
                          show own_Ends _ _ _ _ _ _ _ (TJ32.setTop (mkF m 170 #[.val (.int p0), .val (.int p1), .val (.int p2), .val (.int p3), .val (.int bf), .val (.int af), .val (.int (2 : Int32)), .val (.ref b11), .val (.int cv), .val (.int ib), .unset, .unset] []))
                          refine own_step (fun _ k => XS.iconst XJ32.here hx rfl (hb hby at_170) k) ?_
                          show own_Ends _ _ _ _ _ _ _ (TJ32.setTop (mkF m 171 #[.val (.int p0), .val (.int p1), .val (.int p2), .val (.int p3), .val (.int bf), .val (.int af), .val (.int (2 : Int32)), .val (.ref b11), .val (.int cv), .val (.int ib), .unset, .unset] [(.int (1 : Int32))]))
                          refine own_step (fun _ k => XS.goto XJ32.here hx rfl (pc0 := 171) (pc' := 175) rfl (hb hby at_171) (by decide) (by decide) k) ?_
                          show own_Ends _ _ _ _ _ _ _ (TJ32.setTop (mkF m 175 #[.val (.int p0), .val (.int p1), .val (.int p2), .val (.int p3), .val (.int bf), .val (.int af), .val (.int (2 : Int32)), .val (.ref b11), .val (.int cv), .val (.int ib), .unset, .unset] [(.int (1 : Int32))]))
                          exact J175_47 _ (Or.inr ⟨rfl, by rw [hy2, if_neg (fun q => f2 (ha2.mpr q))]⟩)
                      by_cases f1 : ((XT.ushr bf (2 : Int32)) &&& (1 : Int32)) = (0 : Int32)
                      · refine own_step (fun _ k => XS.ifYes XJ32.here hx rfl (pc0 := 150) (pc' := 157) rfl (hb hby at_150) rfl ((if0 _ _).trans (teq f1).1) (by decide) (by decide) k) ?_
                        show own_Ends _ _ _ _ _ _ _ (TJ32.setTop (mkF m 157 #[.val (.int p0), .val (.int p1), .val (.int p2), .val (.int p3), .val (.int bf), .val (.int af), .val (.int (2 : Int32)), .val (.ref b11), .val (.int cv), .unset, .unset, .unset] []))
                        refine own_step (fun _ k => XS.iconst XJ32.here hx rfl (hb hby at_157) k) ?_
                        show own_Ends _ _ _ _ _ _ _ (TJ32.setTop (mkF m 158 #[.val (.int p0), .val (.int p1), .val (.int p2), .val (.int p3), .val (.int bf), .val (.int af), .val (.int (2 : Int32)), .val (.ref b11), .val (.int cv), .unset, .unset, .unset] [(.int (0 : Int32))]))
                        exact J158_46 _ (Or.inl ⟨rfl, by rw [hx2, if_pos (hbl2.mp f1)]⟩)
                      · refine own_step (fun _ k => XS.ifNo XJ32.here hx rfl (hb hby at_150) rfl ((if0 _ _).trans (feq f1).1) k) ?_
                        show own_Ends _ _ _ _ _ _ _ (TJ32.setTop (mkF m 153 #[.val (.int p0), .val (.int p1), .val (.int p2), .val (.int p3), .val (.int bf), .val (.int af), .val (.int (2 : Int32)), .val (.ref b11), .val (.int cv), .unset, .unset, .unset] []))
                        refine own_step (fun _ k => XS.iconst XJ32.here hx rfl (hb hby at_153) k) ?_
                        show own_Ends _ _ _ _ _ _ _ (TJ32.setTop (mkF m 154 #[.val (.int p0), .val (.int p1), .val (.int p2), .val (.int p3), .val (.int bf), .val (.int af), .val (.int (2 : Int32)), .val (.ref b11), .val (.int cv), .unset, .unset, .unset] [(.int (1 : Int32))]))
                        refine own_step (fun _ k => XS.goto XJ32.here hx rfl (pc0 := 154) (pc' := 158) rfl (hb hby at_154) (by decide) (by decide) k) ?_
                        show own_Ends _ _ _ _ _ _ _ (TJ32.setTop (mkF m 158 #[.val (.int p0), .val (.int p1), .val (.int p2), .val (.int p3), .val (.int bf), .val (.int af), .val (.int (2 : Int32)), .val (.ref b11), .val (.int cv), .unset, .unset, .unset] [(.int (1 : Int32))]))
                        exact J158_46 _ (Or.inr ⟨rfl, by rw [hx2, if_neg (fun q => f1 (hbl2.mpr q))]⟩)
                  by_cases u : (p2 &&& (3 : Int32)) = (0 : Int32)
                  · refine own_step (fun _ k => XS.ifYes XJ32.here hx rfl (pc0 := 133) (pc' := 140) rfl (hb hby at_133) rfl ((if0 _ _).trans (teq u).1) (by decide) (by decide) k) ?_
                    show own_Ends _ _ _ _ _ _ _ (TJ32.setTop (mkF m 140 #[.val (.int p0), .val (.int p1), .val (.int p2), .val (.int p3), .val (.int bf), .val (.int af), .val (.int qv), .val (.ref b11), .unset, .unset, .unset, .unset] []))
                    refine own_step (fun _ k => XS.iconst XJ32.here hx rfl (hb hby at_140) k) ?_
                    show own_Ends _ _ _ _ _ _ _ (TJ32.setTop (mkF m 141 #[.val (.int p0), .val (.int p1), .val (.int p2), .val (.int p3), .val (.int bf), .val (.int af), .val (.int qv), .val (.ref b11), .unset, .unset, .unset, .unset] [(.int (0 : Int32))]))
                    exact J141_35 _ (Or.inl ⟨rfl, hst.1 u⟩)
                  · refine own_step (fun _ k => XS.ifNo XJ32.here hx rfl (hb hby at_133) rfl ((if0 _ _).trans (feq u).1) k) ?_
                    show own_Ends _ _ _ _ _ _ _ (TJ32.setTop (mkF m 136 #[.val (.int p0), .val (.int p1), .val (.int p2), .val (.int p3), .val (.int bf), .val (.int af), .val (.int qv), .val (.ref b11), .unset, .unset, .unset, .unset] []))
                    refine own_step (fun _ k => XS.iconst XJ32.here hx rfl (hb hby at_136) k) ?_
                    show own_Ends _ _ _ _ _ _ _ (TJ32.setTop (mkF m 137 #[.val (.int p0), .val (.int p1), .val (.int p2), .val (.int p3), .val (.int bf), .val (.int af), .val (.int qv), .val (.ref b11), .unset, .unset, .unset, .unset] [(.int (1 : Int32))]))
                    refine own_step (fun _ k => XS.goto XJ32.here hx rfl (pc0 := 137) (pc' := 141) rfl (hb hby at_137) (by decide) (by decide) k) ?_
                    show own_Ends _ _ _ _ _ _ _ (TJ32.setTop (mkF m 141 #[.val (.int p0), .val (.int p1), .val (.int p2), .val (.int p3), .val (.int bf), .val (.int af), .val (.int qv), .val (.ref b11), .unset, .unset, .unset, .unset] [(.int (1 : Int32))]))
                    exact J141_35 _ (Or.inr ⟨rfl, hst.2 u⟩)
                by_cases v2 : (af &&& (4 : Int32)) = (0 : Int32)
                · refine own_step (fun _ k => XS.ifYes XJ29.here hx rfl (pc0 := 121) (pc' := 130) rfl (hb hby at_121) rfl ((if0 _ _).trans (teq v2).1) (by decide) (by decide) k) ?_
                  show own_Ends _ _ _ _ _ _ _ (TJ29.setTop (mkF m 130 #[.val (.int p0), .val (.int p1), .val (.int p2), .val (.int p3), .val (.int bf), .val (.int af), .val (.int qv), .val (.ref b11), .unset, .unset, .unset, .unset] []))
                  exact J130_32 _ ZJ29 _ NJ29 _ XJ29 eJ29 _ (by rw [if_pos v2]) AJa1 FJa1 GJa1 VJa1
                · refine own_step (fun _ k => XS.ifNo XJ29.here hx rfl (hb hby at_121) rfl ((if0 _ _).trans (feq v2).1) k) ?_
                  show own_Ends _ _ _ _ _ _ _ (TJ29.setTop (mkF m 124 #[.val (.int p0), .val (.int p1), .val (.int p2), .val (.int p3), .val (.int bf), .val (.int af), .val (.int qv), .val (.ref b11), .unset, .unset, .unset, .unset] []))
                  refine own_step (fun _ k => XS.aload XJ29.here hx rfl (hb hby at_124) rfl rfl k) ?_
                  show own_Ends _ _ _ _ _ _ _ (TJ29.setTop (mkF m 126 #[.val (.int p0), .val (.int p1), .val (.int p2), .val (.int p3), .val (.int bf), .val (.int af), .val (.int qv), .val (.ref b11), .unset, .unset, .unset, .unset] [(.ref b11)]))
                  refine own_step (fun _ k => XS.iconst XJ29.here hx rfl (hb hby at_126) k) ?_
                  show own_Ends _ _ _ _ _ _ _ (TJ29.setTop (mkF m 127 #[.val (.int p0), .val (.int p1), .val (.int p2), .val (.int p3), .val (.int bf), .val (.int af), .val (.int qv), .val (.ref b11), .unset, .unset, .unset, .unset] [(.int (2 : Int32)), (.ref b11)]))
                  obtain ⟨cl33, Ar33, qq33, S33, M33, H33, G33⟩ := id VJa1
                  have hin33 : ¬ ((2 : Int32) < 0 ∨ cl33.slots.size ≤ ((2 : Int32)).toNatClampNeg) := inb_of S33 ⟨by decide, by decide⟩
                  obtain ⟨cq34, kq34, qa34, qb34, qc34⟩ := isOf hZ eJ29 AJa1
                  obtain ⟨_, _, ⟨T34, L34, k34, n34⟩, -, X34, ⟨Lc34, hQ34, l34, y34, z34⟩, st34⟩ := XJ29.virtualBack hx (y := (⟨"com/example/diptych/diptych/solver/Marks", "mark", "(I)V"⟩ : MethodName)) (z := (⟨"com/example/diptych/diptych/solver/Marks", "mark", "(I)V"⟩ : MethodName)) hown (mvT hZ (hw _ (List.mem_of_getElem? (i := 21) rfl))) (mvT hZ (hw _ (List.mem_of_getElem? (i := 22) rfl))) (notFace_of_selects (args := #[]) (mvT hZ (hw _ (List.mem_of_getElem? (i := 24) rfl)))) (mvT hZ (hw _ (List.mem_of_getElem? (i := 24) rfl))) (mvT hZ (hw _ (List.mem_of_getElem? (i := 23) rfl))) (by decide) (backOf (W := 0) (own_rm3 l Z a0 hw [] b11 (2 : Int32) ba cl33 s1 hJ29 n0 ZJ29 FJa1 GJa1 Ar33 hin33 gb12) hZ (hw _ (List.mem_of_getElem? (i := 25) rfl)) (hw _ (List.mem_of_getElem? (i := 3) rfl)) (by decide) (by decide)) qa34 qc34 (g := (mkF m 127 #[.val (.int p0), .val (.int p1), .val (.int p2), .val (.int p3), .val (.int bf), .val (.int af), .val (.int qv), .val (.ref b11), .unset, .unset, .unset, .unset] [(.int (2 : Int32)), (.ref b11)])) rfl (by rw [hml]; rfl) (Steps.refl _) (argsL := [(.int (2 : Int32))]) (rest := []) (lenOf own_pd0 rfl) rfl (by show 2 * 0 + _ ≤ _; exact Nat.le_of_eq rfl) (hb hby at_127) (fun _ _ => ⟨rfl, eJ29, (by decide : 2 + 0 ≤ _), (by decide : 5 + 0 ≤ _)⟩)
                  dsimp only [Pt.U, Pt.locs, Pt.cells, Pt.slots] at X34 l34 y34 z34 st34 hQ34
                  subst l34 y34 z34
                  obtain ⟨rfl, Nq34, W34⟩ := hQ34
                  have N34 := Fr.app NJ29 Nq34
                  refine own_step (fun _ k => st34.trans k) ?_
                  show own_Ends _ _ _ _ _ _ _ (T34.setTop (mkF m 130 #[.val (.int p0), .val (.int p1), .val (.int p2), .val (.int p3), .val (.int bf), .val (.int af), .val (.int qv), .val (.ref b11), .unset, .unset, .unset, .unset] []))
                  have K34 := Keep.of_wr W34
                  have VV34 : Arv Z T34.heap ba kk .int 3 [(.int y0), (.int y1), (.int s1)] (.int (0 : Int32)) := Arv.set Ar33 qq33 S33 M33 H33 G33 rfl W34 2 (by decide) (by simp)
                  have F34_b11_stamp := Fld.keep FJa1 K34 (ninS neb12 nin0)
                  have F34_b11_stamps := Fld.keep GJa1 K34 (ninS neb12 nin0)
                  have A34_b11 := Exa.keep AJa1 K34
                  have Z34 := Nat.le_trans ZJ29 K34.1
                  exact J130_32 _ Z34 _ N34 _ X34 rfl _ (by rw [if_neg v2]) A34_b11 F34_b11_stamp F34_b11_stamps VV34
              by_cases v1 : (af &&& (2 : Int32)) = (0 : Int32)
              · refine own_step (fun _ k => XS.ifYes XJ26.here hx rfl (pc0 := 108) (pc' := 117) rfl (hb hby at_108) rfl ((if0 _ _).trans (teq v1).1) (by decide) (by decide) k) ?_
                show own_Ends _ _ _ _ _ _ _ (TJ26.setTop (mkF m 117 #[.val (.int p0), .val (.int p1), .val (.int p2), .val (.int p3), .val (.int bf), .val (.int af), .val (.int qv), .val (.ref b11), .unset, .unset, .unset, .unset] []))
                exact J117_29 _ ZJ26 _ NJ26 _ XJ26 eJ26 _ (by rw [if_pos v1]) AJa0 FJa0 GJa0 VJa0
              · refine own_step (fun _ k => XS.ifNo XJ26.here hx rfl (hb hby at_108) rfl ((if0 _ _).trans (feq v1).1) k) ?_
                show own_Ends _ _ _ _ _ _ _ (TJ26.setTop (mkF m 111 #[.val (.int p0), .val (.int p1), .val (.int p2), .val (.int p3), .val (.int bf), .val (.int af), .val (.int qv), .val (.ref b11), .unset, .unset, .unset, .unset] []))
                refine own_step (fun _ k => XS.aload XJ26.here hx rfl (hb hby at_111) rfl rfl k) ?_
                show own_Ends _ _ _ _ _ _ _ (TJ26.setTop (mkF m 113 #[.val (.int p0), .val (.int p1), .val (.int p2), .val (.int p3), .val (.int bf), .val (.int af), .val (.int qv), .val (.ref b11), .unset, .unset, .unset, .unset] [(.ref b11)]))
                refine own_step (fun _ k => XS.iconst XJ26.here hx rfl (hb hby at_113) k) ?_
                show own_Ends _ _ _ _ _ _ _ (TJ26.setTop (mkF m 114 #[.val (.int p0), .val (.int p1), .val (.int p2), .val (.int p3), .val (.int bf), .val (.int af), .val (.int qv), .val (.ref b11), .unset, .unset, .unset, .unset] [(.int (1 : Int32)), (.ref b11)]))
                obtain ⟨cl30, Ar30, qq30, S30, M30, H30, G30⟩ := id VJa0
                have hin30 : ¬ ((1 : Int32) < 0 ∨ cl30.slots.size ≤ ((1 : Int32)).toNatClampNeg) := inb_of S30 ⟨by decide, by decide⟩
                obtain ⟨cq31, kq31, qa31, qb31, qc31⟩ := isOf hZ eJ26 AJa0
                obtain ⟨_, _, ⟨T31, L31, k31, n31⟩, -, X31, ⟨Lc31, hQ31, l31, y31, z31⟩, st31⟩ := XJ26.virtualBack hx (y := (⟨"com/example/diptych/diptych/solver/Marks", "mark", "(I)V"⟩ : MethodName)) (z := (⟨"com/example/diptych/diptych/solver/Marks", "mark", "(I)V"⟩ : MethodName)) hown (mvT hZ (hw _ (List.mem_of_getElem? (i := 21) rfl))) (mvT hZ (hw _ (List.mem_of_getElem? (i := 22) rfl))) (notFace_of_selects (args := #[]) (mvT hZ (hw _ (List.mem_of_getElem? (i := 24) rfl)))) (mvT hZ (hw _ (List.mem_of_getElem? (i := 24) rfl))) (mvT hZ (hw _ (List.mem_of_getElem? (i := 23) rfl))) (by decide) (backOf (W := 0) (own_rm3 l Z a0 hw [] b11 (1 : Int32) ba cl30 s1 hJ26 n0 ZJ26 FJa0 GJa0 Ar30 hin30 gb12) hZ (hw _ (List.mem_of_getElem? (i := 25) rfl)) (hw _ (List.mem_of_getElem? (i := 3) rfl)) (by decide) (by decide)) qa31 qc31 (g := (mkF m 114 #[.val (.int p0), .val (.int p1), .val (.int p2), .val (.int p3), .val (.int bf), .val (.int af), .val (.int qv), .val (.ref b11), .unset, .unset, .unset, .unset] [(.int (1 : Int32)), (.ref b11)])) rfl (by rw [hml]; rfl) (Steps.refl _) (argsL := [(.int (1 : Int32))]) (rest := []) (lenOf own_pd0 rfl) rfl (by show 2 * 0 + _ ≤ _; exact Nat.le_of_eq rfl) (hb hby at_114) (fun _ _ => ⟨rfl, eJ26, (by decide : 2 + 0 ≤ _), (by decide : 5 + 0 ≤ _)⟩)
                dsimp only [Pt.U, Pt.locs, Pt.cells, Pt.slots] at X31 l31 y31 z31 st31 hQ31
                subst l31 y31 z31
                obtain ⟨rfl, Nq31, W31⟩ := hQ31
                have N31 := Fr.app NJ26 Nq31
                refine own_step (fun _ k => st31.trans k) ?_
                show own_Ends _ _ _ _ _ _ _ (T31.setTop (mkF m 117 #[.val (.int p0), .val (.int p1), .val (.int p2), .val (.int p3), .val (.int bf), .val (.int af), .val (.int qv), .val (.ref b11), .unset, .unset, .unset, .unset] []))
                have K31 := Keep.of_wr W31
                have VV31 : Arv Z T31.heap ba kk .int 3 [(.int y0), (.int s1), (.int x2)] (.int (0 : Int32)) := Arv.set Ar30 qq30 S30 M30 H30 G30 rfl W31 1 (by decide) (by simp)
                have F31_b11_stamp := Fld.keep FJa0 K31 (ninS neb12 nin0)
                have F31_b11_stamps := Fld.keep GJa0 K31 (ninS neb12 nin0)
                have A31_b11 := Exa.keep AJa0 K31
                have Z31 := Nat.le_trans ZJ26 K31.1
                exact J117_29 _ Z31 _ N31 _ X31 rfl _ (by rw [if_neg v1]) A31_b11 F31_b11_stamp F31_b11_stamps VV31
            by_cases v0 : (af &&& (1 : Int32)) = (0 : Int32)
            · refine own_step (fun _ k => XS.ifYes XJ24.here hx rfl (pc0 := 95) (pc' := 104) rfl (hb hby at_95) rfl ((if0 _ _).trans (teq v0).1) (by decide) (by decide) k) ?_
              show own_Ends _ _ _ _ _ _ _ (TJ24.setTop (mkF m 104 #[.val (.int p0), .val (.int p1), .val (.int p2), .val (.int p3), .val (.int bf), .val (.int af), .val (.int qv), .val (.ref b11), .unset, .unset, .unset, .unset] []))
              exact J104_26 _ ZJ24 _ NJ24 _ XJ24 eJ24 _ (by rw [if_pos v0]) AJc1 FJc1 GJc1 VJc1
            · refine own_step (fun _ k => XS.ifNo XJ24.here hx rfl (hb hby at_95) rfl ((if0 _ _).trans (feq v0).1) k) ?_
              show own_Ends _ _ _ _ _ _ _ (TJ24.setTop (mkF m 98 #[.val (.int p0), .val (.int p1), .val (.int p2), .val (.int p3), .val (.int bf), .val (.int af), .val (.int qv), .val (.ref b11), .unset, .unset, .unset, .unset] []))
              refine own_step (fun _ k => XS.aload XJ24.here hx rfl (hb hby at_98) rfl rfl k) ?_
              show own_Ends _ _ _ _ _ _ _ (TJ24.setTop (mkF m 100 #[.val (.int p0), .val (.int p1), .val (.int p2), .val (.int p3), .val (.int bf), .val (.int af), .val (.int qv), .val (.ref b11), .unset, .unset, .unset, .unset] [(.ref b11)]))
              refine own_step (fun _ k => XS.iconst XJ24.here hx rfl (hb hby at_100) k) ?_
              show own_Ends _ _ _ _ _ _ _ (TJ24.setTop (mkF m 101 #[.val (.int p0), .val (.int p1), .val (.int p2), .val (.int p3), .val (.int bf), .val (.int af), .val (.int qv), .val (.ref b11), .unset, .unset, .unset, .unset] [(.int (0 : Int32)), (.ref b11)]))
              obtain ⟨cl27, Ar27, qq27, S27, M27, H27, G27⟩ := id VJc1
              have hin27 : ¬ ((0 : Int32) < 0 ∨ cl27.slots.size ≤ ((0 : Int32)).toNatClampNeg) := inb_of S27 ⟨by decide, by decide⟩
              obtain ⟨cq28, kq28, qa28, qb28, qc28⟩ := isOf hZ eJ24 AJc1
              obtain ⟨_, _, ⟨T28, L28, k28, n28⟩, -, X28, ⟨Lc28, hQ28, l28, y28, z28⟩, st28⟩ := XJ24.virtualBack hx (y := (⟨"com/example/diptych/diptych/solver/Marks", "mark", "(I)V"⟩ : MethodName)) (z := (⟨"com/example/diptych/diptych/solver/Marks", "mark", "(I)V"⟩ : MethodName)) hown (mvT hZ (hw _ (List.mem_of_getElem? (i := 21) rfl))) (mvT hZ (hw _ (List.mem_of_getElem? (i := 22) rfl))) (notFace_of_selects (args := #[]) (mvT hZ (hw _ (List.mem_of_getElem? (i := 24) rfl)))) (mvT hZ (hw _ (List.mem_of_getElem? (i := 24) rfl))) (mvT hZ (hw _ (List.mem_of_getElem? (i := 23) rfl))) (by decide) (backOf (W := 0) (own_rm3 l Z a0 hw [] b11 (0 : Int32) ba cl27 s1 hJ24 n0 ZJ24 FJc1 GJc1 Ar27 hin27 gb12) hZ (hw _ (List.mem_of_getElem? (i := 25) rfl)) (hw _ (List.mem_of_getElem? (i := 3) rfl)) (by decide) (by decide)) qa28 qc28 (g := (mkF m 101 #[.val (.int p0), .val (.int p1), .val (.int p2), .val (.int p3), .val (.int bf), .val (.int af), .val (.int qv), .val (.ref b11), .unset, .unset, .unset, .unset] [(.int (0 : Int32)), (.ref b11)])) rfl (by rw [hml]; rfl) (Steps.refl _) (argsL := [(.int (0 : Int32))]) (rest := []) (lenOf own_pd0 rfl) rfl (by show 2 * 0 + _ ≤ _; exact Nat.le_of_eq rfl) (hb hby at_101) (fun _ _ => ⟨rfl, eJ24, (by decide : 2 + 0 ≤ _), (by decide : 5 + 0 ≤ _)⟩)
              dsimp only [Pt.U, Pt.locs, Pt.cells, Pt.slots] at X28 l28 y28 z28 st28 hQ28
              subst l28 y28 z28
              obtain ⟨rfl, Nq28, W28⟩ := hQ28
              have N28 := Fr.app NJ24 Nq28
              refine own_step (fun _ k => st28.trans k) ?_
              show own_Ends _ _ _ _ _ _ _ (T28.setTop (mkF m 104 #[.val (.int p0), .val (.int p1), .val (.int p2), .val (.int p3), .val (.int bf), .val (.int af), .val (.int qv), .val (.ref b11), .unset, .unset, .unset, .unset] []))
              have K28 := Keep.of_wr W28
              have VV28 : Arv Z T28.heap ba kk .int 3 [(.int s1), (.int x1), (.int x2)] (.int (0 : Int32)) := Arv.set Ar27 qq27 S27 M27 H27 G27 rfl W28 0 (by decide) (by simp)
              have F28_b11_stamp := Fld.keep FJc1 K28 (ninS neb12 nin0)
              have F28_b11_stamps := Fld.keep GJc1 K28 (ninS neb12 nin0)
              have A28_b11 := Exa.keep AJc1 K28
              have Z28 := Nat.le_trans ZJ24 K28.1
              exact J104_26 _ Z28 _ N28 _ X28 rfl _ (by rw [if_neg v0]) A28_b11 F28_b11_stamp F28_b11_stamps VV28
          by_cases r1 : (p2 &&& (2 : Int32)) = (0 : Int32)
          · refine own_step (fun _ k => XS.ifYes XJ22.here hx rfl (pc0 := 83) (pc' := 91) rfl (hb hby at_83) rfl ((if0 _ _).trans (teq r1).1) (by decide) (by decide) k) ?_
            show own_Ends _ _ _ _ _ _ _ (TJ22.setTop (mkF m 91 #[.val (.int p0), .val (.int p1), .val (.int p2), .val (.int p3), .val (.int bf), .val (.int af), .val (.int qv), .val (.ref b11), .unset, .unset, .unset, .unset] []))
            exact J91_24 _ ZJ22 _ NJ22 _ XJ22 eJ22 _ (by rw [if_pos r1]) AJc0 FJc0 GJc0 VJc0
          · refine own_step (fun _ k => XS.ifNo XJ22.here hx rfl (hb hby at_83) rfl ((if0 _ _).trans (feq r1).1) k) ?_
            show own_Ends _ _ _ _ _ _ _ (TJ22.setTop (mkF m 86 #[.val (.int p0), .val (.int p1), .val (.int p2), .val (.int p3), .val (.int bf), .val (.int af), .val (.int qv), .val (.ref b11), .unset, .unset, .unset, .unset] []))
            refine own_step (fun _ k => XS.aload XJ22.here hx rfl (hb hby at_86) rfl rfl k) ?_
            show own_Ends _ _ _ _ _ _ _ (TJ22.setTop (mkF m 88 #[.val (.int p0), .val (.int p1), .val (.int p2), .val (.int p3), .val (.int bf), .val (.int af), .val (.int qv), .val (.ref b11), .unset, .unset, .unset, .unset] [(.ref b11)]))
            obtain ⟨cq25, kq25, qa25, qb25, qc25⟩ := isOf hZ eJ22 AJc0
            obtain ⟨_, _, ⟨T25, L25, k25, n25⟩, -, X25, ⟨Lc25, hQ25, l25, y25, z25⟩, st25⟩ := XJ22.virtualBack hx (y := (⟨"com/example/diptych/diptych/solver/Marks", "clear", "()V"⟩ : MethodName)) (z := (⟨"com/example/diptych/diptych/solver/Marks", "clear", "()V"⟩ : MethodName)) hown (mvT hZ (hw _ (List.mem_of_getElem? (i := 15) rfl))) (mvT hZ (hw _ (List.mem_of_getElem? (i := 16) rfl))) (notFace_of_selects (args := #[]) (mvT hZ (hw _ (List.mem_of_getElem? (i := 18) rfl)))) (mvT hZ (hw _ (List.mem_of_getElem? (i := 18) rfl))) (mvT hZ (hw _ (List.mem_of_getElem? (i := 17) rfl))) (by decide) (backOf (W := 0) (own_rm2 l Z a0 hw [] b11 ba s0 hJ22 n0 ZJ22 FJc0 GJc0 AJc0 gn11 (by rw [hs0]; split <;> decide)) hZ (hw _ (List.mem_of_getElem? (i := 19) rfl)) (hw _ (List.mem_of_getElem? (i := 3) rfl)) (by decide) (by decide)) qa25 qc25 (g := (mkF m 88 #[.val (.int p0), .val (.int p1), .val (.int p2), .val (.int p3), .val (.int bf), .val (.int af), .val (.int qv), .val (.ref b11), .unset, .unset, .unset, .unset] [(.ref b11)])) rfl (by rw [hml]; rfl) (Steps.refl _) (argsL := []) (rest := []) (lenOf own_pd1 rfl) rfl (by show 2 * 0 + _ ≤ _; exact Nat.le_of_eq rfl) (hb hby at_88) (fun _ _ => ⟨rfl, eJ22, (by decide : 2 + 0 ≤ _), (by decide : 5 + 0 ≤ _)⟩)
            dsimp only [Pt.U, Pt.locs, Pt.cells, Pt.slots] at X25 l25 y25 z25 st25 hQ25
            subst l25 y25 z25
            obtain ⟨rfl, Nq25, K25, AA25, FF25, GG25⟩ := hQ25
            have N25 := Fr.app NJ22 Nq25
            refine own_step (fun _ k => st25.trans k) ?_
            show own_Ends _ _ _ _ _ _ _ (T25.setTop (mkF m 91 #[.val (.int p0), .val (.int p1), .val (.int p2), .val (.int p3), .val (.int bf), .val (.int af), .val (.int qv), .val (.ref b11), .unset, .unset, .unset, .unset] []))
            have V25_ba := Arv.keep VJc0 K25 (ninS (Ne.symm neb12) nin0)
            have Z25 := Nat.le_trans ZJ22 K25.1
            exact J91_24 _ Z25 _ N25 _ X25 rfl _ (by rw [if_neg r1]) AA25 FF25 GG25 V25_ba
        by_cases r0 : (p2 &&& (1 : Int32)) = (0 : Int32)
        · refine own_step (fun _ k => XS.ifYes XJ19.here hx rfl (pc0 := 72) (pc' := 80) rfl (hb hby at_72) rfl ((if0 _ _).trans (teq r0).1) (by decide) (by decide) k) ?_
          show own_Ends _ _ _ _ _ _ _ (TJ19.setTop (mkF m 80 #[.val (.int p0), .val (.int p1), .val (.int p2), .val (.int p3), .val (.int bf), .val (.int af), .val (.int qv), .val (.ref b11), .unset, .unset, .unset, .unset] []))
          exact J80_22 _ ZJ19 _ NJ19 _ XJ19 eJ19 _ (by rw [if_pos r0]) AJb2 FJb2 GJb2 VJb2
        · refine own_step (fun _ k => XS.ifNo XJ19.here hx rfl (hb hby at_72) rfl ((if0 _ _).trans (feq r0).1) k) ?_
          show own_Ends _ _ _ _ _ _ _ (TJ19.setTop (mkF m 75 #[.val (.int p0), .val (.int p1), .val (.int p2), .val (.int p3), .val (.int bf), .val (.int af), .val (.int qv), .val (.ref b11), .unset, .unset, .unset, .unset] []))
          refine own_step (fun _ k => XS.aload XJ19.here hx rfl (hb hby at_75) rfl rfl k) ?_
          show own_Ends _ _ _ _ _ _ _ (TJ19.setTop (mkF m 77 #[.val (.int p0), .val (.int p1), .val (.int p2), .val (.int p3), .val (.int bf), .val (.int af), .val (.int qv), .val (.ref b11), .unset, .unset, .unset, .unset] [(.ref b11)]))
          obtain ⟨cq23, kq23, qa23, qb23, qc23⟩ := isOf hZ eJ19 AJb2
          obtain ⟨_, _, ⟨T23, L23, k23, n23⟩, -, X23, ⟨Lc23, hQ23, l23, y23, z23⟩, st23⟩ := XJ19.virtualBack hx (y := (⟨"com/example/diptych/diptych/solver/Marks", "clear", "()V"⟩ : MethodName)) (z := (⟨"com/example/diptych/diptych/solver/Marks", "clear", "()V"⟩ : MethodName)) hown (mvT hZ (hw _ (List.mem_of_getElem? (i := 15) rfl))) (mvT hZ (hw _ (List.mem_of_getElem? (i := 16) rfl))) (notFace_of_selects (args := #[]) (mvT hZ (hw _ (List.mem_of_getElem? (i := 18) rfl)))) (mvT hZ (hw _ (List.mem_of_getElem? (i := 18) rfl))) (mvT hZ (hw _ (List.mem_of_getElem? (i := 17) rfl))) (by decide) (backOf (W := 0) (own_rm2 l Z a0 hw [] b11 ba (1 : Int32) hJ19 n0 ZJ19 FJb2 GJb2 AJb2 gn11 (by decide)) hZ (hw _ (List.mem_of_getElem? (i := 19) rfl)) (hw _ (List.mem_of_getElem? (i := 3) rfl)) (by decide) (by decide)) qa23 qc23 (g := (mkF m 77 #[.val (.int p0), .val (.int p1), .val (.int p2), .val (.int p3), .val (.int bf), .val (.int af), .val (.int qv), .val (.ref b11), .unset, .unset, .unset, .unset] [(.ref b11)])) rfl (by rw [hml]; rfl) (Steps.refl _) (argsL := []) (rest := []) (lenOf own_pd1 rfl) rfl (by show 2 * 0 + _ ≤ _; exact Nat.le_of_eq rfl) (hb hby at_77) (fun _ _ => ⟨rfl, eJ19, (by decide : 2 + 0 ≤ _), (by decide : 5 + 0 ≤ _)⟩)
          dsimp only [Pt.U, Pt.locs, Pt.cells, Pt.slots] at X23 l23 y23 z23 st23 hQ23
          subst l23 y23 z23
          obtain ⟨rfl, Nq23, K23, AA23, FF23, GG23⟩ := hQ23
          have N23 := Fr.app NJ19 Nq23
          refine own_step (fun _ k => st23.trans k) ?_
          show own_Ends _ _ _ _ _ _ _ (T23.setTop (mkF m 80 #[.val (.int p0), .val (.int p1), .val (.int p2), .val (.int p3), .val (.int bf), .val (.int af), .val (.int qv), .val (.ref b11), .unset, .unset, .unset, .unset] []))
          have V23_ba := Arv.keep VJb2 K23 (ninS (Ne.symm neb12) nin0)
          have Z23 := Nat.le_trans ZJ19 K23.1
          exact J80_22 _ Z23 _ N23 _ X23 rfl _ (by rw [if_neg r0]; rfl) AA23 FF23 GG23 V23_ba
      by_cases t2 : (bf &&& (4 : Int32)) = (0 : Int32)
      · refine own_step (fun _ k => XS.ifYes XJ16.here hx rfl (pc0 := 60) (pc' := 69) rfl (hb hby at_60) rfl ((if0 _ _).trans (teq t2).1) (by decide) (by decide) k) ?_
        show own_Ends _ _ _ _ _ _ _ (TJ16.setTop (mkF m 69 #[.val (.int p0), .val (.int p1), .val (.int p2), .val (.int p3), .val (.int bf), .val (.int af), .val (.int qv), .val (.ref b11), .unset, .unset, .unset, .unset] []))
        exact J69_19 _ ZJ16 _ NJ16 _ XJ16 eJ16 _ (by rw [if_pos t2]) AJb1 FJb1 GJb1 VJb1
      · refine own_step (fun _ k => XS.ifNo XJ16.here hx rfl (hb hby at_60) rfl ((if0 _ _).trans (feq t2).1) k) ?_
        show own_Ends _ _ _ _ _ _ _ (TJ16.setTop (mkF m 63 #[.val (.int p0), .val (.int p1), .val (.int p2), .val (.int p3), .val (.int bf), .val (.int af), .val (.int qv), .val (.ref b11), .unset, .unset, .unset, .unset] []))
        refine own_step (fun _ k => XS.aload XJ16.here hx rfl (hb hby at_63) rfl rfl k) ?_
        show own_Ends _ _ _ _ _ _ _ (TJ16.setTop (mkF m 65 #[.val (.int p0), .val (.int p1), .val (.int p2), .val (.int p3), .val (.int bf), .val (.int af), .val (.int qv), .val (.ref b11), .unset, .unset, .unset, .unset] [(.ref b11)]))
        refine own_step (fun _ k => XS.iconst XJ16.here hx rfl (hb hby at_65) k) ?_
        show own_Ends _ _ _ _ _ _ _ (TJ16.setTop (mkF m 66 #[.val (.int p0), .val (.int p1), .val (.int p2), .val (.int p3), .val (.int bf), .val (.int af), .val (.int qv), .val (.ref b11), .unset, .unset, .unset, .unset] [(.int (2 : Int32)), (.ref b11)]))
        obtain ⟨cl20, Ar20, qq20, S20, M20, H20, G20⟩ := id VJb1
        have hin20 : ¬ ((2 : Int32) < 0 ∨ cl20.slots.size ≤ ((2 : Int32)).toNatClampNeg) := inb_of S20 ⟨by decide, by decide⟩
        obtain ⟨cq21, kq21, qa21, qb21, qc21⟩ := isOf hZ eJ16 AJb1
        obtain ⟨_, _, ⟨T21, L21, k21, n21⟩, -, X21, ⟨Lc21, hQ21, l21, y21, z21⟩, st21⟩ := XJ16.virtualBack hx (y := (⟨"com/example/diptych/diptych/solver/Marks", "mark", "(I)V"⟩ : MethodName)) (z := (⟨"com/example/diptych/diptych/solver/Marks", "mark", "(I)V"⟩ : MethodName)) hown (mvT hZ (hw _ (List.mem_of_getElem? (i := 21) rfl))) (mvT hZ (hw _ (List.mem_of_getElem? (i := 22) rfl))) (notFace_of_selects (args := #[]) (mvT hZ (hw _ (List.mem_of_getElem? (i := 24) rfl)))) (mvT hZ (hw _ (List.mem_of_getElem? (i := 24) rfl))) (mvT hZ (hw _ (List.mem_of_getElem? (i := 23) rfl))) (by decide) (backOf (W := 0) (own_rm3 l Z a0 hw [] b11 (2 : Int32) ba cl20 (1 : Int32) hJ16 n0 ZJ16 FJb1 GJb1 Ar20 hin20 gb12) hZ (hw _ (List.mem_of_getElem? (i := 25) rfl)) (hw _ (List.mem_of_getElem? (i := 3) rfl)) (by decide) (by decide)) qa21 qc21 (g := (mkF m 66 #[.val (.int p0), .val (.int p1), .val (.int p2), .val (.int p3), .val (.int bf), .val (.int af), .val (.int qv), .val (.ref b11), .unset, .unset, .unset, .unset] [(.int (2 : Int32)), (.ref b11)])) rfl (by rw [hml]; rfl) (Steps.refl _) (argsL := [(.int (2 : Int32))]) (rest := []) (lenOf own_pd0 rfl) rfl (by show 2 * 0 + _ ≤ _; exact Nat.le_of_eq rfl) (hb hby at_66) (fun _ _ => ⟨rfl, eJ16, (by decide : 2 + 0 ≤ _), (by decide : 5 + 0 ≤ _)⟩)
        dsimp only [Pt.U, Pt.locs, Pt.cells, Pt.slots] at X21 l21 y21 z21 st21 hQ21
        subst l21 y21 z21
        obtain ⟨rfl, Nq21, W21⟩ := hQ21
        have N21 := Fr.app NJ16 Nq21
        refine own_step (fun _ k => st21.trans k) ?_
        show own_Ends _ _ _ _ _ _ _ (T21.setTop (mkF m 69 #[.val (.int p0), .val (.int p1), .val (.int p2), .val (.int p3), .val (.int bf), .val (.int af), .val (.int qv), .val (.ref b11), .unset, .unset, .unset, .unset] []))
        have K21 := Keep.of_wr W21
        have VV21 : Arv Z T21.heap ba kk .int 3 [(.int x0), (.int x1), (.int (1 : Int32))] (.int (0 : Int32)) := Arv.set Ar20 qq20 S20 M20 H20 G20 rfl W21 2 (by decide) (by simp)
        have F21_b11_stamp := Fld.keep FJb1 K21 (ninS neb12 nin0)
        have F21_b11_stamps := Fld.keep GJb1 K21 (ninS neb12 nin0)
        have A21_b11 := Exa.keep AJb1 K21
        have Z21 := Nat.le_trans ZJ16 K21.1
        exact J69_19 _ Z21 _ N21 _ X21 rfl _ (by rw [if_neg t2]) A21_b11 F21_b11_stamp F21_b11_stamps VV21
    by_cases t1 : (bf &&& (2 : Int32)) = (0 : Int32)
    · refine own_step (fun _ k => XS.ifYes XJ13.here hx rfl (pc0 := 47) (pc' := 56) rfl (hb hby at_47) rfl ((if0 _ _).trans (teq t1).1) (by decide) (by decide) k) ?_
      show own_Ends _ _ _ _ _ _ _ (TJ13.setTop (mkF m 56 #[.val (.int p0), .val (.int p1), .val (.int p2), .val (.int p3), .val (.int bf), .val (.int af), .val (.int qv), .val (.ref b11), .unset, .unset, .unset, .unset] []))
      exact J56_16 _ ZJ13 _ NJ13 _ XJ13 eJ13 _ (by rw [if_pos t1]) AJb0 FJb0 GJb0 VJb0
    · refine own_step (fun _ k => XS.ifNo XJ13.here hx rfl (hb hby at_47) rfl ((if0 _ _).trans (feq t1).1) k) ?_
      show own_Ends _ _ _ _ _ _ _ (TJ13.setTop (mkF m 50 #[.val (.int p0), .val (.int p1), .val (.int p2), .val (.int p3), .val (.int bf), .val (.int af), .val (.int qv), .val (.ref b11), .unset, .unset, .unset, .unset] []))
      refine own_step (fun _ k => XS.aload XJ13.here hx rfl (hb hby at_50) rfl rfl k) ?_
      show own_Ends _ _ _ _ _ _ _ (TJ13.setTop (mkF m 52 #[.val (.int p0), .val (.int p1), .val (.int p2), .val (.int p3), .val (.int bf), .val (.int af), .val (.int qv), .val (.ref b11), .unset, .unset, .unset, .unset] [(.ref b11)]))
      refine own_step (fun _ k => XS.iconst XJ13.here hx rfl (hb hby at_52) k) ?_
      show own_Ends _ _ _ _ _ _ _ (TJ13.setTop (mkF m 53 #[.val (.int p0), .val (.int p1), .val (.int p2), .val (.int p3), .val (.int bf), .val (.int af), .val (.int qv), .val (.ref b11), .unset, .unset, .unset, .unset] [(.int (1 : Int32)), (.ref b11)]))
      obtain ⟨cl17, Ar17, qq17, S17, M17, H17, G17⟩ := id VJb0
      have hin17 : ¬ ((1 : Int32) < 0 ∨ cl17.slots.size ≤ ((1 : Int32)).toNatClampNeg) := inb_of S17 ⟨by decide, by decide⟩
      obtain ⟨cq18, kq18, qa18, qb18, qc18⟩ := isOf hZ eJ13 AJb0
      obtain ⟨_, _, ⟨T18, L18, k18, n18⟩, -, X18, ⟨Lc18, hQ18, l18, y18, z18⟩, st18⟩ := XJ13.virtualBack hx (y := (⟨"com/example/diptych/diptych/solver/Marks", "mark", "(I)V"⟩ : MethodName)) (z := (⟨"com/example/diptych/diptych/solver/Marks", "mark", "(I)V"⟩ : MethodName)) hown (mvT hZ (hw _ (List.mem_of_getElem? (i := 21) rfl))) (mvT hZ (hw _ (List.mem_of_getElem? (i := 22) rfl))) (notFace_of_selects (args := #[]) (mvT hZ (hw _ (List.mem_of_getElem? (i := 24) rfl)))) (mvT hZ (hw _ (List.mem_of_getElem? (i := 24) rfl))) (mvT hZ (hw _ (List.mem_of_getElem? (i := 23) rfl))) (by decide) (backOf (W := 0) (own_rm3 l Z a0 hw [] b11 (1 : Int32) ba cl17 (1 : Int32) hJ13 n0 ZJ13 FJb0 GJb0 Ar17 hin17 gb12) hZ (hw _ (List.mem_of_getElem? (i := 25) rfl)) (hw _ (List.mem_of_getElem? (i := 3) rfl)) (by decide) (by decide)) qa18 qc18 (g := (mkF m 53 #[.val (.int p0), .val (.int p1), .val (.int p2), .val (.int p3), .val (.int bf), .val (.int af), .val (.int qv), .val (.ref b11), .unset, .unset, .unset, .unset] [(.int (1 : Int32)), (.ref b11)])) rfl (by rw [hml]; rfl) (Steps.refl _) (argsL := [(.int (1 : Int32))]) (rest := []) (lenOf own_pd0 rfl) rfl (by show 2 * 0 + _ ≤ _; exact Nat.le_of_eq rfl) (hb hby at_53) (fun _ _ => ⟨rfl, eJ13, (by decide : 2 + 0 ≤ _), (by decide : 5 + 0 ≤ _)⟩)
      dsimp only [Pt.U, Pt.locs, Pt.cells, Pt.slots] at X18 l18 y18 z18 st18 hQ18
      subst l18 y18 z18
      obtain ⟨rfl, Nq18, W18⟩ := hQ18
      have N18 := Fr.app NJ13 Nq18
      refine own_step (fun _ k => st18.trans k) ?_
      show own_Ends _ _ _ _ _ _ _ (T18.setTop (mkF m 56 #[.val (.int p0), .val (.int p1), .val (.int p2), .val (.int p3), .val (.int bf), .val (.int af), .val (.int qv), .val (.ref b11), .unset, .unset, .unset, .unset] []))
      have K18 := Keep.of_wr W18
      have VV18 : Arv Z T18.heap ba kk .int 3 [(.int x0), (.int (1 : Int32)), (.int (0 : Int32))] (.int (0 : Int32)) := Arv.set Ar17 qq17 S17 M17 H17 G17 rfl W18 1 (by decide) (by simp)
      have F18_b11_stamp := Fld.keep FJb0 K18 (ninS neb12 nin0)
      have F18_b11_stamps := Fld.keep GJb0 K18 (ninS neb12 nin0)
      have A18_b11 := Exa.keep AJb0 K18
      have Z18 := Nat.le_trans ZJ13 K18.1
      exact J56_16 _ Z18 _ N18 _ X18 rfl _ (by rw [if_neg t1]) A18_b11 F18_b11_stamp F18_b11_stamps VV18
  by_cases t0 : (bf &&& (1 : Int32)) = (0 : Int32)
  · refine own_step (fun _ k => XS.ifYes X12.here hx rfl (pc0 := 34) (pc' := 43) rfl (hb hby at_34) rfl ((if0 _ _).trans (teq t0).1) (by decide) (by decide) k) ?_
    show own_Ends _ _ _ _ _ _ _ (T12.setTop (mkF m 43 #[.val (.int p0), .val (.int p1), .val (.int p2), .val (.int p3), .val (.int bf), .val (.int af), .val (.int qv), .val (.ref b11), .unset, .unset, .unset, .unset] []))
    exact J43_13 _ Z12 _ N12 _ X12 rfl _ (by rw [if_pos t0]) AA12 FF12 GG12 VV12
  · refine own_step (fun _ k => XS.ifNo X12.here hx rfl (hb hby at_34) rfl ((if0 _ _).trans (feq t0).1) k) ?_
    show own_Ends _ _ _ _ _ _ _ (T12.setTop (mkF m 37 #[.val (.int p0), .val (.int p1), .val (.int p2), .val (.int p3), .val (.int bf), .val (.int af), .val (.int qv), .val (.ref b11), .unset, .unset, .unset, .unset] []))
    refine own_step (fun _ k => XS.aload X12.here hx rfl (hb hby at_37) rfl rfl k) ?_
    show own_Ends _ _ _ _ _ _ _ (T12.setTop (mkF m 39 #[.val (.int p0), .val (.int p1), .val (.int p2), .val (.int p3), .val (.int bf), .val (.int af), .val (.int qv), .val (.ref b11), .unset, .unset, .unset, .unset] [(.ref b11)]))
    refine own_step (fun _ k => XS.iconst X12.here hx rfl (hb hby at_39) k) ?_
    show own_Ends _ _ _ _ _ _ _ (T12.setTop (mkF m 40 #[.val (.int p0), .val (.int p1), .val (.int p2), .val (.int p3), .val (.int bf), .val (.int af), .val (.int qv), .val (.ref b11), .unset, .unset, .unset, .unset] [(.int (0 : Int32)), (.ref b11)]))
    obtain ⟨cl14, Ar14, qq14, S14, M14, H14, G14⟩ := id VV12
    have hin14 : ¬ ((0 : Int32) < 0 ∨ cl14.slots.size ≤ ((0 : Int32)).toNatClampNeg) := inb_of S14 ⟨by decide, by decide⟩
    obtain ⟨cq15, kq15, qa15, qb15, qc15⟩ := isOf hZ rfl AA12
    obtain ⟨_, _, ⟨T15, L15, k15, n15⟩, -, X15, ⟨Lc15, hQ15, l15, y15, z15⟩, st15⟩ := X12.virtualBack hx (y := (⟨"com/example/diptych/diptych/solver/Marks", "mark", "(I)V"⟩ : MethodName)) (z := (⟨"com/example/diptych/diptych/solver/Marks", "mark", "(I)V"⟩ : MethodName)) hown (mvT hZ (hw _ (List.mem_of_getElem? (i := 21) rfl))) (mvT hZ (hw _ (List.mem_of_getElem? (i := 22) rfl))) (notFace_of_selects (args := #[]) (mvT hZ (hw _ (List.mem_of_getElem? (i := 24) rfl)))) (mvT hZ (hw _ (List.mem_of_getElem? (i := 24) rfl))) (mvT hZ (hw _ (List.mem_of_getElem? (i := 23) rfl))) (by decide) (backOf (W := 0) (own_rm3 l Z a0 hw [] b11 (0 : Int32) ba cl14 (1 : Int32) T12.heap n0 Z12 FF12 GG12 Ar14 hin14 gb12) hZ (hw _ (List.mem_of_getElem? (i := 25) rfl)) (hw _ (List.mem_of_getElem? (i := 3) rfl)) (by decide) (by decide)) qa15 qc15 (g := (mkF m 40 #[.val (.int p0), .val (.int p1), .val (.int p2), .val (.int p3), .val (.int bf), .val (.int af), .val (.int qv), .val (.ref b11), .unset, .unset, .unset, .unset] [(.int (0 : Int32)), (.ref b11)])) rfl (by rw [hml]; rfl) (Steps.refl _) (argsL := [(.int (0 : Int32))]) (rest := []) (lenOf own_pd0 rfl) rfl (by show 2 * 0 + _ ≤ _; exact Nat.le_of_eq rfl) (hb hby at_40) (fun _ _ => ⟨rfl, rfl, (by decide : 2 + 0 ≤ _), (by decide : 5 + 0 ≤ _)⟩)
    dsimp only [Pt.U, Pt.locs, Pt.cells, Pt.slots] at X15 l15 y15 z15 st15 hQ15
    subst l15 y15 z15
    obtain ⟨rfl, Nq15, W15⟩ := hQ15
    have N15 := Fr.app N12 Nq15
    refine own_step (fun _ k => st15.trans k) ?_
    show own_Ends _ _ _ _ _ _ _ (T15.setTop (mkF m 43 #[.val (.int p0), .val (.int p1), .val (.int p2), .val (.int p3), .val (.int bf), .val (.int af), .val (.int qv), .val (.ref b11), .unset, .unset, .unset, .unset] []))
    have K15 := Keep.of_wr W15
    have VV15 : Arv Z T15.heap ba kk .int 3 [(.int (1 : Int32)), (.int (0 : Int32)), (.int (0 : Int32))] (.int (0 : Int32)) := Arv.set Ar14 qq14 S14 M14 H14 G14 rfl W15 0 (by decide) (by simp)
    have F15_b11_stamp := Fld.keep FF12 K15 (ninS neb12 nin0)
    have F15_b11_stamps := Fld.keep GG12 K15 (ninS neb12 nin0)
    have A15_b11 := Exa.keep AA12 K15
    have Z15 := Nat.le_trans Z12 K15.1
    exact J43_13 _ Z15 _ N15 _ X15 rfl _ (by rw [if_neg t0]) A15_b11 F15_b11_stamp F15_b11_stamps VV15
set_option maxRecDepth 65536 in
set_option maxHeartbeats 40000000 in
theorem comes_1 {Post : Tables → Env → Array Value → State → Outcome → State → Prop} (hpost : ∀ tb e args s v u, (limb_1_1.after args s (.returned v) u = true ∧ limb_1_2.after args s (.returned v) u = true ∧ True) → FrameEnd s (.returned v) u (Jvm.fieldLocs frame_1_writes args s ++ Jvm.arrayLocs frame_1_arrays args s ++ Jvm.staticLocs frame_1_statics s) 16 128 → Post tb e args s (.returned v) u) :
    ArmFor flags0 classFile x code maxLocals ret World_1 tables_1 room_1 Calls_1 rest_1 Pre_1 Post := by
  intro l hfl _ _ p e ha hc hk s m args below hf hA hF happ hP
  obtain ⟨hcalls, hrest, hpre⟩ := hP
  obtain ⟨-, -, -, hnamed, -, -, -, hat⟩ := (Spec.applies_iff hf).mp happ
  obtain ⟨hg, hn⟩ := and_e (Cond.before_iff.mp (show (Jvm.Cond.and given_1 narrow_1).before args s = true from hpre))
  obtain ⟨g0, hg⟩ := and_e hg
  obtain ⟨ga0, hg⟩ := and_e hg
  obtain ⟨ga1, hg⟩ := and_e hg
  obtain ⟨ga2, hg⟩ := and_e hg
  obtain ⟨w0, w1, w2, w3, rfl⟩ : ∃ w0 w1 w2 w3 : Value, args = #[w0, w1, w2, w3] := by
    have hs : args.size = 4 := by simpa [Cond.value, given_1] using g0
    obtain ⟨L⟩ := args
    match L, hs with
    | [w0, w1, w2, w3], _ => exact ⟨w0, w1, w2, w3, rfl⟩
  have hw := fun d (hd : d ∈ tables_1) => atoms_spec (ws := Jvm.Cond.code x code maxLocals ret :: tables_1) hat d (List.mem_cons_of_mem _ hd)
  obtain ⟨i0, ei0⟩ := is_v ga0
  obtain rfl : w0 = (.int i0) := Option.some.inj ei0
  obtain ⟨i1, ei1⟩ := is_v ga1
  obtain rfl : w1 = (.int i1) := Option.some.inj ei1
  obtain ⟨i2, ei2⟩ := is_v ga2
  obtain rfl : w2 = (.int i2) := Option.some.inj ei2
  obtain ⟨i3, ei3⟩ := is_v hg
  obtain rfl : w3 = (.int i3) := Option.some.inj ei3
  obtain ⟨n, o, h1, h2, h3, _, L, rfl, ⟨rfl, N⟩, hq⟩ := own_rm0 l s _ hw tables_1 i0 i1 i2 i3 s.heap s.heap.size (Nat.le_refl _)  p e ha hc hk s m _ below hf ((Spec.applies_iff_loose hf).mp happ).1 ⟨rfl, State.Warmed39.refl s, rfl⟩ trivial
  refine ⟨n, _, h1, h2, h3, hpost _ _ _ _ _ _ ⟨Cond.after_iff.mpr rfl, Cond.after_iff.mpr (eq_i res_at (Term.int_eval (1)) rfl), trivial⟩ ⟨hq.1, hq.2.1, (hq.2.2.sift fun y hy => Or.inr (N y hy)).mono (by decide) (by decide)⟩⟩
theorem main_1_1 : Claimed_1_1 := comes_1 fun _ _ _ _ _ _ h hF => ⟨h.1, hF⟩
theorem main_1_2 : Claimed_1_2 := comes_1 fun _ _ _ _ _ _ h hF => ⟨h.2.1, hF⟩
end Jvm.Pilot.@@N@@
namespace Jvm.Pilot.@@N@@
open Jvm Jvm.ClassFile Sem Op Lib Jvm.Free Jvm.Stand Jvm.Pilot.@@N@@.Jvm.D
/-! MADE BY PROGRAM (witnessworld.py) out of the Statement's table words and the real class files: 9 classes; the members and pool entries that the words name. The judged class is class 1, her method 1. -/
namespace start1
open Jvm.ClassFile
def u (s : String) : CpInfo := .utf8 (stringToUtf16 s)
/-- a pool by its gaps: so many unusable entries, then the entry; so many at the end -/
def gap : Nat → List CpInfo → List CpInfo
  | 0, r => r
  | n + 1, r => .unusable :: gap n r
def poolList (es : List (Nat × CpInfo)) (last : Nat) : List CpInfo := es.foldr (fun e r => gap e.1 (e.2 :: r)) (gap last [])
def pool (es : List (Nat × CpInfo)) (last : Nat) : Array CpInfo := ⟨poolList es last⟩
def fileOf (pool : Array CpInfo) (this : Nat) (attrs : Array Attribute := #[]) (ms : Array MethodInfo := #[]) (fl : Nat := 33) (sup : Nat := 0) (ifs : Array Nat := #[]) (fds : Array FieldInfo := #[]) : ClassFile where
  minorVersion := 0
  majorVersion := 65
  constantPool := pool
  accessFlags := fl
  thisClass := this
  superClass := sup
  interfaces := ifs
  fields := fds
  methods := ms
  attributes := attrs
def plain (name : String) (sup : Option ClassId) : Class where
  name := name
  kind := .ordinary
  loader := none
  accessFlags := 33
  super := sup
  interfaces := #[]
  cf := none
  fields := #[]
  methods := #[]
  instanceTypes := #[]
  staticTypes := #[]
  resolved := #[]
  callSites := []
  init := .initialized
  statics := none
  mirror := none

def pool0 : Array CpInfo := pool [(5, u "<init>"), (0, u "()V"), (1, .class_ 10), (1, u "java/lang/Object")] 113

def k0c0 : Code := { maxStack := 0, maxLocals := 1, code := object_method_1_code, exceptionTable := #[], attributes := #[] }
def k0m0 : Method := { name := "<init>", desc := "()V", sig := { parameters := [], returnType := none }, accessFlags := 1, code := some k0c0 }
/-- java/lang/Object -/
def k0 : Class := { plain "java/lang/Object" none with
  accessFlags := 33
  interfaces := #[]
  cf := some (fileOf pool0 8 #[] #[{ accessFlags := 1, nameIndex := 5, descriptorIndex := 6, attributes := #[] }] 33 0 #[] #[])
  fields := #[]
  methods := #[k0m0]
  instanceTypes := #[]
  staticTypes := #[]
  resolved := Array.replicate 124 none
  statics := none }

def pool1 : Array CpInfo := pool [(2, .class_ 4), (1, u "java/lang/Object"), (0, u "<init>"), (0, u "()V"), (0, .integer 2147483647), (0, .class_ 9), (0, u "com/example/diptych/diptych/solver/Marks"), (0, .methodref 8 11), (0, .nameAndType 5 12), (0, u "(I)V"), (0, .methodref 8 14), (0, .nameAndType 15 12), (0, u "mark"), (0, .methodref 8 17), (0, .nameAndType 18 6), (0, u "clear"), (0, .methodref 8 20), (0, .nameAndType 21 22), (0, u "marked"), (0, u "(I)Z"), (0, .class_ 24), (0, u "com/example/diptych/diptych/solver/MarksMarkedPinLaw"), (2, u "law"), (0, u "(IIII)Z")] 3

def k1m0 : Method := { name := "<init>", desc := "()V", sig := { parameters := [], returnType := none }, accessFlags := 2, code := none }
def k1c1 : Code := { maxStack := 3, maxLocals := 12, code := code, exceptionTable := #[], attributes := #[] }
def k1m1 : Method := { name := "law", desc := "(IIII)Z", sig := { parameters := [.int, .int, .int, .int], returnType := some .boolean }, accessFlags := 9, code := some k1c1 }
/-- com/example/diptych/diptych/solver/MarksMarkedPinLaw -/
def k1 : Class := { plain "com/example/diptych/diptych/solver/MarksMarkedPinLaw" (some 0) with
  accessFlags := 49
  interfaces := #[]
  cf := some (fileOf pool1 23 #[] #[{ accessFlags := 2, nameIndex := 5, descriptorIndex := 6, attributes := #[] }, { accessFlags := 9, nameIndex := 27, descriptorIndex := 28, attributes := #[] }] 49 2 #[] #[])
  fields := #[]
  methods := #[k1m0, k1m1]
  instanceTypes := #[]
  staticTypes := #[]
  resolved := Array.replicate 32 none
  statics := none }

def pool2 : Array CpInfo := pool [(1, .methodref 2 3), (0, .class_ 4), (0, .nameAndType 5 6), (0, u "java/lang/Object"), (0, u "<init>"), (0, u "()V"), (0, .fieldref 8 9), (0, .class_ 10), (0, .nameAndType 11 12), (0, u "com/example/diptych/diptych/solver/Marks"), (0, u "stamp"), (0, u "I"), (0, .fieldref 8 14), (0, .nameAndType 15 16), (0, u "stamps"), (0, u "[I"), (2, .integer 2147483647), (6, u "(I)V"), (2, u "clear"), (1, u "marked"), (0, u "(I)Z"), (0, u "mark")] 2

def k2c0 : Code := { maxStack := 2, maxLocals := 2, code := prog_58_method_1_code, exceptionTable := #[], attributes := #[] }
def k2m0 : Method := { name := "<init>", desc := "(I)V", sig := { parameters := [.int], returnType := none }, accessFlags := 1, code := some k2c0 }
def k2c1 : Code := { maxStack := 3, maxLocals := 1, code := prog_58_method_2_code, exceptionTable := #[], attributes := #[] }
def k2m1 : Method := { name := "clear", desc := "()V", sig := { parameters := [], returnType := none }, accessFlags := 1, code := some k2c1 }
def k2c2 : Code := { maxStack := 2, maxLocals := 2, code := prog_58_method_3_code, exceptionTable := #[], attributes := #[] }
def k2m2 : Method := { name := "marked", desc := "(I)Z", sig := { parameters := [.int], returnType := some .boolean }, accessFlags := 1, code := some k2c2 }
def k2c3 : Code := { maxStack := 3, maxLocals := 2, code := prog_58_method_4_code, exceptionTable := #[], attributes := #[] }
def k2m3 : Method := { name := "mark", desc := "(I)V", sig := { parameters := [.int], returnType := none }, accessFlags := 1, code := some k2c3 }
/-- com/example/diptych/diptych/solver/Marks -/
def k2 : Class := { plain "com/example/diptych/diptych/solver/Marks" (some 0) with
  accessFlags := 49
  interfaces := #[]
  cf := some (fileOf pool2 8 #[] #[{ accessFlags := 1, nameIndex := 5, descriptorIndex := 26, attributes := #[] }, { accessFlags := 1, nameIndex := 29, descriptorIndex := 6, attributes := #[] }, { accessFlags := 1, nameIndex := 31, descriptorIndex := 32, attributes := #[] }, { accessFlags := 1, nameIndex := 33, descriptorIndex := 26, attributes := #[] }] 49 2 #[] #[{ accessFlags := 18, nameIndex := 15, descriptorIndex := 16, attributes := #[] }, { accessFlags := 2, nameIndex := 11, descriptorIndex := 12, attributes := #[] }])
  fields := #[{ name := "stamps", type := (.array .int), accessFlags := 18, slot := 0, constantValue := 0 }, { name := "stamp", type := .int, accessFlags := 2, slot := 1, constantValue := 0 }]
  methods := #[k2m0, k2m1, k2m2, k2m3]
  instanceTypes := #[(.array .int), .int]
  staticTypes := #[]
  resolved := Array.replicate 36 none
  statics := none }

def pool3 : Array CpInfo := pool [(1, u "java/lang/Cloneable"), (0, .class_ 1), (0, u "java/lang/Object"), (0, .class_ 3)] 3

/-- java/lang/Cloneable -/
def k3 : Class := { plain "java/lang/Cloneable" (some 0) with
  accessFlags := 1537
  interfaces := #[]
  cf := some (fileOf pool3 2 #[] #[] 1537 4 #[] #[])
  fields := #[]
  methods := #[]
  instanceTypes := #[]
  staticTypes := #[]
  resolved := Array.replicate 8 none
  statics := none }

def pool4 : Array CpInfo := pool [(1, u "java/io/Serializable"), (0, .class_ 1), (0, u "java/lang/Object"), (0, .class_ 3)] 3

/-- java/io/Serializable -/
def k4 : Class := { plain "java/io/Serializable" (some 0) with
  accessFlags := 1537
  interfaces := #[]
  cf := some (fileOf pool4 2 #[] #[] 1537 4 #[] #[])
  fields := #[]
  methods := #[]
  instanceTypes := #[]
  staticTypes := #[]
  resolved := Array.replicate 8 none
  statics := none }

/-- the primitive byte -/
def k5 : Class := { plain "byte" none with kind := .primitive 'B', accessFlags := 0x411 }
/-- [B -/
def k6 : Class := { plain "[B" (some 0) with kind := .array 5 .byte, interfaces := #[3, 4], accessFlags := 1041 }

/-- the primitive int -/
def k7 : Class := { plain "int" none with kind := .primitive 'I', accessFlags := 0x411 }
/-- [I -/
def k8 : Class := { plain "[I" (some 0) with kind := .array 7 .int, interfaces := #[3, 4], accessFlags := 1041 }

def heap : Heap := #[]
def classes : Array Class := #[k0, k1, k2, k3, k4, k5, k6, k7, k8]
def interned : List (Array UInt16 × Addr) := []
def slotsUsed : Nat := 0
def theMethod : MethodId := ⟨1, 1⟩
def args0 : Array Value := #[.int 5, .int 7, .int 9, .int 1]
def aboutOver (below : List Frame) : State where
  vm := { classes := classes, interned := interned.toArray }
  heap := heap
  slotsUsed := slotsUsed
  threads := #[{ frames := .invoking theMethod args0 :: below }]
def below0 : List Frame := [.native { method := ⟨0, 0⟩, args := #[] }]
def about1 : State := aboutOver below0
def p0 : Program := .bare "" "" ""
def e0 : Env := launch0.env 0 0 0
theorem w_frames : about1.frames = Frame.invoking theMethod args0 :: below0 := rfl
set_option maxRecDepth 65536 in
theorem w_args : argsFit about1.vm theMethod args0 = true := by decide +kernel
set_option maxRecDepth 65536 in
theorem w_heap : heapFits about1 = true := by decide +kernel
set_option maxRecDepth 65536 in
theorem w_runnable : about1.curStatus? = some .runnable := by decide +kernel
set_option maxRecDepth 65536 in
theorem w_alone : about1.alone = true := by decide +kernel
set_option maxRecDepth 65536 in
theorem w_named : about1.methodNamed? x = some theMethod := by decide +kernel
set_option maxRecDepth 65536 in
theorem w_hears : about1.hears theMethod below0 = true := by decide +kernel
set_option maxRecDepth 65536 in
theorem w_ripe : about1.ripe theMethod args0 below0 = true := by decide +kernel
theorem w_running : about1.status = .running := rfl
set_option maxRecDepth 65536 in
theorem w_room : about1.hasRoom e0.platform room_1 = true :=
  launch0.hasRoom_least _ room_1 (by decide +kernel) (by decide +kernel) (by decide +kernel) (by decide +kernel) (by decide +kernel) (by decide +kernel)
theorem allAtoms_all (ts : List Jvm.Cond) (a : Array Jvm.Value) (st : Jvm.State) : (allAtoms ts).before a st = ts.all (fun c => c.before a st) := by
  induction ts with
  | nil => rfl
  | cons c t ih =>
    show (Jvm.Cond.and c (allAtoms t)).before a st = _
    rw [Jvm.Cond.before_and, ih, List.all_cons]
def words1 : List Jvm.Cond := Jvm.Cond.code x code maxLocals ret :: tables_1
/-- a 'code' word, met by the world's own term for the bytes: nothing is compared byte by byte -/
theorem code_word {y : MethodName} {bytes : ByteArray} {mx : Nat} {rt : Option FieldType} {a : Array Value} {s : State} {m : MethodId} {meth : Method} {c : Code} (h1 : s.methodNamed? y = some m) (h2 : s.vm.method? m = some meth) (h3 : meth.code = some c) (h4 : c.code = bytes)
    (h5 : (c.maxLocals == mx && c.exceptionTable.isEmpty && decide (c.maxStack ≤ mostOperands) && decide (meth.sig.returnType = rt) && !meth.locks && decide (parseMethodDescriptor y.desc = some meth.sig)) = true) : (Jvm.Cond.code y bytes mx rt).before a s = true := by
  simp only [Bool.and_eq_true, beq_iff_eq, Bool.not_eq_true', decide_eq_true_eq] at h5
  obtain ⟨⟨⟨⟨⟨g1, g2⟩, g3⟩, g4⟩, g5⟩, g6⟩ := h5
  simp [Cond.before, Cond.holds, Cond.value, h1, h2, h3, h4, g1, g2, g3, g4, g5, g6]
def isCode : Jvm.Cond → Bool
  | .code _ _ _ _ => true
  | _ => false
theorem all_split {L : List Jvm.Cond} {P : Jvm.Cond → Bool} (h1 : L.all (fun c => isCode c || P c) = true) (h2 : ∀ c ∈ L.filter isCode, P c = true) : L.all P = true := by
  refine List.all_eq_true.mpr fun c hc => ?_
  have h := List.all_eq_true.mp h1 c hc
  rcases Bool.eq_false_or_eq_true (isCode c) with hi | hi
  · exact h2 c (List.mem_filter.mpr ⟨hc, hi⟩)
  · simpa [hi] using h
set_option maxRecDepth 65536 in
theorem w_c0 : (Jvm.Cond.code x code maxLocals ret).before args0 about1 = true := code_word (m := ⟨1, 1⟩) (meth := k1m1) (c := k1c1) (by decide +kernel) rfl rfl rfl (by decide +kernel)
set_option maxRecDepth 65536 in
theorem w_c1 : (Jvm.Cond.code ({ cls := "com/example/diptych/diptych/solver/Marks", name := "<init>", desc := "(I)V" } : Jvm.MethodName) prog_58_method_1_code (2 : Nat) (Option.none : Option Jvm.ClassFile.FieldType)).before args0 about1 = true := code_word (m := ⟨2, 0⟩) (meth := k2m0) (c := k2c0) (by decide +kernel) rfl rfl rfl (by decide +kernel)
set_option maxRecDepth 65536 in
theorem w_c2 : (Jvm.Cond.code ({ cls := "java/lang/Object", name := "<init>", desc := "()V" } : Jvm.MethodName) object_method_1_code (1 : Nat) (Option.none : Option Jvm.ClassFile.FieldType)).before args0 about1 = true := code_word (m := ⟨0, 0⟩) (meth := k0m0) (c := k0c0) (by decide +kernel) rfl rfl rfl (by decide +kernel)
set_option maxRecDepth 65536 in
theorem w_c3 : (Jvm.Cond.code ({ cls := "com/example/diptych/diptych/solver/Marks", name := "clear", desc := "()V" } : Jvm.MethodName) prog_58_method_2_code (1 : Nat) (Option.none : Option Jvm.ClassFile.FieldType)).before args0 about1 = true := code_word (m := ⟨2, 1⟩) (meth := k2m1) (c := k2c1) (by decide +kernel) rfl rfl rfl (by decide +kernel)
set_option maxRecDepth 65536 in
theorem w_c4 : (Jvm.Cond.code ({ cls := "com/example/diptych/diptych/solver/Marks", name := "mark", desc := "(I)V" } : Jvm.MethodName) prog_58_method_4_code (2 : Nat) (Option.none : Option Jvm.ClassFile.FieldType)).before args0 about1 = true := code_word (m := ⟨2, 3⟩) (meth := k2m3) (c := k2c3) (by decide +kernel) rfl rfl rfl (by decide +kernel)
set_option maxRecDepth 65536 in
theorem w_c5 : (Jvm.Cond.code ({ cls := "com/example/diptych/diptych/solver/Marks", name := "marked", desc := "(I)Z" } : Jvm.MethodName) prog_58_method_3_code (2 : Nat) (Option.some Jvm.ClassFile.FieldType.boolean)).before args0 about1 = true := code_word (m := ⟨2, 2⟩) (meth := k2m2) (c := k2c2) (by decide +kernel) rfl rfl rfl (by decide +kernel)
def codes1 : List Jvm.Cond := [Jvm.Cond.code x code maxLocals ret, Jvm.Cond.code ({ cls := "com/example/diptych/diptych/solver/Marks", name := "<init>", desc := "(I)V" } : Jvm.MethodName) prog_58_method_1_code (2 : Nat) (Option.none : Option Jvm.ClassFile.FieldType), Jvm.Cond.code ({ cls := "java/lang/Object", name := "<init>", desc := "()V" } : Jvm.MethodName) object_method_1_code (1 : Nat) (Option.none : Option Jvm.ClassFile.FieldType), Jvm.Cond.code ({ cls := "com/example/diptych/diptych/solver/Marks", name := "clear", desc := "()V" } : Jvm.MethodName) prog_58_method_2_code (1 : Nat) (Option.none : Option Jvm.ClassFile.FieldType), Jvm.Cond.code ({ cls := "com/example/diptych/diptych/solver/Marks", name := "mark", desc := "(I)V" } : Jvm.MethodName) prog_58_method_4_code (2 : Nat) (Option.none : Option Jvm.ClassFile.FieldType), Jvm.Cond.code ({ cls := "com/example/diptych/diptych/solver/Marks", name := "marked", desc := "(I)Z" } : Jvm.MethodName) prog_58_method_3_code (2 : Nat) (Option.some Jvm.ClassFile.FieldType.boolean)]
set_option maxRecDepth 65536 in
theorem codes_eq : words1.filter isCode = codes1 := rfl
theorem w_codes : ∀ c ∈ words1.filter isCode, c.before args0 about1 = true := by
  rw [codes_eq]
  intro c hc
  simp only [codes1, List.mem_cons, List.not_mem_nil, or_false] at hc
  rcases hc with rfl | rfl | rfl | rfl | rfl | rfl
  · exact w_c0
  · exact w_c1
  · exact w_c2
  · exact w_c3
  · exact w_c4
  · exact w_c5
set_option maxRecDepth 65536 in
theorem w_t1 : (words1.take 24).all (fun c => isCode c || c.before args0 about1) = true := by decide +kernel
set_option maxRecDepth 65536 in
theorem w_t2 : (words1.drop 24).all (fun c => isCode c || c.before args0 about1) = true := by decide +kernel
theorem w_tables : (allAtoms (Jvm.Cond.code x code maxLocals ret :: tables_1)).before args0 about1 = true := by
  rw [allAtoms_all]
  show words1.all (fun c => c.before args0 about1) = true
  refine all_split ?_ w_codes
  rw [← List.take_append_drop 24 words1, List.all_append, w_t1, w_t2]
  rfl
set_option maxRecDepth 65536 in
theorem w_case : (Jvm.Cond.and given_1 narrow_1).before args0 about1 = true := by decide +kernel
theorem w_applies : (headSpec (Jvm.Cond.code x code maxLocals ret :: tables_1) room_1).applies x e0.platform about1 = true :=
  (Spec.applies_iff w_frames).mpr ⟨w_running, w_runnable, w_alone, w_named, w_hears, w_ripe, w_room, w_tables⟩
theorem atStart : AtStart classFile x code maxLocals ret World_1 tables_1 room_1 Calls_1 rest_1 Pre_1 launch0 p0 e0 about1 theMethod args0 below0 :=
  ⟨lists_1, trivial, launch0.admits_env _ _ _, launch0.least_env, fairChoices_fair.cas, fairChoices_fair.clock, w_frames, w_args, w_heap, w_applies, trivial, trivial, w_case⟩
end start1
theorem witness_1 : WitnessClaimed_1 := ⟨start1.p0, start1.e0, start1.about1, start1.theMethod, start1.args0, start1.below0, start1.atStart⟩
end Jvm.Pilot.@@N@@
