import JvmDerived
import JvmDerived.Pilot.@@N@@Statement
import JvmDerived.Pilot.@@N@@Code
set_option linter.unusedVariables false
set_option linter.unusedSimpArgs false
@@BLOCK:NumsL.lean.txt@@
namespace Jvm.Pilot.@@N@@
open Jvm Jvm.ClassFile Sem Op Lib Jvm.Free Jvm.Stand Jvm.LawKit Jvm.RoadKit Bundle Jvm.Pilot.@@N@@.Jvm.D
/-- the run that stands at st comes to a return: Q says what is returned, the heap and the places written; at most kc cells and ks slots are new -/
def own_Ends (p : Program) (e : Env) (below : List Frame) (s : State) (kc ks : Nat) (Q : Option Value → Heap → List Loc → Prop) (st : State) : Prop :=
  ∃ s₂ o, Steps p.tables e below st s₂ ∧ s₂.status = .running ∧ Ended s₂ below o ∧ ∃ v L, o = .returned v ∧ Q v s₂.heap L ∧ FrameEnd s o s₂ L kc ks
theorem own_step {p : Program} {e : Env} {below : List Frame} {s : State} {kc ks : Nat} {Q : Option Value → Heap → List Loc → Prop} {st st' : State}
    (h : ∀ t, Steps p.tables e below st' t → Steps p.tables e below st t) (k : own_Ends p e below s kc ks Q st') : own_Ends p e below s kc ks Q st := by
  obtain ⟨s₂, o, h1, h2⟩ := k
  exact ⟨s₂, o, h _ h1, h2⟩
theorem own_ret {p : Program} {l : Launch} {e : Env} {R : Room} {s : State} {m : MethodId} {args : Array Value} {below : List Frame} {meth : Method} {c : Code} {T : State} {locs : List Loc} {cells slots : Nat} {kc ks : Nat} {Q : Option Value → Heap → List Loc → Prop} {st : State}
    (X : Stand p l e R s m args below meth c T locs cells slots) (hlocks : meth.locks = false) {v : Option Value} (hv : meth.sig.returnType = none → v = none) (hq : Q v T.heap locs) (hc : cells ≤ kc) (hs : slots ≤ ks)
    (hr : ∀ fs, (∀ (f : JFrame) (acts : List Action), f.method = m → f.locked = none → f.entered = [] → (doReturn e (T.setTop f) acts v).1 = T.setFrames fs) → Steps p.tables e below st (T.setFrames fs)) : own_Ends p e below s kc ks Q st := by
  obtain ⟨fs, h1, hrun, hended, hW, hsame⟩ := X.leave (v := v) hv hlocks
  exact ⟨_, _, hr fs h1, hrun, hended, v, locs, rfl, hq, ⟨_, rfl⟩, hW, hsame.mono hc hs⟩

def own_p (i : Nat) : Int64 := Int64.ofNat (10 ^ i)
theorem own_pt : ∀ i : Fin 19, (own_p i.val).toInt = ((10 ^ i.val : Nat) : Int) := by decide +kernel
theorem own_get {i : Nat} (h : i < 19) : ([(.long (1 : Int64)), (.long (10 : Int64)), (.long (100 : Int64)), (.long (1000 : Int64)), (.long (10000 : Int64)), (.long (100000 : Int64)), (.long (1000000 : Int64)), (.long (10000000 : Int64)), (.long (100000000 : Int64)), (.long (1000000000 : Int64)), (.long (10000000000 : Int64)), (.long (100000000000 : Int64)), (.long (1000000000000 : Int64)), (.long (10000000000000 : Int64)), (.long (100000000000000 : Int64)), (.long (1000000000000000 : Int64)), (.long (10000000000000000 : Int64)), (.long (100000000000000000 : Int64)), (.long (1000000000000000000 : Int64))] : List Value).getD i (.long (0 : Int64)) = .long (own_p i) := by
  have : i = 0 ∨ i = 1 ∨ i = 2 ∨ i = 3 ∨ i = 4 ∨ i = 5 ∨ i = 6 ∨ i = 7 ∨ i = 8 ∨ i = 9 ∨ i = 10 ∨ i = 11 ∨ i = 12 ∨ i = 13 ∨ i = 14 ∨ i = 15 ∨ i = 16 ∨ i = 17 ∨ i = 18 := by omega
  rcases this with rfl | rfl | rfl | rfl | rfl | rfl | rfl | rfl | rfl | rfl | rfl | rfl | rfl | rfl | rfl | rfl | rfl | rfl | rfl <;> rfl
theorem own_lt {x y : Int64} : x < y ↔ x.toInt < y.toInt := Int64.lt_iff_toInt_lt
theorem own_ti {i : Nat} (h : i < 1000) : (Int32.ofNat i).toInt = i := by rw [Int32.toInt_ofNat_of_lt (by omega)]
theorem own_tn {i : Nat} (h : i < 1000) : (Int32.ofNat i).toNatClampNeg = i := by simp only [Int32.toNatClampNeg, own_ti h]; omega
theorem own_up (i : Nat) : Int32.ofNat i + 1 = Int32.ofNat (i + 1) := Int32.ofNat_succ i
theorem own_dn {i : Nat} (h : i < 900) : Int32.ofNat (i + 1) - 1 = Int32.ofNat i := by
  apply Int32.toInt_inj.mp
  have e1 : (1 : Int32).toInt = 1 := rfl
  rw [Jvm.Kit.i32_sub (by rw [own_ti (by omega)]; omega) (by rw [own_ti (by omega)]; omega), own_ti (by omega), own_ti (by omega)]
  omega
theorem own_eq {i k : Nat} (hi : i < 1000) (hk : k < 1000) : Int32.ofNat i = Int32.ofNat k ↔ i = k := by
  rw [← Int32.toInt_inj, own_ti hi, own_ti hk]; omega
theorem own_div (x : Int64) (m : Nat) (h : x.toInt = m) : (x / (10 : Int64)).toInt = (m / 10 : Nat) := by
  have e : (10 : Int64).toInt = 10 := rfl
  rw [Jvm.Kit.i64_div (by omega), e, Int.tdiv_eq_ediv_of_nonneg (by omega), h]
  omega
theorem own_nn (x : Int32) : ∀ r, r = ((x &&& (2147483647 : Int32)) - (x &&& (2147483647 : Int32)) / (19 : Int32) * (19 : Int32)) → ∃ k : Nat, k < 19 ∧ r = Int32.ofNat k := by
  intro r hr
  have e := Jvm.Kit.i32_mask x 2147483647 (k := 31) (by decide) (by decide)
  generalize x &&& (2147483647 : Int32) = y at *
  rw [irem_eq_mod] at hr
  have h := Jvm.Kit.i32_rem_nonneg (x := y) (y := 19) (by omega)
  rw [← hr] at h
  have e5 : (19 : Int32).toInt = 19 := rfl
  rw [e5] at h
  refine ⟨r.toInt.toNat, by omega, Int32.toInt_inj.mp ?_⟩
  rw [own_ti (by omega)]
  omega
theorem own_in {cl : Cell} {i : Nat} (hS : cl.slots.size = (19 : Int32).toNatClampNeg) (hi : i < 19) : ¬ (Int32.ofNat i < 0 ∨ cl.slots.size ≤ (Int32.ofNat i).toNatClampNeg) := by
  have e : (19 : Int32).toNatClampNeg = 19 := by decide
  rw [hS, own_tn (by omega), Int32.lt_iff_toInt_lt, own_ti (by omega), e]
  have : (0 : Int32).toInt = 0 := rfl
  omega
theorem own_at {cl : Cell} {i : Nat} (hS : cl.slots.size = (19 : Int32).toNatClampNeg) (hi : i < 19) (H : Has cl [(.long (1 : Int64)), (.long (10 : Int64)), (.long (100 : Int64)), (.long (1000 : Int64)), (.long (10000 : Int64)), (.long (100000 : Int64)), (.long (1000000 : Int64)), (.long (10000000 : Int64)), (.long (100000000 : Int64)), (.long (1000000000 : Int64)), (.long (10000000000 : Int64)), (.long (100000000000 : Int64)), (.long (1000000000000 : Int64)), (.long (10000000000000 : Int64)), (.long (100000000000000 : Int64)), (.long (1000000000000000 : Int64)), (.long (10000000000000000 : Int64)), (.long (100000000000000000 : Int64)), (.long (1000000000000000000 : Int64))] (.long (0 : Int64))) : cl.slots[(Int32.ofNat i).toNatClampNeg]? = some (.long (own_p i)) :=
  Has.at H (own_in hS hi) (by rw [own_tn (by omega)]; exact own_get hi)
theorem own_val {low sp x : Int64} (h0 : 0 ≤ low.toInt) (h1 : 0 < sp.toInt) (h2 : low.toInt + sp.toInt ≤ 2 ^ 63) : ∃ n : Nat, (low + ((x &&& (9223372036854775807 : Int64)) - (x &&& (9223372036854775807 : Int64)) / sp * sp)).toInt = n ∧ low.toInt ≤ n ∧ n < low.toInt + sp.toInt := by
  have e := Jvm.Kit.i64_mask x 9223372036854775807 (k := 63) (by decide) (by decide)
  generalize x &&& (9223372036854775807 : Int64) = y at *
  have h := Jvm.Kit.i64_rem_nonneg (x := y) (y := sp) (by omega)
  have g1 := Int.emod_nonneg y.toInt (show sp.toInt ≠ 0 by omega)
  have g2 := Int.emod_lt_of_pos y.toInt h1
  generalize y - y / sp * sp = r at *
  refine ⟨(low.toInt + r.toInt).toNat, ?_, by omega, by omega⟩
  rw [Jvm.Kit.i64_add (by omega) (by omega)]
  omega
theorem own_d1_0 : decode prog_12_method_2_code 0 = .ok (.iconst 1, 1) := by decide +kernel
theorem own_d1_1 : decode prog_12_method_2_code 1 = .ok (.istore_n 2, 1) := by decide +kernel
theorem own_d1_2 : decode prog_12_method_2_code 2 = .ok (.lload_n 0, 1) := by decide +kernel
theorem own_d1_3 : decode prog_12_method_2_code 3 = .ok (.ldc2_w 7, 3) := by decide +kernel
theorem own_d1_6 : decode prog_12_method_2_code 6 = .ok (.ldiv, 1) := by decide +kernel
theorem own_d1_7 : decode prog_12_method_2_code 7 = .ok (.lstore_n 3, 1) := by decide +kernel
theorem own_d1_8 : decode prog_12_method_2_code 8 = .ok (.lload_n 3, 1) := by decide +kernel
theorem own_d1_9 : decode prog_12_method_2_code 9 = .ok (.lconst 0, 1) := by decide +kernel
theorem own_d1_10 : decode prog_12_method_2_code 10 = .ok (.lcmp, 1) := by decide +kernel
theorem own_d1_11 : decode prog_12_method_2_code 11 = .ok (.ifCond .le 15, 3) := by decide +kernel
theorem own_d1_14 : decode prog_12_method_2_code 14 = .ok (.iinc 2 1, 3) := by decide +kernel
theorem own_d1_17 : decode prog_12_method_2_code 17 = .ok (.lload_n 3, 1) := by decide +kernel
theorem own_d1_18 : decode prog_12_method_2_code 18 = .ok (.ldc2_w 7, 3) := by decide +kernel
theorem own_d1_21 : decode prog_12_method_2_code 21 = .ok (.ldiv, 1) := by decide +kernel
theorem own_d1_22 : decode prog_12_method_2_code 22 = .ok (.lstore_n 3, 1) := by decide +kernel
theorem own_d1_23 : decode prog_12_method_2_code 23 = .ok (.goto (-15), 3) := by decide +kernel
theorem own_d1_26 : decode prog_12_method_2_code 26 = .ok (.iload_n 2, 1) := by decide +kernel
theorem own_d1_27 : decode prog_12_method_2_code 27 = .ok (.ireturn, 1) := by decide +kernel
theorem own_pn0 : plainName "org/halflife/http/Decimal" = true := by first | (simp [plainName, overriddenIn]; done) | decide +kernel
theorem own_ef1 (m : MethodId) (q0 : Int64) : entryFrame m #[(.long q0)] 5 = mkF m 0 #[.val (.long q0), .second, .unset, .unset, .unset] [] := by first | (simp [entryFrame, mkF, argsToLocals, Value.category]; done) | rfl
def own_Q1 (Z : State) (q0 : Int64) (nv d : Nat) (h0 : Heap) (n0 : Nat) (v : Option Value) (h : Heap) (L : List Loc) : Prop := v = some (.int (Int32.ofNat (d + 1))) ∧ Fr n0 L ∧ h = h0
set_option maxRecDepth 65536 in
set_option maxHeartbeats 40000000 in
theorem own_rm1 (l : Launch) (Z : State) (a0 : Array Value) (hw : ∀ d ∈ tables_1, d.before a0 Z = true) (ws : List Jvm.Cond) (q0 : Int64) (nv d : Nat) (h0 : Heap) (n0 : Nat) (Z0 : n0 ≤ h0.size) (hn : q0.toInt = nv) (hd : d < 19) (hlo : d = 0 ∨ 10 ^ d ≤ nv) (hhi : nv < 10 ^ (d + 1)) :
    MetFree l (⟨"org/halflife/http/Decimal", "length", "(J)I"⟩ : MethodName) (head1 (Jvm.Cond.code (⟨"org/halflife/http/Decimal", "length", "(J)I"⟩ : MethodName) prog_12_method_2_code 5 (some .int) :: ws) ({ frames := 0, cells := 0, slots := 0, locals := 0 } : Room)) (fun a U => a = #[(.long q0)] ∧ Z.Warmed39 U.vm ∧ U.heap = h0) (fun _ _ _ _ _ => True) (fun _ U o U' => ∃ v L, o = .returned v ∧ own_Q1 Z q0 nv d h0 n0 v U'.heap L ∧ FrameEnd U o U' L ({ frames := 0, cells := 0, slots := 0, locals := 0 } : Room).cells ({ frames := 0, cells := 0, slots := 0, locals := 0 } : Room).slots) := by
  refine MetFree.of_bodySF (plainFor_of_name own_pn0) hisR ?_
  intro p e s m args below meth c s₁ Bd hml0 hP hK
  obtain ⟨rfl, hZ, hh⟩ := hP
  have hx := Bd.exec
  have hby := Bd.bytes
  have hml : c.maxLocals = 5 := hml0
  have hown : s.vm.findClass "org/halflife/http/Decimal" = some m.cls := findClass_of_methodNamed Bd.named
  have hnm := (name_of_methodNamed Bd.named Bd.method).1
  have X0 : Stand p l e ({ frames := 0, cells := 0, slots := 0, locals := 0 } : Room) s m #[(.long q0)] below meth c s₁ [] 0 0 := Stand.of_body Bd
  have e0 : s₁.heap = h0 := by rw [← hh, Bd.state]; rfl
  have N0 := Fr.nil n0
  suffices H : own_Ends p e below s ({ frames := 0, cells := 0, slots := 0, locals := 0 } : Room).cells ({ frames := 0, cells := 0, slots := 0, locals := 0 } : Room).slots (own_Q1 Z q0 nv d h0 n0) (s₁.setTop (mkF m 0 #[.val (.long q0), .second, .unset, .unset, .unset] [])) by
    obtain ⟨s₂, o, h1, h2⟩ := H
    exact ⟨s₂, o, castTop (own_ef1 m q0) h1, h2⟩
  show own_Ends _ _ _ _ _ _ _ (s₁.setTop (mkF m 0 #[.val (.long q0), .second, .unset, .unset, .unset] []))
  refine own_step (fun _ k => XS.iconst X0.here hx rfl (hb hby own_d1_0) k) ?_
  show own_Ends _ _ _ _ _ _ _ (s₁.setTop (mkF m 1 #[.val (.long q0), .second, .unset, .unset, .unset] [(.int (1 : Int32))]))
  refine own_step (fun _ k => XS.istoreN X0.here hx rfl (hb hby own_d1_1) rfl (l' := #[.val (.long q0), .second, .val (.int (1 : Int32)), .unset, .unset]) rfl k) ?_
  show own_Ends _ _ _ _ _ _ _ (s₁.setTop (mkF m 2 #[.val (.long q0), .second, .val (.int (1 : Int32)), .unset, .unset] []))
  refine own_step (fun _ k => XS.lloadN X0.here hx rfl (hb hby own_d1_2) rfl k) ?_
  show own_Ends _ _ _ _ _ _ _ (s₁.setTop (mkF m 3 #[.val (.long q0), .second, .val (.int (1 : Int32)), .unset, .unset] [(.long q0)]))
  refine own_step (fun _ k => X0.ldc2Long hx hown (mvT hZ (hw _ (List.mem_of_getElem? (i := 25) rfl))) (g := (mkF m 3 #[.val (.long q0), .second, .val (.int (1 : Int32)), .unset, .unset] [(.long q0)])) rfl (hb hby own_d1_3) _ k) ?_
  show own_Ends _ _ _ _ _ _ _ (s₁.setTop (mkF m 6 #[.val (.long q0), .second, .val (.int (1 : Int32)), .unset, .unset] [(.long (10 : Int64)), (.long q0)]))
  refine own_step (fun _ k => XS.ldiv X0.here hx rfl (hb hby own_d1_6) rfl (by decide) k) ?_
  show own_Ends _ _ _ _ _ _ _ (s₁.setTop (mkF m 7 #[.val (.long q0), .second, .val (.int (1 : Int32)), .unset, .unset] [(.long (q0 / (10 : Int64)))]))
  refine own_step (fun _ k => XS.lstoreN X0.here hx rfl (hb hby own_d1_7) rfl (l' := #[.val (.long q0), .second, .val (.int (1 : Int32)), .val (.long (q0 / (10 : Int64))), .second]) rfl k) ?_
  show own_Ends _ _ _ _ _ _ _ (s₁.setTop (mkF m 8 #[.val (.long q0), .second, .val (.int (1 : Int32)), .val (.long (q0 / (10 : Int64))), .second] []))
  have loop : ∀ (f kd mm : Nat) (left : Int64), left.toInt = mm → mm < 10 ^ f → (f = 0 ∨ 10 ^ (f - 1) ≤ mm) → kd + f = d + 1 → own_Ends p e below s ({ frames := 0, cells := 0, slots := 0, locals := 0 } : Room).cells ({ frames := 0, cells := 0, slots := 0, locals := 0 } : Room).slots (own_Q1 Z q0 nv d h0 n0) (s₁.setTop (mkF m 8 #[.val (.long q0), .second, .val (.int (Int32.ofNat kd)), .val (.long left), .second] [])) := by
    intro f
    induction f with
    | zero =>
      intro kd mm left hl h1 h2 h3
      have hz : ¬ (0 : Int64) < left := by rw [own_lt, hl]; have : (0 : Int64).toInt = 0 := rfl; have : mm < 1 := h1; omega
      show own_Ends _ _ _ _ _ _ _ (s₁.setTop (mkF m 8 #[.val (.long q0), .second, .val (.int (Int32.ofNat kd)), .val (.long left), .second] []))
      refine own_step (fun _ k => XS.lloadN X0.here hx rfl (hb hby own_d1_8) rfl k) ?_
      show own_Ends _ _ _ _ _ _ _ (s₁.setTop (mkF m 9 #[.val (.long q0), .second, .val (.int (Int32.ofNat kd)), .val (.long left), .second] [(.long left)]))
      refine own_step (fun _ k => XS.lconst X0.here hx rfl (hb hby own_d1_9) k) ?_
      show own_Ends _ _ _ _ _ _ _ (s₁.setTop (mkF m 10 #[.val (.long q0), .second, .val (.int (Int32.ofNat kd)), .val (.long left), .second] [(.long (0 : Int64)), (.long left)]))
      refine own_step (fun _ k => XS.lcmp X0.here hx rfl (hb hby own_d1_10) rfl k) ?_
      show own_Ends _ _ _ _ _ _ _ (s₁.setTop (mkF m 11 #[.val (.long q0), .second, .val (.int (Int32.ofNat kd)), .val (.long left), .second] [(.int (lcmpW left (0 : Int64)))]))
      refine own_step (fun _ k => XS.ifYes X0.here hx rfl (pc0 := 11) (pc' := 26) rfl (hb hby own_d1_11) rfl ((if0 _ _).trans (flt (fun q => hz ((lw_gt _ _).mp q))).2.2.2) (by decide) (by decide) k) ?_
      show own_Ends _ _ _ _ _ _ _ (s₁.setTop (mkF m 26 #[.val (.long q0), .second, .val (.int (Int32.ofNat kd)), .val (.long left), .second] []))
      refine own_step (fun _ k => XS.iloadN X0.here hx rfl (hb hby own_d1_26) rfl k) ?_
      show own_Ends _ _ _ _ _ _ _ (s₁.setTop (mkF m 27 #[.val (.long q0), .second, .val (.int (Int32.ofNat kd)), .val (.long left), .second] [(.int (Int32.ofNat kd))]))
      refine own_ret X0 (BodyLoose.notSynchronized Bd) (v := (some (.int (Int32.ofNat kd)))) (fun h => by rw [Bd.returns] at h; cases h) ?_ (by decide) (by decide) (fun fs hr => X0.ireturnOut hx Bd.returns rfl (by simp) (hb hby own_d1_27) hr)
      show own_Q1 Z q0 nv d h0 n0 (some (.int (Int32.ofNat kd))) s₁.heap _
      rw [e0]
      exact ⟨by rw [show kd = d + 1 from h3], N0, rfl⟩
    | succ f ih =>
      intro kd mm left hl h1 h2 h3
      have hp : 0 < 10 ^ f := Nat.pow_pos (by decide)
      have h2' : 10 ^ f ≤ mm := h2.resolve_left (by omega)
      have hz : (0 : Int64) < left := by rw [own_lt, hl]; have : (0 : Int64).toInt = 0 := rfl; omega
      show own_Ends _ _ _ _ _ _ _ (s₁.setTop (mkF m 8 #[.val (.long q0), .second, .val (.int (Int32.ofNat kd)), .val (.long left), .second] []))
      refine own_step (fun _ k => XS.lloadN X0.here hx rfl (hb hby own_d1_8) rfl k) ?_
      show own_Ends _ _ _ _ _ _ _ (s₁.setTop (mkF m 9 #[.val (.long q0), .second, .val (.int (Int32.ofNat kd)), .val (.long left), .second] [(.long left)]))
      refine own_step (fun _ k => XS.lconst X0.here hx rfl (hb hby own_d1_9) k) ?_
      show own_Ends _ _ _ _ _ _ _ (s₁.setTop (mkF m 10 #[.val (.long q0), .second, .val (.int (Int32.ofNat kd)), .val (.long left), .second] [(.long (0 : Int64)), (.long left)]))
      refine own_step (fun _ k => XS.lcmp X0.here hx rfl (hb hby own_d1_10) rfl k) ?_
      show own_Ends _ _ _ _ _ _ _ (s₁.setTop (mkF m 11 #[.val (.long q0), .second, .val (.int (Int32.ofNat kd)), .val (.long left), .second] [(.int (lcmpW left (0 : Int64)))]))
      refine own_step (fun _ k => XS.ifNo X0.here hx rfl (hb hby own_d1_11) rfl ((if0 _ _).trans (tlt ((lw_gt _ _).mpr hz)).2.2.2) k) ?_
      show own_Ends _ _ _ _ _ _ _ (s₁.setTop (mkF m 14 #[.val (.long q0), .second, .val (.int (Int32.ofNat kd)), .val (.long left), .second] []))
      refine own_step (fun _ k => XS.iinc X0.here hx rfl (hb hby own_d1_14) rfl (l' := #[.val (.long q0), .second, .val (.int ((Int32.ofNat kd) + (1 : Int32))), .val (.long left), .second]) rfl k) ?_
      show own_Ends _ _ _ _ _ _ _ (s₁.setTop (mkF m 17 #[.val (.long q0), .second, .val (.int ((Int32.ofNat kd) + (1 : Int32))), .val (.long left), .second] []))
      rw [own_up]
      show own_Ends _ _ _ _ _ _ _ (s₁.setTop (mkF m 17 #[.val (.long q0), .second, .val (.int (Int32.ofNat (kd + 1))), .val (.long left), .second] []))
      refine own_step (fun _ k => XS.lloadN X0.here hx rfl (hb hby own_d1_17) rfl k) ?_
      show own_Ends _ _ _ _ _ _ _ (s₁.setTop (mkF m 18 #[.val (.long q0), .second, .val (.int (Int32.ofNat (kd + 1))), .val (.long left), .second] [(.long left)]))
      refine own_step (fun _ k => X0.ldc2Long hx hown (mvT hZ (hw _ (List.mem_of_getElem? (i := 25) rfl))) (g := (mkF m 18 #[.val (.long q0), .second, .val (.int (Int32.ofNat (kd + 1))), .val (.long left), .second] [(.long left)])) rfl (hb hby own_d1_18) _ k) ?_
      show own_Ends _ _ _ _ _ _ _ (s₁.setTop (mkF m 21 #[.val (.long q0), .second, .val (.int (Int32.ofNat (kd + 1))), .val (.long left), .second] [(.long (10 : Int64)), (.long left)]))
      refine own_step (fun _ k => XS.ldiv X0.here hx rfl (hb hby own_d1_21) rfl (by decide) k) ?_
      show own_Ends _ _ _ _ _ _ _ (s₁.setTop (mkF m 22 #[.val (.long q0), .second, .val (.int (Int32.ofNat (kd + 1))), .val (.long left), .second] [(.long (left / (10 : Int64)))]))
      refine own_step (fun _ k => XS.lstoreN X0.here hx rfl (hb hby own_d1_22) rfl (l' := #[.val (.long q0), .second, .val (.int (Int32.ofNat (kd + 1))), .val (.long (left / (10 : Int64))), .second]) rfl k) ?_
      show own_Ends _ _ _ _ _ _ _ (s₁.setTop (mkF m 23 #[.val (.long q0), .second, .val (.int (Int32.ofNat (kd + 1))), .val (.long (left / (10 : Int64))), .second] []))
      refine own_step (fun _ k => XS.goto X0.here hx rfl (pc0 := 23) (pc' := 8) rfl (hb hby own_d1_23) (by decide) (by decide) k) ?_
      show own_Ends _ _ _ _ _ _ _ (s₁.setTop (mkF m 8 #[.val (.long q0), .second, .val (.int (Int32.ofNat (kd + 1))), .val (.long (left / (10 : Int64))), .second] []))
      refine ih (kd + 1) (mm / 10) _ (own_div left mm hl) ?_ ?_ (by omega)
      · rw [Nat.pow_succ] at h1; omega
      · cases f with
        | zero => exact Or.inl rfl
        | succ f => refine Or.inr ?_; rw [Nat.pow_succ] at h2'; show 10 ^ f ≤ mm / 10; omega
  refine loop d 1 (nv / 10) _ (own_div q0 nv hn) ?_ ?_ (by omega)
  · rw [Nat.pow_succ] at hhi; omega
  · rcases hlo with hlo | hlo
    · exact Or.inl hlo
    · cases d with
      | zero => exact Or.inl rfl
      | succ d => refine Or.inr ?_; rw [Nat.pow_succ] at hlo; show 10 ^ d ≤ nv / 10; omega
theorem own_pn1 : plainName "org/halflife/http/DecimalLengthPinLaw" = true := by first | (simp [plainName, overriddenIn]; done) | decide +kernel
theorem own_ef0 (m : MethodId) (p0 : Int32) (q1 : Int64) : entryFrame m #[(.int p0), (.long q1)] maxLocals = mkF m 0 #[.val (.int p0), .val (.long q1), .second, .unset, .unset, .unset, .unset, .unset, .unset, .unset, .unset] [] := by first | (simp [entryFrame, mkF, argsToLocals, Value.category, maxLocals]; done) | rfl
theorem own_pd0 : parseMethodDescriptor "(J)I" = some ⟨[.long], some .int⟩ := by decide +kernel
def own_Q0 (Z : State) (p0 : Int32) (q1 : Int64)  (h0 : Heap) (n0 : Nat) (v : Option Value) (h : Heap) (L : List Loc) : Prop := v = some (.int 1) ∧ Fr n0 L
set_option maxRecDepth 65536 in
set_option maxHeartbeats 40000000 in
theorem own_rm0 (l : Launch) (Z : State) (a0 : Array Value) (hw : ∀ d ∈ tables_1, d.before a0 Z = true) (ws : List Jvm.Cond) (p0 : Int32) (q1 : Int64)  (h0 : Heap) (n0 : Nat) (Z0 : n0 ≤ h0.size)  :
    MetFree l x (head1 (Jvm.Cond.code x code maxLocals ret :: ws) room_1) (fun a U => a = #[(.int p0), (.long q1)] ∧ Z.Warmed39 U.vm ∧ U.heap = h0) (fun _ _ _ _ _ => True) (fun _ U o U' => ∃ v L, o = .returned v ∧ own_Q0 Z p0 q1  h0 n0 v U'.heap L ∧ FrameEnd U o U' L 1 19) := by
  refine MetFree.of_bodySF (plainFor_of_name own_pn1) hisR ?_
  intro p e s m args below meth c s₁ Bd hml0 hP hK
  obtain ⟨rfl, hZ, hh⟩ := hP
  have hx := Bd.exec
  have hby := Bd.bytes
  have hml : c.maxLocals = 11 := hml0
  have hown : s.vm.findClass "org/halflife/http/DecimalLengthPinLaw" = some m.cls := findClass_of_methodNamed Bd.named
  have hnm := (name_of_methodNamed Bd.named Bd.method).1
  have X0 : Stand p l e room_1 s m #[(.int p0), (.long q1)] below meth c s₁ [] 0 0 := Stand.of_body Bd
  have e0 : s₁.heap = h0 := by rw [← hh, Bd.state]; rfl
  have N0 := Fr.nil n0
  suffices H : own_Ends p e below s 1 19 (own_Q0 Z p0 q1  h0 n0) (s₁.setTop (mkF m 0 #[.val (.int p0), .val (.long q1), .second, .unset, .unset, .unset, .unset, .unset, .unset, .unset, .unset] [])) by
    obtain ⟨s₂, o, h1, h2⟩ := H
    exact ⟨s₂, o, castTop (own_ef0 m p0 q1) h1, h2⟩
  show own_Ends _ _ _ _ _ _ _ (s₁.setTop (mkF m 0 #[.val (.int p0), .val (.long q1), .second, .unset, .unset, .unset, .unset, .unset, .unset, .unset, .unset] []))
  refine own_step (fun _ k => XS.bipush X0.here hx rfl (hb hby at_0) k) ?_
  show own_Ends _ _ _ _ _ _ _ (s₁.setTop (mkF m 2 #[.val (.int p0), .val (.long q1), .second, .unset, .unset, .unset, .unset, .unset, .unset, .unset, .unset] [(.int (19 : Int32))]))
  obtain ⟨T1, h1, k1, X1, e1, E1, A1, st1⟩ := newP X0 hx hZ (hw _ (List.mem_of_getElem? (i := 0) rfl)) e0 (g := (mkF m 2 #[.val (.int p0), .val (.long q1), .second, .unset, .unset, .unset, .unset, .unset, .unset, .unset, .unset] [(.int (19 : Int32))])) rfl (hb hby at_2) rfl (by decide) (cap := 19) (by decide) (by decide) (by decide) (by decide)
  obtain ⟨b1, g1⟩ : ∃ z, z = h0.size := ⟨_, rfl⟩
  rw [← g1] at A1 st1
  have gn1 : n0 ≤ b1 := Nat.le_trans Z0 (Nat.le_of_eq g1.symm)
  have Z1 := Nat.le_trans Z0 E1.1
  have V1_b1 : Arv Z h1 b1 k1 .long (19 : Int32) [(.long (0 : Int64)), (.long (0 : Int64)), (.long (0 : Int64)), (.long (0 : Int64)), (.long (0 : Int64)), (.long (0 : Int64)), (.long (0 : Int64)), (.long (0 : Int64)), (.long (0 : Int64)), (.long (0 : Int64)), (.long (0 : Int64)), (.long (0 : Int64)), (.long (0 : Int64)), (.long (0 : Int64)), (.long (0 : Int64)), (.long (0 : Int64)), (.long (0 : Int64)), (.long (0 : Int64)), (.long (0 : Int64))] (.long (0 : Int64)) := (Arv.new A1 (by decide)).pad (pad_rep [] (.long (0 : Int64)) 19)
  refine own_step (fun _ k => st1 _ k) ?_
  show own_Ends _ _ _ _ _ _ _ (T1.setTop (mkF m 4 #[.val (.int p0), .val (.long q1), .second, .unset, .unset, .unset, .unset, .unset, .unset, .unset, .unset] [(.ref b1)]))
  refine own_step (fun _ k => XS.dup X1.here hx rfl (hb hby at_4) rfl rfl k) ?_
  show own_Ends _ _ _ _ _ _ _ (T1.setTop (mkF m 5 #[.val (.int p0), .val (.long q1), .second, .unset, .unset, .unset, .unset, .unset, .unset, .unset, .unset] [(.ref b1), (.ref b1)]))
  refine own_step (fun _ k => XS.iconst X1.here hx rfl (hb hby at_5) k) ?_
  show own_Ends _ _ _ _ _ _ _ (T1.setTop (mkF m 6 #[.val (.int p0), .val (.long q1), .second, .unset, .unset, .unset, .unset, .unset, .unset, .unset, .unset] [(.int (0 : Int32)), (.ref b1), (.ref b1)]))
  refine own_step (fun _ k => XS.lconst X1.here hx rfl (hb hby at_6) k) ?_
  show own_Ends _ _ _ _ _ _ _ (T1.setTop (mkF m 7 #[.val (.int p0), .val (.long q1), .second, .unset, .unset, .unset, .unset, .unset, .unset, .unset, .unset] [(.long (1 : Int64)), (.int (0 : Int32)), (.ref b1), (.ref b1)]))
  obtain ⟨cl2, Ar2, qq2, S2, M2, H2, G2⟩ := V1_b1
  have hin2 : ¬ ((0 : Int32) < 0 ∨ cl2.slots.size ≤ ((0 : Int32)).toNatClampNeg) := inb_of S2 ⟨by decide, by decide⟩
  obtain ⟨T2, h2, X2, e2, W2, st2⟩ := stJ X1 hx hZ e1 Ar2 (j := (0 : Int32)) hin2 (g := (mkF m 7 #[.val (.int p0), .val (.long q1), .second, .unset, .unset, .unset, .unset, .unset, .unset, .unset, .unset] [(.long (1 : Int64)), (.int (0 : Int32)), (.ref b1), (.ref b1)])) rfl rfl (hb hby at_7)
  have N2 := Fr.snoc X2 N0 gn1
  have V2_b1 : Arv Z h2 b1 k1 .long (19 : Int32) [(.long (1 : Int64)), (.long (0 : Int64)), (.long (0 : Int64)), (.long (0 : Int64)), (.long (0 : Int64)), (.long (0 : Int64)), (.long (0 : Int64)), (.long (0 : Int64)), (.long (0 : Int64)), (.long (0 : Int64)), (.long (0 : Int64)), (.long (0 : Int64)), (.long (0 : Int64)), (.long (0 : Int64)), (.long (0 : Int64)), (.long (0 : Int64)), (.long (0 : Int64)), (.long (0 : Int64)), (.long (0 : Int64))] (.long (0 : Int64)) := Arv.set Ar2 qq2 S2 M2 H2 G2 rfl W2 0 (by decide) (by simp)
  have Z2 := Nat.le_trans Z1 (Keep.of_wr W2).1
  refine own_step (fun _ k => st2 _ k) ?_
  show own_Ends _ _ _ _ _ _ _ (T2.setTop (mkF m 8 #[.val (.int p0), .val (.long q1), .second, .unset, .unset, .unset, .unset, .unset, .unset, .unset, .unset] [(.ref b1)]))
  refine own_step (fun _ k => XS.dup X2.here hx rfl (hb hby at_8) rfl rfl k) ?_
  show own_Ends _ _ _ _ _ _ _ (T2.setTop (mkF m 9 #[.val (.int p0), .val (.long q1), .second, .unset, .unset, .unset, .unset, .unset, .unset, .unset, .unset] [(.ref b1), (.ref b1)]))
  refine own_step (fun _ k => XS.iconst X2.here hx rfl (hb hby at_9) k) ?_
  show own_Ends _ _ _ _ _ _ _ (T2.setTop (mkF m 10 #[.val (.int p0), .val (.long q1), .second, .unset, .unset, .unset, .unset, .unset, .unset, .unset, .unset] [(.int (1 : Int32)), (.ref b1), (.ref b1)]))
  refine own_step (fun _ k => X2.ldc2Long hx hown (mvT hZ (hw _ (List.mem_of_getElem? (i := 1) rfl))) (g := (mkF m 10 #[.val (.int p0), .val (.long q1), .second, .unset, .unset, .unset, .unset, .unset, .unset, .unset, .unset] [(.int (1 : Int32)), (.ref b1), (.ref b1)])) rfl (hb hby at_10) _ k) ?_
  show own_Ends _ _ _ _ _ _ _ (T2.setTop (mkF m 13 #[.val (.int p0), .val (.long q1), .second, .unset, .unset, .unset, .unset, .unset, .unset, .unset, .unset] [(.long (10 : Int64)), (.int (1 : Int32)), (.ref b1), (.ref b1)]))
  obtain ⟨cl3, Ar3, qq3, S3, M3, H3, G3⟩ := V2_b1
  have hin3 : ¬ ((1 : Int32) < 0 ∨ cl3.slots.size ≤ ((1 : Int32)).toNatClampNeg) := inb_of S3 ⟨by decide, by decide⟩
  obtain ⟨T3, h3, X3, e3, W3, st3⟩ := stJ X2 hx hZ e2 Ar3 (j := (1 : Int32)) hin3 (g := (mkF m 13 #[.val (.int p0), .val (.long q1), .second, .unset, .unset, .unset, .unset, .unset, .unset, .unset, .unset] [(.long (10 : Int64)), (.int (1 : Int32)), (.ref b1), (.ref b1)])) rfl rfl (hb hby at_13)
  have N3 := Fr.snoc X3 N2 gn1
  have V3_b1 : Arv Z h3 b1 k1 .long (19 : Int32) [(.long (1 : Int64)), (.long (10 : Int64)), (.long (0 : Int64)), (.long (0 : Int64)), (.long (0 : Int64)), (.long (0 : Int64)), (.long (0 : Int64)), (.long (0 : Int64)), (.long (0 : Int64)), (.long (0 : Int64)), (.long (0 : Int64)), (.long (0 : Int64)), (.long (0 : Int64)), (.long (0 : Int64)), (.long (0 : Int64)), (.long (0 : Int64)), (.long (0 : Int64)), (.long (0 : Int64)), (.long (0 : Int64))] (.long (0 : Int64)) := Arv.set Ar3 qq3 S3 M3 H3 G3 rfl W3 1 (by decide) (by simp)
  have Z3 := Nat.le_trans Z2 (Keep.of_wr W3).1
  refine own_step (fun _ k => st3 _ k) ?_
  show own_Ends _ _ _ _ _ _ _ (T3.setTop (mkF m 14 #[.val (.int p0), .val (.long q1), .second, .unset, .unset, .unset, .unset, .unset, .unset, .unset, .unset] [(.ref b1)]))
  refine own_step (fun _ k => XS.dup X3.here hx rfl (hb hby at_14) rfl rfl k) ?_
  show own_Ends _ _ _ _ _ _ _ (T3.setTop (mkF m 15 #[.val (.int p0), .val (.long q1), .second, .unset, .unset, .unset, .unset, .unset, .unset, .unset, .unset] [(.ref b1), (.ref b1)]))
  refine own_step (fun _ k => XS.iconst X3.here hx rfl (hb hby at_15) k) ?_
  show own_Ends _ _ _ _ _ _ _ (T3.setTop (mkF m 16 #[.val (.int p0), .val (.long q1), .second, .unset, .unset, .unset, .unset, .unset, .unset, .unset, .unset] [(.int (2 : Int32)), (.ref b1), (.ref b1)]))
  refine own_step (fun _ k => X3.ldc2Long hx hown (mvT hZ (hw _ (List.mem_of_getElem? (i := 2) rfl))) (g := (mkF m 16 #[.val (.int p0), .val (.long q1), .second, .unset, .unset, .unset, .unset, .unset, .unset, .unset, .unset] [(.int (2 : Int32)), (.ref b1), (.ref b1)])) rfl (hb hby at_16) _ k) ?_
  show own_Ends _ _ _ _ _ _ _ (T3.setTop (mkF m 19 #[.val (.int p0), .val (.long q1), .second, .unset, .unset, .unset, .unset, .unset, .unset, .unset, .unset] [(.long (100 : Int64)), (.int (2 : Int32)), (.ref b1), (.ref b1)]))
  obtain ⟨cl4, Ar4, qq4, S4, M4, H4, G4⟩ := V3_b1
  have hin4 : ¬ ((2 : Int32) < 0 ∨ cl4.slots.size ≤ ((2 : Int32)).toNatClampNeg) := inb_of S4 ⟨by decide, by decide⟩
  obtain ⟨T4, h4, X4, e4, W4, st4⟩ := stJ X3 hx hZ e3 Ar4 (j := (2 : Int32)) hin4 (g := (mkF m 19 #[.val (.int p0), .val (.long q1), .second, .unset, .unset, .unset, .unset, .unset, .unset, .unset, .unset] [(.long (100 : Int64)), (.int (2 : Int32)), (.ref b1), (.ref b1)])) rfl rfl (hb hby at_19)
  have N4 := Fr.snoc X4 N3 gn1
  have V4_b1 : Arv Z h4 b1 k1 .long (19 : Int32) [(.long (1 : Int64)), (.long (10 : Int64)), (.long (100 : Int64)), (.long (0 : Int64)), (.long (0 : Int64)), (.long (0 : Int64)), (.long (0 : Int64)), (.long (0 : Int64)), (.long (0 : Int64)), (.long (0 : Int64)), (.long (0 : Int64)), (.long (0 : Int64)), (.long (0 : Int64)), (.long (0 : Int64)), (.long (0 : Int64)), (.long (0 : Int64)), (.long (0 : Int64)), (.long (0 : Int64)), (.long (0 : Int64))] (.long (0 : Int64)) := Arv.set Ar4 qq4 S4 M4 H4 G4 rfl W4 2 (by decide) (by simp)
  have Z4 := Nat.le_trans Z3 (Keep.of_wr W4).1
  refine own_step (fun _ k => st4 _ k) ?_
  show own_Ends _ _ _ _ _ _ _ (T4.setTop (mkF m 20 #[.val (.int p0), .val (.long q1), .second, .unset, .unset, .unset, .unset, .unset, .unset, .unset, .unset] [(.ref b1)]))
  refine own_step (fun _ k => XS.dup X4.here hx rfl (hb hby at_20) rfl rfl k) ?_
  show own_Ends _ _ _ _ _ _ _ (T4.setTop (mkF m 21 #[.val (.int p0), .val (.long q1), .second, .unset, .unset, .unset, .unset, .unset, .unset, .unset, .unset] [(.ref b1), (.ref b1)]))
  refine own_step (fun _ k => XS.iconst X4.here hx rfl (hb hby at_21) k) ?_
  show own_Ends _ _ _ _ _ _ _ (T4.setTop (mkF m 22 #[.val (.int p0), .val (.long q1), .second, .unset, .unset, .unset, .unset, .unset, .unset, .unset, .unset] [(.int (3 : Int32)), (.ref b1), (.ref b1)]))
  refine own_step (fun _ k => X4.ldc2Long hx hown (mvT hZ (hw _ (List.mem_of_getElem? (i := 3) rfl))) (g := (mkF m 22 #[.val (.int p0), .val (.long q1), .second, .unset, .unset, .unset, .unset, .unset, .unset, .unset, .unset] [(.int (3 : Int32)), (.ref b1), (.ref b1)])) rfl (hb hby at_22) _ k) ?_
  show own_Ends _ _ _ _ _ _ _ (T4.setTop (mkF m 25 #[.val (.int p0), .val (.long q1), .second, .unset, .unset, .unset, .unset, .unset, .unset, .unset, .unset] [(.long (1000 : Int64)), (.int (3 : Int32)), (.ref b1), (.ref b1)]))
  obtain ⟨cl5, Ar5, qq5, S5, M5, H5, G5⟩ := V4_b1
  have hin5 : ¬ ((3 : Int32) < 0 ∨ cl5.slots.size ≤ ((3 : Int32)).toNatClampNeg) := inb_of S5 ⟨by decide, by decide⟩
  obtain ⟨T5, h5, X5, e5, W5, st5⟩ := stJ X4 hx hZ e4 Ar5 (j := (3 : Int32)) hin5 (g := (mkF m 25 #[.val (.int p0), .val (.long q1), .second, .unset, .unset, .unset, .unset, .unset, .unset, .unset, .unset] [(.long (1000 : Int64)), (.int (3 : Int32)), (.ref b1), (.ref b1)])) rfl rfl (hb hby at_25)
  have N5 := Fr.snoc X5 N4 gn1
  have V5_b1 : Arv Z h5 b1 k1 .long (19 : Int32) [(.long (1 : Int64)), (.long (10 : Int64)), (.long (100 : Int64)), (.long (1000 : Int64)), (.long (0 : Int64)), (.long (0 : Int64)), (.long (0 : Int64)), (.long (0 : Int64)), (.long (0 : Int64)), (.long (0 : Int64)), (.long (0 : Int64)), (.long (0 : Int64)), (.long (0 : Int64)), (.long (0 : Int64)), (.long (0 : Int64)), (.long (0 : Int64)), (.long (0 : Int64)), (.long (0 : Int64)), (.long (0 : Int64))] (.long (0 : Int64)) := Arv.set Ar5 qq5 S5 M5 H5 G5 rfl W5 3 (by decide) (by simp)
  have Z5 := Nat.le_trans Z4 (Keep.of_wr W5).1
  refine own_step (fun _ k => st5 _ k) ?_
  show own_Ends _ _ _ _ _ _ _ (T5.setTop (mkF m 26 #[.val (.int p0), .val (.long q1), .second, .unset, .unset, .unset, .unset, .unset, .unset, .unset, .unset] [(.ref b1)]))
  refine own_step (fun _ k => XS.dup X5.here hx rfl (hb hby at_26) rfl rfl k) ?_
  show own_Ends _ _ _ _ _ _ _ (T5.setTop (mkF m 27 #[.val (.int p0), .val (.long q1), .second, .unset, .unset, .unset, .unset, .unset, .unset, .unset, .unset] [(.ref b1), (.ref b1)]))
  refine own_step (fun _ k => XS.iconst X5.here hx rfl (hb hby at_27) k) ?_
  show own_Ends _ _ _ _ _ _ _ (T5.setTop (mkF m 28 #[.val (.int p0), .val (.long q1), .second, .unset, .unset, .unset, .unset, .unset, .unset, .unset, .unset] [(.int (4 : Int32)), (.ref b1), (.ref b1)]))
  refine own_step (fun _ k => X5.ldc2Long hx hown (mvT hZ (hw _ (List.mem_of_getElem? (i := 4) rfl))) (g := (mkF m 28 #[.val (.int p0), .val (.long q1), .second, .unset, .unset, .unset, .unset, .unset, .unset, .unset, .unset] [(.int (4 : Int32)), (.ref b1), (.ref b1)])) rfl (hb hby at_28) _ k) ?_
  show own_Ends _ _ _ _ _ _ _ (T5.setTop (mkF m 31 #[.val (.int p0), .val (.long q1), .second, .unset, .unset, .unset, .unset, .unset, .unset, .unset, .unset] [(.long (10000 : Int64)), (.int (4 : Int32)), (.ref b1), (.ref b1)]))
  obtain ⟨cl6, Ar6, qq6, S6, M6, H6, G6⟩ := V5_b1
  have hin6 : ¬ ((4 : Int32) < 0 ∨ cl6.slots.size ≤ ((4 : Int32)).toNatClampNeg) := inb_of S6 ⟨by decide, by decide⟩
  obtain ⟨T6, h6, X6, e6, W6, st6⟩ := stJ X5 hx hZ e5 Ar6 (j := (4 : Int32)) hin6 (g := (mkF m 31 #[.val (.int p0), .val (.long q1), .second, .unset, .unset, .unset, .unset, .unset, .unset, .unset, .unset] [(.long (10000 : Int64)), (.int (4 : Int32)), (.ref b1), (.ref b1)])) rfl rfl (hb hby at_31)
  have N6 := Fr.snoc X6 N5 gn1
  have V6_b1 : Arv Z h6 b1 k1 .long (19 : Int32) [(.long (1 : Int64)), (.long (10 : Int64)), (.long (100 : Int64)), (.long (1000 : Int64)), (.long (10000 : Int64)), (.long (0 : Int64)), (.long (0 : Int64)), (.long (0 : Int64)), (.long (0 : Int64)), (.long (0 : Int64)), (.long (0 : Int64)), (.long (0 : Int64)), (.long (0 : Int64)), (.long (0 : Int64)), (.long (0 : Int64)), (.long (0 : Int64)), (.long (0 : Int64)), (.long (0 : Int64)), (.long (0 : Int64))] (.long (0 : Int64)) := Arv.set Ar6 qq6 S6 M6 H6 G6 rfl W6 4 (by decide) (by simp)
  have Z6 := Nat.le_trans Z5 (Keep.of_wr W6).1
  refine own_step (fun _ k => st6 _ k) ?_
  show own_Ends _ _ _ _ _ _ _ (T6.setTop (mkF m 32 #[.val (.int p0), .val (.long q1), .second, .unset, .unset, .unset, .unset, .unset, .unset, .unset, .unset] [(.ref b1)]))
  refine own_step (fun _ k => XS.dup X6.here hx rfl (hb hby at_32) rfl rfl k) ?_
  show own_Ends _ _ _ _ _ _ _ (T6.setTop (mkF m 33 #[.val (.int p0), .val (.long q1), .second, .unset, .unset, .unset, .unset, .unset, .unset, .unset, .unset] [(.ref b1), (.ref b1)]))
  refine own_step (fun _ k => XS.iconst X6.here hx rfl (hb hby at_33) k) ?_
  show own_Ends _ _ _ _ _ _ _ (T6.setTop (mkF m 34 #[.val (.int p0), .val (.long q1), .second, .unset, .unset, .unset, .unset, .unset, .unset, .unset, .unset] [(.int (5 : Int32)), (.ref b1), (.ref b1)]))
  refine own_step (fun _ k => X6.ldc2Long hx hown (mvT hZ (hw _ (List.mem_of_getElem? (i := 5) rfl))) (g := (mkF m 34 #[.val (.int p0), .val (.long q1), .second, .unset, .unset, .unset, .unset, .unset, .unset, .unset, .unset] [(.int (5 : Int32)), (.ref b1), (.ref b1)])) rfl (hb hby at_34) _ k) ?_
  show own_Ends _ _ _ _ _ _ _ (T6.setTop (mkF m 37 #[.val (.int p0), .val (.long q1), .second, .unset, .unset, .unset, .unset, .unset, .unset, .unset, .unset] [(.long (100000 : Int64)), (.int (5 : Int32)), (.ref b1), (.ref b1)]))
  obtain ⟨cl7, Ar7, qq7, S7, M7, H7, G7⟩ := V6_b1
  have hin7 : ¬ ((5 : Int32) < 0 ∨ cl7.slots.size ≤ ((5 : Int32)).toNatClampNeg) := inb_of S7 ⟨by decide, by decide⟩
  obtain ⟨T7, h7, X7, e7, W7, st7⟩ := stJ X6 hx hZ e6 Ar7 (j := (5 : Int32)) hin7 (g := (mkF m 37 #[.val (.int p0), .val (.long q1), .second, .unset, .unset, .unset, .unset, .unset, .unset, .unset, .unset] [(.long (100000 : Int64)), (.int (5 : Int32)), (.ref b1), (.ref b1)])) rfl rfl (hb hby at_37)
  have N7 := Fr.snoc X7 N6 gn1
  have V7_b1 : Arv Z h7 b1 k1 .long (19 : Int32) [(.long (1 : Int64)), (.long (10 : Int64)), (.long (100 : Int64)), (.long (1000 : Int64)), (.long (10000 : Int64)), (.long (100000 : Int64)), (.long (0 : Int64)), (.long (0 : Int64)), (.long (0 : Int64)), (.long (0 : Int64)), (.long (0 : Int64)), (.long (0 : Int64)), (.long (0 : Int64)), (.long (0 : Int64)), (.long (0 : Int64)), (.long (0 : Int64)), (.long (0 : Int64)), (.long (0 : Int64)), (.long (0 : Int64))] (.long (0 : Int64)) := Arv.set Ar7 qq7 S7 M7 H7 G7 rfl W7 5 (by decide) (by simp)
  have Z7 := Nat.le_trans Z6 (Keep.of_wr W7).1
  refine own_step (fun _ k => st7 _ k) ?_
  show own_Ends _ _ _ _ _ _ _ (T7.setTop (mkF m 38 #[.val (.int p0), .val (.long q1), .second, .unset, .unset, .unset, .unset, .unset, .unset, .unset, .unset] [(.ref b1)]))
  refine own_step (fun _ k => XS.dup X7.here hx rfl (hb hby at_38) rfl rfl k) ?_
  show own_Ends _ _ _ _ _ _ _ (T7.setTop (mkF m 39 #[.val (.int p0), .val (.long q1), .second, .unset, .unset, .unset, .unset, .unset, .unset, .unset, .unset] [(.ref b1), (.ref b1)]))
  refine own_step (fun _ k => XS.bipush X7.here hx rfl (hb hby at_39) k) ?_
  show own_Ends _ _ _ _ _ _ _ (T7.setTop (mkF m 41 #[.val (.int p0), .val (.long q1), .second, .unset, .unset, .unset, .unset, .unset, .unset, .unset, .unset] [(.int (6 : Int32)), (.ref b1), (.ref b1)]))
  refine own_step (fun _ k => X7.ldc2Long hx hown (mvT hZ (hw _ (List.mem_of_getElem? (i := 6) rfl))) (g := (mkF m 41 #[.val (.int p0), .val (.long q1), .second, .unset, .unset, .unset, .unset, .unset, .unset, .unset, .unset] [(.int (6 : Int32)), (.ref b1), (.ref b1)])) rfl (hb hby at_41) _ k) ?_
  show own_Ends _ _ _ _ _ _ _ (T7.setTop (mkF m 44 #[.val (.int p0), .val (.long q1), .second, .unset, .unset, .unset, .unset, .unset, .unset, .unset, .unset] [(.long (1000000 : Int64)), (.int (6 : Int32)), (.ref b1), (.ref b1)]))
  obtain ⟨cl8, Ar8, qq8, S8, M8, H8, G8⟩ := V7_b1
  have hin8 : ¬ ((6 : Int32) < 0 ∨ cl8.slots.size ≤ ((6 : Int32)).toNatClampNeg) := inb_of S8 ⟨by decide, by decide⟩
  obtain ⟨T8, h8, X8, e8, W8, st8⟩ := stJ X7 hx hZ e7 Ar8 (j := (6 : Int32)) hin8 (g := (mkF m 44 #[.val (.int p0), .val (.long q1), .second, .unset, .unset, .unset, .unset, .unset, .unset, .unset, .unset] [(.long (1000000 : Int64)), (.int (6 : Int32)), (.ref b1), (.ref b1)])) rfl rfl (hb hby at_44)
  have N8 := Fr.snoc X8 N7 gn1
  have V8_b1 : Arv Z h8 b1 k1 .long (19 : Int32) [(.long (1 : Int64)), (.long (10 : Int64)), (.long (100 : Int64)), (.long (1000 : Int64)), (.long (10000 : Int64)), (.long (100000 : Int64)), (.long (1000000 : Int64)), (.long (0 : Int64)), (.long (0 : Int64)), (.long (0 : Int64)), (.long (0 : Int64)), (.long (0 : Int64)), (.long (0 : Int64)), (.long (0 : Int64)), (.long (0 : Int64)), (.long (0 : Int64)), (.long (0 : Int64)), (.long (0 : Int64)), (.long (0 : Int64))] (.long (0 : Int64)) := Arv.set Ar8 qq8 S8 M8 H8 G8 rfl W8 6 (by decide) (by simp)
  have Z8 := Nat.le_trans Z7 (Keep.of_wr W8).1
  refine own_step (fun _ k => st8 _ k) ?_
  show own_Ends _ _ _ _ _ _ _ (T8.setTop (mkF m 45 #[.val (.int p0), .val (.long q1), .second, .unset, .unset, .unset, .unset, .unset, .unset, .unset, .unset] [(.ref b1)]))
  refine own_step (fun _ k => XS.dup X8.here hx rfl (hb hby at_45) rfl rfl k) ?_
  show own_Ends _ _ _ _ _ _ _ (T8.setTop (mkF m 46 #[.val (.int p0), .val (.long q1), .second, .unset, .unset, .unset, .unset, .unset, .unset, .unset, .unset] [(.ref b1), (.ref b1)]))
  refine own_step (fun _ k => XS.bipush X8.here hx rfl (hb hby at_46) k) ?_
  show own_Ends _ _ _ _ _ _ _ (T8.setTop (mkF m 48 #[.val (.int p0), .val (.long q1), .second, .unset, .unset, .unset, .unset, .unset, .unset, .unset, .unset] [(.int (7 : Int32)), (.ref b1), (.ref b1)]))
  refine own_step (fun _ k => X8.ldc2Long hx hown (mvT hZ (hw _ (List.mem_of_getElem? (i := 7) rfl))) (g := (mkF m 48 #[.val (.int p0), .val (.long q1), .second, .unset, .unset, .unset, .unset, .unset, .unset, .unset, .unset] [(.int (7 : Int32)), (.ref b1), (.ref b1)])) rfl (hb hby at_48) _ k) ?_
  show own_Ends _ _ _ _ _ _ _ (T8.setTop (mkF m 51 #[.val (.int p0), .val (.long q1), .second, .unset, .unset, .unset, .unset, .unset, .unset, .unset, .unset] [(.long (10000000 : Int64)), (.int (7 : Int32)), (.ref b1), (.ref b1)]))
  obtain ⟨cl9, Ar9, qq9, S9, M9, H9, G9⟩ := V8_b1
  have hin9 : ¬ ((7 : Int32) < 0 ∨ cl9.slots.size ≤ ((7 : Int32)).toNatClampNeg) := inb_of S9 ⟨by decide, by decide⟩
  obtain ⟨T9, h9, X9, e9, W9, st9⟩ := stJ X8 hx hZ e8 Ar9 (j := (7 : Int32)) hin9 (g := (mkF m 51 #[.val (.int p0), .val (.long q1), .second, .unset, .unset, .unset, .unset, .unset, .unset, .unset, .unset] [(.long (10000000 : Int64)), (.int (7 : Int32)), (.ref b1), (.ref b1)])) rfl rfl (hb hby at_51)
  have N9 := Fr.snoc X9 N8 gn1
  have V9_b1 : Arv Z h9 b1 k1 .long (19 : Int32) [(.long (1 : Int64)), (.long (10 : Int64)), (.long (100 : Int64)), (.long (1000 : Int64)), (.long (10000 : Int64)), (.long (100000 : Int64)), (.long (1000000 : Int64)), (.long (10000000 : Int64)), (.long (0 : Int64)), (.long (0 : Int64)), (.long (0 : Int64)), (.long (0 : Int64)), (.long (0 : Int64)), (.long (0 : Int64)), (.long (0 : Int64)), (.long (0 : Int64)), (.long (0 : Int64)), (.long (0 : Int64)), (.long (0 : Int64))] (.long (0 : Int64)) := Arv.set Ar9 qq9 S9 M9 H9 G9 rfl W9 7 (by decide) (by simp)
  have Z9 := Nat.le_trans Z8 (Keep.of_wr W9).1
  refine own_step (fun _ k => st9 _ k) ?_
  show own_Ends _ _ _ _ _ _ _ (T9.setTop (mkF m 52 #[.val (.int p0), .val (.long q1), .second, .unset, .unset, .unset, .unset, .unset, .unset, .unset, .unset] [(.ref b1)]))
  refine own_step (fun _ k => XS.dup X9.here hx rfl (hb hby at_52) rfl rfl k) ?_
  show own_Ends _ _ _ _ _ _ _ (T9.setTop (mkF m 53 #[.val (.int p0), .val (.long q1), .second, .unset, .unset, .unset, .unset, .unset, .unset, .unset, .unset] [(.ref b1), (.ref b1)]))
  refine own_step (fun _ k => XS.bipush X9.here hx rfl (hb hby at_53) k) ?_
  show own_Ends _ _ _ _ _ _ _ (T9.setTop (mkF m 55 #[.val (.int p0), .val (.long q1), .second, .unset, .unset, .unset, .unset, .unset, .unset, .unset, .unset] [(.int (8 : Int32)), (.ref b1), (.ref b1)]))
  refine own_step (fun _ k => X9.ldc2Long hx hown (mvT hZ (hw _ (List.mem_of_getElem? (i := 8) rfl))) (g := (mkF m 55 #[.val (.int p0), .val (.long q1), .second, .unset, .unset, .unset, .unset, .unset, .unset, .unset, .unset] [(.int (8 : Int32)), (.ref b1), (.ref b1)])) rfl (hb hby at_55) _ k) ?_
  show own_Ends _ _ _ _ _ _ _ (T9.setTop (mkF m 58 #[.val (.int p0), .val (.long q1), .second, .unset, .unset, .unset, .unset, .unset, .unset, .unset, .unset] [(.long (100000000 : Int64)), (.int (8 : Int32)), (.ref b1), (.ref b1)]))
  obtain ⟨cl10, Ar10, qq10, S10, M10, H10, G10⟩ := V9_b1
  have hin10 : ¬ ((8 : Int32) < 0 ∨ cl10.slots.size ≤ ((8 : Int32)).toNatClampNeg) := inb_of S10 ⟨by decide, by decide⟩
  obtain ⟨T10, h10, X10, e10, W10, st10⟩ := stJ X9 hx hZ e9 Ar10 (j := (8 : Int32)) hin10 (g := (mkF m 58 #[.val (.int p0), .val (.long q1), .second, .unset, .unset, .unset, .unset, .unset, .unset, .unset, .unset] [(.long (100000000 : Int64)), (.int (8 : Int32)), (.ref b1), (.ref b1)])) rfl rfl (hb hby at_58)
  have N10 := Fr.snoc X10 N9 gn1
  have V10_b1 : Arv Z h10 b1 k1 .long (19 : Int32) [(.long (1 : Int64)), (.long (10 : Int64)), (.long (100 : Int64)), (.long (1000 : Int64)), (.long (10000 : Int64)), (.long (100000 : Int64)), (.long (1000000 : Int64)), (.long (10000000 : Int64)), (.long (100000000 : Int64)), (.long (0 : Int64)), (.long (0 : Int64)), (.long (0 : Int64)), (.long (0 : Int64)), (.long (0 : Int64)), (.long (0 : Int64)), (.long (0 : Int64)), (.long (0 : Int64)), (.long (0 : Int64)), (.long (0 : Int64))] (.long (0 : Int64)) := Arv.set Ar10 qq10 S10 M10 H10 G10 rfl W10 8 (by decide) (by simp)
  have Z10 := Nat.le_trans Z9 (Keep.of_wr W10).1
  refine own_step (fun _ k => st10 _ k) ?_
  show own_Ends _ _ _ _ _ _ _ (T10.setTop (mkF m 59 #[.val (.int p0), .val (.long q1), .second, .unset, .unset, .unset, .unset, .unset, .unset, .unset, .unset] [(.ref b1)]))
  refine own_step (fun _ k => XS.dup X10.here hx rfl (hb hby at_59) rfl rfl k) ?_
  show own_Ends _ _ _ _ _ _ _ (T10.setTop (mkF m 60 #[.val (.int p0), .val (.long q1), .second, .unset, .unset, .unset, .unset, .unset, .unset, .unset, .unset] [(.ref b1), (.ref b1)]))
  refine own_step (fun _ k => XS.bipush X10.here hx rfl (hb hby at_60) k) ?_
  show own_Ends _ _ _ _ _ _ _ (T10.setTop (mkF m 62 #[.val (.int p0), .val (.long q1), .second, .unset, .unset, .unset, .unset, .unset, .unset, .unset, .unset] [(.int (9 : Int32)), (.ref b1), (.ref b1)]))
  refine own_step (fun _ k => X10.ldc2Long hx hown (mvT hZ (hw _ (List.mem_of_getElem? (i := 9) rfl))) (g := (mkF m 62 #[.val (.int p0), .val (.long q1), .second, .unset, .unset, .unset, .unset, .unset, .unset, .unset, .unset] [(.int (9 : Int32)), (.ref b1), (.ref b1)])) rfl (hb hby at_62) _ k) ?_
  show own_Ends _ _ _ _ _ _ _ (T10.setTop (mkF m 65 #[.val (.int p0), .val (.long q1), .second, .unset, .unset, .unset, .unset, .unset, .unset, .unset, .unset] [(.long (1000000000 : Int64)), (.int (9 : Int32)), (.ref b1), (.ref b1)]))
  obtain ⟨cl11, Ar11, qq11, S11, M11, H11, G11⟩ := V10_b1
  have hin11 : ¬ ((9 : Int32) < 0 ∨ cl11.slots.size ≤ ((9 : Int32)).toNatClampNeg) := inb_of S11 ⟨by decide, by decide⟩
  obtain ⟨T11, h11, X11, e11, W11, st11⟩ := stJ X10 hx hZ e10 Ar11 (j := (9 : Int32)) hin11 (g := (mkF m 65 #[.val (.int p0), .val (.long q1), .second, .unset, .unset, .unset, .unset, .unset, .unset, .unset, .unset] [(.long (1000000000 : Int64)), (.int (9 : Int32)), (.ref b1), (.ref b1)])) rfl rfl (hb hby at_65)
  have N11 := Fr.snoc X11 N10 gn1
  have V11_b1 : Arv Z h11 b1 k1 .long (19 : Int32) [(.long (1 : Int64)), (.long (10 : Int64)), (.long (100 : Int64)), (.long (1000 : Int64)), (.long (10000 : Int64)), (.long (100000 : Int64)), (.long (1000000 : Int64)), (.long (10000000 : Int64)), (.long (100000000 : Int64)), (.long (1000000000 : Int64)), (.long (0 : Int64)), (.long (0 : Int64)), (.long (0 : Int64)), (.long (0 : Int64)), (.long (0 : Int64)), (.long (0 : Int64)), (.long (0 : Int64)), (.long (0 : Int64)), (.long (0 : Int64))] (.long (0 : Int64)) := Arv.set Ar11 qq11 S11 M11 H11 G11 rfl W11 9 (by decide) (by simp)
  have Z11 := Nat.le_trans Z10 (Keep.of_wr W11).1
  refine own_step (fun _ k => st11 _ k) ?_
  show own_Ends _ _ _ _ _ _ _ (T11.setTop (mkF m 66 #[.val (.int p0), .val (.long q1), .second, .unset, .unset, .unset, .unset, .unset, .unset, .unset, .unset] [(.ref b1)]))
  refine own_step (fun _ k => XS.dup X11.here hx rfl (hb hby at_66) rfl rfl k) ?_
  show own_Ends _ _ _ _ _ _ _ (T11.setTop (mkF m 67 #[.val (.int p0), .val (.long q1), .second, .unset, .unset, .unset, .unset, .unset, .unset, .unset, .unset] [(.ref b1), (.ref b1)]))
  refine own_step (fun _ k => XS.bipush X11.here hx rfl (hb hby at_67) k) ?_
  show own_Ends _ _ _ _ _ _ _ (T11.setTop (mkF m 69 #[.val (.int p0), .val (.long q1), .second, .unset, .unset, .unset, .unset, .unset, .unset, .unset, .unset] [(.int (10 : Int32)), (.ref b1), (.ref b1)]))
  refine own_step (fun _ k => X11.ldc2Long hx hown (mvT hZ (hw _ (List.mem_of_getElem? (i := 10) rfl))) (g := (mkF m 69 #[.val (.int p0), .val (.long q1), .second, .unset, .unset, .unset, .unset, .unset, .unset, .unset, .unset] [(.int (10 : Int32)), (.ref b1), (.ref b1)])) rfl (hb hby at_69) _ k) ?_
  show own_Ends _ _ _ _ _ _ _ (T11.setTop (mkF m 72 #[.val (.int p0), .val (.long q1), .second, .unset, .unset, .unset, .unset, .unset, .unset, .unset, .unset] [(.long (10000000000 : Int64)), (.int (10 : Int32)), (.ref b1), (.ref b1)]))
  obtain ⟨cl12, Ar12, qq12, S12, M12, H12, G12⟩ := V11_b1
  have hin12 : ¬ ((10 : Int32) < 0 ∨ cl12.slots.size ≤ ((10 : Int32)).toNatClampNeg) := inb_of S12 ⟨by decide, by decide⟩
  obtain ⟨T12, h12, X12, e12, W12, st12⟩ := stJ X11 hx hZ e11 Ar12 (j := (10 : Int32)) hin12 (g := (mkF m 72 #[.val (.int p0), .val (.long q1), .second, .unset, .unset, .unset, .unset, .unset, .unset, .unset, .unset] [(.long (10000000000 : Int64)), (.int (10 : Int32)), (.ref b1), (.ref b1)])) rfl rfl (hb hby at_72)
  have N12 := Fr.snoc X12 N11 gn1
  have V12_b1 : Arv Z h12 b1 k1 .long (19 : Int32) [(.long (1 : Int64)), (.long (10 : Int64)), (.long (100 : Int64)), (.long (1000 : Int64)), (.long (10000 : Int64)), (.long (100000 : Int64)), (.long (1000000 : Int64)), (.long (10000000 : Int64)), (.long (100000000 : Int64)), (.long (1000000000 : Int64)), (.long (10000000000 : Int64)), (.long (0 : Int64)), (.long (0 : Int64)), (.long (0 : Int64)), (.long (0 : Int64)), (.long (0 : Int64)), (.long (0 : Int64)), (.long (0 : Int64)), (.long (0 : Int64))] (.long (0 : Int64)) := Arv.set Ar12 qq12 S12 M12 H12 G12 rfl W12 10 (by decide) (by simp)
  have Z12 := Nat.le_trans Z11 (Keep.of_wr W12).1
  refine own_step (fun _ k => st12 _ k) ?_
  show own_Ends _ _ _ _ _ _ _ (T12.setTop (mkF m 73 #[.val (.int p0), .val (.long q1), .second, .unset, .unset, .unset, .unset, .unset, .unset, .unset, .unset] [(.ref b1)]))
  refine own_step (fun _ k => XS.dup X12.here hx rfl (hb hby at_73) rfl rfl k) ?_
  show own_Ends _ _ _ _ _ _ _ (T12.setTop (mkF m 74 #[.val (.int p0), .val (.long q1), .second, .unset, .unset, .unset, .unset, .unset, .unset, .unset, .unset] [(.ref b1), (.ref b1)]))
  refine own_step (fun _ k => XS.bipush X12.here hx rfl (hb hby at_74) k) ?_
  show own_Ends _ _ _ _ _ _ _ (T12.setTop (mkF m 76 #[.val (.int p0), .val (.long q1), .second, .unset, .unset, .unset, .unset, .unset, .unset, .unset, .unset] [(.int (11 : Int32)), (.ref b1), (.ref b1)]))
  refine own_step (fun _ k => X12.ldc2Long hx hown (mvT hZ (hw _ (List.mem_of_getElem? (i := 11) rfl))) (g := (mkF m 76 #[.val (.int p0), .val (.long q1), .second, .unset, .unset, .unset, .unset, .unset, .unset, .unset, .unset] [(.int (11 : Int32)), (.ref b1), (.ref b1)])) rfl (hb hby at_76) _ k) ?_
  show own_Ends _ _ _ _ _ _ _ (T12.setTop (mkF m 79 #[.val (.int p0), .val (.long q1), .second, .unset, .unset, .unset, .unset, .unset, .unset, .unset, .unset] [(.long (100000000000 : Int64)), (.int (11 : Int32)), (.ref b1), (.ref b1)]))
  obtain ⟨cl13, Ar13, qq13, S13, M13, H13, G13⟩ := V12_b1
  have hin13 : ¬ ((11 : Int32) < 0 ∨ cl13.slots.size ≤ ((11 : Int32)).toNatClampNeg) := inb_of S13 ⟨by decide, by decide⟩
  obtain ⟨T13, h13, X13, e13, W13, st13⟩ := stJ X12 hx hZ e12 Ar13 (j := (11 : Int32)) hin13 (g := (mkF m 79 #[.val (.int p0), .val (.long q1), .second, .unset, .unset, .unset, .unset, .unset, .unset, .unset, .unset] [(.long (100000000000 : Int64)), (.int (11 : Int32)), (.ref b1), (.ref b1)])) rfl rfl (hb hby at_79)
  have N13 := Fr.snoc X13 N12 gn1
  have V13_b1 : Arv Z h13 b1 k1 .long (19 : Int32) [(.long (1 : Int64)), (.long (10 : Int64)), (.long (100 : Int64)), (.long (1000 : Int64)), (.long (10000 : Int64)), (.long (100000 : Int64)), (.long (1000000 : Int64)), (.long (10000000 : Int64)), (.long (100000000 : Int64)), (.long (1000000000 : Int64)), (.long (10000000000 : Int64)), (.long (100000000000 : Int64)), (.long (0 : Int64)), (.long (0 : Int64)), (.long (0 : Int64)), (.long (0 : Int64)), (.long (0 : Int64)), (.long (0 : Int64)), (.long (0 : Int64))] (.long (0 : Int64)) := Arv.set Ar13 qq13 S13 M13 H13 G13 rfl W13 11 (by decide) (by simp)
  have Z13 := Nat.le_trans Z12 (Keep.of_wr W13).1
  refine own_step (fun _ k => st13 _ k) ?_
  show own_Ends _ _ _ _ _ _ _ (T13.setTop (mkF m 80 #[.val (.int p0), .val (.long q1), .second, .unset, .unset, .unset, .unset, .unset, .unset, .unset, .unset] [(.ref b1)]))
  refine own_step (fun _ k => XS.dup X13.here hx rfl (hb hby at_80) rfl rfl k) ?_
  show own_Ends _ _ _ _ _ _ _ (T13.setTop (mkF m 81 #[.val (.int p0), .val (.long q1), .second, .unset, .unset, .unset, .unset, .unset, .unset, .unset, .unset] [(.ref b1), (.ref b1)]))
  refine own_step (fun _ k => XS.bipush X13.here hx rfl (hb hby at_81) k) ?_
  show own_Ends _ _ _ _ _ _ _ (T13.setTop (mkF m 83 #[.val (.int p0), .val (.long q1), .second, .unset, .unset, .unset, .unset, .unset, .unset, .unset, .unset] [(.int (12 : Int32)), (.ref b1), (.ref b1)]))
  refine own_step (fun _ k => X13.ldc2Long hx hown (mvT hZ (hw _ (List.mem_of_getElem? (i := 12) rfl))) (g := (mkF m 83 #[.val (.int p0), .val (.long q1), .second, .unset, .unset, .unset, .unset, .unset, .unset, .unset, .unset] [(.int (12 : Int32)), (.ref b1), (.ref b1)])) rfl (hb hby at_83) _ k) ?_
  show own_Ends _ _ _ _ _ _ _ (T13.setTop (mkF m 86 #[.val (.int p0), .val (.long q1), .second, .unset, .unset, .unset, .unset, .unset, .unset, .unset, .unset] [(.long (1000000000000 : Int64)), (.int (12 : Int32)), (.ref b1), (.ref b1)]))
  obtain ⟨cl14, Ar14, qq14, S14, M14, H14, G14⟩ := V13_b1
  have hin14 : ¬ ((12 : Int32) < 0 ∨ cl14.slots.size ≤ ((12 : Int32)).toNatClampNeg) := inb_of S14 ⟨by decide, by decide⟩
  obtain ⟨T14, h14, X14, e14, W14, st14⟩ := stJ X13 hx hZ e13 Ar14 (j := (12 : Int32)) hin14 (g := (mkF m 86 #[.val (.int p0), .val (.long q1), .second, .unset, .unset, .unset, .unset, .unset, .unset, .unset, .unset] [(.long (1000000000000 : Int64)), (.int (12 : Int32)), (.ref b1), (.ref b1)])) rfl rfl (hb hby at_86)
  have N14 := Fr.snoc X14 N13 gn1
  have V14_b1 : Arv Z h14 b1 k1 .long (19 : Int32) [(.long (1 : Int64)), (.long (10 : Int64)), (.long (100 : Int64)), (.long (1000 : Int64)), (.long (10000 : Int64)), (.long (100000 : Int64)), (.long (1000000 : Int64)), (.long (10000000 : Int64)), (.long (100000000 : Int64)), (.long (1000000000 : Int64)), (.long (10000000000 : Int64)), (.long (100000000000 : Int64)), (.long (1000000000000 : Int64)), (.long (0 : Int64)), (.long (0 : Int64)), (.long (0 : Int64)), (.long (0 : Int64)), (.long (0 : Int64)), (.long (0 : Int64))] (.long (0 : Int64)) := Arv.set Ar14 qq14 S14 M14 H14 G14 rfl W14 12 (by decide) (by simp)
  have Z14 := Nat.le_trans Z13 (Keep.of_wr W14).1
  refine own_step (fun _ k => st14 _ k) ?_
  show own_Ends _ _ _ _ _ _ _ (T14.setTop (mkF m 87 #[.val (.int p0), .val (.long q1), .second, .unset, .unset, .unset, .unset, .unset, .unset, .unset, .unset] [(.ref b1)]))
  refine own_step (fun _ k => XS.dup X14.here hx rfl (hb hby at_87) rfl rfl k) ?_
  show own_Ends _ _ _ _ _ _ _ (T14.setTop (mkF m 88 #[.val (.int p0), .val (.long q1), .second, .unset, .unset, .unset, .unset, .unset, .unset, .unset, .unset] [(.ref b1), (.ref b1)]))
  refine own_step (fun _ k => XS.bipush X14.here hx rfl (hb hby at_88) k) ?_
  show own_Ends _ _ _ _ _ _ _ (T14.setTop (mkF m 90 #[.val (.int p0), .val (.long q1), .second, .unset, .unset, .unset, .unset, .unset, .unset, .unset, .unset] [(.int (13 : Int32)), (.ref b1), (.ref b1)]))
  refine own_step (fun _ k => X14.ldc2Long hx hown (mvT hZ (hw _ (List.mem_of_getElem? (i := 13) rfl))) (g := (mkF m 90 #[.val (.int p0), .val (.long q1), .second, .unset, .unset, .unset, .unset, .unset, .unset, .unset, .unset] [(.int (13 : Int32)), (.ref b1), (.ref b1)])) rfl (hb hby at_90) _ k) ?_
  show own_Ends _ _ _ _ _ _ _ (T14.setTop (mkF m 93 #[.val (.int p0), .val (.long q1), .second, .unset, .unset, .unset, .unset, .unset, .unset, .unset, .unset] [(.long (10000000000000 : Int64)), (.int (13 : Int32)), (.ref b1), (.ref b1)]))
  obtain ⟨cl15, Ar15, qq15, S15, M15, H15, G15⟩ := V14_b1
  have hin15 : ¬ ((13 : Int32) < 0 ∨ cl15.slots.size ≤ ((13 : Int32)).toNatClampNeg) := inb_of S15 ⟨by decide, by decide⟩
  obtain ⟨T15, h15, X15, e15, W15, st15⟩ := stJ X14 hx hZ e14 Ar15 (j := (13 : Int32)) hin15 (g := (mkF m 93 #[.val (.int p0), .val (.long q1), .second, .unset, .unset, .unset, .unset, .unset, .unset, .unset, .unset] [(.long (10000000000000 : Int64)), (.int (13 : Int32)), (.ref b1), (.ref b1)])) rfl rfl (hb hby at_93)
  have N15 := Fr.snoc X15 N14 gn1
  have V15_b1 : Arv Z h15 b1 k1 .long (19 : Int32) [(.long (1 : Int64)), (.long (10 : Int64)), (.long (100 : Int64)), (.long (1000 : Int64)), (.long (10000 : Int64)), (.long (100000 : Int64)), (.long (1000000 : Int64)), (.long (10000000 : Int64)), (.long (100000000 : Int64)), (.long (1000000000 : Int64)), (.long (10000000000 : Int64)), (.long (100000000000 : Int64)), (.long (1000000000000 : Int64)), (.long (10000000000000 : Int64)), (.long (0 : Int64)), (.long (0 : Int64)), (.long (0 : Int64)), (.long (0 : Int64)), (.long (0 : Int64))] (.long (0 : Int64)) := Arv.set Ar15 qq15 S15 M15 H15 G15 rfl W15 13 (by decide) (by simp)
  have Z15 := Nat.le_trans Z14 (Keep.of_wr W15).1
  refine own_step (fun _ k => st15 _ k) ?_
  show own_Ends _ _ _ _ _ _ _ (T15.setTop (mkF m 94 #[.val (.int p0), .val (.long q1), .second, .unset, .unset, .unset, .unset, .unset, .unset, .unset, .unset] [(.ref b1)]))
  refine own_step (fun _ k => XS.dup X15.here hx rfl (hb hby at_94) rfl rfl k) ?_
  show own_Ends _ _ _ _ _ _ _ (T15.setTop (mkF m 95 #[.val (.int p0), .val (.long q1), .second, .unset, .unset, .unset, .unset, .unset, .unset, .unset, .unset] [(.ref b1), (.ref b1)]))
  refine own_step (fun _ k => XS.bipush X15.here hx rfl (hb hby at_95) k) ?_
  show own_Ends _ _ _ _ _ _ _ (T15.setTop (mkF m 97 #[.val (.int p0), .val (.long q1), .second, .unset, .unset, .unset, .unset, .unset, .unset, .unset, .unset] [(.int (14 : Int32)), (.ref b1), (.ref b1)]))
  refine own_step (fun _ k => X15.ldc2Long hx hown (mvT hZ (hw _ (List.mem_of_getElem? (i := 14) rfl))) (g := (mkF m 97 #[.val (.int p0), .val (.long q1), .second, .unset, .unset, .unset, .unset, .unset, .unset, .unset, .unset] [(.int (14 : Int32)), (.ref b1), (.ref b1)])) rfl (hb hby at_97) _ k) ?_
  show own_Ends _ _ _ _ _ _ _ (T15.setTop (mkF m 100 #[.val (.int p0), .val (.long q1), .second, .unset, .unset, .unset, .unset, .unset, .unset, .unset, .unset] [(.long (100000000000000 : Int64)), (.int (14 : Int32)), (.ref b1), (.ref b1)]))
  obtain ⟨cl16, Ar16, qq16, S16, M16, H16, G16⟩ := V15_b1
  have hin16 : ¬ ((14 : Int32) < 0 ∨ cl16.slots.size ≤ ((14 : Int32)).toNatClampNeg) := inb_of S16 ⟨by decide, by decide⟩
  obtain ⟨T16, h16, X16, e16, W16, st16⟩ := stJ X15 hx hZ e15 Ar16 (j := (14 : Int32)) hin16 (g := (mkF m 100 #[.val (.int p0), .val (.long q1), .second, .unset, .unset, .unset, .unset, .unset, .unset, .unset, .unset] [(.long (100000000000000 : Int64)), (.int (14 : Int32)), (.ref b1), (.ref b1)])) rfl rfl (hb hby at_100)
  have N16 := Fr.snoc X16 N15 gn1
  have V16_b1 : Arv Z h16 b1 k1 .long (19 : Int32) [(.long (1 : Int64)), (.long (10 : Int64)), (.long (100 : Int64)), (.long (1000 : Int64)), (.long (10000 : Int64)), (.long (100000 : Int64)), (.long (1000000 : Int64)), (.long (10000000 : Int64)), (.long (100000000 : Int64)), (.long (1000000000 : Int64)), (.long (10000000000 : Int64)), (.long (100000000000 : Int64)), (.long (1000000000000 : Int64)), (.long (10000000000000 : Int64)), (.long (100000000000000 : Int64)), (.long (0 : Int64)), (.long (0 : Int64)), (.long (0 : Int64)), (.long (0 : Int64))] (.long (0 : Int64)) := Arv.set Ar16 qq16 S16 M16 H16 G16 rfl W16 14 (by decide) (by simp)
  have Z16 := Nat.le_trans Z15 (Keep.of_wr W16).1
  refine own_step (fun _ k => st16 _ k) ?_
  show own_Ends _ _ _ _ _ _ _ (T16.setTop (mkF m 101 #[.val (.int p0), .val (.long q1), .second, .unset, .unset, .unset, .unset, .unset, .unset, .unset, .unset] [(.ref b1)]))
  refine own_step (fun _ k => XS.dup X16.here hx rfl (hb hby at_101) rfl rfl k) ?_
  show own_Ends _ _ _ _ _ _ _ (T16.setTop (mkF m 102 #[.val (.int p0), .val (.long q1), .second, .unset, .unset, .unset, .unset, .unset, .unset, .unset, .unset] [(.ref b1), (.ref b1)]))
  refine own_step (fun _ k => XS.bipush X16.here hx rfl (hb hby at_102) k) ?_
  show own_Ends _ _ _ _ _ _ _ (T16.setTop (mkF m 104 #[.val (.int p0), .val (.long q1), .second, .unset, .unset, .unset, .unset, .unset, .unset, .unset, .unset] [(.int (15 : Int32)), (.ref b1), (.ref b1)]))
  refine own_step (fun _ k => X16.ldc2Long hx hown (mvT hZ (hw _ (List.mem_of_getElem? (i := 15) rfl))) (g := (mkF m 104 #[.val (.int p0), .val (.long q1), .second, .unset, .unset, .unset, .unset, .unset, .unset, .unset, .unset] [(.int (15 : Int32)), (.ref b1), (.ref b1)])) rfl (hb hby at_104) _ k) ?_
  show own_Ends _ _ _ _ _ _ _ (T16.setTop (mkF m 107 #[.val (.int p0), .val (.long q1), .second, .unset, .unset, .unset, .unset, .unset, .unset, .unset, .unset] [(.long (1000000000000000 : Int64)), (.int (15 : Int32)), (.ref b1), (.ref b1)]))
  obtain ⟨cl17, Ar17, qq17, S17, M17, H17, G17⟩ := V16_b1
  have hin17 : ¬ ((15 : Int32) < 0 ∨ cl17.slots.size ≤ ((15 : Int32)).toNatClampNeg) := inb_of S17 ⟨by decide, by decide⟩
  obtain ⟨T17, h17, X17, e17, W17, st17⟩ := stJ X16 hx hZ e16 Ar17 (j := (15 : Int32)) hin17 (g := (mkF m 107 #[.val (.int p0), .val (.long q1), .second, .unset, .unset, .unset, .unset, .unset, .unset, .unset, .unset] [(.long (1000000000000000 : Int64)), (.int (15 : Int32)), (.ref b1), (.ref b1)])) rfl rfl (hb hby at_107)
  have N17 := Fr.snoc X17 N16 gn1
  have V17_b1 : Arv Z h17 b1 k1 .long (19 : Int32) [(.long (1 : Int64)), (.long (10 : Int64)), (.long (100 : Int64)), (.long (1000 : Int64)), (.long (10000 : Int64)), (.long (100000 : Int64)), (.long (1000000 : Int64)), (.long (10000000 : Int64)), (.long (100000000 : Int64)), (.long (1000000000 : Int64)), (.long (10000000000 : Int64)), (.long (100000000000 : Int64)), (.long (1000000000000 : Int64)), (.long (10000000000000 : Int64)), (.long (100000000000000 : Int64)), (.long (1000000000000000 : Int64)), (.long (0 : Int64)), (.long (0 : Int64)), (.long (0 : Int64))] (.long (0 : Int64)) := Arv.set Ar17 qq17 S17 M17 H17 G17 rfl W17 15 (by decide) (by simp)
  have Z17 := Nat.le_trans Z16 (Keep.of_wr W17).1
  refine own_step (fun _ k => st17 _ k) ?_
  show own_Ends _ _ _ _ _ _ _ (T17.setTop (mkF m 108 #[.val (.int p0), .val (.long q1), .second, .unset, .unset, .unset, .unset, .unset, .unset, .unset, .unset] [(.ref b1)]))
  refine own_step (fun _ k => XS.dup X17.here hx rfl (hb hby at_108) rfl rfl k) ?_
  show own_Ends _ _ _ _ _ _ _ (T17.setTop (mkF m 109 #[.val (.int p0), .val (.long q1), .second, .unset, .unset, .unset, .unset, .unset, .unset, .unset, .unset] [(.ref b1), (.ref b1)]))
  refine own_step (fun _ k => XS.bipush X17.here hx rfl (hb hby at_109) k) ?_
  show own_Ends _ _ _ _ _ _ _ (T17.setTop (mkF m 111 #[.val (.int p0), .val (.long q1), .second, .unset, .unset, .unset, .unset, .unset, .unset, .unset, .unset] [(.int (16 : Int32)), (.ref b1), (.ref b1)]))
  refine own_step (fun _ k => X17.ldc2Long hx hown (mvT hZ (hw _ (List.mem_of_getElem? (i := 16) rfl))) (g := (mkF m 111 #[.val (.int p0), .val (.long q1), .second, .unset, .unset, .unset, .unset, .unset, .unset, .unset, .unset] [(.int (16 : Int32)), (.ref b1), (.ref b1)])) rfl (hb hby at_111) _ k) ?_
  show own_Ends _ _ _ _ _ _ _ (T17.setTop (mkF m 114 #[.val (.int p0), .val (.long q1), .second, .unset, .unset, .unset, .unset, .unset, .unset, .unset, .unset] [(.long (10000000000000000 : Int64)), (.int (16 : Int32)), (.ref b1), (.ref b1)]))
  obtain ⟨cl18, Ar18, qq18, S18, M18, H18, G18⟩ := V17_b1
  have hin18 : ¬ ((16 : Int32) < 0 ∨ cl18.slots.size ≤ ((16 : Int32)).toNatClampNeg) := inb_of S18 ⟨by decide, by decide⟩
  obtain ⟨T18, h18, X18, e18, W18, st18⟩ := stJ X17 hx hZ e17 Ar18 (j := (16 : Int32)) hin18 (g := (mkF m 114 #[.val (.int p0), .val (.long q1), .second, .unset, .unset, .unset, .unset, .unset, .unset, .unset, .unset] [(.long (10000000000000000 : Int64)), (.int (16 : Int32)), (.ref b1), (.ref b1)])) rfl rfl (hb hby at_114)
  have N18 := Fr.snoc X18 N17 gn1
  have V18_b1 : Arv Z h18 b1 k1 .long (19 : Int32) [(.long (1 : Int64)), (.long (10 : Int64)), (.long (100 : Int64)), (.long (1000 : Int64)), (.long (10000 : Int64)), (.long (100000 : Int64)), (.long (1000000 : Int64)), (.long (10000000 : Int64)), (.long (100000000 : Int64)), (.long (1000000000 : Int64)), (.long (10000000000 : Int64)), (.long (100000000000 : Int64)), (.long (1000000000000 : Int64)), (.long (10000000000000 : Int64)), (.long (100000000000000 : Int64)), (.long (1000000000000000 : Int64)), (.long (10000000000000000 : Int64)), (.long (0 : Int64)), (.long (0 : Int64))] (.long (0 : Int64)) := Arv.set Ar18 qq18 S18 M18 H18 G18 rfl W18 16 (by decide) (by simp)
  have Z18 := Nat.le_trans Z17 (Keep.of_wr W18).1
  refine own_step (fun _ k => st18 _ k) ?_
  show own_Ends _ _ _ _ _ _ _ (T18.setTop (mkF m 115 #[.val (.int p0), .val (.long q1), .second, .unset, .unset, .unset, .unset, .unset, .unset, .unset, .unset] [(.ref b1)]))
  refine own_step (fun _ k => XS.dup X18.here hx rfl (hb hby at_115) rfl rfl k) ?_
  show own_Ends _ _ _ _ _ _ _ (T18.setTop (mkF m 116 #[.val (.int p0), .val (.long q1), .second, .unset, .unset, .unset, .unset, .unset, .unset, .unset, .unset] [(.ref b1), (.ref b1)]))
  refine own_step (fun _ k => XS.bipush X18.here hx rfl (hb hby at_116) k) ?_
  show own_Ends _ _ _ _ _ _ _ (T18.setTop (mkF m 118 #[.val (.int p0), .val (.long q1), .second, .unset, .unset, .unset, .unset, .unset, .unset, .unset, .unset] [(.int (17 : Int32)), (.ref b1), (.ref b1)]))
  refine own_step (fun _ k => X18.ldc2Long hx hown (mvT hZ (hw _ (List.mem_of_getElem? (i := 17) rfl))) (g := (mkF m 118 #[.val (.int p0), .val (.long q1), .second, .unset, .unset, .unset, .unset, .unset, .unset, .unset, .unset] [(.int (17 : Int32)), (.ref b1), (.ref b1)])) rfl (hb hby at_118) _ k) ?_
  show own_Ends _ _ _ _ _ _ _ (T18.setTop (mkF m 121 #[.val (.int p0), .val (.long q1), .second, .unset, .unset, .unset, .unset, .unset, .unset, .unset, .unset] [(.long (100000000000000000 : Int64)), (.int (17 : Int32)), (.ref b1), (.ref b1)]))
  obtain ⟨cl19, Ar19, qq19, S19, M19, H19, G19⟩ := V18_b1
  have hin19 : ¬ ((17 : Int32) < 0 ∨ cl19.slots.size ≤ ((17 : Int32)).toNatClampNeg) := inb_of S19 ⟨by decide, by decide⟩
  obtain ⟨T19, h19, X19, e19, W19, st19⟩ := stJ X18 hx hZ e18 Ar19 (j := (17 : Int32)) hin19 (g := (mkF m 121 #[.val (.int p0), .val (.long q1), .second, .unset, .unset, .unset, .unset, .unset, .unset, .unset, .unset] [(.long (100000000000000000 : Int64)), (.int (17 : Int32)), (.ref b1), (.ref b1)])) rfl rfl (hb hby at_121)
  have N19 := Fr.snoc X19 N18 gn1
  have V19_b1 : Arv Z h19 b1 k1 .long (19 : Int32) [(.long (1 : Int64)), (.long (10 : Int64)), (.long (100 : Int64)), (.long (1000 : Int64)), (.long (10000 : Int64)), (.long (100000 : Int64)), (.long (1000000 : Int64)), (.long (10000000 : Int64)), (.long (100000000 : Int64)), (.long (1000000000 : Int64)), (.long (10000000000 : Int64)), (.long (100000000000 : Int64)), (.long (1000000000000 : Int64)), (.long (10000000000000 : Int64)), (.long (100000000000000 : Int64)), (.long (1000000000000000 : Int64)), (.long (10000000000000000 : Int64)), (.long (100000000000000000 : Int64)), (.long (0 : Int64))] (.long (0 : Int64)) := Arv.set Ar19 qq19 S19 M19 H19 G19 rfl W19 17 (by decide) (by simp)
  have Z19 := Nat.le_trans Z18 (Keep.of_wr W19).1
  refine own_step (fun _ k => st19 _ k) ?_
  show own_Ends _ _ _ _ _ _ _ (T19.setTop (mkF m 122 #[.val (.int p0), .val (.long q1), .second, .unset, .unset, .unset, .unset, .unset, .unset, .unset, .unset] [(.ref b1)]))
  refine own_step (fun _ k => XS.dup X19.here hx rfl (hb hby at_122) rfl rfl k) ?_
  show own_Ends _ _ _ _ _ _ _ (T19.setTop (mkF m 123 #[.val (.int p0), .val (.long q1), .second, .unset, .unset, .unset, .unset, .unset, .unset, .unset, .unset] [(.ref b1), (.ref b1)]))
  refine own_step (fun _ k => XS.bipush X19.here hx rfl (hb hby at_123) k) ?_
  show own_Ends _ _ _ _ _ _ _ (T19.setTop (mkF m 125 #[.val (.int p0), .val (.long q1), .second, .unset, .unset, .unset, .unset, .unset, .unset, .unset, .unset] [(.int (18 : Int32)), (.ref b1), (.ref b1)]))
  refine own_step (fun _ k => X19.ldc2Long hx hown (mvT hZ (hw _ (List.mem_of_getElem? (i := 18) rfl))) (g := (mkF m 125 #[.val (.int p0), .val (.long q1), .second, .unset, .unset, .unset, .unset, .unset, .unset, .unset, .unset] [(.int (18 : Int32)), (.ref b1), (.ref b1)])) rfl (hb hby at_125) _ k) ?_
  show own_Ends _ _ _ _ _ _ _ (T19.setTop (mkF m 128 #[.val (.int p0), .val (.long q1), .second, .unset, .unset, .unset, .unset, .unset, .unset, .unset, .unset] [(.long (1000000000000000000 : Int64)), (.int (18 : Int32)), (.ref b1), (.ref b1)]))
  obtain ⟨cl20, Ar20, qq20, S20, M20, H20, G20⟩ := V19_b1
  have hin20 : ¬ ((18 : Int32) < 0 ∨ cl20.slots.size ≤ ((18 : Int32)).toNatClampNeg) := inb_of S20 ⟨by decide, by decide⟩
  obtain ⟨T20, h20, X20, e20, W20, st20⟩ := stJ X19 hx hZ e19 Ar20 (j := (18 : Int32)) hin20 (g := (mkF m 128 #[.val (.int p0), .val (.long q1), .second, .unset, .unset, .unset, .unset, .unset, .unset, .unset, .unset] [(.long (1000000000000000000 : Int64)), (.int (18 : Int32)), (.ref b1), (.ref b1)])) rfl rfl (hb hby at_128)
  have N20 := Fr.snoc X20 N19 gn1
  have V20_b1 : Arv Z h20 b1 k1 .long (19 : Int32) [(.long (1 : Int64)), (.long (10 : Int64)), (.long (100 : Int64)), (.long (1000 : Int64)), (.long (10000 : Int64)), (.long (100000 : Int64)), (.long (1000000 : Int64)), (.long (10000000 : Int64)), (.long (100000000 : Int64)), (.long (1000000000 : Int64)), (.long (10000000000 : Int64)), (.long (100000000000 : Int64)), (.long (1000000000000 : Int64)), (.long (10000000000000 : Int64)), (.long (100000000000000 : Int64)), (.long (1000000000000000 : Int64)), (.long (10000000000000000 : Int64)), (.long (100000000000000000 : Int64)), (.long (1000000000000000000 : Int64))] (.long (0 : Int64)) := Arv.set Ar20 qq20 S20 M20 H20 G20 rfl W20 18 (by decide) (by simp)
  have Z20 := Nat.le_trans Z19 (Keep.of_wr W20).1
  refine own_step (fun _ k => st20 _ k) ?_
  show own_Ends _ _ _ _ _ _ _ (T20.setTop (mkF m 129 #[.val (.int p0), .val (.long q1), .second, .unset, .unset, .unset, .unset, .unset, .unset, .unset, .unset] [(.ref b1)]))
  refine own_step (fun _ k => XS.astoreN X20.here hx rfl (hb hby at_129) rfl rfl (l' := #[.val (.int p0), .val (.long q1), .second, .val (.ref b1), .unset, .unset, .unset, .unset, .unset, .unset, .unset]) rfl k) ?_
  show own_Ends _ _ _ _ _ _ _ (T20.setTop (mkF m 130 #[.val (.int p0), .val (.long q1), .second, .val (.ref b1), .unset, .unset, .unset, .unset, .unset, .unset, .unset] []))
  refine own_step (fun _ k => XS.iloadN X20.here hx rfl (hb hby at_130) rfl k) ?_
  show own_Ends _ _ _ _ _ _ _ (T20.setTop (mkF m 131 #[.val (.int p0), .val (.long q1), .second, .val (.ref b1), .unset, .unset, .unset, .unset, .unset, .unset, .unset] [(.int p0)]))
  refine own_step (fun _ k => X20.ldcInt hx hown (mvT hZ (hw _ (List.mem_of_getElem? (i := 19) rfl))) (g := (mkF m 131 #[.val (.int p0), .val (.long q1), .second, .val (.ref b1), .unset, .unset, .unset, .unset, .unset, .unset, .unset] [(.int p0)])) rfl (hb hby at_131) _ k) ?_
  show own_Ends _ _ _ _ _ _ _ (T20.setTop (mkF m 133 #[.val (.int p0), .val (.long q1), .second, .val (.ref b1), .unset, .unset, .unset, .unset, .unset, .unset, .unset] [(.int (2147483647 : Int32)), (.int p0)]))
  refine own_step (fun _ k => XS.iand X20.here hx rfl (hb hby at_133) rfl k) ?_
  show own_Ends _ _ _ _ _ _ _ (T20.setTop (mkF m 134 #[.val (.int p0), .val (.long q1), .second, .val (.ref b1), .unset, .unset, .unset, .unset, .unset, .unset, .unset] [(.int (p0 &&& (2147483647 : Int32)))]))
  refine own_step (fun _ k => XS.bipush X20.here hx rfl (hb hby at_134) k) ?_
  show own_Ends _ _ _ _ _ _ _ (T20.setTop (mkF m 136 #[.val (.int p0), .val (.long q1), .second, .val (.ref b1), .unset, .unset, .unset, .unset, .unset, .unset, .unset] [(.int (19 : Int32)), (.int (p0 &&& (2147483647 : Int32)))]))
  refine own_step (fun _ k => XS.irem X20.here hx rfl (hb hby at_136) rfl (by decide) k) ?_
  show own_Ends _ _ _ _ _ _ _ (T20.setTop (mkF m 137 #[.val (.int p0), .val (.long q1), .second, .val (.ref b1), .unset, .unset, .unset, .unset, .unset, .unset, .unset] [(.int ((p0 &&& (2147483647 : Int32)) - ((p0 &&& (2147483647 : Int32)) / (19 : Int32)) * (19 : Int32)))]))
  obtain ⟨kk, hkk, hr⟩ := own_nn p0 _ rfl
  rw [hr]
  show own_Ends _ _ _ _ _ _ _ (T20.setTop (mkF m 137 #[.val (.int p0), .val (.long q1), .second, .val (.ref b1), .unset, .unset, .unset, .unset, .unset, .unset, .unset] [(.int (Int32.ofNat kk))]))
  refine own_step (fun _ k => XS.iconst X20.here hx rfl (hb hby at_137) k) ?_
  show own_Ends _ _ _ _ _ _ _ (T20.setTop (mkF m 138 #[.val (.int p0), .val (.long q1), .second, .val (.ref b1), .unset, .unset, .unset, .unset, .unset, .unset, .unset] [(.int (1 : Int32)), (.int (Int32.ofNat kk))]))
  refine own_step (fun _ k => XS.iadd X20.here hx rfl (hb hby at_138) rfl k) ?_
  show own_Ends _ _ _ _ _ _ _ (T20.setTop (mkF m 139 #[.val (.int p0), .val (.long q1), .second, .val (.ref b1), .unset, .unset, .unset, .unset, .unset, .unset, .unset] [(.int ((Int32.ofNat kk) + (1 : Int32)))]))
  rw [own_up]
  show own_Ends _ _ _ _ _ _ _ (T20.setTop (mkF m 139 #[.val (.int p0), .val (.long q1), .second, .val (.ref b1), .unset, .unset, .unset, .unset, .unset, .unset, .unset] [(.int (Int32.ofNat (kk + 1)))]))
  refine own_step (fun _ k => XS.istore X20.here hx rfl (hb hby at_139) rfl (l' := #[.val (.int p0), .val (.long q1), .second, .val (.ref b1), .val (.int (Int32.ofNat (kk + 1))), .unset, .unset, .unset, .unset, .unset, .unset]) rfl k) ?_
  show own_Ends _ _ _ _ _ _ _ (T20.setTop (mkF m 141 #[.val (.int p0), .val (.long q1), .second, .val (.ref b1), .val (.int (Int32.ofNat (kk + 1))), .unset, .unset, .unset, .unset, .unset, .unset] []))
  refine own_step (fun _ k => XS.iload X20.here hx rfl (hb hby at_141) rfl k) ?_
  show own_Ends _ _ _ _ _ _ _ (T20.setTop (mkF m 143 #[.val (.int p0), .val (.long q1), .second, .val (.ref b1), .val (.int (Int32.ofNat (kk + 1))), .unset, .unset, .unset, .unset, .unset, .unset] [(.int (Int32.ofNat (kk + 1)))]))
  refine own_step (fun _ k => XS.iconst X20.here hx rfl (hb hby at_143) k) ?_
  show own_Ends _ _ _ _ _ _ _ (T20.setTop (mkF m 144 #[.val (.int p0), .val (.long q1), .second, .val (.ref b1), .val (.int (Int32.ofNat (kk + 1))), .unset, .unset, .unset, .unset, .unset, .unset] [(.int (1 : Int32)), (.int (Int32.ofNat (kk + 1)))]))
  obtain ⟨clA, ArA, qqA, SA, MA, HA, GA⟩ := V20_b1
  have hpk : (own_p kk).toInt = ((10 ^ kk : Nat) : Int) := own_pt ⟨kk, hkk⟩
  have hpos : 0 < 10 ^ kk := Nat.pow_pos (by decide)
  have e0 : (0 : Int64).toInt = 0 := rfl
  have e1 : (1 : Int64).toInt = 1 := rfl
  have eM : (9223372036854775807 : Int64).toInt = 9223372036854775807 := rfl
  have J157_21 : ∀ (low : Int64) (hl0 : 0 ≤ low.toInt) (hl1 : kk = 0 ∨ low.toInt = ((10 ^ kk : Nat) : Int)) (hl2 : low.toInt ≤ ((10 ^ kk : Nat) : Int)) (hl3 : kk = 0 → low.toInt = 0), own_Ends p e below s 1 19 (own_Q0 Z p0 q1  h0 n0) (T20.setTop (mkF m 157 #[.val (.int p0), .val (.long q1), .second, .val (.ref b1), .val (.int (Int32.ofNat (kk + 1))), .unset, .unset, .unset, .unset, .unset, .unset] [(.long low)])) := by
    intro low hl0 hl1 hl2 hl3
    show own_Ends _ _ _ _ _ _ _ (T20.setTop (mkF m 157 #[.val (.int p0), .val (.long q1), .second, .val (.ref b1), .val (.int (Int32.ofNat (kk + 1))), .unset, .unset, .unset, .unset, .unset, .unset] [(.long low)]))
    refine own_step (fun _ k => XS.lstore X20.here hx rfl (hb hby at_157) rfl (l' := #[.val (.int p0), .val (.long q1), .second, .val (.ref b1), .val (.int (Int32.ofNat (kk + 1))), .val (.long low), .second, .unset, .unset, .unset, .unset]) rfl k) ?_
    show own_Ends _ _ _ _ _ _ _ (T20.setTop (mkF m 159 #[.val (.int p0), .val (.long q1), .second, .val (.ref b1), .val (.int (Int32.ofNat (kk + 1))), .val (.long low), .second, .unset, .unset, .unset, .unset] []))
    refine own_step (fun _ k => XS.iload X20.here hx rfl (hb hby at_159) rfl k) ?_
    show own_Ends _ _ _ _ _ _ _ (T20.setTop (mkF m 161 #[.val (.int p0), .val (.long q1), .second, .val (.ref b1), .val (.int (Int32.ofNat (kk + 1))), .val (.long low), .second, .unset, .unset, .unset, .unset] [(.int (Int32.ofNat (kk + 1)))]))
    refine own_step (fun _ k => XS.bipush X20.here hx rfl (hb hby at_161) k) ?_
    show own_Ends _ _ _ _ _ _ _ (T20.setTop (mkF m 163 #[.val (.int p0), .val (.long q1), .second, .val (.ref b1), .val (.int (Int32.ofNat (kk + 1))), .val (.long low), .second, .unset, .unset, .unset, .unset] [(.int (19 : Int32)), (.int (Int32.ofNat (kk + 1)))]))
    have J186_22 : ∀ (sp : Int64) (hs1 : 0 < sp.toInt) (hs2 : low.toInt + sp.toInt ≤ ((10 ^ (kk + 1) : Nat) : Int)) (hs3 : low.toInt + sp.toInt ≤ 2 ^ 63), own_Ends p e below s 1 19 (own_Q0 Z p0 q1  h0 n0) (T20.setTop (mkF m 186 #[.val (.int p0), .val (.long q1), .second, .val (.ref b1), .val (.int (Int32.ofNat (kk + 1))), .val (.long low), .second, .unset, .unset, .unset, .unset] [(.long sp)])) := by
      intro sp hs1 hs2 hs3
      show own_Ends _ _ _ _ _ _ _ (T20.setTop (mkF m 186 #[.val (.int p0), .val (.long q1), .second, .val (.ref b1), .val (.int (Int32.ofNat (kk + 1))), .val (.long low), .second, .unset, .unset, .unset, .unset] [(.long sp)]))
      refine own_step (fun _ k => XS.lstore X20.here hx rfl (hb hby at_186) rfl (l' := #[.val (.int p0), .val (.long q1), .second, .val (.ref b1), .val (.int (Int32.ofNat (kk + 1))), .val (.long low), .second, .val (.long sp), .second, .unset, .unset]) rfl k) ?_
      show own_Ends _ _ _ _ _ _ _ (T20.setTop (mkF m 188 #[.val (.int p0), .val (.long q1), .second, .val (.ref b1), .val (.int (Int32.ofNat (kk + 1))), .val (.long low), .second, .val (.long sp), .second, .unset, .unset] []))
      refine own_step (fun _ k => XS.lload X20.here hx rfl (hb hby at_188) rfl k) ?_
      show own_Ends _ _ _ _ _ _ _ (T20.setTop (mkF m 190 #[.val (.int p0), .val (.long q1), .second, .val (.ref b1), .val (.int (Int32.ofNat (kk + 1))), .val (.long low), .second, .val (.long sp), .second, .unset, .unset] [(.long low)]))
      refine own_step (fun _ k => XS.lloadN X20.here hx rfl (hb hby at_190) rfl k) ?_
      show own_Ends _ _ _ _ _ _ _ (T20.setTop (mkF m 191 #[.val (.int p0), .val (.long q1), .second, .val (.ref b1), .val (.int (Int32.ofNat (kk + 1))), .val (.long low), .second, .val (.long sp), .second, .unset, .unset] [(.long q1), (.long low)]))
      refine own_step (fun _ k => X20.ldc2Long hx hown (mvT hZ (hw _ (List.mem_of_getElem? (i := 20) rfl))) (g := (mkF m 191 #[.val (.int p0), .val (.long q1), .second, .val (.ref b1), .val (.int (Int32.ofNat (kk + 1))), .val (.long low), .second, .val (.long sp), .second, .unset, .unset] [(.long q1), (.long low)])) rfl (hb hby at_191) _ k) ?_
      show own_Ends _ _ _ _ _ _ _ (T20.setTop (mkF m 194 #[.val (.int p0), .val (.long q1), .second, .val (.ref b1), .val (.int (Int32.ofNat (kk + 1))), .val (.long low), .second, .val (.long sp), .second, .unset, .unset] [(.long (9223372036854775807 : Int64)), (.long q1), (.long low)]))
      refine own_step (fun _ k => XS.land X20.here hx rfl (hb hby at_194) rfl k) ?_
      show own_Ends _ _ _ _ _ _ _ (T20.setTop (mkF m 195 #[.val (.int p0), .val (.long q1), .second, .val (.ref b1), .val (.int (Int32.ofNat (kk + 1))), .val (.long low), .second, .val (.long sp), .second, .unset, .unset] [(.long (q1 &&& (9223372036854775807 : Int64))), (.long low)]))
      refine own_step (fun _ k => XS.lload X20.here hx rfl (hb hby at_195) rfl k) ?_
      show own_Ends _ _ _ _ _ _ _ (T20.setTop (mkF m 197 #[.val (.int p0), .val (.long q1), .second, .val (.ref b1), .val (.int (Int32.ofNat (kk + 1))), .val (.long low), .second, .val (.long sp), .second, .unset, .unset] [(.long sp), (.long (q1 &&& (9223372036854775807 : Int64))), (.long low)]))
      refine own_step (fun _ k => XS.lrem X20.here hx rfl (hb hby at_197) rfl (fun h => by rw [h] at hs1; omega) k) ?_
      show own_Ends _ _ _ _ _ _ _ (T20.setTop (mkF m 198 #[.val (.int p0), .val (.long q1), .second, .val (.ref b1), .val (.int (Int32.ofNat (kk + 1))), .val (.long low), .second, .val (.long sp), .second, .unset, .unset] [(.long ((q1 &&& (9223372036854775807 : Int64)) - ((q1 &&& (9223372036854775807 : Int64)) / sp) * sp)), (.long low)]))
      refine own_step (fun _ k => XS.ladd X20.here hx rfl (hb hby at_198) rfl k) ?_
      show own_Ends _ _ _ _ _ _ _ (T20.setTop (mkF m 199 #[.val (.int p0), .val (.long q1), .second, .val (.ref b1), .val (.int (Int32.ofNat (kk + 1))), .val (.long low), .second, .val (.long sp), .second, .unset, .unset] [(.long (low + ((q1 &&& (9223372036854775807 : Int64)) - ((q1 &&& (9223372036854775807 : Int64)) / sp) * sp)))]))
      obtain ⟨nv, hv, hv1, hv2⟩ := own_val (x := q1) hl0 hs1 hs3
      generalize (low + ((q1 &&& (9223372036854775807 : Int64)) - ((q1 &&& (9223372036854775807 : Int64)) / sp) * sp)) = vv at hv ⊢
      refine own_step (fun _ k => XS.lstore X20.here hx rfl (hb hby at_199) rfl (l' := #[.val (.int p0), .val (.long q1), .second, .val (.ref b1), .val (.int (Int32.ofNat (kk + 1))), .val (.long low), .second, .val (.long sp), .second, .val (.long vv), .second]) rfl k) ?_
      show own_Ends _ _ _ _ _ _ _ (T20.setTop (mkF m 201 #[.val (.int p0), .val (.long q1), .second, .val (.ref b1), .val (.int (Int32.ofNat (kk + 1))), .val (.long low), .second, .val (.long sp), .second, .val (.long vv), .second] []))
      refine own_step (fun _ k => XS.lload X20.here hx rfl (hb hby at_201) rfl k) ?_
      show own_Ends _ _ _ _ _ _ _ (T20.setTop (mkF m 203 #[.val (.int p0), .val (.long q1), .second, .val (.ref b1), .val (.int (Int32.ofNat (kk + 1))), .val (.long low), .second, .val (.long sp), .second, .val (.long vv), .second] [(.long vv)]))
      obtain ⟨_, _, ⟨T23, L23, k23, n23⟩, -, X23, ⟨Lc23, hQ23, l23, y23, z23⟩, st23⟩ := Jvm.LawKit.callS X20 hx (y := (⟨"org/halflife/http/Decimal", "length", "(J)I"⟩ : MethodName)) hown (mvT hZ (hw _ (List.mem_of_getElem? (i := 21) rfl))) (mvT hZ (hw _ (List.mem_of_getElem? (i := 22) rfl))) (mvT hZ (hw _ (List.mem_of_getElem? (i := 23) rfl))) (mvT hZ (hw _ (List.mem_of_getElem? (i := 24) rfl))) (by decide) (backOf (W := 0) (own_rm1 l Z a0 hw [] vv nv kk h20 n0 Z20 hv hkk (hl1.imp id (fun h => by omega)) (by omega)) hZ (hw _ (List.mem_of_getElem? (i := 24) rfl)) (hw _ (List.mem_of_getElem? (i := 23) rfl)) (by decide) (by decide)) (g := (mkF m 203 #[.val (.int p0), .val (.long q1), .second, .val (.ref b1), .val (.int (Int32.ofNat (kk + 1))), .val (.long low), .second, .val (.long sp), .second, .val (.long vv), .second] [(.long vv)])) rfl (by rw [hml]; rfl) (argsL := [(.long vv)]) (rest := []) (lenOf own_pd0 rfl) rfl (by show 2 * 0 + _ ≤ _; exact Nat.le_of_eq rfl) (hb hby at_203) (fun _ _ => ⟨rfl, e20, (by decide : 1 + 0 ≤ _), (by decide : 19 + 0 ≤ _)⟩)
      dsimp only [Pt.U, Pt.locs, Pt.cells, Pt.slots] at X23 l23 y23 z23 st23 hQ23
      subst l23 y23 z23
      obtain ⟨rfl, Nq23, e23⟩ := hQ23
      have N23 := Fr.app N20 Nq23
      refine own_step (fun _ k => st23 _ k) ?_
      show own_Ends _ _ _ _ _ _ _ (T23.setTop (mkF m 206 #[.val (.int p0), .val (.long q1), .second, .val (.ref b1), .val (.int (Int32.ofNat (kk + 1))), .val (.long low), .second, .val (.long sp), .second, .val (.long vv), .second] [(.int (Int32.ofNat (kk + 1)))]))
      refine own_step (fun _ k => XS.iload X23.here hx rfl (hb hby at_206) rfl k) ?_
      show own_Ends _ _ _ _ _ _ _ (T23.setTop (mkF m 208 #[.val (.int p0), .val (.long q1), .second, .val (.ref b1), .val (.int (Int32.ofNat (kk + 1))), .val (.long low), .second, .val (.long sp), .second, .val (.long vv), .second] [(.int (Int32.ofNat (kk + 1))), (.int (Int32.ofNat (kk + 1)))]))
      refine own_step (fun _ k => XS.icmpNo X23.here hx rfl (hb hby at_208) rfl (teq rfl).2 k) ?_
      show own_Ends _ _ _ _ _ _ _ (T23.setTop (mkF m 211 #[.val (.int p0), .val (.long q1), .second, .val (.ref b1), .val (.int (Int32.ofNat (kk + 1))), .val (.long low), .second, .val (.long sp), .second, .val (.long vv), .second] []))
      refine own_step (fun _ k => XS.iconst X23.here hx rfl (hb hby at_211) k) ?_
      show own_Ends _ _ _ _ _ _ _ (T23.setTop (mkF m 212 #[.val (.int p0), .val (.long q1), .second, .val (.ref b1), .val (.int (Int32.ofNat (kk + 1))), .val (.long low), .second, .val (.long sp), .second, .val (.long vv), .second] [(.int (1 : Int32))]))
      refine own_step (fun _ k => XS.goto X23.here hx rfl (pc0 := 212) (pc' := 216) rfl (hb hby at_212) (by decide) (by decide) k) ?_
      show own_Ends _ _ _ _ _ _ _ (T23.setTop (mkF m 216 #[.val (.int p0), .val (.long q1), .second, .val (.ref b1), .val (.int (Int32.ofNat (kk + 1))), .val (.long low), .second, .val (.long sp), .second, .val (.long vv), .second] [(.int (1 : Int32))]))
      refine own_ret X23 (BodyLoose.notSynchronized Bd) (v := (some (.int (1 : Int32)))) (fun h => by rw [Bd.returns] at h; cases h) ?_ (by decide) (by decide) (fun fs hr => X23.ireturnOut hx Bd.returns rfl (by simp) (hb hby at_216) hr)
      show own_Q0 Z p0 q1  h0 n0 (some (.int (1 : Int32))) T23.heap _
      rw [e23]
      exact ⟨rfl, N23⟩
    by_cases h2 : (Int32.ofNat (kk + 1)) = (19 : Int32)
    · refine own_step (fun _ k => XS.icmpNo X20.here hx rfl (hb hby at_163) rfl (teq h2).2 k) ?_
      show own_Ends _ _ _ _ _ _ _ (T20.setTop (mkF m 166 #[.val (.int p0), .val (.long q1), .second, .val (.ref b1), .val (.int (Int32.ofNat (kk + 1))), .val (.long low), .second, .unset, .unset, .unset, .unset] []))
      have hk8 : kk = 18 := by have := (own_eq (i := kk + 1) (k := 19) (by omega) (by omega)).mp h2; omega
      subst hk8
      have hlw : low.toInt = 1000000000000000000 := hl1.resolve_left (by decide)
      show own_Ends _ _ _ _ _ _ _ (T20.setTop (mkF m 166 #[.val (.int p0), .val (.long q1), .second, .val (.ref b1), .val (.int (Int32.ofNat (18 + 1))), .val (.long low), .second, .unset, .unset, .unset, .unset] []))
      refine own_step (fun _ k => X20.ldc2Long hx hown (mvT hZ (hw _ (List.mem_of_getElem? (i := 20) rfl))) (g := (mkF m 166 #[.val (.int p0), .val (.long q1), .second, .val (.ref b1), .val (.int (Int32.ofNat (18 + 1))), .val (.long low), .second, .unset, .unset, .unset, .unset] [])) rfl (hb hby at_166) _ k) ?_
      show own_Ends _ _ _ _ _ _ _ (T20.setTop (mkF m 169 #[.val (.int p0), .val (.long q1), .second, .val (.ref b1), .val (.int (Int32.ofNat (18 + 1))), .val (.long low), .second, .unset, .unset, .unset, .unset] [(.long (9223372036854775807 : Int64))]))
      refine own_step (fun _ k => XS.aloadN X20.here hx rfl (hb hby at_169) rfl rfl k) ?_
      show own_Ends _ _ _ _ _ _ _ (T20.setTop (mkF m 170 #[.val (.int p0), .val (.long q1), .second, .val (.ref b1), .val (.int (Int32.ofNat (18 + 1))), .val (.long low), .second, .unset, .unset, .unset, .unset] [(.ref b1), (.long (9223372036854775807 : Int64))]))
      refine own_step (fun _ k => XS.bipush X20.here hx rfl (hb hby at_170) k) ?_
      show own_Ends _ _ _ _ _ _ _ (T20.setTop (mkF m 172 #[.val (.int p0), .val (.long q1), .second, .val (.ref b1), .val (.int (Int32.ofNat (18 + 1))), .val (.long low), .second, .unset, .unset, .unset, .unset] [(.int (18 : Int32)), (.ref b1), (.long (9223372036854775807 : Int64))]))
      refine own_step (fun _ k => X20.laload hx (j := (18 : Int32)) (v := (.long (own_p 18))) (by rw [e20]; exact ArA.1) (State.isArrayOf_alike hZ.alike ArA.2.1) ArA.2.2 (own_in SA (show 18 < 19 by decide)) (own_at SA (show 18 < 19 by decide) HA) (g := (mkF m 172 #[.val (.int p0), .val (.long q1), .second, .val (.ref b1), .val (.int (Int32.ofNat (18 + 1))), .val (.long low), .second, .unset, .unset, .unset, .unset] [(.int (18 : Int32)), (.ref b1), (.long (9223372036854775807 : Int64))])) rfl rfl (hb hby at_172) _ k) ?_
      show own_Ends _ _ _ _ _ _ _ (T20.setTop (mkF m 173 #[.val (.int p0), .val (.long q1), .second, .val (.ref b1), .val (.int (Int32.ofNat (18 + 1))), .val (.long low), .second, .unset, .unset, .unset, .unset] [(.long (own_p 18)), (.long (9223372036854775807 : Int64))]))
      refine own_step (fun _ k => XS.lsub X20.here hx rfl (hb hby at_173) rfl k) ?_
      show own_Ends _ _ _ _ _ _ _ (T20.setTop (mkF m 174 #[.val (.int p0), .val (.long q1), .second, .val (.ref b1), .val (.int (Int32.ofNat (18 + 1))), .val (.long low), .second, .unset, .unset, .unset, .unset] [(.long ((9223372036854775807 : Int64) - (own_p 18)))]))
      refine own_step (fun _ k => XS.lconst X20.here hx rfl (hb hby at_174) k) ?_
      show own_Ends _ _ _ _ _ _ _ (T20.setTop (mkF m 175 #[.val (.int p0), .val (.long q1), .second, .val (.ref b1), .val (.int (Int32.ofNat (18 + 1))), .val (.long low), .second, .unset, .unset, .unset, .unset] [(.long (1 : Int64)), (.long ((9223372036854775807 : Int64) - (own_p 18)))]))
      refine own_step (fun _ k => XS.ladd X20.here hx rfl (hb hby at_175) rfl k) ?_
      show own_Ends _ _ _ _ _ _ _ (T20.setTop (mkF m 176 #[.val (.int p0), .val (.long q1), .second, .val (.ref b1), .val (.int (Int32.ofNat (18 + 1))), .val (.long low), .second, .unset, .unset, .unset, .unset] [(.long (((9223372036854775807 : Int64) - (own_p 18)) + (1 : Int64)))]))
      refine own_step (fun _ k => XS.goto X20.here hx rfl (pc0 := 176) (pc' := 186) rfl (hb hby at_176) (by decide) (by decide) k) ?_
      show own_Ends _ _ _ _ _ _ _ (T20.setTop (mkF m 186 #[.val (.int p0), .val (.long q1), .second, .val (.ref b1), .val (.int (Int32.ofNat (18 + 1))), .val (.long low), .second, .unset, .unset, .unset, .unset] [(.long (((9223372036854775807 : Int64) - (own_p 18)) + (1 : Int64)))]))
      have hsp : ((9223372036854775807 : Int64) - own_p 18 + (1 : Int64)).toInt = 8223372036854775808 := by decide +kernel
      exact J186_22 _ (by omega) (by rw [hsp, hlw]; decide) (by omega)
    · refine own_step (fun _ k => XS.icmpYes X20.here hx rfl (pc0 := 163) (pc' := 179) rfl (hb hby at_163) rfl (feq h2).2 (by decide) (by decide) k) ?_
      show own_Ends _ _ _ _ _ _ _ (T20.setTop (mkF m 179 #[.val (.int p0), .val (.long q1), .second, .val (.ref b1), .val (.int (Int32.ofNat (kk + 1))), .val (.long low), .second, .unset, .unset, .unset, .unset] []))
      have hk8 : kk + 1 < 19 := by
        rcases Nat.lt_or_ge (kk + 1) 19 with h | h
        · exact h
        · exact absurd (show Int32.ofNat (kk + 1) = 19 by rw [show kk + 1 = 19 by omega]; rfl) h2
      have hpk1 := own_pt ⟨kk + 1, hk8⟩
      have hle : 10 ^ (kk + 1) ≤ 10 ^ 18 := Nat.pow_le_pow_right (by decide) (by omega)
      have hsc : 10 ^ (kk + 1) = 10 ^ kk * 10 := Nat.pow_succ _ _
      refine own_step (fun _ k => XS.aloadN X20.here hx rfl (hb hby at_179) rfl rfl k) ?_
      show own_Ends _ _ _ _ _ _ _ (T20.setTop (mkF m 180 #[.val (.int p0), .val (.long q1), .second, .val (.ref b1), .val (.int (Int32.ofNat (kk + 1))), .val (.long low), .second, .unset, .unset, .unset, .unset] [(.ref b1)]))
      refine own_step (fun _ k => XS.iload X20.here hx rfl (hb hby at_180) rfl k) ?_
      show own_Ends _ _ _ _ _ _ _ (T20.setTop (mkF m 182 #[.val (.int p0), .val (.long q1), .second, .val (.ref b1), .val (.int (Int32.ofNat (kk + 1))), .val (.long low), .second, .unset, .unset, .unset, .unset] [(.int (Int32.ofNat (kk + 1))), (.ref b1)]))
      refine own_step (fun _ k => X20.laload hx (j := (Int32.ofNat (kk + 1))) (v := (.long (own_p (kk + 1)))) (by rw [e20]; exact ArA.1) (State.isArrayOf_alike hZ.alike ArA.2.1) ArA.2.2 (own_in SA hk8) (own_at SA hk8 HA) (g := (mkF m 182 #[.val (.int p0), .val (.long q1), .second, .val (.ref b1), .val (.int (Int32.ofNat (kk + 1))), .val (.long low), .second, .unset, .unset, .unset, .unset] [(.int (Int32.ofNat (kk + 1))), (.ref b1)])) rfl rfl (hb hby at_182) _ k) ?_
      show own_Ends _ _ _ _ _ _ _ (T20.setTop (mkF m 183 #[.val (.int p0), .val (.long q1), .second, .val (.ref b1), .val (.int (Int32.ofNat (kk + 1))), .val (.long low), .second, .unset, .unset, .unset, .unset] [(.long (own_p (kk + 1)))]))
      refine own_step (fun _ k => XS.lload X20.here hx rfl (hb hby at_183) rfl k) ?_
      show own_Ends _ _ _ _ _ _ _ (T20.setTop (mkF m 185 #[.val (.int p0), .val (.long q1), .second, .val (.ref b1), .val (.int (Int32.ofNat (kk + 1))), .val (.long low), .second, .unset, .unset, .unset, .unset] [(.long low), (.long (own_p (kk + 1)))]))
      refine own_step (fun _ k => XS.lsub X20.here hx rfl (hb hby at_185) rfl k) ?_
      show own_Ends _ _ _ _ _ _ _ (T20.setTop (mkF m 186 #[.val (.int p0), .val (.long q1), .second, .val (.ref b1), .val (.int (Int32.ofNat (kk + 1))), .val (.long low), .second, .unset, .unset, .unset, .unset] [(.long ((own_p (kk + 1)) - low))]))
      have hpk1' : (own_p (kk + 1)).toInt = ((10 ^ (kk + 1) : Nat) : Int) := hpk1
      have hsp : (own_p (kk + 1) - low).toInt = (own_p (kk + 1)).toInt - low.toInt := Jvm.Kit.i64_sub (by omega) (by omega)
      exact J186_22 _ (by omega) (by omega) (by omega)
  by_cases h1 : (Int32.ofNat (kk + 1)) = (1 : Int32)
  · refine own_step (fun _ k => XS.icmpNo X20.here hx rfl (hb hby at_144) rfl (teq h1).2 k) ?_
    show own_Ends _ _ _ _ _ _ _ (T20.setTop (mkF m 147 #[.val (.int p0), .val (.long q1), .second, .val (.ref b1), .val (.int (Int32.ofNat (kk + 1))), .unset, .unset, .unset, .unset, .unset, .unset] []))
    have hk0 : kk = 0 := by have := (own_eq (i := kk + 1) (k := 1) (by omega) (by omega)).mp h1; omega
    refine own_step (fun _ k => XS.lconst X20.here hx rfl (hb hby at_147) k) ?_
    show own_Ends _ _ _ _ _ _ _ (T20.setTop (mkF m 148 #[.val (.int p0), .val (.long q1), .second, .val (.ref b1), .val (.int (Int32.ofNat (kk + 1))), .unset, .unset, .unset, .unset, .unset, .unset] [(.long (0 : Int64))]))
    refine own_step (fun _ k => XS.goto X20.here hx rfl (pc0 := 148) (pc' := 157) rfl (hb hby at_148) (by decide) (by decide) k) ?_
    show own_Ends _ _ _ _ _ _ _ (T20.setTop (mkF m 157 #[.val (.int p0), .val (.long q1), .second, .val (.ref b1), .val (.int (Int32.ofNat (kk + 1))), .unset, .unset, .unset, .unset, .unset, .unset] [(.long (0 : Int64))]))
    exact J157_21 _ (by omega) (Or.inl hk0) (by omega) (fun _ => rfl)
  · refine own_step (fun _ k => XS.icmpYes X20.here hx rfl (pc0 := 144) (pc' := 151) rfl (hb hby at_144) rfl (feq h1).2 (by decide) (by decide) k) ?_
    show own_Ends _ _ _ _ _ _ _ (T20.setTop (mkF m 151 #[.val (.int p0), .val (.long q1), .second, .val (.ref b1), .val (.int (Int32.ofNat (kk + 1))), .unset, .unset, .unset, .unset, .unset, .unset] []))
    have hk0 : kk ≠ 0 := fun q => h1 (by subst q; rfl)
    refine own_step (fun _ k => XS.aloadN X20.here hx rfl (hb hby at_151) rfl rfl k) ?_
    show own_Ends _ _ _ _ _ _ _ (T20.setTop (mkF m 152 #[.val (.int p0), .val (.long q1), .second, .val (.ref b1), .val (.int (Int32.ofNat (kk + 1))), .unset, .unset, .unset, .unset, .unset, .unset] [(.ref b1)]))
    refine own_step (fun _ k => XS.iload X20.here hx rfl (hb hby at_152) rfl k) ?_
    show own_Ends _ _ _ _ _ _ _ (T20.setTop (mkF m 154 #[.val (.int p0), .val (.long q1), .second, .val (.ref b1), .val (.int (Int32.ofNat (kk + 1))), .unset, .unset, .unset, .unset, .unset, .unset] [(.int (Int32.ofNat (kk + 1))), (.ref b1)]))
    refine own_step (fun _ k => XS.iconst X20.here hx rfl (hb hby at_154) k) ?_
    show own_Ends _ _ _ _ _ _ _ (T20.setTop (mkF m 155 #[.val (.int p0), .val (.long q1), .second, .val (.ref b1), .val (.int (Int32.ofNat (kk + 1))), .unset, .unset, .unset, .unset, .unset, .unset] [(.int (1 : Int32)), (.int (Int32.ofNat (kk + 1))), (.ref b1)]))
    refine own_step (fun _ k => XS.isub X20.here hx rfl (hb hby at_155) rfl k) ?_
    show own_Ends _ _ _ _ _ _ _ (T20.setTop (mkF m 156 #[.val (.int p0), .val (.long q1), .second, .val (.ref b1), .val (.int (Int32.ofNat (kk + 1))), .unset, .unset, .unset, .unset, .unset, .unset] [(.int ((Int32.ofNat (kk + 1)) - (1 : Int32))), (.ref b1)]))
    rw [own_dn (by omega)]
    show own_Ends _ _ _ _ _ _ _ (T20.setTop (mkF m 156 #[.val (.int p0), .val (.long q1), .second, .val (.ref b1), .val (.int (Int32.ofNat (kk + 1))), .unset, .unset, .unset, .unset, .unset, .unset] [(.int (Int32.ofNat kk)), (.ref b1)]))
    refine own_step (fun _ k => X20.laload hx (j := (Int32.ofNat kk)) (v := (.long (own_p kk))) (by rw [e20]; exact ArA.1) (State.isArrayOf_alike hZ.alike ArA.2.1) ArA.2.2 (own_in SA hkk) (own_at SA hkk HA) (g := (mkF m 156 #[.val (.int p0), .val (.long q1), .second, .val (.ref b1), .val (.int (Int32.ofNat (kk + 1))), .unset, .unset, .unset, .unset, .unset, .unset] [(.int (Int32.ofNat kk)), (.ref b1)])) rfl rfl (hb hby at_156) _ k) ?_
    show own_Ends _ _ _ _ _ _ _ (T20.setTop (mkF m 157 #[.val (.int p0), .val (.long q1), .second, .val (.ref b1), .val (.int (Int32.ofNat (kk + 1))), .unset, .unset, .unset, .unset, .unset, .unset] [(.long (own_p kk))]))
    exact J157_21 _ (by rw [hpk]; omega) (Or.inr hpk) (by rw [hpk]; omega) (fun q => absurd q hk0)
set_option maxRecDepth 65536 in
set_option maxHeartbeats 40000000 in
theorem comes_1 {Post : Tables → Env → Array Value → State → Outcome → State → Prop} (hpost : ∀ tb e args s v u, (limb_1_1.after args s (.returned v) u = true ∧ limb_1_2.after args s (.returned v) u = true ∧ True) → FrameEnd s (.returned v) u (Jvm.fieldLocs frame_1_writes args s ++ Jvm.arrayLocs frame_1_arrays args s ++ Jvm.staticLocs frame_1_statics s) 16 128 → Post tb e args s (.returned v) u) :
    ArmFor flags0 classFile x code maxLocals ret World_1 tables_1 room_1 Calls_1 rest_1 Pre_1 Post := by
  intro l hfl _ _ p e ha hc hk s m args below hf hA hF happ hP
  obtain ⟨hcalls, hrest, hpre⟩ := hP
  obtain ⟨-, -, -, hnamed, -, -, -, hat⟩ := (Spec.applies_iff hf).mp happ
  obtain ⟨hg, hn⟩ := and_e (Cond.before_iff.mp (show (Jvm.Cond.and given_1 narrow_1).before args s = true from hpre))
  obtain ⟨g0, hg⟩ := and_e hg
  obtain ⟨ga0, hg⟩ := and_e hg
  obtain ⟨w0, w1, rfl⟩ : ∃ w0 w1 : Value, args = #[w0, w1] := by
    have hs : args.size = 2 := by simpa [Cond.value, given_1] using g0
    obtain ⟨L⟩ := args
    match L, hs with
    | [w0, w1], _ => exact ⟨w0, w1, rfl⟩
  have hw := fun d (hd : d ∈ tables_1) => atoms_spec (ws := Jvm.Cond.code x code maxLocals ret :: tables_1) hat d (List.mem_cons_of_mem _ hd)
  obtain ⟨i0, ei0⟩ := is_v ga0
  obtain rfl : w0 = (.int i0) := Option.some.inj ei0
  obtain ⟨i1, ei1⟩ := isL_v hg
  obtain rfl : w1 = (.long i1) := Option.some.inj ei1
  obtain ⟨n, o, h1, h2, h3, _, L, rfl, ⟨rfl, N⟩, hq⟩ := own_rm0 l s _ hw tables_1 i0 i1 s.heap s.heap.size (Nat.le_refl _)  p e ha hc hk s m _ below hf ((Spec.applies_iff_loose hf).mp happ).1 ⟨rfl, State.Warmed39.refl s, rfl⟩ trivial
  refine ⟨n, _, h1, h2, h3, hpost _ _ _ _ _ _ ⟨Cond.after_iff.mpr rfl, Cond.after_iff.mpr (eq_i res_at (Term.int_eval (1)) rfl), trivial⟩ ⟨hq.1, hq.2.1, (hq.2.2.sift fun y hy => Or.inr (N y hy)).mono (by decide) (by decide)⟩⟩
theorem main_1_1 : Claimed_1_1 := comes_1 fun _ _ _ _ _ _ h hF => ⟨h.1, hF⟩
theorem main_1_2 : Claimed_1_2 := comes_1 fun _ _ _ _ _ _ h hF => ⟨h.2.1, hF⟩
end Jvm.Pilot.@@N@@
namespace Jvm.Pilot.@@N@@
open Jvm Jvm.ClassFile Sem Op Lib Jvm.Free Jvm.Stand Jvm.Pilot.@@N@@.Jvm.D
/-! MADE BY PROGRAM (witnessworld.py) out of the Statement's table words and the real class files: 11 classes; the members and pool entries that the words name. The judged class is class 1, her method 1. -/
namespace start1
open Jvm.ClassFile
def u (s : String) : CpInfo := .utf8 (stringToUtf16 s)
/-- a pool by its gaps: so many unusable entries, then the entry; so many at the end -/
def gap : Nat → List CpInfo → List CpInfo
  | 0, r => r
  | n + 1, r => .unusable :: gap n r
def poolList (es : List (Nat × CpInfo)) (last : Nat) : List CpInfo := es.foldr (fun e r => gap e.1 (e.2 :: r)) (gap last [])
def pool (es : List (Nat × CpInfo)) (last : Nat) : Array CpInfo := ⟨poolList es last⟩
def fileOf (pool : Array CpInfo) (this : Nat) (attrs : Array Attribute := #[]) (ms : Array MethodInfo := #[]) (fl : Nat := 33) (sup : Nat := 0) (ifs : Array Nat := #[]) (fds : Array FieldInfo := #[]) : ClassFile where
  minorVersion := 0
  majorVersion := 65
  constantPool := pool
  accessFlags := fl
  thisClass := this
  superClass := sup
  interfaces := ifs
  fields := fds
  methods := ms
  attributes := attrs
def plain (name : String) (sup : Option ClassId) : Class where
  name := name
  kind := .ordinary
  loader := none
  accessFlags := 33
  super := sup
  interfaces := #[]
  cf := none
  fields := #[]
  methods := #[]
  instanceTypes := #[]
  staticTypes := #[]
  resolved := #[]
  callSites := []
  init := .initialized
  statics := none
  mirror := none

def pool0 : Array CpInfo := pool [(5, u "<init>"), (0, u "()V"), (1, .class_ 10), (1, u "java/lang/Object")] 113

def k0m0 : Method := { name := "<init>", desc := "()V", sig := { parameters := [], returnType := none }, accessFlags := 1, code := none }
/-- java/lang/Object -/
def k0 : Class := { plain "java/lang/Object" none with
  accessFlags := 33
  interfaces := #[]
  cf := some (fileOf pool0 8 #[] #[{ accessFlags := 1, nameIndex := 5, descriptorIndex := 6, attributes := #[] }] 33 0 #[] #[])
  fields := #[]
  methods := #[k0m0]
  instanceTypes := #[]
  staticTypes := #[]
  resolved := Array.replicate 124 none
  statics := none }

def pool1 : Array CpInfo := pool [(2, .class_ 4), (1, u "java/lang/Object"), (0, u "<init>"), (0, u "()V"), (0, .long 10), (1, .long 100), (1, .long 1000), (1, .long 10000), (1, .long 100000), (1, .long 1000000), (1, .long 10000000), (1, .long 100000000), (1, .long 1000000000), (1, .long 10000000000), (1, .long 100000000000), (1, .long 1000000000000), (1, .long 10000000000000), (1, .long 100000000000000), (1, .long 1000000000000000), (1, .long 10000000000000000), (1, .long 100000000000000000), (1, .long 1000000000000000000), (1, .integer 2147483647), (2, .long 9223372036854775807), (1, .methodref 49 50), (0, .class_ 51), (0, .nameAndType 52 53), (0, u "org/halflife/http/Decimal"), (0, u "length"), (0, u "(J)I"), (0, .class_ 55), (0, u "org/halflife/http/DecimalLengthPinLaw"), (2, u "law"), (0, u "(IJ)Z")] 5

def k1m0 : Method := { name := "<init>", desc := "()V", sig := { parameters := [], returnType := none }, accessFlags := 2, code := none }
def k1c1 : Code := { maxStack := 6, maxLocals := 11, code := code, exceptionTable := #[], attributes := #[] }
def k1m1 : Method := { name := "law", desc := "(IJ)Z", sig := { parameters := [.int, .long], returnType := some .boolean }, accessFlags := 9, code := some k1c1 }
/-- org/halflife/http/DecimalLengthPinLaw -/
def k1 : Class := { plain "org/halflife/http/DecimalLengthPinLaw" (some 0) with
  accessFlags := 49
  interfaces := #[]
  cf := some (fileOf pool1 54 #[] #[{ accessFlags := 2, nameIndex := 5, descriptorIndex := 6, attributes := #[] }, { accessFlags := 9, nameIndex := 58, descriptorIndex := 59, attributes := #[] }] 49 2 #[] #[])
  fields := #[]
  methods := #[k1m0, k1m1]
  instanceTypes := #[]
  staticTypes := #[]
  resolved := Array.replicate 65 none
  statics := none }

def pool2 : Array CpInfo := pool [(2, .class_ 4), (1, u "java/lang/Object"), (0, u "<init>"), (0, u "()V"), (0, .long 10), (2, .class_ 12), (1, u "org/halflife/http/Decimal"), (0, u "length"), (0, u "(J)I")] 22

def k2m0 : Method := { name := "<init>", desc := "()V", sig := { parameters := [], returnType := none }, accessFlags := 2, code := none }
def k2c1 : Code := { maxStack := 4, maxLocals := 5, code := prog_12_method_2_code, exceptionTable := #[], attributes := #[] }
def k2m1 : Method := { name := "length", desc := "(J)I", sig := { parameters := [.long], returnType := some .int }, accessFlags := 8, code := some k2c1 }
/-- org/halflife/http/Decimal -/
def k2 : Class := { plain "org/halflife/http/Decimal" (some 0) with
  accessFlags := 48
  interfaces := #[]
  cf := some (fileOf pool2 10 #[] #[{ accessFlags := 2, nameIndex := 5, descriptorIndex := 6, attributes := #[] }, { accessFlags := 8, nameIndex := 13, descriptorIndex := 14, attributes := #[] }] 48 2 #[] #[])
  fields := #[]
  methods := #[k2m0, k2m1]
  instanceTypes := #[]
  staticTypes := #[]
  resolved := Array.replicate 37 none
  statics := none }

def pool3 : Array CpInfo := pool [(1, u "java/lang/Cloneable"), (0, .class_ 1), (0, u "java/lang/Object"), (0, .class_ 3)] 3

/-- java/lang/Cloneable -/
def k3 : Class := { plain "java/lang/Cloneable" (some 0) with
  accessFlags := 1537
  interfaces := #[]
  cf := some (fileOf pool3 2 #[] #[] 1537 4 #[] #[])
  fields := #[]
  methods := #[]
  instanceTypes := #[]
  staticTypes := #[]
  resolved := Array.replicate 8 none
  statics := none }

def pool4 : Array CpInfo := pool [(1, u "java/io/Serializable"), (0, .class_ 1), (0, u "java/lang/Object"), (0, .class_ 3)] 3

/-- java/io/Serializable -/
def k4 : Class := { plain "java/io/Serializable" (some 0) with
  accessFlags := 1537
  interfaces := #[]
  cf := some (fileOf pool4 2 #[] #[] 1537 4 #[] #[])
  fields := #[]
  methods := #[]
  instanceTypes := #[]
  staticTypes := #[]
  resolved := Array.replicate 8 none
  statics := none }

/-- the primitive byte -/
def k5 : Class := { plain "byte" none with kind := .primitive 'B', accessFlags := 0x411 }
/-- [B -/
def k6 : Class := { plain "[B" (some 0) with kind := .array 5 .byte, interfaces := #[3, 4], accessFlags := 1041 }

/-- the primitive int -/
def k7 : Class := { plain "int" none with kind := .primitive 'I', accessFlags := 0x411 }
/-- [I -/
def k8 : Class := { plain "[I" (some 0) with kind := .array 7 .int, interfaces := #[3, 4], accessFlags := 1041 }

/-- the primitive long -/
def k9 : Class := { plain "long" none with kind := .primitive 'J', accessFlags := 0x411 }
/-- [J -/
def k10 : Class := { plain "[J" (some 0) with kind := .array 9 .long, interfaces := #[3, 4], accessFlags := 1041 }

def heap : Heap := #[]
def classes : Array Class := #[k0, k1, k2, k3, k4, k5, k6, k7, k8, k9, k10]
def interned : List (Array UInt16 × Addr) := []
def slotsUsed : Nat := 0
def theMethod : MethodId := ⟨1, 1⟩
def args0 : Array Value := #[.int 5, .long 7]
def aboutOver (below : List Frame) : State where
  vm := { classes := classes, interned := interned.toArray }
  heap := heap
  slotsUsed := slotsUsed
  threads := #[{ frames := .invoking theMethod args0 :: below }]
def below0 : List Frame := [.native { method := ⟨0, 0⟩, args := #[] }]
def about1 : State := aboutOver below0
def p0 : Program := .bare "" "" ""
def e0 : Env := launch0.env 0 0 0
theorem w_frames : about1.frames = Frame.invoking theMethod args0 :: below0 := rfl
set_option maxRecDepth 65536 in
theorem w_args : argsFit about1.vm theMethod args0 = true := by decide +kernel
set_option maxRecDepth 65536 in
theorem w_heap : heapFits about1 = true := by decide +kernel
set_option maxRecDepth 65536 in
theorem w_runnable : about1.curStatus? = some .runnable := by decide +kernel
set_option maxRecDepth 65536 in
theorem w_alone : about1.alone = true := by decide +kernel
set_option maxRecDepth 65536 in
theorem w_named : about1.methodNamed? x = some theMethod := by decide +kernel
set_option maxRecDepth 65536 in
theorem w_hears : about1.hears theMethod below0 = true := by decide +kernel
set_option maxRecDepth 65536 in
theorem w_ripe : about1.ripe theMethod args0 below0 = true := by decide +kernel
theorem w_running : about1.status = .running := rfl
set_option maxRecDepth 65536 in
theorem w_room : about1.hasRoom e0.platform room_1 = true :=
  launch0.hasRoom_least _ room_1 (by decide +kernel) (by decide +kernel) (by decide +kernel) (by decide +kernel) (by decide +kernel) (by decide +kernel)
theorem allAtoms_all (ts : List Jvm.Cond) (a : Array Jvm.Value) (st : Jvm.State) : (allAtoms ts).before a st = ts.all (fun c => c.before a st) := by
  induction ts with
  | nil => rfl
  | cons c t ih =>
    show (Jvm.Cond.and c (allAtoms t)).before a st = _
    rw [Jvm.Cond.before_and, ih, List.all_cons]
def words1 : List Jvm.Cond := Jvm.Cond.code x code maxLocals ret :: tables_1
/-- a 'code' word, met by the world's own term for the bytes: nothing is compared byte by byte -/
theorem code_word {y : MethodName} {bytes : ByteArray} {mx : Nat} {rt : Option FieldType} {a : Array Value} {s : State} {m : MethodId} {meth : Method} {c : Code} (h1 : s.methodNamed? y = some m) (h2 : s.vm.method? m = some meth) (h3 : meth.code = some c) (h4 : c.code = bytes)
    (h5 : (c.maxLocals == mx && c.exceptionTable.isEmpty && decide (c.maxStack ≤ mostOperands) && decide (meth.sig.returnType = rt) && !meth.locks && decide (parseMethodDescriptor y.desc = some meth.sig)) = true) : (Jvm.Cond.code y bytes mx rt).before a s = true := by
  simp only [Bool.and_eq_true, beq_iff_eq, Bool.not_eq_true', decide_eq_true_eq] at h5
  obtain ⟨⟨⟨⟨⟨g1, g2⟩, g3⟩, g4⟩, g5⟩, g6⟩ := h5
  simp [Cond.before, Cond.holds, Cond.value, h1, h2, h3, h4, g1, g2, g3, g4, g5, g6]
def isCode : Jvm.Cond → Bool
  | .code _ _ _ _ => true
  | _ => false
theorem all_split {L : List Jvm.Cond} {P : Jvm.Cond → Bool} (h1 : L.all (fun c => isCode c || P c) = true) (h2 : ∀ c ∈ L.filter isCode, P c = true) : L.all P = true := by
  refine List.all_eq_true.mpr fun c hc => ?_
  have h := List.all_eq_true.mp h1 c hc
  rcases Bool.eq_false_or_eq_true (isCode c) with hi | hi
  · exact h2 c (List.mem_filter.mpr ⟨hc, hi⟩)
  · simpa [hi] using h
set_option maxRecDepth 65536 in
theorem w_c0 : (Jvm.Cond.code x code maxLocals ret).before args0 about1 = true := code_word (m := ⟨1, 1⟩) (meth := k1m1) (c := k1c1) (by decide +kernel) rfl rfl rfl (by decide +kernel)
set_option maxRecDepth 65536 in
theorem w_c1 : (Jvm.Cond.code ({ cls := "org/halflife/http/Decimal", name := "length", desc := "(J)I" } : Jvm.MethodName) prog_12_method_2_code (5 : Nat) (Option.some Jvm.ClassFile.FieldType.int)).before args0 about1 = true := code_word (m := ⟨2, 1⟩) (meth := k2m1) (c := k2c1) (by decide +kernel) rfl rfl rfl (by decide +kernel)
def codes1 : List Jvm.Cond := [Jvm.Cond.code x code maxLocals ret, Jvm.Cond.code ({ cls := "org/halflife/http/Decimal", name := "length", desc := "(J)I" } : Jvm.MethodName) prog_12_method_2_code (5 : Nat) (Option.some Jvm.ClassFile.FieldType.int)]
set_option maxRecDepth 65536 in
theorem codes_eq : words1.filter isCode = codes1 := rfl
theorem w_codes : ∀ c ∈ words1.filter isCode, c.before args0 about1 = true := by
  rw [codes_eq]
  intro c hc
  simp only [codes1, List.mem_cons, List.not_mem_nil, or_false] at hc
  rcases hc with rfl | rfl
  · exact w_c0
  · exact w_c1
set_option maxRecDepth 65536 in
theorem w_t1 : (words1.take 24).all (fun c => isCode c || c.before args0 about1) = true := by decide +kernel
set_option maxRecDepth 65536 in
theorem w_t2 : (words1.drop 24).all (fun c => isCode c || c.before args0 about1) = true := by decide +kernel
theorem w_tables : (allAtoms (Jvm.Cond.code x code maxLocals ret :: tables_1)).before args0 about1 = true := by
  rw [allAtoms_all]
  show words1.all (fun c => c.before args0 about1) = true
  refine all_split ?_ w_codes
  rw [← List.take_append_drop 24 words1, List.all_append, w_t1, w_t2]
  rfl
set_option maxRecDepth 65536 in
theorem w_case : (Jvm.Cond.and given_1 narrow_1).before args0 about1 = true := by decide +kernel
theorem w_applies : (headSpec (Jvm.Cond.code x code maxLocals ret :: tables_1) room_1).applies x e0.platform about1 = true :=
  (Spec.applies_iff w_frames).mpr ⟨w_running, w_runnable, w_alone, w_named, w_hears, w_ripe, w_room, w_tables⟩
theorem atStart : AtStart classFile x code maxLocals ret World_1 tables_1 room_1 Calls_1 rest_1 Pre_1 launch0 p0 e0 about1 theMethod args0 below0 :=
  ⟨lists_1, trivial, launch0.admits_env _ _ _, launch0.least_env, fairChoices_fair.cas, fairChoices_fair.clock, w_frames, w_args, w_heap, w_applies, trivial, trivial, w_case⟩
end start1
theorem witness_1 : WitnessClaimed_1 := ⟨start1.p0, start1.e0, start1.about1, start1.theMethod, start1.args0, start1.below0, start1.atStart⟩
end Jvm.Pilot.@@N@@
