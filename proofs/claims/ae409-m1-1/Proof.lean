import JvmDerived
import JvmDerived.Pilot.@@N@@Statement
import JvmDerived.Pilot.@@N@@Code
set_option linter.unusedVariables false
set_option linter.unusedSimpArgs false
@@BLOCK:NumsL.lean.txt@@
namespace Jvm.Pilot.@@N@@
open Jvm Jvm.ClassFile Sem Op Lib Jvm.Free Jvm.Stand Jvm.LawKit Jvm.RoadKit Bundle Jvm.Pilot.@@N@@.Jvm.D
/-- the run that stands at st comes to a return: Q says what is returned, the heap and the places written; at most kc cells and ks slots are new -/
def own_Ends (p : Program) (e : Env) (below : List Frame) (s : State) (kc ks : Nat) (Q : Option Value → Heap → List Loc → Prop) (st : State) : Prop :=
  ∃ s₂ o, Steps p.tables e below st s₂ ∧ s₂.status = .running ∧ Ended s₂ below o ∧ ∃ v L, o = .returned v ∧ Q v s₂.heap L ∧ FrameEnd s o s₂ L kc ks
theorem own_step {p : Program} {e : Env} {below : List Frame} {s : State} {kc ks : Nat} {Q : Option Value → Heap → List Loc → Prop} {st st' : State}
    (h : ∀ t, Steps p.tables e below st' t → Steps p.tables e below st t) (k : own_Ends p e below s kc ks Q st') : own_Ends p e below s kc ks Q st := by
  obtain ⟨s₂, o, h1, h2⟩ := k
  exact ⟨s₂, o, h _ h1, h2⟩
theorem own_ret {p : Program} {l : Launch} {e : Env} {R : Room} {s : State} {m : MethodId} {args : Array Value} {below : List Frame} {meth : Method} {c : Code} {T : State} {locs : List Loc} {cells slots : Nat} {kc ks : Nat} {Q : Option Value → Heap → List Loc → Prop} {st : State}
    (X : Stand p l e R s m args below meth c T locs cells slots) (hlocks : meth.locks = false) {v : Option Value} (hv : meth.sig.returnType = none → v = none) (hq : Q v T.heap locs) (hc : cells ≤ kc) (hs : slots ≤ ks)
    (hr : ∀ fs, (∀ (f : JFrame) (acts : List Action), f.method = m → f.locked = none → f.entered = [] → (doReturn e (T.setTop f) acts v).1 = T.setFrames fs) → Steps p.tables e below st (T.setFrames fs)) : own_Ends p e below s kc ks Q st := by
  obtain ⟨fs, h1, hrun, hended, hW, hsame⟩ := X.leave (v := v) hv hlocks
  exact ⟨_, _, hr fs h1, hrun, hended, v, locs, rfl, hq, ⟨_, rfl⟩, hW, hsame.mono hc hs⟩

def own_us (l : Nat) : Nat := if 1024 ≤ l then l - 32 else l
def own_rung (i : Nat) : Nat := if i % 2 = 0 then own_us (2 ^ (i / 2 + 1)) else own_us (3 * 2 ^ (i / 2))
def own_P (k : Nat) : Int64 := Int64.ofNat (2 ^ (k + 1))
def own_H (k : Nat) : Int64 := Int64.ofNat (3 * 2 ^ k)
def own_R (i : Nat) : Int64 := Int64.ofNat (own_rung i)
theorem own_k1 : ∀ k : Fin 30, ¬ (2147483647 : Int64) < own_P k.val := by decide +kernel
theorem own_k2 : ∀ k : Fin 30, own_P k.val + own_P k.val / 2 = own_H k.val := by decide +kernel
theorem own_k3 : ∀ k : Fin 30, own_P k.val * 2 = own_P (k.val + 1) := by decide +kernel
theorem own_k4 : ∀ k : Fin 30, (own_P k.val < 1024 → own_P k.val = own_R (2 * k.val)) ∧ (¬ own_P k.val < 1024 → own_P k.val - 32 = own_R (2 * k.val)) := by decide +kernel
theorem own_k5 : ∀ k : Fin 30, (own_H k.val < 1024 → own_H k.val = own_R (2 * k.val + 1)) ∧ (¬ own_H k.val < 1024 → own_H k.val - 32 = own_R (2 * k.val + 1)) := by decide +kernel
theorem own_k6 : ∀ i : Fin 60, ¬ (2147483639 : Int64) < own_R i.val := by decide +kernel
theorem own_k7 : ∀ i : Fin 60, (own_R i.val).toInt32.toInt64 = own_R i.val := by decide +kernel
theorem own_k8 : ∀ i : Fin 60, ¬ (1610612704 : Int64) < own_R i.val := by decide +kernel
def own_AL (e r : Int32) : Prop := (∃ i : Nat, i < 60 ∧ r = (own_R i).toInt32 ∧ ¬ own_R i < e.toInt64 ∧ (i = 0 ∨ own_R (i - 1) < e.toInt64)) ∨ (own_R 59 < e.toInt64 ∧ r = 2147483639)
def own_pow2 (x : Int64) : Int32 := if 0 < x then (if x &&& (x - 1) = 0 then 1 else 0) else 0
def own_T (l : Int64) : Int32 := if l - l / 3 * 3 = 0 then (if own_pow2 (l / 3) = 0 then 0 else if l / 3 < 512 then 0 else if 536870912 < l / 3 then 0 else 1) else 0
def own_inL (r : Int64) : Int32 := if r < 2 then 0 else if 768 < r then (if own_pow2 (r + 32) = 0 then own_T (r + 32) else if r + 32 < 1024 then own_T (r + 32) else if 1073741824 < r + 32 then own_T (r + 32) else 1) else (if own_pow2 r = 0 then (if r - r / 3 * 3 = 0 then (if own_pow2 (r / 3) = 0 then 0 else 1) else 0) else 1)
def own_bl (r : Int64) : Int64 := if r < 992 then r else r + 32
def own_bp (l : Int64) : Int64 := if own_pow2 l = 0 then l / 3 * 2 else l / 4 * 3
def own_bq (x : Int64) : Int64 := if x < 1024 then x else x - 32
def own_below (r : Int64) : Int64 := own_bq (own_bp (own_bl r))
theorem own_k9 : ∀ i : Fin 60, own_inL (own_R i.val) = 1 := by decide +kernel
theorem own_k10 : ∀ i : Fin 60, own_below (own_R i.val) = if i.val = 0 then 0 else own_R (i.val - 1) := by decide +kernel
theorem own_lt {x y : Int64} : x < y ↔ x.toInt < y.toInt := Int64.lt_iff_toInt_lt
theorem own_pos {x : Int32} (h : ¬ x < 1) : (0 : Int64) < x.toInt64 := by
  rw [own_lt, c_i2l]
  rw [Int32.lt_iff_toInt_lt] at h
  have : (1 : Int32).toInt = 1 := rfl
  have : (0 : Int64).toInt = 0 := rfl
  omega
theorem own_d1_0 : decode method_2_code 0 = .ok (.lload_n 0, 1) := by decide +kernel
theorem own_d1_1 : decode method_2_code 1 = .ok (.lconst 0, 1) := by decide +kernel
theorem own_d1_2 : decode method_2_code 2 = .ok (.lcmp, 1) := by decide +kernel
theorem own_d1_3 : decode method_2_code 3 = .ok (.ifCond .le 17, 3) := by decide +kernel
theorem own_d1_6 : decode method_2_code 6 = .ok (.lload_n 0, 1) := by decide +kernel
theorem own_d1_7 : decode method_2_code 7 = .ok (.lload_n 0, 1) := by decide +kernel
theorem own_d1_8 : decode method_2_code 8 = .ok (.lconst 1, 1) := by decide +kernel
theorem own_d1_9 : decode method_2_code 9 = .ok (.lsub, 1) := by decide +kernel
theorem own_d1_10 : decode method_2_code 10 = .ok (.land, 1) := by decide +kernel
theorem own_d1_11 : decode method_2_code 11 = .ok (.lconst 0, 1) := by decide +kernel
theorem own_d1_12 : decode method_2_code 12 = .ok (.lcmp, 1) := by decide +kernel
theorem own_d1_13 : decode method_2_code 13 = .ok (.ifCond .ne 7, 3) := by decide +kernel
theorem own_d1_16 : decode method_2_code 16 = .ok (.iconst 1, 1) := by decide +kernel
theorem own_d1_17 : decode method_2_code 17 = .ok (.goto 4, 3) := by decide +kernel
theorem own_d1_20 : decode method_2_code 20 = .ok (.iconst 0, 1) := by decide +kernel
theorem own_d1_21 : decode method_2_code 21 = .ok (.ireturn, 1) := by decide +kernel
theorem own_pn0 : plainName "org/halflife/store/CapacitiesAtLeastPinLaw" = true := by first | (simp [plainName, overriddenIn]; done) | decide +kernel
theorem own_ef1 (m : MethodId) (q0 : Int64) : entryFrame m #[(.long q0)] 2 = mkF m 0 #[.val (.long q0), .second] [] := by first | (simp [entryFrame, mkF, argsToLocals, Value.category]; done) | rfl
def own_Q1 (Z : State) (q0 : Int64)  (h0 : Heap) (n0 : Nat) (v : Option Value) (h : Heap) (L : List Loc) : Prop := v = some (.int (own_pow2 q0)) ∧ Fr n0 L ∧ h = h0
set_option maxRecDepth 65536 in
set_option maxHeartbeats 40000000 in
theorem own_rm1 (l : Launch) (Z : State) (a0 : Array Value) (hw : ∀ d ∈ tables_1, d.before a0 Z = true) (ws : List Jvm.Cond) (q0 : Int64)  (h0 : Heap) (n0 : Nat) (Z0 : n0 ≤ h0.size)  :
    MetFree l (⟨"org/halflife/store/CapacitiesAtLeastPinLaw", "pow2", "(J)Z"⟩ : MethodName) (head1 (Jvm.Cond.code (⟨"org/halflife/store/CapacitiesAtLeastPinLaw", "pow2", "(J)Z"⟩ : MethodName) method_2_code 2 (some .boolean) :: ws) ({ frames := 0, cells := 0, slots := 0, locals := 0 } : Room)) (fun a U => a = #[(.long q0)] ∧ Z.Warmed39 U.vm ∧ U.heap = h0) (fun _ _ _ _ _ => True) (fun _ U o U' => ∃ v L, o = .returned v ∧ own_Q1 Z q0  h0 n0 v U'.heap L ∧ FrameEnd U o U' L ({ frames := 0, cells := 0, slots := 0, locals := 0 } : Room).cells ({ frames := 0, cells := 0, slots := 0, locals := 0 } : Room).slots) := by
  refine MetFree.of_bodySF (plainFor_of_name own_pn0) hisR ?_
  intro p e s m args below meth c s₁ Bd hml0 hP hK
  obtain ⟨rfl, hZ, hh⟩ := hP
  have hx := Bd.exec
  have hby := Bd.bytes
  have hml : c.maxLocals = 2 := hml0
  have hown : s.vm.findClass "org/halflife/store/CapacitiesAtLeastPinLaw" = some m.cls := findClass_of_methodNamed Bd.named
  have hnm := (name_of_methodNamed Bd.named Bd.method).1
  have X0 : Stand p l e ({ frames := 0, cells := 0, slots := 0, locals := 0 } : Room) s m #[(.long q0)] below meth c s₁ [] 0 0 := Stand.of_body Bd
  have e0 : s₁.heap = h0 := by rw [← hh, Bd.state]; rfl
  have N0 := Fr.nil n0
  suffices H : own_Ends p e below s ({ frames := 0, cells := 0, slots := 0, locals := 0 } : Room).cells ({ frames := 0, cells := 0, slots := 0, locals := 0 } : Room).slots (own_Q1 Z q0  h0 n0) (s₁.setTop (mkF m 0 #[.val (.long q0), .second] [])) by
    obtain ⟨s₂, o, h1, h2⟩ := H
    exact ⟨s₂, o, castTop (own_ef1 m q0) h1, h2⟩
  show own_Ends _ _ _ _ _ _ _ (s₁.setTop (mkF m 0 #[.val (.long q0), .second] []))
  refine own_step (fun _ k => XS.lloadN X0.here hx rfl (hb hby own_d1_0) rfl k) ?_
  show own_Ends _ _ _ _ _ _ _ (s₁.setTop (mkF m 1 #[.val (.long q0), .second] [(.long q0)]))
  refine own_step (fun _ k => XS.lconst X0.here hx rfl (hb hby own_d1_1) k) ?_
  show own_Ends _ _ _ _ _ _ _ (s₁.setTop (mkF m 2 #[.val (.long q0), .second] [(.long (0 : Int64)), (.long q0)]))
  refine own_step (fun _ k => XS.lcmp X0.here hx rfl (hb hby own_d1_2) rfl k) ?_
  show own_Ends _ _ _ _ _ _ _ (s₁.setTop (mkF m 3 #[.val (.long q0), .second] [(.int (lcmpW q0 (0 : Int64)))]))
  by_cases h1 : (0 : Int64) < q0
  · refine own_step (fun _ k => XS.ifNo X0.here hx rfl (hb hby own_d1_3) rfl ((if0 _ _).trans (tlt ((lw_gt _ _).mpr h1)).2.2.2) k) ?_
    show own_Ends _ _ _ _ _ _ _ (s₁.setTop (mkF m 6 #[.val (.long q0), .second] []))
    refine own_step (fun _ k => XS.lloadN X0.here hx rfl (hb hby own_d1_6) rfl k) ?_
    show own_Ends _ _ _ _ _ _ _ (s₁.setTop (mkF m 7 #[.val (.long q0), .second] [(.long q0)]))
    refine own_step (fun _ k => XS.lloadN X0.here hx rfl (hb hby own_d1_7) rfl k) ?_
    show own_Ends _ _ _ _ _ _ _ (s₁.setTop (mkF m 8 #[.val (.long q0), .second] [(.long q0), (.long q0)]))
    refine own_step (fun _ k => XS.lconst X0.here hx rfl (hb hby own_d1_8) k) ?_
    show own_Ends _ _ _ _ _ _ _ (s₁.setTop (mkF m 9 #[.val (.long q0), .second] [(.long (1 : Int64)), (.long q0), (.long q0)]))
    refine own_step (fun _ k => XS.lsub X0.here hx rfl (hb hby own_d1_9) rfl k) ?_
    show own_Ends _ _ _ _ _ _ _ (s₁.setTop (mkF m 10 #[.val (.long q0), .second] [(.long (q0 - (1 : Int64))), (.long q0)]))
    refine own_step (fun _ k => XS.land X0.here hx rfl (hb hby own_d1_10) rfl k) ?_
    show own_Ends _ _ _ _ _ _ _ (s₁.setTop (mkF m 11 #[.val (.long q0), .second] [(.long (q0 &&& (q0 - (1 : Int64))))]))
    refine own_step (fun _ k => XS.lconst X0.here hx rfl (hb hby own_d1_11) k) ?_
    show own_Ends _ _ _ _ _ _ _ (s₁.setTop (mkF m 12 #[.val (.long q0), .second] [(.long (0 : Int64)), (.long (q0 &&& (q0 - (1 : Int64))))]))
    refine own_step (fun _ k => XS.lcmp X0.here hx rfl (hb hby own_d1_12) rfl k) ?_
    show own_Ends _ _ _ _ _ _ _ (s₁.setTop (mkF m 13 #[.val (.long q0), .second] [(.int (lcmpW (q0 &&& (q0 - (1 : Int64))) (0 : Int64)))]))
    by_cases h2 : (q0 &&& (q0 - (1 : Int64))) = (0 : Int64)
    · refine own_step (fun _ k => XS.ifNo X0.here hx rfl (hb hby own_d1_13) rfl ((if0 _ _).trans (teq ((lw_eq _ _).mpr h2)).2) k) ?_
      show own_Ends _ _ _ _ _ _ _ (s₁.setTop (mkF m 16 #[.val (.long q0), .second] []))
      refine own_step (fun _ k => XS.iconst X0.here hx rfl (hb hby own_d1_16) k) ?_
      show own_Ends _ _ _ _ _ _ _ (s₁.setTop (mkF m 17 #[.val (.long q0), .second] [(.int (1 : Int32))]))
      refine own_step (fun _ k => XS.goto X0.here hx rfl (pc0 := 17) (pc' := 21) rfl (hb hby own_d1_17) (by decide) (by decide) k) ?_
      show own_Ends _ _ _ _ _ _ _ (s₁.setTop (mkF m 21 #[.val (.long q0), .second] [(.int (1 : Int32))]))
      refine own_ret X0 (BodyLoose.notSynchronized Bd) (v := (some (.int (1 : Int32)))) (fun h => by rw [Bd.returns] at h; cases h) ?_ (by decide) (by decide) (fun fs hr => X0.ireturnOut hx Bd.returns rfl (by simp) (hb hby own_d1_21) hr)
      show own_Q1 Z q0  h0 n0 (some (.int (1 : Int32))) s₁.heap _
      rw [e0]
      exact ⟨by simp [own_pow2, h1, h2], N0, rfl⟩
    · refine own_step (fun _ k => XS.ifYes X0.here hx rfl (pc0 := 13) (pc' := 20) rfl (hb hby own_d1_13) rfl ((if0 _ _).trans (feq (fun q => h2 ((lw_eq _ _).mp q))).2) (by decide) (by decide) k) ?_
      show own_Ends _ _ _ _ _ _ _ (s₁.setTop (mkF m 20 #[.val (.long q0), .second] []))
      refine own_step (fun _ k => XS.iconst X0.here hx rfl (hb hby own_d1_20) k) ?_
      show own_Ends _ _ _ _ _ _ _ (s₁.setTop (mkF m 21 #[.val (.long q0), .second] [(.int (0 : Int32))]))
      refine own_ret X0 (BodyLoose.notSynchronized Bd) (v := (some (.int (0 : Int32)))) (fun h => by rw [Bd.returns] at h; cases h) ?_ (by decide) (by decide) (fun fs hr => X0.ireturnOut hx Bd.returns rfl (by simp) (hb hby own_d1_21) hr)
      show own_Q1 Z q0  h0 n0 (some (.int (0 : Int32))) s₁.heap _
      rw [e0]
      exact ⟨by simp [own_pow2, h1, h2], N0, rfl⟩
  · refine own_step (fun _ k => XS.ifYes X0.here hx rfl (pc0 := 3) (pc' := 20) rfl (hb hby own_d1_3) rfl ((if0 _ _).trans (flt (fun q => h1 ((lw_gt _ _).mp q))).2.2.2) (by decide) (by decide) k) ?_
    show own_Ends _ _ _ _ _ _ _ (s₁.setTop (mkF m 20 #[.val (.long q0), .second] []))
    refine own_step (fun _ k => XS.iconst X0.here hx rfl (hb hby own_d1_20) k) ?_
    show own_Ends _ _ _ _ _ _ _ (s₁.setTop (mkF m 21 #[.val (.long q0), .second] [(.int (0 : Int32))]))
    refine own_ret X0 (BodyLoose.notSynchronized Bd) (v := (some (.int (0 : Int32)))) (fun h => by rw [Bd.returns] at h; cases h) ?_ (by decide) (by decide) (fun fs hr => X0.ireturnOut hx Bd.returns rfl (by simp) (hb hby own_d1_21) hr)
    show own_Q1 Z q0  h0 n0 (some (.int (0 : Int32))) s₁.heap _
    rw [e0]
    exact ⟨by simp [own_pow2, h1], N0, rfl⟩
theorem own_d2_0 : decode method_3_code 0 = .ok (.lload_n 0, 1) := by decide +kernel
theorem own_d2_1 : decode method_3_code 1 = .ok (.ldc2_w 7, 3) := by decide +kernel
theorem own_d2_4 : decode method_3_code 4 = .ok (.lcmp, 1) := by decide +kernel
theorem own_d2_5 : decode method_3_code 5 = .ok (.ifCond .ge 5, 3) := by decide +kernel
theorem own_d2_8 : decode method_3_code 8 = .ok (.iconst 0, 1) := by decide +kernel
theorem own_d2_9 : decode method_3_code 9 = .ok (.ireturn, 1) := by decide +kernel
theorem own_d2_10 : decode method_3_code 10 = .ok (.lload_n 0, 1) := by decide +kernel
theorem own_d2_11 : decode method_3_code 11 = .ok (.ldc2_w 9, 3) := by decide +kernel
theorem own_d2_14 : decode method_3_code 14 = .ok (.lcmp, 1) := by decide +kernel
theorem own_d2_15 : decode method_3_code 15 = .ok (.ifCond .gt 37, 3) := by decide +kernel
theorem own_d2_18 : decode method_3_code 18 = .ok (.lload_n 0, 1) := by decide +kernel
theorem own_d2_19 : decode method_3_code 19 = .ok (.invokestatic 11, 3) := by decide +kernel
theorem own_d2_22 : decode method_3_code 22 = .ok (.ifCond .ne 24, 3) := by decide +kernel
theorem own_d2_25 : decode method_3_code 25 = .ok (.lload_n 0, 1) := by decide +kernel
theorem own_d2_26 : decode method_3_code 26 = .ok (.ldc2_w 17, 3) := by decide +kernel
theorem own_d2_29 : decode method_3_code 29 = .ok (.lrem, 1) := by decide +kernel
theorem own_d2_30 : decode method_3_code 30 = .ok (.lconst 0, 1) := by decide +kernel
theorem own_d2_31 : decode method_3_code 31 = .ok (.lcmp, 1) := by decide +kernel
theorem own_d2_32 : decode method_3_code 32 = .ok (.ifCond .ne 18, 3) := by decide +kernel
theorem own_d2_35 : decode method_3_code 35 = .ok (.lload_n 0, 1) := by decide +kernel
theorem own_d2_36 : decode method_3_code 36 = .ok (.ldc2_w 17, 3) := by decide +kernel
theorem own_d2_39 : decode method_3_code 39 = .ok (.ldiv, 1) := by decide +kernel
theorem own_d2_40 : decode method_3_code 40 = .ok (.invokestatic 11, 3) := by decide +kernel
theorem own_d2_43 : decode method_3_code 43 = .ok (.ifCond .eq 7, 3) := by decide +kernel
theorem own_d2_46 : decode method_3_code 46 = .ok (.iconst 1, 1) := by decide +kernel
theorem own_d2_47 : decode method_3_code 47 = .ok (.goto 4, 3) := by decide +kernel
theorem own_d2_50 : decode method_3_code 50 = .ok (.iconst 0, 1) := by decide +kernel
theorem own_d2_51 : decode method_3_code 51 = .ok (.ireturn, 1) := by decide +kernel
theorem own_d2_52 : decode method_3_code 52 = .ok (.lload_n 0, 1) := by decide +kernel
theorem own_d2_53 : decode method_3_code 53 = .ok (.ldc2_w 19, 3) := by decide +kernel
theorem own_d2_56 : decode method_3_code 56 = .ok (.ladd, 1) := by decide +kernel
theorem own_d2_57 : decode method_3_code 57 = .ok (.lstore_n 2, 1) := by decide +kernel
theorem own_d2_58 : decode method_3_code 58 = .ok (.lload_n 2, 1) := by decide +kernel
theorem own_d2_59 : decode method_3_code 59 = .ok (.invokestatic 11, 3) := by decide +kernel
theorem own_d2_62 : decode method_3_code 62 = .ok (.ifCond .eq 21, 3) := by decide +kernel
theorem own_d2_65 : decode method_3_code 65 = .ok (.lload_n 2, 1) := by decide +kernel
theorem own_d2_66 : decode method_3_code 66 = .ok (.ldc2_w 21, 3) := by decide +kernel
theorem own_d2_69 : decode method_3_code 69 = .ok (.lcmp, 1) := by decide +kernel
theorem own_d2_70 : decode method_3_code 70 = .ok (.ifCond .lt 13, 3) := by decide +kernel
theorem own_d2_73 : decode method_3_code 73 = .ok (.lload_n 2, 1) := by decide +kernel
theorem own_d2_74 : decode method_3_code 74 = .ok (.ldc2_w 23, 3) := by decide +kernel
theorem own_d2_77 : decode method_3_code 77 = .ok (.lcmp, 1) := by decide +kernel
theorem own_d2_78 : decode method_3_code 78 = .ok (.ifCond .gt 5, 3) := by decide +kernel
theorem own_d2_81 : decode method_3_code 81 = .ok (.iconst 1, 1) := by decide +kernel
theorem own_d2_82 : decode method_3_code 82 = .ok (.ireturn, 1) := by decide +kernel
theorem own_d2_83 : decode method_3_code 83 = .ok (.lload_n 2, 1) := by decide +kernel
theorem own_d2_84 : decode method_3_code 84 = .ok (.ldc2_w 17, 3) := by decide +kernel
theorem own_d2_87 : decode method_3_code 87 = .ok (.lrem, 1) := by decide +kernel
theorem own_d2_88 : decode method_3_code 88 = .ok (.lconst 0, 1) := by decide +kernel
theorem own_d2_89 : decode method_3_code 89 = .ok (.lcmp, 1) := by decide +kernel
theorem own_d2_90 : decode method_3_code 90 = .ok (.ifCond .ne 42, 3) := by decide +kernel
theorem own_d2_93 : decode method_3_code 93 = .ok (.lload_n 2, 1) := by decide +kernel
theorem own_d2_94 : decode method_3_code 94 = .ok (.ldc2_w 17, 3) := by decide +kernel
theorem own_d2_97 : decode method_3_code 97 = .ok (.ldiv, 1) := by decide +kernel
theorem own_d2_98 : decode method_3_code 98 = .ok (.invokestatic 11, 3) := by decide +kernel
theorem own_d2_101 : decode method_3_code 101 = .ok (.ifCond .eq 31, 3) := by decide +kernel
theorem own_d2_104 : decode method_3_code 104 = .ok (.lload_n 2, 1) := by decide +kernel
theorem own_d2_105 : decode method_3_code 105 = .ok (.ldc2_w 17, 3) := by decide +kernel
theorem own_d2_108 : decode method_3_code 108 = .ok (.ldiv, 1) := by decide +kernel
theorem own_d2_109 : decode method_3_code 109 = .ok (.ldc2_w 25, 3) := by decide +kernel
theorem own_d2_112 : decode method_3_code 112 = .ok (.lcmp, 1) := by decide +kernel
theorem own_d2_113 : decode method_3_code 113 = .ok (.ifCond .lt 19, 3) := by decide +kernel
theorem own_d2_116 : decode method_3_code 116 = .ok (.lload_n 2, 1) := by decide +kernel
theorem own_d2_117 : decode method_3_code 117 = .ok (.ldc2_w 17, 3) := by decide +kernel
theorem own_d2_120 : decode method_3_code 120 = .ok (.ldiv, 1) := by decide +kernel
theorem own_d2_121 : decode method_3_code 121 = .ok (.ldc2_w 27, 3) := by decide +kernel
theorem own_d2_124 : decode method_3_code 124 = .ok (.lcmp, 1) := by decide +kernel
theorem own_d2_125 : decode method_3_code 125 = .ok (.ifCond .gt 7, 3) := by decide +kernel
theorem own_d2_128 : decode method_3_code 128 = .ok (.iconst 1, 1) := by decide +kernel
theorem own_d2_129 : decode method_3_code 129 = .ok (.goto 4, 3) := by decide +kernel
theorem own_d2_132 : decode method_3_code 132 = .ok (.iconst 0, 1) := by decide +kernel
theorem own_d2_133 : decode method_3_code 133 = .ok (.ireturn, 1) := by decide +kernel
theorem own_ef2 (m : MethodId) (q0 : Int64) : entryFrame m #[(.long q0)] 4 = mkF m 0 #[.val (.long q0), .second, .unset, .unset] [] := by first | (simp [entryFrame, mkF, argsToLocals, Value.category]; done) | rfl
theorem own_pd0 : parseMethodDescriptor "(J)Z" = some ⟨[.long], some .boolean⟩ := by decide +kernel
def own_Q2 (Z : State) (q0 : Int64)  (h0 : Heap) (n0 : Nat) (v : Option Value) (h : Heap) (L : List Loc) : Prop := v = some (.int (own_inL q0)) ∧ Fr n0 L ∧ h = h0
set_option maxRecDepth 65536 in
set_option maxHeartbeats 40000000 in
theorem own_rm2 (l : Launch) (Z : State) (a0 : Array Value) (hw : ∀ d ∈ tables_1, d.before a0 Z = true) (ws : List Jvm.Cond) (q0 : Int64)  (h0 : Heap) (n0 : Nat) (Z0 : n0 ≤ h0.size)  :
    MetFree l (⟨"org/halflife/store/CapacitiesAtLeastPinLaw", "inLadder", "(J)Z"⟩ : MethodName) (head1 (Jvm.Cond.code (⟨"org/halflife/store/CapacitiesAtLeastPinLaw", "inLadder", "(J)Z"⟩ : MethodName) method_3_code 4 (some .boolean) :: ws) ({ frames := 1, cells := 0, slots := 0, locals := 13 } : Room)) (fun a U => a = #[(.long q0)] ∧ Z.Warmed39 U.vm ∧ U.heap = h0) (fun _ _ _ _ _ => True) (fun _ U o U' => ∃ v L, o = .returned v ∧ own_Q2 Z q0  h0 n0 v U'.heap L ∧ FrameEnd U o U' L ({ frames := 1, cells := 0, slots := 0, locals := 13 } : Room).cells ({ frames := 1, cells := 0, slots := 0, locals := 13 } : Room).slots) := by
  refine MetFree.of_bodySF (plainFor_of_name own_pn0) hisR ?_
  intro p e s m args below meth c s₁ Bd hml0 hP hK
  obtain ⟨rfl, hZ, hh⟩ := hP
  have hx := Bd.exec
  have hby := Bd.bytes
  have hml : c.maxLocals = 4 := hml0
  have hown : s.vm.findClass "org/halflife/store/CapacitiesAtLeastPinLaw" = some m.cls := findClass_of_methodNamed Bd.named
  have hnm := (name_of_methodNamed Bd.named Bd.method).1
  have X0 : Stand p l e ({ frames := 1, cells := 0, slots := 0, locals := 13 } : Room) s m #[(.long q0)] below meth c s₁ [] 0 0 := Stand.of_body Bd
  have e0 : s₁.heap = h0 := by rw [← hh, Bd.state]; rfl
  have N0 := Fr.nil n0
  suffices H : own_Ends p e below s ({ frames := 1, cells := 0, slots := 0, locals := 13 } : Room).cells ({ frames := 1, cells := 0, slots := 0, locals := 13 } : Room).slots (own_Q2 Z q0  h0 n0) (s₁.setTop (mkF m 0 #[.val (.long q0), .second, .unset, .unset] [])) by
    obtain ⟨s₂, o, h1, h2⟩ := H
    exact ⟨s₂, o, castTop (own_ef2 m q0) h1, h2⟩
  show own_Ends _ _ _ _ _ _ _ (s₁.setTop (mkF m 0 #[.val (.long q0), .second, .unset, .unset] []))
  refine own_step (fun _ k => XS.lloadN X0.here hx rfl (hb hby own_d2_0) rfl k) ?_
  show own_Ends _ _ _ _ _ _ _ (s₁.setTop (mkF m 1 #[.val (.long q0), .second, .unset, .unset] [(.long q0)]))
  refine own_step (fun _ k => X0.ldc2Long hx hown (mvT hZ (hw _ (List.mem_of_getElem? (i := 15) rfl))) (g := (mkF m 1 #[.val (.long q0), .second, .unset, .unset] [(.long q0)])) rfl (hb hby own_d2_1) _ k) ?_
  show own_Ends _ _ _ _ _ _ _ (s₁.setTop (mkF m 4 #[.val (.long q0), .second, .unset, .unset] [(.long (2 : Int64)), (.long q0)]))
  refine own_step (fun _ k => XS.lcmp X0.here hx rfl (hb hby own_d2_4) rfl k) ?_
  show own_Ends _ _ _ _ _ _ _ (s₁.setTop (mkF m 5 #[.val (.long q0), .second, .unset, .unset] [(.int (lcmpW q0 (2 : Int64)))]))
  by_cases h1 : q0 < (2 : Int64)
  · refine own_step (fun _ k => XS.ifNo X0.here hx rfl (hb hby own_d2_5) rfl ((if0 _ _).trans (tlt ((lw_lt _ _).mpr h1)).2.1) k) ?_
    show own_Ends _ _ _ _ _ _ _ (s₁.setTop (mkF m 8 #[.val (.long q0), .second, .unset, .unset] []))
    refine own_step (fun _ k => XS.iconst X0.here hx rfl (hb hby own_d2_8) k) ?_
    show own_Ends _ _ _ _ _ _ _ (s₁.setTop (mkF m 9 #[.val (.long q0), .second, .unset, .unset] [(.int (0 : Int32))]))
    refine own_ret X0 (BodyLoose.notSynchronized Bd) (v := (some (.int (0 : Int32)))) (fun h => by rw [Bd.returns] at h; cases h) ?_ (by decide) (by decide) (fun fs hr => X0.ireturnOut hx Bd.returns rfl (by simp) (hb hby own_d2_9) hr)
    show own_Q2 Z q0  h0 n0 (some (.int (0 : Int32))) s₁.heap _
    rw [e0]
    refine ⟨?_, N0, rfl⟩
    simp only [own_inL, if_pos h1]
  · refine own_step (fun _ k => XS.ifYes X0.here hx rfl (pc0 := 5) (pc' := 10) rfl (hb hby own_d2_5) rfl ((if0 _ _).trans (flt (fun q => h1 ((lw_lt _ _).mp q))).2.1) (by decide) (by decide) k) ?_
    show own_Ends _ _ _ _ _ _ _ (s₁.setTop (mkF m 10 #[.val (.long q0), .second, .unset, .unset] []))
    refine own_step (fun _ k => XS.lloadN X0.here hx rfl (hb hby own_d2_10) rfl k) ?_
    show own_Ends _ _ _ _ _ _ _ (s₁.setTop (mkF m 11 #[.val (.long q0), .second, .unset, .unset] [(.long q0)]))
    refine own_step (fun _ k => X0.ldc2Long hx hown (mvT hZ (hw _ (List.mem_of_getElem? (i := 16) rfl))) (g := (mkF m 11 #[.val (.long q0), .second, .unset, .unset] [(.long q0)])) rfl (hb hby own_d2_11) _ k) ?_
    show own_Ends _ _ _ _ _ _ _ (s₁.setTop (mkF m 14 #[.val (.long q0), .second, .unset, .unset] [(.long (768 : Int64)), (.long q0)]))
    refine own_step (fun _ k => XS.lcmp X0.here hx rfl (hb hby own_d2_14) rfl k) ?_
    show own_Ends _ _ _ _ _ _ _ (s₁.setTop (mkF m 15 #[.val (.long q0), .second, .unset, .unset] [(.int (lcmpW q0 (768 : Int64)))]))
    by_cases h2 : (768 : Int64) < q0
    · refine own_step (fun _ k => XS.ifYes X0.here hx rfl (pc0 := 15) (pc' := 52) rfl (hb hby own_d2_15) rfl ((if0 _ _).trans (tlt ((lw_gt _ _).mpr h2)).2.2.1) (by decide) (by decide) k) ?_
      show own_Ends _ _ _ _ _ _ _ (s₁.setTop (mkF m 52 #[.val (.long q0), .second, .unset, .unset] []))
      refine own_step (fun _ k => XS.lloadN X0.here hx rfl (hb hby own_d2_52) rfl k) ?_
      show own_Ends _ _ _ _ _ _ _ (s₁.setTop (mkF m 53 #[.val (.long q0), .second, .unset, .unset] [(.long q0)]))
      refine own_step (fun _ k => X0.ldc2Long hx hown (mvT hZ (hw _ (List.mem_of_getElem? (i := 28) rfl))) (g := (mkF m 53 #[.val (.long q0), .second, .unset, .unset] [(.long q0)])) rfl (hb hby own_d2_53) _ k) ?_
      show own_Ends _ _ _ _ _ _ _ (s₁.setTop (mkF m 56 #[.val (.long q0), .second, .unset, .unset] [(.long (32 : Int64)), (.long q0)]))
      refine own_step (fun _ k => XS.ladd X0.here hx rfl (hb hby own_d2_56) rfl k) ?_
      show own_Ends _ _ _ _ _ _ _ (s₁.setTop (mkF m 57 #[.val (.long q0), .second, .unset, .unset] [(.long (q0 + (32 : Int64)))]))
      refine own_step (fun _ k => XS.lstoreN X0.here hx rfl (hb hby own_d2_57) rfl (l' := #[.val (.long q0), .second, .val (.long (q0 + (32 : Int64))), .second]) rfl k) ?_
      show own_Ends _ _ _ _ _ _ _ (s₁.setTop (mkF m 58 #[.val (.long q0), .second, .val (.long (q0 + (32 : Int64))), .second] []))
      have J83_3 : ∀ (lJ3 : List Loc) (NJ3 : Fr n0 lJ3) (TJ3 : State) (XJ3 : Stand p l e ({ frames := 1, cells := 0, slots := 0, locals := 13 } : Room) s m #[(.long q0)] below meth c TJ3 lJ3 0 0) (eJ3 : TJ3.heap = h0) (hT : own_inL q0 = own_T (q0 + 32)), own_Ends p e below s ({ frames := 1, cells := 0, slots := 0, locals := 13 } : Room).cells ({ frames := 1, cells := 0, slots := 0, locals := 13 } : Room).slots (own_Q2 Z q0  h0 n0) (TJ3.setTop (mkF m 83 #[.val (.long q0), .second, .val (.long (q0 + (32 : Int64))), .second] [])) := by
        intro lJ3 NJ3 TJ3 XJ3 eJ3 hT
        show own_Ends _ _ _ _ _ _ _ (TJ3.setTop (mkF m 83 #[.val (.long q0), .second, .val (.long (q0 + (32 : Int64))), .second] []))
        refine own_step (fun _ k => XS.lloadN XJ3.here hx rfl (hb hby own_d2_83) rfl k) ?_
        show own_Ends _ _ _ _ _ _ _ (TJ3.setTop (mkF m 84 #[.val (.long q0), .second, .val (.long (q0 + (32 : Int64))), .second] [(.long (q0 + (32 : Int64)))]))
        refine own_step (fun _ k => XJ3.ldc2Long hx hown (mvT hZ (hw _ (List.mem_of_getElem? (i := 25) rfl))) (g := (mkF m 84 #[.val (.long q0), .second, .val (.long (q0 + (32 : Int64))), .second] [(.long (q0 + (32 : Int64)))])) rfl (hb hby own_d2_84) _ k) ?_
        show own_Ends _ _ _ _ _ _ _ (TJ3.setTop (mkF m 87 #[.val (.long q0), .second, .val (.long (q0 + (32 : Int64))), .second] [(.long (3 : Int64)), (.long (q0 + (32 : Int64)))]))
        refine own_step (fun _ k => XS.lrem XJ3.here hx rfl (hb hby own_d2_87) rfl (by decide) k) ?_
        show own_Ends _ _ _ _ _ _ _ (TJ3.setTop (mkF m 88 #[.val (.long q0), .second, .val (.long (q0 + (32 : Int64))), .second] [(.long ((q0 + (32 : Int64)) - ((q0 + (32 : Int64)) / (3 : Int64)) * (3 : Int64)))]))
        refine own_step (fun _ k => XS.lconst XJ3.here hx rfl (hb hby own_d2_88) k) ?_
        show own_Ends _ _ _ _ _ _ _ (TJ3.setTop (mkF m 89 #[.val (.long q0), .second, .val (.long (q0 + (32 : Int64))), .second] [(.long (0 : Int64)), (.long ((q0 + (32 : Int64)) - ((q0 + (32 : Int64)) / (3 : Int64)) * (3 : Int64)))]))
        refine own_step (fun _ k => XS.lcmp XJ3.here hx rfl (hb hby own_d2_89) rfl k) ?_
        show own_Ends _ _ _ _ _ _ _ (TJ3.setTop (mkF m 90 #[.val (.long q0), .second, .val (.long (q0 + (32 : Int64))), .second] [(.int (lcmpW ((q0 + (32 : Int64)) - ((q0 + (32 : Int64)) / (3 : Int64)) * (3 : Int64)) (0 : Int64)))]))
        by_cases g1 : ((q0 + (32 : Int64)) - ((q0 + (32 : Int64)) / (3 : Int64)) * (3 : Int64)) = (0 : Int64)
        · refine own_step (fun _ k => XS.ifNo XJ3.here hx rfl (hb hby own_d2_90) rfl ((if0 _ _).trans (teq ((lw_eq _ _).mpr g1)).2) k) ?_
          show own_Ends _ _ _ _ _ _ _ (TJ3.setTop (mkF m 93 #[.val (.long q0), .second, .val (.long (q0 + (32 : Int64))), .second] []))
          refine own_step (fun _ k => XS.lloadN XJ3.here hx rfl (hb hby own_d2_93) rfl k) ?_
          show own_Ends _ _ _ _ _ _ _ (TJ3.setTop (mkF m 94 #[.val (.long q0), .second, .val (.long (q0 + (32 : Int64))), .second] [(.long (q0 + (32 : Int64)))]))
          refine own_step (fun _ k => XJ3.ldc2Long hx hown (mvT hZ (hw _ (List.mem_of_getElem? (i := 25) rfl))) (g := (mkF m 94 #[.val (.long q0), .second, .val (.long (q0 + (32 : Int64))), .second] [(.long (q0 + (32 : Int64)))])) rfl (hb hby own_d2_94) _ k) ?_
          show own_Ends _ _ _ _ _ _ _ (TJ3.setTop (mkF m 97 #[.val (.long q0), .second, .val (.long (q0 + (32 : Int64))), .second] [(.long (3 : Int64)), (.long (q0 + (32 : Int64)))]))
          refine own_step (fun _ k => XS.ldiv XJ3.here hx rfl (hb hby own_d2_97) rfl (by decide) k) ?_
          show own_Ends _ _ _ _ _ _ _ (TJ3.setTop (mkF m 98 #[.val (.long q0), .second, .val (.long (q0 + (32 : Int64))), .second] [(.long ((q0 + (32 : Int64)) / (3 : Int64)))]))
          obtain ⟨_, _, ⟨T5, L5, k5, n5⟩, -, X5, ⟨Lc5, hQ5, l5, y5, z5⟩, st5⟩ := Jvm.LawKit.callS XJ3 hx (y := (⟨"org/halflife/store/CapacitiesAtLeastPinLaw", "pow2", "(J)Z"⟩ : MethodName)) hown (mvT hZ (hw _ (List.mem_of_getElem? (i := 17) rfl))) (mvT hZ (hw _ (List.mem_of_getElem? (i := 18) rfl))) (mvT hZ (hw _ (List.mem_of_getElem? (i := 13) rfl))) (mvT hZ (hw _ (List.mem_of_getElem? (i := 19) rfl))) (by decide) (backOf (W := 0) (own_rm1 l Z a0 hw [] ((q0 + (32 : Int64)) / (3 : Int64))  h0 n0 Z0 ) hZ (hw _ (List.mem_of_getElem? (i := 19) rfl)) (hw _ (List.mem_of_getElem? (i := 13) rfl)) (by decide) (by decide)) (g := (mkF m 98 #[.val (.long q0), .second, .val (.long (q0 + (32 : Int64))), .second] [(.long ((q0 + (32 : Int64)) / (3 : Int64)))])) rfl (by rw [hml]; rfl) (argsL := [(.long ((q0 + (32 : Int64)) / (3 : Int64)))]) (rest := []) (lenOf own_pd0 rfl) rfl (by show 2 * 0 + _ ≤ _; exact Nat.le_of_eq rfl) (hb hby own_d2_98) (fun _ _ => ⟨rfl, eJ3, (by decide : 0 + 0 ≤ _), (by decide : 0 + 0 ≤ _)⟩)
          dsimp only [Pt.U, Pt.locs, Pt.cells, Pt.slots] at X5 l5 y5 z5 st5 hQ5
          subst l5 y5 z5
          obtain ⟨rfl, Nq5, e5⟩ := hQ5
          have N5 := Fr.app NJ3 Nq5
          refine own_step (fun _ k => st5 _ k) ?_
          show own_Ends _ _ _ _ _ _ _ (T5.setTop (mkF m 101 #[.val (.long q0), .second, .val (.long (q0 + (32 : Int64))), .second] [(.int (own_pow2 ((q0 + (32 : Int64)) / (3 : Int64))))]))
          by_cases g2 : (own_pow2 ((q0 + (32 : Int64)) / (3 : Int64))) = (0 : Int32)
          · refine own_step (fun _ k => XS.ifYes X5.here hx rfl (pc0 := 101) (pc' := 132) rfl (hb hby own_d2_101) rfl ((if0 _ _).trans (teq g2).1) (by decide) (by decide) k) ?_
            show own_Ends _ _ _ _ _ _ _ (T5.setTop (mkF m 132 #[.val (.long q0), .second, .val (.long (q0 + (32 : Int64))), .second] []))
            refine own_step (fun _ k => XS.iconst X5.here hx rfl (hb hby own_d2_132) k) ?_
            show own_Ends _ _ _ _ _ _ _ (T5.setTop (mkF m 133 #[.val (.long q0), .second, .val (.long (q0 + (32 : Int64))), .second] [(.int (0 : Int32))]))
            refine own_ret X5 (BodyLoose.notSynchronized Bd) (v := (some (.int (0 : Int32)))) (fun h => by rw [Bd.returns] at h; cases h) ?_ (by decide) (by decide) (fun fs hr => X5.ireturnOut hx Bd.returns rfl (by simp) (hb hby own_d2_133) hr)
            show own_Q2 Z q0  h0 n0 (some (.int (0 : Int32))) T5.heap _
            rw [e5]
            refine ⟨?_, N5, rfl⟩
            rw [hT]
            simp only [own_T, if_pos g1, if_pos g2]
          · refine own_step (fun _ k => XS.ifNo X5.here hx rfl (hb hby own_d2_101) rfl ((if0 _ _).trans (feq g2).1) k) ?_
            show own_Ends _ _ _ _ _ _ _ (T5.setTop (mkF m 104 #[.val (.long q0), .second, .val (.long (q0 + (32 : Int64))), .second] []))
            refine own_step (fun _ k => XS.lloadN X5.here hx rfl (hb hby own_d2_104) rfl k) ?_
            show own_Ends _ _ _ _ _ _ _ (T5.setTop (mkF m 105 #[.val (.long q0), .second, .val (.long (q0 + (32 : Int64))), .second] [(.long (q0 + (32 : Int64)))]))
            refine own_step (fun _ k => X5.ldc2Long hx hown (mvT hZ (hw _ (List.mem_of_getElem? (i := 25) rfl))) (g := (mkF m 105 #[.val (.long q0), .second, .val (.long (q0 + (32 : Int64))), .second] [(.long (q0 + (32 : Int64)))])) rfl (hb hby own_d2_105) _ k) ?_
            show own_Ends _ _ _ _ _ _ _ (T5.setTop (mkF m 108 #[.val (.long q0), .second, .val (.long (q0 + (32 : Int64))), .second] [(.long (3 : Int64)), (.long (q0 + (32 : Int64)))]))
            refine own_step (fun _ k => XS.ldiv X5.here hx rfl (hb hby own_d2_108) rfl (by decide) k) ?_
            show own_Ends _ _ _ _ _ _ _ (T5.setTop (mkF m 109 #[.val (.long q0), .second, .val (.long (q0 + (32 : Int64))), .second] [(.long ((q0 + (32 : Int64)) / (3 : Int64)))]))
            refine own_step (fun _ k => X5.ldc2Long hx hown (mvT hZ (hw _ (List.mem_of_getElem? (i := 29) rfl))) (g := (mkF m 109 #[.val (.long q0), .second, .val (.long (q0 + (32 : Int64))), .second] [(.long ((q0 + (32 : Int64)) / (3 : Int64)))])) rfl (hb hby own_d2_109) _ k) ?_
            show own_Ends _ _ _ _ _ _ _ (T5.setTop (mkF m 112 #[.val (.long q0), .second, .val (.long (q0 + (32 : Int64))), .second] [(.long (512 : Int64)), (.long ((q0 + (32 : Int64)) / (3 : Int64)))]))
            refine own_step (fun _ k => XS.lcmp X5.here hx rfl (hb hby own_d2_112) rfl k) ?_
            show own_Ends _ _ _ _ _ _ _ (T5.setTop (mkF m 113 #[.val (.long q0), .second, .val (.long (q0 + (32 : Int64))), .second] [(.int (lcmpW ((q0 + (32 : Int64)) / (3 : Int64)) (512 : Int64)))]))
            by_cases g3 : ((q0 + (32 : Int64)) / (3 : Int64)) < (512 : Int64)
            · refine own_step (fun _ k => XS.ifYes X5.here hx rfl (pc0 := 113) (pc' := 132) rfl (hb hby own_d2_113) rfl ((if0 _ _).trans (tlt ((lw_lt _ _).mpr g3)).1) (by decide) (by decide) k) ?_
              show own_Ends _ _ _ _ _ _ _ (T5.setTop (mkF m 132 #[.val (.long q0), .second, .val (.long (q0 + (32 : Int64))), .second] []))
              refine own_step (fun _ k => XS.iconst X5.here hx rfl (hb hby own_d2_132) k) ?_
              show own_Ends _ _ _ _ _ _ _ (T5.setTop (mkF m 133 #[.val (.long q0), .second, .val (.long (q0 + (32 : Int64))), .second] [(.int (0 : Int32))]))
              refine own_ret X5 (BodyLoose.notSynchronized Bd) (v := (some (.int (0 : Int32)))) (fun h => by rw [Bd.returns] at h; cases h) ?_ (by decide) (by decide) (fun fs hr => X5.ireturnOut hx Bd.returns rfl (by simp) (hb hby own_d2_133) hr)
              show own_Q2 Z q0  h0 n0 (some (.int (0 : Int32))) T5.heap _
              rw [e5]
              refine ⟨?_, N5, rfl⟩
              rw [hT]
              simp only [own_T, if_pos g1, if_neg g2, if_pos g3]
            · refine own_step (fun _ k => XS.ifNo X5.here hx rfl (hb hby own_d2_113) rfl ((if0 _ _).trans (flt (fun q => g3 ((lw_lt _ _).mp q))).1) k) ?_
              show own_Ends _ _ _ _ _ _ _ (T5.setTop (mkF m 116 #[.val (.long q0), .second, .val (.long (q0 + (32 : Int64))), .second] []))
              refine own_step (fun _ k => XS.lloadN X5.here hx rfl (hb hby own_d2_116) rfl k) ?_
              show own_Ends _ _ _ _ _ _ _ (T5.setTop (mkF m 117 #[.val (.long q0), .second, .val (.long (q0 + (32 : Int64))), .second] [(.long (q0 + (32 : Int64)))]))
              refine own_step (fun _ k => X5.ldc2Long hx hown (mvT hZ (hw _ (List.mem_of_getElem? (i := 25) rfl))) (g := (mkF m 117 #[.val (.long q0), .second, .val (.long (q0 + (32 : Int64))), .second] [(.long (q0 + (32 : Int64)))])) rfl (hb hby own_d2_117) _ k) ?_
              show own_Ends _ _ _ _ _ _ _ (T5.setTop (mkF m 120 #[.val (.long q0), .second, .val (.long (q0 + (32 : Int64))), .second] [(.long (3 : Int64)), (.long (q0 + (32 : Int64)))]))
              refine own_step (fun _ k => XS.ldiv X5.here hx rfl (hb hby own_d2_120) rfl (by decide) k) ?_
              show own_Ends _ _ _ _ _ _ _ (T5.setTop (mkF m 121 #[.val (.long q0), .second, .val (.long (q0 + (32 : Int64))), .second] [(.long ((q0 + (32 : Int64)) / (3 : Int64)))]))
              refine own_step (fun _ k => X5.ldc2Long hx hown (mvT hZ (hw _ (List.mem_of_getElem? (i := 30) rfl))) (g := (mkF m 121 #[.val (.long q0), .second, .val (.long (q0 + (32 : Int64))), .second] [(.long ((q0 + (32 : Int64)) / (3 : Int64)))])) rfl (hb hby own_d2_121) _ k) ?_
              show own_Ends _ _ _ _ _ _ _ (T5.setTop (mkF m 124 #[.val (.long q0), .second, .val (.long (q0 + (32 : Int64))), .second] [(.long (536870912 : Int64)), (.long ((q0 + (32 : Int64)) / (3 : Int64)))]))
              refine own_step (fun _ k => XS.lcmp X5.here hx rfl (hb hby own_d2_124) rfl k) ?_
              show own_Ends _ _ _ _ _ _ _ (T5.setTop (mkF m 125 #[.val (.long q0), .second, .val (.long (q0 + (32 : Int64))), .second] [(.int (lcmpW ((q0 + (32 : Int64)) / (3 : Int64)) (536870912 : Int64)))]))
              by_cases g4 : (536870912 : Int64) < ((q0 + (32 : Int64)) / (3 : Int64))
              · refine own_step (fun _ k => XS.ifYes X5.here hx rfl (pc0 := 125) (pc' := 132) rfl (hb hby own_d2_125) rfl ((if0 _ _).trans (tlt ((lw_gt _ _).mpr g4)).2.2.1) (by decide) (by decide) k) ?_
                show own_Ends _ _ _ _ _ _ _ (T5.setTop (mkF m 132 #[.val (.long q0), .second, .val (.long (q0 + (32 : Int64))), .second] []))
                refine own_step (fun _ k => XS.iconst X5.here hx rfl (hb hby own_d2_132) k) ?_
                show own_Ends _ _ _ _ _ _ _ (T5.setTop (mkF m 133 #[.val (.long q0), .second, .val (.long (q0 + (32 : Int64))), .second] [(.int (0 : Int32))]))
                refine own_ret X5 (BodyLoose.notSynchronized Bd) (v := (some (.int (0 : Int32)))) (fun h => by rw [Bd.returns] at h; cases h) ?_ (by decide) (by decide) (fun fs hr => X5.ireturnOut hx Bd.returns rfl (by simp) (hb hby own_d2_133) hr)
                show own_Q2 Z q0  h0 n0 (some (.int (0 : Int32))) T5.heap _
                rw [e5]
                refine ⟨?_, N5, rfl⟩
                rw [hT]
                simp only [own_T, if_pos g1, if_neg g2, if_neg g3, if_pos g4]
              · refine own_step (fun _ k => XS.ifNo X5.here hx rfl (hb hby own_d2_125) rfl ((if0 _ _).trans (flt (fun q => g4 ((lw_gt _ _).mp q))).2.2.1) k) ?_
                show own_Ends _ _ _ _ _ _ _ (T5.setTop (mkF m 128 #[.val (.long q0), .second, .val (.long (q0 + (32 : Int64))), .second] []))
                refine own_step (fun _ k => XS.iconst X5.here hx rfl (hb hby own_d2_128) k) ?_
                show own_Ends _ _ _ _ _ _ _ (T5.setTop (mkF m 129 #[.val (.long q0), .second, .val (.long (q0 + (32 : Int64))), .second] [(.int (1 : Int32))]))
                refine own_step (fun _ k => XS.goto X5.here hx rfl (pc0 := 129) (pc' := 133) rfl (hb hby own_d2_129) (by decide) (by decide) k) ?_
                show own_Ends _ _ _ _ _ _ _ (T5.setTop (mkF m 133 #[.val (.long q0), .second, .val (.long (q0 + (32 : Int64))), .second] [(.int (1 : Int32))]))
                refine own_ret X5 (BodyLoose.notSynchronized Bd) (v := (some (.int (1 : Int32)))) (fun h => by rw [Bd.returns] at h; cases h) ?_ (by decide) (by decide) (fun fs hr => X5.ireturnOut hx Bd.returns rfl (by simp) (hb hby own_d2_133) hr)
                show own_Q2 Z q0  h0 n0 (some (.int (1 : Int32))) T5.heap _
                rw [e5]
                refine ⟨?_, N5, rfl⟩
                rw [hT]
                simp only [own_T, if_pos g1, if_neg g2, if_neg g3, if_neg g4]
        · refine own_step (fun _ k => XS.ifYes XJ3.here hx rfl (pc0 := 90) (pc' := 132) rfl (hb hby own_d2_90) rfl ((if0 _ _).trans (feq (fun q => g1 ((lw_eq _ _).mp q))).2) (by decide) (by decide) k) ?_
          show own_Ends _ _ _ _ _ _ _ (TJ3.setTop (mkF m 132 #[.val (.long q0), .second, .val (.long (q0 + (32 : Int64))), .second] []))
          refine own_step (fun _ k => XS.iconst XJ3.here hx rfl (hb hby own_d2_132) k) ?_
          show own_Ends _ _ _ _ _ _ _ (TJ3.setTop (mkF m 133 #[.val (.long q0), .second, .val (.long (q0 + (32 : Int64))), .second] [(.int (0 : Int32))]))
          refine own_ret XJ3 (BodyLoose.notSynchronized Bd) (v := (some (.int (0 : Int32)))) (fun h => by rw [Bd.returns] at h; cases h) ?_ (by decide) (by decide) (fun fs hr => XJ3.ireturnOut hx Bd.returns rfl (by simp) (hb hby own_d2_133) hr)
          show own_Q2 Z q0  h0 n0 (some (.int (0 : Int32))) TJ3.heap _
          rw [eJ3]
          refine ⟨?_, NJ3, rfl⟩
          rw [hT]
          simp only [own_T, if_neg g1]
      refine own_step (fun _ k => XS.lloadN X0.here hx rfl (hb hby own_d2_58) rfl k) ?_
      show own_Ends _ _ _ _ _ _ _ (s₁.setTop (mkF m 59 #[.val (.long q0), .second, .val (.long (q0 + (32 : Int64))), .second] [(.long (q0 + (32 : Int64)))]))
      obtain ⟨_, _, ⟨T4, L4, k4, n4⟩, -, X4, ⟨Lc4, hQ4, l4, y4, z4⟩, st4⟩ := Jvm.LawKit.callS X0 hx (y := (⟨"org/halflife/store/CapacitiesAtLeastPinLaw", "pow2", "(J)Z"⟩ : MethodName)) hown (mvT hZ (hw _ (List.mem_of_getElem? (i := 17) rfl))) (mvT hZ (hw _ (List.mem_of_getElem? (i := 18) rfl))) (mvT hZ (hw _ (List.mem_of_getElem? (i := 13) rfl))) (mvT hZ (hw _ (List.mem_of_getElem? (i := 19) rfl))) (by decide) (backOf (W := 0) (own_rm1 l Z a0 hw [] (q0 + (32 : Int64))  h0 n0 Z0 ) hZ (hw _ (List.mem_of_getElem? (i := 19) rfl)) (hw _ (List.mem_of_getElem? (i := 13) rfl)) (by decide) (by decide)) (g := (mkF m 59 #[.val (.long q0), .second, .val (.long (q0 + (32 : Int64))), .second] [(.long (q0 + (32 : Int64)))])) rfl (by rw [hml]; rfl) (argsL := [(.long (q0 + (32 : Int64)))]) (rest := []) (lenOf own_pd0 rfl) rfl (by show 2 * 0 + _ ≤ _; exact Nat.le_of_eq rfl) (hb hby own_d2_59) (fun _ _ => ⟨rfl, e0, (by decide : 0 + 0 ≤ _), (by decide : 0 + 0 ≤ _)⟩)
      dsimp only [Pt.U, Pt.locs, Pt.cells, Pt.slots] at X4 l4 y4 z4 st4 hQ4
      subst l4 y4 z4
      obtain ⟨rfl, Nq4, e4⟩ := hQ4
      have N4 := Fr.app N0 Nq4
      refine own_step (fun _ k => st4 _ k) ?_
      show own_Ends _ _ _ _ _ _ _ (T4.setTop (mkF m 62 #[.val (.long q0), .second, .val (.long (q0 + (32 : Int64))), .second] [(.int (own_pow2 (q0 + (32 : Int64))))]))
      by_cases h3 : (own_pow2 (q0 + (32 : Int64))) = (0 : Int32)
      · refine own_step (fun _ k => XS.ifYes X4.here hx rfl (pc0 := 62) (pc' := 83) rfl (hb hby own_d2_62) rfl ((if0 _ _).trans (teq h3).1) (by decide) (by decide) k) ?_
        show own_Ends _ _ _ _ _ _ _ (T4.setTop (mkF m 83 #[.val (.long q0), .second, .val (.long (q0 + (32 : Int64))), .second] []))
        exact J83_3 _ N4 _ X4 e4 (by simp only [own_inL, if_neg h1, if_pos h2, if_pos h3])
      · refine own_step (fun _ k => XS.ifNo X4.here hx rfl (hb hby own_d2_62) rfl ((if0 _ _).trans (feq h3).1) k) ?_
        show own_Ends _ _ _ _ _ _ _ (T4.setTop (mkF m 65 #[.val (.long q0), .second, .val (.long (q0 + (32 : Int64))), .second] []))
        refine own_step (fun _ k => XS.lloadN X4.here hx rfl (hb hby own_d2_65) rfl k) ?_
        show own_Ends _ _ _ _ _ _ _ (T4.setTop (mkF m 66 #[.val (.long q0), .second, .val (.long (q0 + (32 : Int64))), .second] [(.long (q0 + (32 : Int64)))]))
        refine own_step (fun _ k => X4.ldc2Long hx hown (mvT hZ (hw _ (List.mem_of_getElem? (i := 26) rfl))) (g := (mkF m 66 #[.val (.long q0), .second, .val (.long (q0 + (32 : Int64))), .second] [(.long (q0 + (32 : Int64)))])) rfl (hb hby own_d2_66) _ k) ?_
        show own_Ends _ _ _ _ _ _ _ (T4.setTop (mkF m 69 #[.val (.long q0), .second, .val (.long (q0 + (32 : Int64))), .second] [(.long (1024 : Int64)), (.long (q0 + (32 : Int64)))]))
        refine own_step (fun _ k => XS.lcmp X4.here hx rfl (hb hby own_d2_69) rfl k) ?_
        show own_Ends _ _ _ _ _ _ _ (T4.setTop (mkF m 70 #[.val (.long q0), .second, .val (.long (q0 + (32 : Int64))), .second] [(.int (lcmpW (q0 + (32 : Int64)) (1024 : Int64)))]))
        by_cases h4 : (q0 + (32 : Int64)) < (1024 : Int64)
        · refine own_step (fun _ k => XS.ifYes X4.here hx rfl (pc0 := 70) (pc' := 83) rfl (hb hby own_d2_70) rfl ((if0 _ _).trans (tlt ((lw_lt _ _).mpr h4)).1) (by decide) (by decide) k) ?_
          show own_Ends _ _ _ _ _ _ _ (T4.setTop (mkF m 83 #[.val (.long q0), .second, .val (.long (q0 + (32 : Int64))), .second] []))
          exact J83_3 _ N4 _ X4 e4 (by simp only [own_inL, if_neg h1, if_pos h2, if_neg h3, if_pos h4])
        · refine own_step (fun _ k => XS.ifNo X4.here hx rfl (hb hby own_d2_70) rfl ((if0 _ _).trans (flt (fun q => h4 ((lw_lt _ _).mp q))).1) k) ?_
          show own_Ends _ _ _ _ _ _ _ (T4.setTop (mkF m 73 #[.val (.long q0), .second, .val (.long (q0 + (32 : Int64))), .second] []))
          refine own_step (fun _ k => XS.lloadN X4.here hx rfl (hb hby own_d2_73) rfl k) ?_
          show own_Ends _ _ _ _ _ _ _ (T4.setTop (mkF m 74 #[.val (.long q0), .second, .val (.long (q0 + (32 : Int64))), .second] [(.long (q0 + (32 : Int64)))]))
          refine own_step (fun _ k => X4.ldc2Long hx hown (mvT hZ (hw _ (List.mem_of_getElem? (i := 31) rfl))) (g := (mkF m 74 #[.val (.long q0), .second, .val (.long (q0 + (32 : Int64))), .second] [(.long (q0 + (32 : Int64)))])) rfl (hb hby own_d2_74) _ k) ?_
          show own_Ends _ _ _ _ _ _ _ (T4.setTop (mkF m 77 #[.val (.long q0), .second, .val (.long (q0 + (32 : Int64))), .second] [(.long (1073741824 : Int64)), (.long (q0 + (32 : Int64)))]))
          refine own_step (fun _ k => XS.lcmp X4.here hx rfl (hb hby own_d2_77) rfl k) ?_
          show own_Ends _ _ _ _ _ _ _ (T4.setTop (mkF m 78 #[.val (.long q0), .second, .val (.long (q0 + (32 : Int64))), .second] [(.int (lcmpW (q0 + (32 : Int64)) (1073741824 : Int64)))]))
          by_cases h5 : (1073741824 : Int64) < (q0 + (32 : Int64))
          · refine own_step (fun _ k => XS.ifYes X4.here hx rfl (pc0 := 78) (pc' := 83) rfl (hb hby own_d2_78) rfl ((if0 _ _).trans (tlt ((lw_gt _ _).mpr h5)).2.2.1) (by decide) (by decide) k) ?_
            show own_Ends _ _ _ _ _ _ _ (T4.setTop (mkF m 83 #[.val (.long q0), .second, .val (.long (q0 + (32 : Int64))), .second] []))
            exact J83_3 _ N4 _ X4 e4 (by simp only [own_inL, if_neg h1, if_pos h2, if_neg h3, if_neg h4, if_pos h5])
          · refine own_step (fun _ k => XS.ifNo X4.here hx rfl (hb hby own_d2_78) rfl ((if0 _ _).trans (flt (fun q => h5 ((lw_gt _ _).mp q))).2.2.1) k) ?_
            show own_Ends _ _ _ _ _ _ _ (T4.setTop (mkF m 81 #[.val (.long q0), .second, .val (.long (q0 + (32 : Int64))), .second] []))
            refine own_step (fun _ k => XS.iconst X4.here hx rfl (hb hby own_d2_81) k) ?_
            show own_Ends _ _ _ _ _ _ _ (T4.setTop (mkF m 82 #[.val (.long q0), .second, .val (.long (q0 + (32 : Int64))), .second] [(.int (1 : Int32))]))
            refine own_ret X4 (BodyLoose.notSynchronized Bd) (v := (some (.int (1 : Int32)))) (fun h => by rw [Bd.returns] at h; cases h) ?_ (by decide) (by decide) (fun fs hr => X4.ireturnOut hx Bd.returns rfl (by simp) (hb hby own_d2_82) hr)
            show own_Q2 Z q0  h0 n0 (some (.int (1 : Int32))) T4.heap _
            rw [e4]
            refine ⟨?_, N4, rfl⟩
            simp only [own_inL, if_neg h1, if_pos h2, if_neg h3, if_neg h4, if_neg h5]
    · refine own_step (fun _ k => XS.ifNo X0.here hx rfl (hb hby own_d2_15) rfl ((if0 _ _).trans (flt (fun q => h2 ((lw_gt _ _).mp q))).2.2.1) k) ?_
      show own_Ends _ _ _ _ _ _ _ (s₁.setTop (mkF m 18 #[.val (.long q0), .second, .unset, .unset] []))
      refine own_step (fun _ k => XS.lloadN X0.here hx rfl (hb hby own_d2_18) rfl k) ?_
      show own_Ends _ _ _ _ _ _ _ (s₁.setTop (mkF m 19 #[.val (.long q0), .second, .unset, .unset] [(.long q0)]))
      obtain ⟨_, _, ⟨T1, L1, k1, n1⟩, -, X1, ⟨Lc1, hQ1, l1, y1, z1⟩, st1⟩ := Jvm.LawKit.callS X0 hx (y := (⟨"org/halflife/store/CapacitiesAtLeastPinLaw", "pow2", "(J)Z"⟩ : MethodName)) hown (mvT hZ (hw _ (List.mem_of_getElem? (i := 17) rfl))) (mvT hZ (hw _ (List.mem_of_getElem? (i := 18) rfl))) (mvT hZ (hw _ (List.mem_of_getElem? (i := 13) rfl))) (mvT hZ (hw _ (List.mem_of_getElem? (i := 19) rfl))) (by decide) (backOf (W := 0) (own_rm1 l Z a0 hw [] q0  h0 n0 Z0 ) hZ (hw _ (List.mem_of_getElem? (i := 19) rfl)) (hw _ (List.mem_of_getElem? (i := 13) rfl)) (by decide) (by decide)) (g := (mkF m 19 #[.val (.long q0), .second, .unset, .unset] [(.long q0)])) rfl (by rw [hml]; rfl) (argsL := [(.long q0)]) (rest := []) (lenOf own_pd0 rfl) rfl (by show 2 * 0 + _ ≤ _; exact Nat.le_of_eq rfl) (hb hby own_d2_19) (fun _ _ => ⟨rfl, e0, (by decide : 0 + 0 ≤ _), (by decide : 0 + 0 ≤ _)⟩)
      dsimp only [Pt.U, Pt.locs, Pt.cells, Pt.slots] at X1 l1 y1 z1 st1 hQ1
      subst l1 y1 z1
      obtain ⟨rfl, Nq1, e1⟩ := hQ1
      have N1 := Fr.app N0 Nq1
      refine own_step (fun _ k => st1 _ k) ?_
      show own_Ends _ _ _ _ _ _ _ (T1.setTop (mkF m 22 #[.val (.long q0), .second, .unset, .unset] [(.int (own_pow2 q0))]))
      by_cases h3 : (own_pow2 q0) = (0 : Int32)
      · refine own_step (fun _ k => XS.ifNo X1.here hx rfl (hb hby own_d2_22) rfl ((if0 _ _).trans (teq h3).2) k) ?_
        show own_Ends _ _ _ _ _ _ _ (T1.setTop (mkF m 25 #[.val (.long q0), .second, .unset, .unset] []))
        refine own_step (fun _ k => XS.lloadN X1.here hx rfl (hb hby own_d2_25) rfl k) ?_
        show own_Ends _ _ _ _ _ _ _ (T1.setTop (mkF m 26 #[.val (.long q0), .second, .unset, .unset] [(.long q0)]))
        refine own_step (fun _ k => X1.ldc2Long hx hown (mvT hZ (hw _ (List.mem_of_getElem? (i := 25) rfl))) (g := (mkF m 26 #[.val (.long q0), .second, .unset, .unset] [(.long q0)])) rfl (hb hby own_d2_26) _ k) ?_
        show own_Ends _ _ _ _ _ _ _ (T1.setTop (mkF m 29 #[.val (.long q0), .second, .unset, .unset] [(.long (3 : Int64)), (.long q0)]))
        refine own_step (fun _ k => XS.lrem X1.here hx rfl (hb hby own_d2_29) rfl (by decide) k) ?_
        show own_Ends _ _ _ _ _ _ _ (T1.setTop (mkF m 30 #[.val (.long q0), .second, .unset, .unset] [(.long (q0 - (q0 / (3 : Int64)) * (3 : Int64)))]))
        refine own_step (fun _ k => XS.lconst X1.here hx rfl (hb hby own_d2_30) k) ?_
        show own_Ends _ _ _ _ _ _ _ (T1.setTop (mkF m 31 #[.val (.long q0), .second, .unset, .unset] [(.long (0 : Int64)), (.long (q0 - (q0 / (3 : Int64)) * (3 : Int64)))]))
        refine own_step (fun _ k => XS.lcmp X1.here hx rfl (hb hby own_d2_31) rfl k) ?_
        show own_Ends _ _ _ _ _ _ _ (T1.setTop (mkF m 32 #[.val (.long q0), .second, .unset, .unset] [(.int (lcmpW (q0 - (q0 / (3 : Int64)) * (3 : Int64)) (0 : Int64)))]))
        by_cases h4 : (q0 - (q0 / (3 : Int64)) * (3 : Int64)) = (0 : Int64)
        · refine own_step (fun _ k => XS.ifNo X1.here hx rfl (hb hby own_d2_32) rfl ((if0 _ _).trans (teq ((lw_eq _ _).mpr h4)).2) k) ?_
          show own_Ends _ _ _ _ _ _ _ (T1.setTop (mkF m 35 #[.val (.long q0), .second, .unset, .unset] []))
          refine own_step (fun _ k => XS.lloadN X1.here hx rfl (hb hby own_d2_35) rfl k) ?_
          show own_Ends _ _ _ _ _ _ _ (T1.setTop (mkF m 36 #[.val (.long q0), .second, .unset, .unset] [(.long q0)]))
          refine own_step (fun _ k => X1.ldc2Long hx hown (mvT hZ (hw _ (List.mem_of_getElem? (i := 25) rfl))) (g := (mkF m 36 #[.val (.long q0), .second, .unset, .unset] [(.long q0)])) rfl (hb hby own_d2_36) _ k) ?_
          show own_Ends _ _ _ _ _ _ _ (T1.setTop (mkF m 39 #[.val (.long q0), .second, .unset, .unset] [(.long (3 : Int64)), (.long q0)]))
          refine own_step (fun _ k => XS.ldiv X1.here hx rfl (hb hby own_d2_39) rfl (by decide) k) ?_
          show own_Ends _ _ _ _ _ _ _ (T1.setTop (mkF m 40 #[.val (.long q0), .second, .unset, .unset] [(.long (q0 / (3 : Int64)))]))
          obtain ⟨_, _, ⟨T2, L2, k2, n2⟩, -, X2, ⟨Lc2, hQ2, l2, y2, z2⟩, st2⟩ := Jvm.LawKit.callS X1 hx (y := (⟨"org/halflife/store/CapacitiesAtLeastPinLaw", "pow2", "(J)Z"⟩ : MethodName)) hown (mvT hZ (hw _ (List.mem_of_getElem? (i := 17) rfl))) (mvT hZ (hw _ (List.mem_of_getElem? (i := 18) rfl))) (mvT hZ (hw _ (List.mem_of_getElem? (i := 13) rfl))) (mvT hZ (hw _ (List.mem_of_getElem? (i := 19) rfl))) (by decide) (backOf (W := 0) (own_rm1 l Z a0 hw [] (q0 / (3 : Int64))  h0 n0 Z0 ) hZ (hw _ (List.mem_of_getElem? (i := 19) rfl)) (hw _ (List.mem_of_getElem? (i := 13) rfl)) (by decide) (by decide)) (g := (mkF m 40 #[.val (.long q0), .second, .unset, .unset] [(.long (q0 / (3 : Int64)))])) rfl (by rw [hml]; rfl) (argsL := [(.long (q0 / (3 : Int64)))]) (rest := []) (lenOf own_pd0 rfl) rfl (by show 2 * 0 + _ ≤ _; exact Nat.le_of_eq rfl) (hb hby own_d2_40) (fun _ _ => ⟨rfl, e1, (by decide : 0 + 0 ≤ _), (by decide : 0 + 0 ≤ _)⟩)
          dsimp only [Pt.U, Pt.locs, Pt.cells, Pt.slots] at X2 l2 y2 z2 st2 hQ2
          subst l2 y2 z2
          obtain ⟨rfl, Nq2, e2⟩ := hQ2
          have N2 := Fr.app N1 Nq2
          refine own_step (fun _ k => st2 _ k) ?_
          show own_Ends _ _ _ _ _ _ _ (T2.setTop (mkF m 43 #[.val (.long q0), .second, .unset, .unset] [(.int (own_pow2 (q0 / (3 : Int64))))]))
          by_cases h5 : (own_pow2 (q0 / (3 : Int64))) = (0 : Int32)
          · refine own_step (fun _ k => XS.ifYes X2.here hx rfl (pc0 := 43) (pc' := 50) rfl (hb hby own_d2_43) rfl ((if0 _ _).trans (teq h5).1) (by decide) (by decide) k) ?_
            show own_Ends _ _ _ _ _ _ _ (T2.setTop (mkF m 50 #[.val (.long q0), .second, .unset, .unset] []))
            refine own_step (fun _ k => XS.iconst X2.here hx rfl (hb hby own_d2_50) k) ?_
            show own_Ends _ _ _ _ _ _ _ (T2.setTop (mkF m 51 #[.val (.long q0), .second, .unset, .unset] [(.int (0 : Int32))]))
            refine own_ret X2 (BodyLoose.notSynchronized Bd) (v := (some (.int (0 : Int32)))) (fun h => by rw [Bd.returns] at h; cases h) ?_ (by decide) (by decide) (fun fs hr => X2.ireturnOut hx Bd.returns rfl (by simp) (hb hby own_d2_51) hr)
            show own_Q2 Z q0  h0 n0 (some (.int (0 : Int32))) T2.heap _
            rw [e2]
            refine ⟨?_, N2, rfl⟩
            simp only [own_inL, if_neg h1, if_neg h2, if_pos h3, if_pos h4, if_pos h5]
          · refine own_step (fun _ k => XS.ifNo X2.here hx rfl (hb hby own_d2_43) rfl ((if0 _ _).trans (feq h5).1) k) ?_
            show own_Ends _ _ _ _ _ _ _ (T2.setTop (mkF m 46 #[.val (.long q0), .second, .unset, .unset] []))
            refine own_step (fun _ k => XS.iconst X2.here hx rfl (hb hby own_d2_46) k) ?_
            show own_Ends _ _ _ _ _ _ _ (T2.setTop (mkF m 47 #[.val (.long q0), .second, .unset, .unset] [(.int (1 : Int32))]))
            refine own_step (fun _ k => XS.goto X2.here hx rfl (pc0 := 47) (pc' := 51) rfl (hb hby own_d2_47) (by decide) (by decide) k) ?_
            show own_Ends _ _ _ _ _ _ _ (T2.setTop (mkF m 51 #[.val (.long q0), .second, .unset, .unset] [(.int (1 : Int32))]))
            refine own_ret X2 (BodyLoose.notSynchronized Bd) (v := (some (.int (1 : Int32)))) (fun h => by rw [Bd.returns] at h; cases h) ?_ (by decide) (by decide) (fun fs hr => X2.ireturnOut hx Bd.returns rfl (by simp) (hb hby own_d2_51) hr)
            show own_Q2 Z q0  h0 n0 (some (.int (1 : Int32))) T2.heap _
            rw [e2]
            refine ⟨?_, N2, rfl⟩
            simp only [own_inL, if_neg h1, if_neg h2, if_pos h3, if_pos h4, if_neg h5]
        · refine own_step (fun _ k => XS.ifYes X1.here hx rfl (pc0 := 32) (pc' := 50) rfl (hb hby own_d2_32) rfl ((if0 _ _).trans (feq (fun q => h4 ((lw_eq _ _).mp q))).2) (by decide) (by decide) k) ?_
          show own_Ends _ _ _ _ _ _ _ (T1.setTop (mkF m 50 #[.val (.long q0), .second, .unset, .unset] []))
          refine own_step (fun _ k => XS.iconst X1.here hx rfl (hb hby own_d2_50) k) ?_
          show own_Ends _ _ _ _ _ _ _ (T1.setTop (mkF m 51 #[.val (.long q0), .second, .unset, .unset] [(.int (0 : Int32))]))
          refine own_ret X1 (BodyLoose.notSynchronized Bd) (v := (some (.int (0 : Int32)))) (fun h => by rw [Bd.returns] at h; cases h) ?_ (by decide) (by decide) (fun fs hr => X1.ireturnOut hx Bd.returns rfl (by simp) (hb hby own_d2_51) hr)
          show own_Q2 Z q0  h0 n0 (some (.int (0 : Int32))) T1.heap _
          rw [e1]
          refine ⟨?_, N1, rfl⟩
          simp only [own_inL, if_neg h1, if_neg h2, if_pos h3, if_neg h4]
      · refine own_step (fun _ k => XS.ifYes X1.here hx rfl (pc0 := 22) (pc' := 46) rfl (hb hby own_d2_22) rfl ((if0 _ _).trans (feq h3).2) (by decide) (by decide) k) ?_
        show own_Ends _ _ _ _ _ _ _ (T1.setTop (mkF m 46 #[.val (.long q0), .second, .unset, .unset] []))
        refine own_step (fun _ k => XS.iconst X1.here hx rfl (hb hby own_d2_46) k) ?_
        show own_Ends _ _ _ _ _ _ _ (T1.setTop (mkF m 47 #[.val (.long q0), .second, .unset, .unset] [(.int (1 : Int32))]))
        refine own_step (fun _ k => XS.goto X1.here hx rfl (pc0 := 47) (pc' := 51) rfl (hb hby own_d2_47) (by decide) (by decide) k) ?_
        show own_Ends _ _ _ _ _ _ _ (T1.setTop (mkF m 51 #[.val (.long q0), .second, .unset, .unset] [(.int (1 : Int32))]))
        refine own_ret X1 (BodyLoose.notSynchronized Bd) (v := (some (.int (1 : Int32)))) (fun h => by rw [Bd.returns] at h; cases h) ?_ (by decide) (by decide) (fun fs hr => X1.ireturnOut hx Bd.returns rfl (by simp) (hb hby own_d2_51) hr)
        show own_Q2 Z q0  h0 n0 (some (.int (1 : Int32))) T1.heap _
        rw [e1]
        refine ⟨?_, N1, rfl⟩
        simp only [own_inL, if_neg h1, if_neg h2, if_neg h3]
theorem own_d3_0 : decode method_4_code 0 = .ok (.lload_n 0, 1) := by decide +kernel
theorem own_d3_1 : decode method_4_code 1 = .ok (.ldc2_w 29, 3) := by decide +kernel
theorem own_d3_4 : decode method_4_code 4 = .ok (.lcmp, 1) := by decide +kernel
theorem own_d3_5 : decode method_4_code 5 = .ok (.ifCond .lt 11, 3) := by decide +kernel
theorem own_d3_8 : decode method_4_code 8 = .ok (.lload_n 0, 1) := by decide +kernel
theorem own_d3_9 : decode method_4_code 9 = .ok (.ldc2_w 19, 3) := by decide +kernel
theorem own_d3_12 : decode method_4_code 12 = .ok (.ladd, 1) := by decide +kernel
theorem own_d3_13 : decode method_4_code 13 = .ok (.goto 4, 3) := by decide +kernel
theorem own_d3_16 : decode method_4_code 16 = .ok (.lload_n 0, 1) := by decide +kernel
theorem own_d3_17 : decode method_4_code 17 = .ok (.lstore_n 2, 1) := by decide +kernel
theorem own_d3_18 : decode method_4_code 18 = .ok (.lload_n 2, 1) := by decide +kernel
theorem own_d3_19 : decode method_4_code 19 = .ok (.invokestatic 11, 3) := by decide +kernel
theorem own_d3_22 : decode method_4_code 22 = .ok (.ifCond .eq 15, 3) := by decide +kernel
theorem own_d3_25 : decode method_4_code 25 = .ok (.lload_n 2, 1) := by decide +kernel
theorem own_d3_26 : decode method_4_code 26 = .ok (.ldc2_w 31, 3) := by decide +kernel
theorem own_d3_29 : decode method_4_code 29 = .ok (.ldiv, 1) := by decide +kernel
theorem own_d3_30 : decode method_4_code 30 = .ok (.ldc2_w 17, 3) := by decide +kernel
theorem own_d3_33 : decode method_4_code 33 = .ok (.lmul, 1) := by decide +kernel
theorem own_d3_34 : decode method_4_code 34 = .ok (.goto 12, 3) := by decide +kernel
theorem own_d3_37 : decode method_4_code 37 = .ok (.lload_n 2, 1) := by decide +kernel
theorem own_d3_38 : decode method_4_code 38 = .ok (.ldc2_w 17, 3) := by decide +kernel
theorem own_d3_41 : decode method_4_code 41 = .ok (.ldiv, 1) := by decide +kernel
theorem own_d3_42 : decode method_4_code 42 = .ok (.ldc2_w 7, 3) := by decide +kernel
theorem own_d3_45 : decode method_4_code 45 = .ok (.lmul, 1) := by decide +kernel
theorem own_d3_46 : decode method_4_code 46 = .ok (.lstore 4, 2) := by decide +kernel
theorem own_d3_48 : decode method_4_code 48 = .ok (.lload 4, 2) := by decide +kernel
theorem own_d3_50 : decode method_4_code 50 = .ok (.ldc2_w 21, 3) := by decide +kernel
theorem own_d3_53 : decode method_4_code 53 = .ok (.lcmp, 1) := by decide +kernel
theorem own_d3_54 : decode method_4_code 54 = .ok (.ifCond .lt 12, 3) := by decide +kernel
theorem own_d3_57 : decode method_4_code 57 = .ok (.lload 4, 2) := by decide +kernel
theorem own_d3_59 : decode method_4_code 59 = .ok (.ldc2_w 19, 3) := by decide +kernel
theorem own_d3_62 : decode method_4_code 62 = .ok (.lsub, 1) := by decide +kernel
theorem own_d3_63 : decode method_4_code 63 = .ok (.goto 5, 3) := by decide +kernel
theorem own_d3_66 : decode method_4_code 66 = .ok (.lload 4, 2) := by decide +kernel
theorem own_d3_68 : decode method_4_code 68 = .ok (.lreturn, 1) := by decide +kernel
theorem own_ef3 (m : MethodId) (q0 : Int64) : entryFrame m #[(.long q0)] 6 = mkF m 0 #[.val (.long q0), .second, .unset, .unset, .unset, .unset] [] := by first | (simp [entryFrame, mkF, argsToLocals, Value.category]; done) | rfl
def own_Q3 (Z : State) (q0 : Int64)  (h0 : Heap) (n0 : Nat) (v : Option Value) (h : Heap) (L : List Loc) : Prop := v = some (.long (own_below q0)) ∧ Fr n0 L ∧ h = h0
set_option maxRecDepth 65536 in
set_option maxHeartbeats 40000000 in
theorem own_rm3 (l : Launch) (Z : State) (a0 : Array Value) (hw : ∀ d ∈ tables_1, d.before a0 Z = true) (ws : List Jvm.Cond) (q0 : Int64)  (h0 : Heap) (n0 : Nat) (Z0 : n0 ≤ h0.size)  :
    MetFree l (⟨"org/halflife/store/CapacitiesAtLeastPinLaw", "below", "(J)J"⟩ : MethodName) (head1 (Jvm.Cond.code (⟨"org/halflife/store/CapacitiesAtLeastPinLaw", "below", "(J)J"⟩ : MethodName) method_4_code 6 (some .long) :: ws) ({ frames := 1, cells := 0, slots := 0, locals := 13 } : Room)) (fun a U => a = #[(.long q0)] ∧ Z.Warmed39 U.vm ∧ U.heap = h0) (fun _ _ _ _ _ => True) (fun _ U o U' => ∃ v L, o = .returned v ∧ own_Q3 Z q0  h0 n0 v U'.heap L ∧ FrameEnd U o U' L ({ frames := 1, cells := 0, slots := 0, locals := 13 } : Room).cells ({ frames := 1, cells := 0, slots := 0, locals := 13 } : Room).slots) := by
  refine MetFree.of_bodySF (plainFor_of_name own_pn0) hisR ?_
  intro p e s m args below meth c s₁ Bd hml0 hP hK
  obtain ⟨rfl, hZ, hh⟩ := hP
  have hx := Bd.exec
  have hby := Bd.bytes
  have hml : c.maxLocals = 6 := hml0
  have hown : s.vm.findClass "org/halflife/store/CapacitiesAtLeastPinLaw" = some m.cls := findClass_of_methodNamed Bd.named
  have hnm := (name_of_methodNamed Bd.named Bd.method).1
  have X0 : Stand p l e ({ frames := 1, cells := 0, slots := 0, locals := 13 } : Room) s m #[(.long q0)] below meth c s₁ [] 0 0 := Stand.of_body Bd
  have e0 : s₁.heap = h0 := by rw [← hh, Bd.state]; rfl
  have N0 := Fr.nil n0
  suffices H : own_Ends p e below s ({ frames := 1, cells := 0, slots := 0, locals := 13 } : Room).cells ({ frames := 1, cells := 0, slots := 0, locals := 13 } : Room).slots (own_Q3 Z q0  h0 n0) (s₁.setTop (mkF m 0 #[.val (.long q0), .second, .unset, .unset, .unset, .unset] [])) by
    obtain ⟨s₂, o, h1, h2⟩ := H
    exact ⟨s₂, o, castTop (own_ef3 m q0) h1, h2⟩
  show own_Ends _ _ _ _ _ _ _ (s₁.setTop (mkF m 0 #[.val (.long q0), .second, .unset, .unset, .unset, .unset] []))
  refine own_step (fun _ k => XS.lloadN X0.here hx rfl (hb hby own_d3_0) rfl k) ?_
  show own_Ends _ _ _ _ _ _ _ (s₁.setTop (mkF m 1 #[.val (.long q0), .second, .unset, .unset, .unset, .unset] [(.long q0)]))
  refine own_step (fun _ k => X0.ldc2Long hx hown (mvT hZ (hw _ (List.mem_of_getElem? (i := 23) rfl))) (g := (mkF m 1 #[.val (.long q0), .second, .unset, .unset, .unset, .unset] [(.long q0)])) rfl (hb hby own_d3_1) _ k) ?_
  show own_Ends _ _ _ _ _ _ _ (s₁.setTop (mkF m 4 #[.val (.long q0), .second, .unset, .unset, .unset, .unset] [(.long (992 : Int64)), (.long q0)]))
  refine own_step (fun _ k => XS.lcmp X0.here hx rfl (hb hby own_d3_4) rfl k) ?_
  show own_Ends _ _ _ _ _ _ _ (s₁.setTop (mkF m 5 #[.val (.long q0), .second, .unset, .unset, .unset, .unset] [(.int (lcmpW q0 (992 : Int64)))]))
  have J17_6 : ∀ (lv : Int64) (hl : lv = own_bl q0), own_Ends p e below s ({ frames := 1, cells := 0, slots := 0, locals := 13 } : Room).cells ({ frames := 1, cells := 0, slots := 0, locals := 13 } : Room).slots (own_Q3 Z q0  h0 n0) (s₁.setTop (mkF m 17 #[.val (.long q0), .second, .unset, .unset, .unset, .unset] [(.long lv)])) := by
    intro lv hl
    show own_Ends _ _ _ _ _ _ _ (s₁.setTop (mkF m 17 #[.val (.long q0), .second, .unset, .unset, .unset, .unset] [(.long lv)]))
    refine own_step (fun _ k => XS.lstoreN X0.here hx rfl (hb hby own_d3_17) rfl (l' := #[.val (.long q0), .second, .val (.long lv), .second, .unset, .unset]) rfl k) ?_
    show own_Ends _ _ _ _ _ _ _ (s₁.setTop (mkF m 18 #[.val (.long q0), .second, .val (.long lv), .second, .unset, .unset] []))
    refine own_step (fun _ k => XS.lloadN X0.here hx rfl (hb hby own_d3_18) rfl k) ?_
    show own_Ends _ _ _ _ _ _ _ (s₁.setTop (mkF m 19 #[.val (.long q0), .second, .val (.long lv), .second, .unset, .unset] [(.long lv)]))
    obtain ⟨_, _, ⟨T7, L7, k7, n7⟩, -, X7, ⟨Lc7, hQ7, l7, y7, z7⟩, st7⟩ := Jvm.LawKit.callS X0 hx (y := (⟨"org/halflife/store/CapacitiesAtLeastPinLaw", "pow2", "(J)Z"⟩ : MethodName)) hown (mvT hZ (hw _ (List.mem_of_getElem? (i := 17) rfl))) (mvT hZ (hw _ (List.mem_of_getElem? (i := 18) rfl))) (mvT hZ (hw _ (List.mem_of_getElem? (i := 13) rfl))) (mvT hZ (hw _ (List.mem_of_getElem? (i := 19) rfl))) (by decide) (backOf (W := 0) (own_rm1 l Z a0 hw [] lv  h0 n0 Z0 ) hZ (hw _ (List.mem_of_getElem? (i := 19) rfl)) (hw _ (List.mem_of_getElem? (i := 13) rfl)) (by decide) (by decide)) (g := (mkF m 19 #[.val (.long q0), .second, .val (.long lv), .second, .unset, .unset] [(.long lv)])) rfl (by rw [hml]; rfl) (argsL := [(.long lv)]) (rest := []) (lenOf own_pd0 rfl) rfl (by show 2 * 0 + _ ≤ _; exact Nat.le_of_eq rfl) (hb hby own_d3_19) (fun _ _ => ⟨rfl, e0, (by decide : 0 + 0 ≤ _), (by decide : 0 + 0 ≤ _)⟩)
    dsimp only [Pt.U, Pt.locs, Pt.cells, Pt.slots] at X7 l7 y7 z7 st7 hQ7
    subst l7 y7 z7
    obtain ⟨rfl, Nq7, e7⟩ := hQ7
    have N7 := Fr.app N0 Nq7
    refine own_step (fun _ k => st7 _ k) ?_
    show own_Ends _ _ _ _ _ _ _ (T7.setTop (mkF m 22 #[.val (.long q0), .second, .val (.long lv), .second, .unset, .unset] [(.int (own_pow2 lv))]))
    have J46_8 : ∀ (pv : Int64) (hp : pv = own_bp lv), own_Ends p e below s ({ frames := 1, cells := 0, slots := 0, locals := 13 } : Room).cells ({ frames := 1, cells := 0, slots := 0, locals := 13 } : Room).slots (own_Q3 Z q0  h0 n0) (T7.setTop (mkF m 46 #[.val (.long q0), .second, .val (.long lv), .second, .unset, .unset] [(.long pv)])) := by
      intro pv hp
      show own_Ends _ _ _ _ _ _ _ (T7.setTop (mkF m 46 #[.val (.long q0), .second, .val (.long lv), .second, .unset, .unset] [(.long pv)]))
      refine own_step (fun _ k => XS.lstore X7.here hx rfl (hb hby own_d3_46) rfl (l' := #[.val (.long q0), .second, .val (.long lv), .second, .val (.long pv), .second]) rfl k) ?_
      show own_Ends _ _ _ _ _ _ _ (T7.setTop (mkF m 48 #[.val (.long q0), .second, .val (.long lv), .second, .val (.long pv), .second] []))
      refine own_step (fun _ k => XS.lload X7.here hx rfl (hb hby own_d3_48) rfl k) ?_
      show own_Ends _ _ _ _ _ _ _ (T7.setTop (mkF m 50 #[.val (.long q0), .second, .val (.long lv), .second, .val (.long pv), .second] [(.long pv)]))
      refine own_step (fun _ k => X7.ldc2Long hx hown (mvT hZ (hw _ (List.mem_of_getElem? (i := 26) rfl))) (g := (mkF m 50 #[.val (.long q0), .second, .val (.long lv), .second, .val (.long pv), .second] [(.long pv)])) rfl (hb hby own_d3_50) _ k) ?_
      show own_Ends _ _ _ _ _ _ _ (T7.setTop (mkF m 53 #[.val (.long q0), .second, .val (.long lv), .second, .val (.long pv), .second] [(.long (1024 : Int64)), (.long pv)]))
      refine own_step (fun _ k => XS.lcmp X7.here hx rfl (hb hby own_d3_53) rfl k) ?_
      show own_Ends _ _ _ _ _ _ _ (T7.setTop (mkF m 54 #[.val (.long q0), .second, .val (.long lv), .second, .val (.long pv), .second] [(.int (lcmpW pv (1024 : Int64)))]))
      by_cases h3 : pv < (1024 : Int64)
      · refine own_step (fun _ k => XS.ifYes X7.here hx rfl (pc0 := 54) (pc' := 66) rfl (hb hby own_d3_54) rfl ((if0 _ _).trans (tlt ((lw_lt _ _).mpr h3)).1) (by decide) (by decide) k) ?_
        show own_Ends _ _ _ _ _ _ _ (T7.setTop (mkF m 66 #[.val (.long q0), .second, .val (.long lv), .second, .val (.long pv), .second] []))
        refine own_step (fun _ k => XS.lload X7.here hx rfl (hb hby own_d3_66) rfl k) ?_
        show own_Ends _ _ _ _ _ _ _ (T7.setTop (mkF m 68 #[.val (.long q0), .second, .val (.long lv), .second, .val (.long pv), .second] [(.long pv)]))
        refine own_ret X7 (BodyLoose.notSynchronized Bd) (v := (some (.long pv))) (fun h => by rw [Bd.returns] at h; cases h) ?_ (by decide) (by decide) (fun fs hr => X7.lreturnOut hx Bd.returns (hb hby own_d3_68) hr)
        show own_Q3 Z q0  h0 n0 (some (.long pv)) T7.heap _
        rw [e7]
        refine ⟨?_, N7, rfl⟩
        rw [own_below, ← hl, ← hp]
        simp only [own_bq, if_pos h3]
      · refine own_step (fun _ k => XS.ifNo X7.here hx rfl (hb hby own_d3_54) rfl ((if0 _ _).trans (flt (fun q => h3 ((lw_lt _ _).mp q))).1) k) ?_
        show own_Ends _ _ _ _ _ _ _ (T7.setTop (mkF m 57 #[.val (.long q0), .second, .val (.long lv), .second, .val (.long pv), .second] []))
        refine own_step (fun _ k => XS.lload X7.here hx rfl (hb hby own_d3_57) rfl k) ?_
        show own_Ends _ _ _ _ _ _ _ (T7.setTop (mkF m 59 #[.val (.long q0), .second, .val (.long lv), .second, .val (.long pv), .second] [(.long pv)]))
        refine own_step (fun _ k => X7.ldc2Long hx hown (mvT hZ (hw _ (List.mem_of_getElem? (i := 28) rfl))) (g := (mkF m 59 #[.val (.long q0), .second, .val (.long lv), .second, .val (.long pv), .second] [(.long pv)])) rfl (hb hby own_d3_59) _ k) ?_
        show own_Ends _ _ _ _ _ _ _ (T7.setTop (mkF m 62 #[.val (.long q0), .second, .val (.long lv), .second, .val (.long pv), .second] [(.long (32 : Int64)), (.long pv)]))
        refine own_step (fun _ k => XS.lsub X7.here hx rfl (hb hby own_d3_62) rfl k) ?_
        show own_Ends _ _ _ _ _ _ _ (T7.setTop (mkF m 63 #[.val (.long q0), .second, .val (.long lv), .second, .val (.long pv), .second] [(.long (pv - (32 : Int64)))]))
        refine own_step (fun _ k => XS.goto X7.here hx rfl (pc0 := 63) (pc' := 68) rfl (hb hby own_d3_63) (by decide) (by decide) k) ?_
        show own_Ends _ _ _ _ _ _ _ (T7.setTop (mkF m 68 #[.val (.long q0), .second, .val (.long lv), .second, .val (.long pv), .second] [(.long (pv - (32 : Int64)))]))
        refine own_ret X7 (BodyLoose.notSynchronized Bd) (v := (some (.long (pv - (32 : Int64))))) (fun h => by rw [Bd.returns] at h; cases h) ?_ (by decide) (by decide) (fun fs hr => X7.lreturnOut hx Bd.returns (hb hby own_d3_68) hr)
        show own_Q3 Z q0  h0 n0 (some (.long (pv - (32 : Int64)))) T7.heap _
        rw [e7]
        refine ⟨?_, N7, rfl⟩
        rw [own_below, ← hl, ← hp]
        simp only [own_bq, if_neg h3]
    by_cases h2 : (own_pow2 lv) = (0 : Int32)
    · refine own_step (fun _ k => XS.ifYes X7.here hx rfl (pc0 := 22) (pc' := 37) rfl (hb hby own_d3_22) rfl ((if0 _ _).trans (teq h2).1) (by decide) (by decide) k) ?_
      show own_Ends _ _ _ _ _ _ _ (T7.setTop (mkF m 37 #[.val (.long q0), .second, .val (.long lv), .second, .unset, .unset] []))
      refine own_step (fun _ k => XS.lloadN X7.here hx rfl (hb hby own_d3_37) rfl k) ?_
      show own_Ends _ _ _ _ _ _ _ (T7.setTop (mkF m 38 #[.val (.long q0), .second, .val (.long lv), .second, .unset, .unset] [(.long lv)]))
      refine own_step (fun _ k => X7.ldc2Long hx hown (mvT hZ (hw _ (List.mem_of_getElem? (i := 25) rfl))) (g := (mkF m 38 #[.val (.long q0), .second, .val (.long lv), .second, .unset, .unset] [(.long lv)])) rfl (hb hby own_d3_38) _ k) ?_
      show own_Ends _ _ _ _ _ _ _ (T7.setTop (mkF m 41 #[.val (.long q0), .second, .val (.long lv), .second, .unset, .unset] [(.long (3 : Int64)), (.long lv)]))
      refine own_step (fun _ k => XS.ldiv X7.here hx rfl (hb hby own_d3_41) rfl (by decide) k) ?_
      show own_Ends _ _ _ _ _ _ _ (T7.setTop (mkF m 42 #[.val (.long q0), .second, .val (.long lv), .second, .unset, .unset] [(.long (lv / (3 : Int64)))]))
      refine own_step (fun _ k => X7.ldc2Long hx hown (mvT hZ (hw _ (List.mem_of_getElem? (i := 15) rfl))) (g := (mkF m 42 #[.val (.long q0), .second, .val (.long lv), .second, .unset, .unset] [(.long (lv / (3 : Int64)))])) rfl (hb hby own_d3_42) _ k) ?_
      show own_Ends _ _ _ _ _ _ _ (T7.setTop (mkF m 45 #[.val (.long q0), .second, .val (.long lv), .second, .unset, .unset] [(.long (2 : Int64)), (.long (lv / (3 : Int64)))]))
      refine own_step (fun _ k => XS.lmul X7.here hx rfl (hb hby own_d3_45) rfl k) ?_
      show own_Ends _ _ _ _ _ _ _ (T7.setTop (mkF m 46 #[.val (.long q0), .second, .val (.long lv), .second, .unset, .unset] [(.long ((lv / (3 : Int64)) * (2 : Int64)))]))
      exact J46_8 _ (by simp only [own_bp, if_pos h2])
    · refine own_step (fun _ k => XS.ifNo X7.here hx rfl (hb hby own_d3_22) rfl ((if0 _ _).trans (feq h2).1) k) ?_
      show own_Ends _ _ _ _ _ _ _ (T7.setTop (mkF m 25 #[.val (.long q0), .second, .val (.long lv), .second, .unset, .unset] []))
      refine own_step (fun _ k => XS.lloadN X7.here hx rfl (hb hby own_d3_25) rfl k) ?_
      show own_Ends _ _ _ _ _ _ _ (T7.setTop (mkF m 26 #[.val (.long q0), .second, .val (.long lv), .second, .unset, .unset] [(.long lv)]))
      refine own_step (fun _ k => X7.ldc2Long hx hown (mvT hZ (hw _ (List.mem_of_getElem? (i := 24) rfl))) (g := (mkF m 26 #[.val (.long q0), .second, .val (.long lv), .second, .unset, .unset] [(.long lv)])) rfl (hb hby own_d3_26) _ k) ?_
      show own_Ends _ _ _ _ _ _ _ (T7.setTop (mkF m 29 #[.val (.long q0), .second, .val (.long lv), .second, .unset, .unset] [(.long (4 : Int64)), (.long lv)]))
      refine own_step (fun _ k => XS.ldiv X7.here hx rfl (hb hby own_d3_29) rfl (by decide) k) ?_
      show own_Ends _ _ _ _ _ _ _ (T7.setTop (mkF m 30 #[.val (.long q0), .second, .val (.long lv), .second, .unset, .unset] [(.long (lv / (4 : Int64)))]))
      refine own_step (fun _ k => X7.ldc2Long hx hown (mvT hZ (hw _ (List.mem_of_getElem? (i := 25) rfl))) (g := (mkF m 30 #[.val (.long q0), .second, .val (.long lv), .second, .unset, .unset] [(.long (lv / (4 : Int64)))])) rfl (hb hby own_d3_30) _ k) ?_
      show own_Ends _ _ _ _ _ _ _ (T7.setTop (mkF m 33 #[.val (.long q0), .second, .val (.long lv), .second, .unset, .unset] [(.long (3 : Int64)), (.long (lv / (4 : Int64)))]))
      refine own_step (fun _ k => XS.lmul X7.here hx rfl (hb hby own_d3_33) rfl k) ?_
      show own_Ends _ _ _ _ _ _ _ (T7.setTop (mkF m 34 #[.val (.long q0), .second, .val (.long lv), .second, .unset, .unset] [(.long ((lv / (4 : Int64)) * (3 : Int64)))]))
      refine own_step (fun _ k => XS.goto X7.here hx rfl (pc0 := 34) (pc' := 46) rfl (hb hby own_d3_34) (by decide) (by decide) k) ?_
      show own_Ends _ _ _ _ _ _ _ (T7.setTop (mkF m 46 #[.val (.long q0), .second, .val (.long lv), .second, .unset, .unset] [(.long ((lv / (4 : Int64)) * (3 : Int64)))]))
      exact J46_8 _ (by simp only [own_bp, if_neg h2])
  by_cases h1 : q0 < (992 : Int64)
  · refine own_step (fun _ k => XS.ifYes X0.here hx rfl (pc0 := 5) (pc' := 16) rfl (hb hby own_d3_5) rfl ((if0 _ _).trans (tlt ((lw_lt _ _).mpr h1)).1) (by decide) (by decide) k) ?_
    show own_Ends _ _ _ _ _ _ _ (s₁.setTop (mkF m 16 #[.val (.long q0), .second, .unset, .unset, .unset, .unset] []))
    refine own_step (fun _ k => XS.lloadN X0.here hx rfl (hb hby own_d3_16) rfl k) ?_
    show own_Ends _ _ _ _ _ _ _ (s₁.setTop (mkF m 17 #[.val (.long q0), .second, .unset, .unset, .unset, .unset] [(.long q0)]))
    exact J17_6 _ (by simp only [own_bl, if_pos h1])
  · refine own_step (fun _ k => XS.ifNo X0.here hx rfl (hb hby own_d3_5) rfl ((if0 _ _).trans (flt (fun q => h1 ((lw_lt _ _).mp q))).1) k) ?_
    show own_Ends _ _ _ _ _ _ _ (s₁.setTop (mkF m 8 #[.val (.long q0), .second, .unset, .unset, .unset, .unset] []))
    refine own_step (fun _ k => XS.lloadN X0.here hx rfl (hb hby own_d3_8) rfl k) ?_
    show own_Ends _ _ _ _ _ _ _ (s₁.setTop (mkF m 9 #[.val (.long q0), .second, .unset, .unset, .unset, .unset] [(.long q0)]))
    refine own_step (fun _ k => X0.ldc2Long hx hown (mvT hZ (hw _ (List.mem_of_getElem? (i := 28) rfl))) (g := (mkF m 9 #[.val (.long q0), .second, .unset, .unset, .unset, .unset] [(.long q0)])) rfl (hb hby own_d3_9) _ k) ?_
    show own_Ends _ _ _ _ _ _ _ (s₁.setTop (mkF m 12 #[.val (.long q0), .second, .unset, .unset, .unset, .unset] [(.long (32 : Int64)), (.long q0)]))
    refine own_step (fun _ k => XS.ladd X0.here hx rfl (hb hby own_d3_12) rfl k) ?_
    show own_Ends _ _ _ _ _ _ _ (s₁.setTop (mkF m 13 #[.val (.long q0), .second, .unset, .unset, .unset, .unset] [(.long (q0 + (32 : Int64)))]))
    refine own_step (fun _ k => XS.goto X0.here hx rfl (pc0 := 13) (pc' := 17) rfl (hb hby own_d3_13) (by decide) (by decide) k) ?_
    show own_Ends _ _ _ _ _ _ _ (s₁.setTop (mkF m 17 #[.val (.long q0), .second, .unset, .unset, .unset, .unset] [(.long (q0 + (32 : Int64)))]))
    exact J17_6 _ (by simp only [own_bl, if_neg h1])
theorem own_d4_0 : decode prog_69_method_2_code 0 = .ok (.ldc2_w 9, 3) := by decide +kernel
theorem own_d4_3 : decode prog_69_method_2_code 3 = .ok (.lstore_n 1, 1) := by decide +kernel
theorem own_d4_4 : decode prog_69_method_2_code 4 = .ok (.lload_n 1, 1) := by decide +kernel
theorem own_d4_5 : decode prog_69_method_2_code 5 = .ok (.ldc2_w 11, 3) := by decide +kernel
theorem own_d4_8 : decode prog_69_method_2_code 8 = .ok (.lcmp, 1) := by decide +kernel
theorem own_d4_9 : decode prog_69_method_2_code 9 = .ok (.ifCond .gt 99, 3) := by decide +kernel
theorem own_d4_12 : decode prog_69_method_2_code 12 = .ok (.iconst 2, 1) := by decide +kernel
theorem own_d4_13 : decode prog_69_method_2_code 13 = .ok (.newarray .long, 2) := by decide +kernel
theorem own_d4_15 : decode prog_69_method_2_code 15 = .ok (.dup, 1) := by decide +kernel
theorem own_d4_16 : decode prog_69_method_2_code 16 = .ok (.iconst 0, 1) := by decide +kernel
theorem own_d4_17 : decode prog_69_method_2_code 17 = .ok (.lload_n 1, 1) := by decide +kernel
theorem own_d4_18 : decode prog_69_method_2_code 18 = .ok (.lastore, 1) := by decide +kernel
theorem own_d4_19 : decode prog_69_method_2_code 19 = .ok (.dup, 1) := by decide +kernel
theorem own_d4_20 : decode prog_69_method_2_code 20 = .ok (.iconst 1, 1) := by decide +kernel
theorem own_d4_21 : decode prog_69_method_2_code 21 = .ok (.lload_n 1, 1) := by decide +kernel
theorem own_d4_22 : decode prog_69_method_2_code 22 = .ok (.lload_n 1, 1) := by decide +kernel
theorem own_d4_23 : decode prog_69_method_2_code 23 = .ok (.ldc2_w 9, 3) := by decide +kernel
theorem own_d4_26 : decode prog_69_method_2_code 26 = .ok (.ldiv, 1) := by decide +kernel
theorem own_d4_27 : decode prog_69_method_2_code 27 = .ok (.ladd, 1) := by decide +kernel
theorem own_d4_28 : decode prog_69_method_2_code 28 = .ok (.lastore, 1) := by decide +kernel
theorem own_d4_29 : decode prog_69_method_2_code 29 = .ok (.astore_n 3, 1) := by decide +kernel
theorem own_d4_30 : decode prog_69_method_2_code 30 = .ok (.aload_n 3, 1) := by decide +kernel
theorem own_d4_31 : decode prog_69_method_2_code 31 = .ok (.arraylength, 1) := by decide +kernel
theorem own_d4_32 : decode prog_69_method_2_code 32 = .ok (.istore 4, 2) := by decide +kernel
theorem own_d4_34 : decode prog_69_method_2_code 34 = .ok (.iconst 0, 1) := by decide +kernel
theorem own_d4_35 : decode prog_69_method_2_code 35 = .ok (.istore 5, 2) := by decide +kernel
theorem own_d4_37 : decode prog_69_method_2_code 37 = .ok (.iload 5, 2) := by decide +kernel
theorem own_d4_39 : decode prog_69_method_2_code 39 = .ok (.iload 4, 2) := by decide +kernel
theorem own_d4_41 : decode prog_69_method_2_code 41 = .ok (.if_icmp .ge 58, 3) := by decide +kernel
theorem own_d4_44 : decode prog_69_method_2_code 44 = .ok (.aload_n 3, 1) := by decide +kernel
theorem own_d4_45 : decode prog_69_method_2_code 45 = .ok (.iload 5, 2) := by decide +kernel
theorem own_d4_47 : decode prog_69_method_2_code 47 = .ok (.laload, 1) := by decide +kernel
theorem own_d4_48 : decode prog_69_method_2_code 48 = .ok (.lstore 6, 2) := by decide +kernel
theorem own_d4_50 : decode prog_69_method_2_code 50 = .ok (.lload 6, 2) := by decide +kernel
theorem own_d4_52 : decode prog_69_method_2_code 52 = .ok (.ldc2_w 15, 3) := by decide +kernel
theorem own_d4_55 : decode prog_69_method_2_code 55 = .ok (.lcmp, 1) := by decide +kernel
theorem own_d4_56 : decode prog_69_method_2_code 56 = .ok (.ifCond .lt 12, 3) := by decide +kernel
theorem own_d4_59 : decode prog_69_method_2_code 59 = .ok (.lload 6, 2) := by decide +kernel
theorem own_d4_61 : decode prog_69_method_2_code 61 = .ok (.ldc2_w 17, 3) := by decide +kernel
theorem own_d4_64 : decode prog_69_method_2_code 64 = .ok (.lsub, 1) := by decide +kernel
theorem own_d4_65 : decode prog_69_method_2_code 65 = .ok (.goto 5, 3) := by decide +kernel
theorem own_d4_68 : decode prog_69_method_2_code 68 = .ok (.lload 6, 2) := by decide +kernel
theorem own_d4_70 : decode prog_69_method_2_code 70 = .ok (.lstore 8, 2) := by decide +kernel
theorem own_d4_72 : decode prog_69_method_2_code 72 = .ok (.lload 8, 2) := by decide +kernel
theorem own_d4_74 : decode prog_69_method_2_code 74 = .ok (.iload_n 0, 1) := by decide +kernel
theorem own_d4_75 : decode prog_69_method_2_code 75 = .ok (.i2l, 1) := by decide +kernel
theorem own_d4_76 : decode prog_69_method_2_code 76 = .ok (.lcmp, 1) := by decide +kernel
theorem own_d4_77 : decode prog_69_method_2_code 77 = .ok (.ifCond .lt 16, 3) := by decide +kernel
theorem own_d4_80 : decode prog_69_method_2_code 80 = .ok (.lload 8, 2) := by decide +kernel
theorem own_d4_82 : decode prog_69_method_2_code 82 = .ok (.ldc2_w 19, 3) := by decide +kernel
theorem own_d4_85 : decode prog_69_method_2_code 85 = .ok (.lcmp, 1) := by decide +kernel
theorem own_d4_86 : decode prog_69_method_2_code 86 = .ok (.ifCond .gt 7, 3) := by decide +kernel
theorem own_d4_89 : decode prog_69_method_2_code 89 = .ok (.lload 8, 2) := by decide +kernel
theorem own_d4_91 : decode prog_69_method_2_code 91 = .ok (.l2i, 1) := by decide +kernel
theorem own_d4_92 : decode prog_69_method_2_code 92 = .ok (.ireturn, 1) := by decide +kernel
theorem own_d4_93 : decode prog_69_method_2_code 93 = .ok (.iinc 5 1, 3) := by decide +kernel
theorem own_d4_96 : decode prog_69_method_2_code 96 = .ok (.goto (-59), 3) := by decide +kernel
theorem own_d4_99 : decode prog_69_method_2_code 99 = .ok (.lload_n 1, 1) := by decide +kernel
theorem own_d4_100 : decode prog_69_method_2_code 100 = .ok (.ldc2_w 9, 3) := by decide +kernel
theorem own_d4_103 : decode prog_69_method_2_code 103 = .ok (.lmul, 1) := by decide +kernel
theorem own_d4_104 : decode prog_69_method_2_code 104 = .ok (.lstore_n 1, 1) := by decide +kernel
theorem own_d4_105 : decode prog_69_method_2_code 105 = .ok (.goto (-101), 3) := by decide +kernel
theorem own_d4_108 : decode prog_69_method_2_code 108 = .ok (.ldc 21, 2) := by decide +kernel
theorem own_d4_110 : decode prog_69_method_2_code 110 = .ok (.ireturn, 1) := by decide +kernel
theorem own_pn1 : plainName "org/halflife/store/Capacities" = true := by first | (simp [plainName, overriddenIn]; done) | decide +kernel
theorem own_ef4 (m : MethodId) (p0 : Int32) : entryFrame m #[(.int p0)] 10 = mkF m 0 #[.val (.int p0), .unset, .unset, .unset, .unset, .unset, .unset, .unset, .unset, .unset] [] := by first | (simp [entryFrame, mkF, argsToLocals, Value.category]; done) | rfl
def own_Q4 (Z : State) (p0 : Int32)  (h0 : Heap) (n0 : Nat) (v : Option Value) (h : Heap) (L : List Loc) : Prop := ∃ r : Int32, v = some (.int r) ∧ Fr n0 L ∧ n0 ≤ h.size ∧ own_AL p0 r
set_option maxRecDepth 65536 in
set_option maxHeartbeats 40000000 in
theorem own_rm4 (l : Launch) (Z : State) (a0 : Array Value) (hw : ∀ d ∈ tables_1, d.before a0 Z = true) (ws : List Jvm.Cond) (p0 : Int32)  (h0 : Heap) (n0 : Nat) (Z0 : n0 ≤ h0.size)  :
    MetFree l (⟨"org/halflife/store/Capacities", "atLeast", "(I)I"⟩ : MethodName) (head1 (Jvm.Cond.code (⟨"org/halflife/store/Capacities", "atLeast", "(I)I"⟩ : MethodName) prog_69_method_2_code 10 (some .int) :: ws) ({ frames := 0, cells := 30, slots := 60, locals := 0 } : Room)) (fun a U => a = #[(.int p0)] ∧ Z.Warmed39 U.vm ∧ U.heap = h0) (fun _ _ _ _ _ => True) (fun _ U o U' => ∃ v L, o = .returned v ∧ own_Q4 Z p0  h0 n0 v U'.heap L ∧ FrameEnd U o U' L ({ frames := 0, cells := 30, slots := 60, locals := 0 } : Room).cells ({ frames := 0, cells := 30, slots := 60, locals := 0 } : Room).slots) := by
  refine MetFree.of_bodySF (plainFor_of_name own_pn1) hisR ?_
  intro p e s m args below meth c s₁ Bd hml0 hP hK
  obtain ⟨rfl, hZ, hh⟩ := hP
  have hx := Bd.exec
  have hby := Bd.bytes
  have hml : c.maxLocals = 10 := hml0
  have hown : s.vm.findClass "org/halflife/store/Capacities" = some m.cls := findClass_of_methodNamed Bd.named
  have hnm := (name_of_methodNamed Bd.named Bd.method).1
  have X0 : Stand p l e ({ frames := 0, cells := 30, slots := 60, locals := 0 } : Room) s m #[(.int p0)] below meth c s₁ [] 0 0 := Stand.of_body Bd
  have e0 : s₁.heap = h0 := by rw [← hh, Bd.state]; rfl
  have N0 := Fr.nil n0
  suffices H : own_Ends p e below s ({ frames := 0, cells := 30, slots := 60, locals := 0 } : Room).cells ({ frames := 0, cells := 30, slots := 60, locals := 0 } : Room).slots (own_Q4 Z p0  h0 n0) (s₁.setTop (mkF m 0 #[.val (.int p0), .unset, .unset, .unset, .unset, .unset, .unset, .unset, .unset, .unset] [])) by
    obtain ⟨s₂, o, h1, h2⟩ := H
    exact ⟨s₂, o, castTop (own_ef4 m p0) h1, h2⟩
  show own_Ends _ _ _ _ _ _ _ (s₁.setTop (mkF m 0 #[.val (.int p0), .unset, .unset, .unset, .unset, .unset, .unset, .unset, .unset, .unset] []))
  refine own_step (fun _ k => X0.ldc2Long hx hown (mvT hZ (hw _ (List.mem_of_getElem? (i := 5) rfl))) (g := (mkF m 0 #[.val (.int p0), .unset, .unset, .unset, .unset, .unset, .unset, .unset, .unset, .unset] [])) rfl (hb hby own_d4_0) _ k) ?_
  show own_Ends _ _ _ _ _ _ _ (s₁.setTop (mkF m 3 #[.val (.int p0), .unset, .unset, .unset, .unset, .unset, .unset, .unset, .unset, .unset] [(.long (2 : Int64))]))
  show own_Ends _ _ _ _ _ _ _ (s₁.setTop (mkF m 3 #[.val (.int p0), .unset, .unset, .unset, .unset, .unset, .unset, .unset, .unset, .unset] [(.long (own_P 0))]))
  refine own_step (fun _ k => XS.lstoreN X0.here hx rfl (hb hby own_d4_3) rfl (l' := #[.val (.int p0), .val (.long (own_P 0)), .second, .unset, .unset, .unset, .unset, .unset, .unset, .unset]) rfl k) ?_
  show own_Ends _ _ _ _ _ _ _ (s₁.setTop (mkF m 4 #[.val (.int p0), .val (.long (own_P 0)), .second, .unset, .unset, .unset, .unset, .unset, .unset, .unset] []))
  have loop : ∀ (f cn : Nat), cn + f = 30 → ∀ (hL : Heap) (ZL : n0 ≤ hL.size) (lL : List Loc) (NL : Fr n0 lL) (TL : State) (XL : Stand p l e ({ frames := 0, cells := 30, slots := 60, locals := 0 } : Room) s m #[(.int p0)] below meth c TL lL cn (2 * cn)) (eL : TL.heap = hL) (hprev : cn = 0 ∨ own_R (2 * cn - 1) < p0.toInt64) (x3 : Addr) (i4 i5 : Int32) (u6 u8 : Int64), own_Ends p e below s ({ frames := 0, cells := 30, slots := 60, locals := 0 } : Room).cells ({ frames := 0, cells := 30, slots := 60, locals := 0 } : Room).slots (own_Q4 Z p0 h0 n0) (TL.setTop (mkF m 4 #[.val (.int p0), .val (.long (own_P cn)), .second, .val (.ref x3), .val (.int i4), .val (.int i5), .val (.long u6), .second, .val (.long u8), .second] [])) := by
    intro f
    induction f with
    | zero =>
      intro cn hcn hL ZL lL NL TL XL eL hprev x3 i4 i5 u6 u8
      have hc30 : cn = 30 := by omega
      subst hc30
      show own_Ends _ _ _ _ _ _ _ (TL.setTop (mkF m 4 #[.val (.int p0), .val (.long (own_P 30)), .second, .val (.ref x3), .val (.int i4), .val (.int i5), .val (.long u6), .second, .val (.long u8), .second] []))
      refine own_step (fun _ k => XS.lloadN XL.here hx rfl (hb hby own_d4_4) rfl k) ?_
      show own_Ends _ _ _ _ _ _ _ (TL.setTop (mkF m 5 #[.val (.int p0), .val (.long (own_P 30)), .second, .val (.ref x3), .val (.int i4), .val (.int i5), .val (.long u6), .second, .val (.long u8), .second] [(.long (own_P 30))]))
      refine own_step (fun _ k => XL.ldc2Long hx hown (mvT hZ (hw _ (List.mem_of_getElem? (i := 6) rfl))) (g := (mkF m 5 #[.val (.int p0), .val (.long (own_P 30)), .second, .val (.ref x3), .val (.int i4), .val (.int i5), .val (.long u6), .second, .val (.long u8), .second] [(.long (own_P 30))])) rfl (hb hby own_d4_5) _ k) ?_
      show own_Ends _ _ _ _ _ _ _ (TL.setTop (mkF m 8 #[.val (.int p0), .val (.long (own_P 30)), .second, .val (.ref x3), .val (.int i4), .val (.int i5), .val (.long u6), .second, .val (.long u8), .second] [(.long (2147483647 : Int64)), (.long (own_P 30))]))
      refine own_step (fun _ k => XS.lcmp XL.here hx rfl (hb hby own_d4_8) rfl k) ?_
      show own_Ends _ _ _ _ _ _ _ (TL.setTop (mkF m 9 #[.val (.int p0), .val (.long (own_P 30)), .second, .val (.ref x3), .val (.int i4), .val (.int i5), .val (.long u6), .second, .val (.long u8), .second] [(.int (lcmpW (own_P 30) (2147483647 : Int64)))]))
      refine own_step (fun _ k => XS.ifYes XL.here hx rfl (pc0 := 9) (pc' := 108) rfl (hb hby own_d4_9) rfl ((if0 _ _).trans (tlt ((lw_gt _ _).mpr (by decide))).2.2.1) (by decide) (by decide) k) ?_
      show own_Ends _ _ _ _ _ _ _ (TL.setTop (mkF m 108 #[.val (.int p0), .val (.long (own_P 30)), .second, .val (.ref x3), .val (.int i4), .val (.int i5), .val (.long u6), .second, .val (.long u8), .second] []))
      refine own_step (fun _ k => XL.ldcInt hx hown (mvT hZ (hw _ (List.mem_of_getElem? (i := 32) rfl))) (g := (mkF m 108 #[.val (.int p0), .val (.long (own_P 30)), .second, .val (.ref x3), .val (.int i4), .val (.int i5), .val (.long u6), .second, .val (.long u8), .second] [])) rfl (hb hby own_d4_108) _ k) ?_
      show own_Ends _ _ _ _ _ _ _ (TL.setTop (mkF m 110 #[.val (.int p0), .val (.long (own_P 30)), .second, .val (.ref x3), .val (.int i4), .val (.int i5), .val (.long u6), .second, .val (.long u8), .second] [(.int (2147483639 : Int32))]))
      refine own_ret XL (BodyLoose.notSynchronized Bd) (v := (some (.int (2147483639 : Int32)))) (fun h => by rw [Bd.returns] at h; cases h) ?_ (by decide) (by decide) (fun fs hr => XL.ireturnOut hx Bd.returns rfl (by simp) (hb hby own_d4_110) hr)
      show own_Q4 Z p0  h0 n0 (some (.int (2147483639 : Int32))) TL.heap _
      rw [eL]
      exact ⟨_, rfl, NL, ZL, Or.inr ⟨hprev.resolve_left (by decide), rfl⟩⟩
    | succ f ih =>
      intro cn hcn hL ZL lL NL TL XL eL hprev x3 i4 i5 u6 u8
      show own_Ends _ _ _ _ _ _ _ (TL.setTop (mkF m 4 #[.val (.int p0), .val (.long (own_P cn)), .second, .val (.ref x3), .val (.int i4), .val (.int i5), .val (.long u6), .second, .val (.long u8), .second] []))
      have q1 : ¬ (2147483647 : Int64) < own_P cn := own_k1 ⟨cn, by omega⟩
      have q2 : own_P cn + own_P cn / 2 = own_H cn := own_k2 ⟨cn, by omega⟩
      have q3 : own_P cn * 2 = own_P (cn + 1) := own_k3 ⟨cn, by omega⟩
      have q4 : (own_P cn < 1024 → own_P cn = own_R (2 * cn)) ∧ (¬ own_P cn < 1024 → own_P cn - 32 = own_R (2 * cn)) := own_k4 ⟨cn, by omega⟩
      have q5 : (own_H cn < 1024 → own_H cn = own_R (2 * cn + 1)) ∧ (¬ own_H cn < 1024 → own_H cn - 32 = own_R (2 * cn + 1)) := own_k5 ⟨cn, by omega⟩
      have q60 : ¬ (2147483639 : Int64) < own_R (2 * cn) := own_k6 ⟨2 * cn, by omega⟩
      have q61 : ¬ (2147483639 : Int64) < own_R (2 * cn + 1) := own_k6 ⟨2 * cn + 1, by omega⟩
      have i0 : 2 * cn < 60 := by omega
      have i1 : 2 * cn + 1 < 60 := by omega
      have z0 : (2 * cn = 0 ∨ own_R (2 * cn - 1) < p0.toInt64) := hprev.imp (fun q => by omega) id
      have z1 : ∀ w : Int64, own_R (2 * cn) < w → (2 * cn + 1 = 0 ∨ own_R (2 * cn + 1 - 1) < w) := fun w h => Or.inr h
      have z2 : ∀ w : Int64, own_R (2 * cn + 1) < w → (cn + 1 = 0 ∨ own_R (2 * (cn + 1) - 1) < w) := fun w h => Or.inr (by rw [show 2 * (cn + 1) - 1 = 2 * cn + 1 by omega]; exact h)
      have z3 : cn + 1 ≤ 30 := by omega
      have z4 : 2 * cn + 2 ≤ 60 := by omega
      have a0l : ∀ (u : Int64), u = own_R (2 * cn) → ¬ u < p0.toInt64 → own_AL p0 u.toInt32 := fun u hu hc => Or.inl ⟨_, i0, by rw [hu], by rw [← hu]; exact hc, z0⟩
      have a1l : ∀ (u : Int64), u = own_R (2 * cn + 1) → ¬ u < p0.toInt64 → own_R (2 * cn) < p0.toInt64 → own_AL p0 u.toInt32 := fun u hu hc hd => Or.inl ⟨_, i1, by rw [hu], by rw [← hu]; exact hc, z1 _ hd⟩
      generalize hPP : own_P cn = PP at q1 q2 q3 q4 ⊢
      generalize hHH : own_H cn = HH at q2 q5
      generalize hR0 : own_R (2 * cn) = R0 at q4 q60 a0l a1l
      generalize hR1 : own_R (2 * cn + 1) = R1 at q5 q61 a1l
      show own_Ends _ _ _ _ _ _ _ (TL.setTop (mkF m 4 #[.val (.int p0), .val (.long PP), .second, .val (.ref x3), .val (.int i4), .val (.int i5), .val (.long u6), .second, .val (.long u8), .second] []))
      refine own_step (fun _ k => XS.lloadN XL.here hx rfl (hb hby own_d4_4) rfl k) ?_
      show own_Ends _ _ _ _ _ _ _ (TL.setTop (mkF m 5 #[.val (.int p0), .val (.long PP), .second, .val (.ref x3), .val (.int i4), .val (.int i5), .val (.long u6), .second, .val (.long u8), .second] [(.long PP)]))
      refine own_step (fun _ k => XL.ldc2Long hx hown (mvT hZ (hw _ (List.mem_of_getElem? (i := 6) rfl))) (g := (mkF m 5 #[.val (.int p0), .val (.long PP), .second, .val (.ref x3), .val (.int i4), .val (.int i5), .val (.long u6), .second, .val (.long u8), .second] [(.long PP)])) rfl (hb hby own_d4_5) _ k) ?_
      show own_Ends _ _ _ _ _ _ _ (TL.setTop (mkF m 8 #[.val (.int p0), .val (.long PP), .second, .val (.ref x3), .val (.int i4), .val (.int i5), .val (.long u6), .second, .val (.long u8), .second] [(.long (2147483647 : Int64)), (.long PP)]))
      refine own_step (fun _ k => XS.lcmp XL.here hx rfl (hb hby own_d4_8) rfl k) ?_
      show own_Ends _ _ _ _ _ _ _ (TL.setTop (mkF m 9 #[.val (.int p0), .val (.long PP), .second, .val (.ref x3), .val (.int i4), .val (.int i5), .val (.long u6), .second, .val (.long u8), .second] [(.int (lcmpW PP (2147483647 : Int64)))]))
      refine own_step (fun _ k => XS.ifNo XL.here hx rfl (hb hby own_d4_9) rfl ((if0 _ _).trans (flt (fun q => q1 ((lw_gt _ _).mp q))).2.2.1) k) ?_
      show own_Ends _ _ _ _ _ _ _ (TL.setTop (mkF m 12 #[.val (.int p0), .val (.long PP), .second, .val (.ref x3), .val (.int i4), .val (.int i5), .val (.long u6), .second, .val (.long u8), .second] []))
      refine own_step (fun _ k => XS.iconst XL.here hx rfl (hb hby own_d4_12) k) ?_
      show own_Ends _ _ _ _ _ _ _ (TL.setTop (mkF m 13 #[.val (.int p0), .val (.long PP), .second, .val (.ref x3), .val (.int i4), .val (.int i5), .val (.long u6), .second, .val (.long u8), .second] [(.int (2 : Int32))]))
      obtain ⟨T9, h9, k9, X9, e9, E9, A9, st9⟩ := newP XL hx hZ (hw _ (List.mem_of_getElem? (i := 7) rfl)) eL (g := (mkF m 13 #[.val (.int p0), .val (.long PP), .second, .val (.ref x3), .val (.int i4), .val (.int i5), .val (.long u6), .second, .val (.long u8), .second] [(.int (2 : Int32))])) rfl (hb hby own_d4_13) rfl (by decide) (cap := 2) (by decide) (by decide) z3 z4
      obtain ⟨b9, g9⟩ : ∃ z, z = hL.size := ⟨_, rfl⟩
      rw [← g9] at A9 st9
      have gn9 : n0 ≤ b9 := Nat.le_trans ZL (Nat.le_of_eq g9.symm)
      have Z9 := Nat.le_trans ZL E9.1
      have V9_b9 : Arv Z h9 b9 k9 .long (2 : Int32) [(.long (0 : Int64)), (.long (0 : Int64))] (.long (0 : Int64)) := (Arv.new A9 (by decide)).pad (pad_rep [] (.long (0 : Int64)) 2)
      refine own_step (fun _ k => st9 _ k) ?_
      show own_Ends _ _ _ _ _ _ _ (T9.setTop (mkF m 15 #[.val (.int p0), .val (.long PP), .second, .val (.ref x3), .val (.int i4), .val (.int i5), .val (.long u6), .second, .val (.long u8), .second] [(.ref b9)]))
      refine own_step (fun _ k => XS.dup X9.here hx rfl (hb hby own_d4_15) rfl rfl k) ?_
      show own_Ends _ _ _ _ _ _ _ (T9.setTop (mkF m 16 #[.val (.int p0), .val (.long PP), .second, .val (.ref x3), .val (.int i4), .val (.int i5), .val (.long u6), .second, .val (.long u8), .second] [(.ref b9), (.ref b9)]))
      refine own_step (fun _ k => XS.iconst X9.here hx rfl (hb hby own_d4_16) k) ?_
      show own_Ends _ _ _ _ _ _ _ (T9.setTop (mkF m 17 #[.val (.int p0), .val (.long PP), .second, .val (.ref x3), .val (.int i4), .val (.int i5), .val (.long u6), .second, .val (.long u8), .second] [(.int (0 : Int32)), (.ref b9), (.ref b9)]))
      refine own_step (fun _ k => XS.lloadN X9.here hx rfl (hb hby own_d4_17) rfl k) ?_
      show own_Ends _ _ _ _ _ _ _ (T9.setTop (mkF m 18 #[.val (.int p0), .val (.long PP), .second, .val (.ref x3), .val (.int i4), .val (.int i5), .val (.long u6), .second, .val (.long u8), .second] [(.long PP), (.int (0 : Int32)), (.ref b9), (.ref b9)]))
      obtain ⟨cl10, Ar10, qq10, S10, M10, H10, G10⟩ := id V9_b9
      have hin10 : ¬ ((0 : Int32) < 0 ∨ cl10.slots.size ≤ ((0 : Int32)).toNatClampNeg) := inb_of S10 ⟨by decide, by decide⟩
      obtain ⟨T10, h10, X10, e10, W10, st10⟩ := stJ X9 hx hZ e9 Ar10 (j := (0 : Int32)) hin10 (g := (mkF m 18 #[.val (.int p0), .val (.long PP), .second, .val (.ref x3), .val (.int i4), .val (.int i5), .val (.long u6), .second, .val (.long u8), .second] [(.long PP), (.int (0 : Int32)), (.ref b9), (.ref b9)])) rfl rfl (hb hby own_d4_18)
      have N10 := Fr.snoc X10 NL gn9
      have V10_b9 : Arv Z h10 b9 k9 .long (2 : Int32) [(.long PP), (.long (0 : Int64))] (.long (0 : Int64)) := Arv.set Ar10 qq10 S10 M10 H10 G10 rfl W10 0 (by decide) (by simp)
      have Z10 := Nat.le_trans Z9 (Keep.of_wr W10).1
      refine own_step (fun _ k => st10 _ k) ?_
      show own_Ends _ _ _ _ _ _ _ (T10.setTop (mkF m 19 #[.val (.int p0), .val (.long PP), .second, .val (.ref x3), .val (.int i4), .val (.int i5), .val (.long u6), .second, .val (.long u8), .second] [(.ref b9)]))
      refine own_step (fun _ k => XS.dup X10.here hx rfl (hb hby own_d4_19) rfl rfl k) ?_
      show own_Ends _ _ _ _ _ _ _ (T10.setTop (mkF m 20 #[.val (.int p0), .val (.long PP), .second, .val (.ref x3), .val (.int i4), .val (.int i5), .val (.long u6), .second, .val (.long u8), .second] [(.ref b9), (.ref b9)]))
      refine own_step (fun _ k => XS.iconst X10.here hx rfl (hb hby own_d4_20) k) ?_
      show own_Ends _ _ _ _ _ _ _ (T10.setTop (mkF m 21 #[.val (.int p0), .val (.long PP), .second, .val (.ref x3), .val (.int i4), .val (.int i5), .val (.long u6), .second, .val (.long u8), .second] [(.int (1 : Int32)), (.ref b9), (.ref b9)]))
      refine own_step (fun _ k => XS.lloadN X10.here hx rfl (hb hby own_d4_21) rfl k) ?_
      show own_Ends _ _ _ _ _ _ _ (T10.setTop (mkF m 22 #[.val (.int p0), .val (.long PP), .second, .val (.ref x3), .val (.int i4), .val (.int i5), .val (.long u6), .second, .val (.long u8), .second] [(.long PP), (.int (1 : Int32)), (.ref b9), (.ref b9)]))
      refine own_step (fun _ k => XS.lloadN X10.here hx rfl (hb hby own_d4_22) rfl k) ?_
      show own_Ends _ _ _ _ _ _ _ (T10.setTop (mkF m 23 #[.val (.int p0), .val (.long PP), .second, .val (.ref x3), .val (.int i4), .val (.int i5), .val (.long u6), .second, .val (.long u8), .second] [(.long PP), (.long PP), (.int (1 : Int32)), (.ref b9), (.ref b9)]))
      refine own_step (fun _ k => X10.ldc2Long hx hown (mvT hZ (hw _ (List.mem_of_getElem? (i := 5) rfl))) (g := (mkF m 23 #[.val (.int p0), .val (.long PP), .second, .val (.ref x3), .val (.int i4), .val (.int i5), .val (.long u6), .second, .val (.long u8), .second] [(.long PP), (.long PP), (.int (1 : Int32)), (.ref b9), (.ref b9)])) rfl (hb hby own_d4_23) _ k) ?_
      show own_Ends _ _ _ _ _ _ _ (T10.setTop (mkF m 26 #[.val (.int p0), .val (.long PP), .second, .val (.ref x3), .val (.int i4), .val (.int i5), .val (.long u6), .second, .val (.long u8), .second] [(.long (2 : Int64)), (.long PP), (.long PP), (.int (1 : Int32)), (.ref b9), (.ref b9)]))
      refine own_step (fun _ k => XS.ldiv X10.here hx rfl (hb hby own_d4_26) rfl (by decide) k) ?_
      show own_Ends _ _ _ _ _ _ _ (T10.setTop (mkF m 27 #[.val (.int p0), .val (.long PP), .second, .val (.ref x3), .val (.int i4), .val (.int i5), .val (.long u6), .second, .val (.long u8), .second] [(.long (PP / (2 : Int64))), (.long PP), (.int (1 : Int32)), (.ref b9), (.ref b9)]))
      refine own_step (fun _ k => XS.ladd X10.here hx rfl (hb hby own_d4_27) rfl k) ?_
      show own_Ends _ _ _ _ _ _ _ (T10.setTop (mkF m 28 #[.val (.int p0), .val (.long PP), .second, .val (.ref x3), .val (.int i4), .val (.int i5), .val (.long u6), .second, .val (.long u8), .second] [(.long (PP + (PP / (2 : Int64)))), (.int (1 : Int32)), (.ref b9), (.ref b9)]))
      rw [q2]
      show own_Ends _ _ _ _ _ _ _ (T10.setTop (mkF m 28 #[.val (.int p0), .val (.long PP), .second, .val (.ref x3), .val (.int i4), .val (.int i5), .val (.long u6), .second, .val (.long u8), .second] [(.long HH), (.int (1 : Int32)), (.ref b9), (.ref b9)]))
      obtain ⟨cl11, Ar11, qq11, S11, M11, H11, G11⟩ := id V10_b9
      have hin11 : ¬ ((1 : Int32) < 0 ∨ cl11.slots.size ≤ ((1 : Int32)).toNatClampNeg) := inb_of S11 ⟨by decide, by decide⟩
      obtain ⟨T11, h11, X11, e11, W11, st11⟩ := stJ X10 hx hZ e10 Ar11 (j := (1 : Int32)) hin11 (g := (mkF m 28 #[.val (.int p0), .val (.long PP), .second, .val (.ref x3), .val (.int i4), .val (.int i5), .val (.long u6), .second, .val (.long u8), .second] [(.long HH), (.int (1 : Int32)), (.ref b9), (.ref b9)])) rfl rfl (hb hby own_d4_28)
      have N11 := Fr.snoc X11 N10 gn9
      have V11_b9 : Arv Z h11 b9 k9 .long (2 : Int32) [(.long PP), (.long HH)] (.long (0 : Int64)) := Arv.set Ar11 qq11 S11 M11 H11 G11 rfl W11 1 (by decide) (by simp)
      have Z11 := Nat.le_trans Z10 (Keep.of_wr W11).1
      refine own_step (fun _ k => st11 _ k) ?_
      show own_Ends _ _ _ _ _ _ _ (T11.setTop (mkF m 29 #[.val (.int p0), .val (.long PP), .second, .val (.ref x3), .val (.int i4), .val (.int i5), .val (.long u6), .second, .val (.long u8), .second] [(.ref b9)]))
      refine own_step (fun _ k => XS.astoreN X11.here hx rfl (hb hby own_d4_29) rfl rfl (l' := #[.val (.int p0), .val (.long PP), .second, .val (.ref b9), .val (.int i4), .val (.int i5), .val (.long u6), .second, .val (.long u8), .second]) rfl k) ?_
      show own_Ends _ _ _ _ _ _ _ (T11.setTop (mkF m 30 #[.val (.int p0), .val (.long PP), .second, .val (.ref b9), .val (.int i4), .val (.int i5), .val (.long u6), .second, .val (.long u8), .second] []))
      refine own_step (fun _ k => XS.aloadN X11.here hx rfl (hb hby own_d4_30) rfl rfl k) ?_
      show own_Ends _ _ _ _ _ _ _ (T11.setTop (mkF m 31 #[.val (.int p0), .val (.long PP), .second, .val (.ref b9), .val (.int i4), .val (.int i5), .val (.long u6), .second, .val (.long u8), .second] [(.ref b9)]))
      obtain ⟨cl12, Ar12, qq12, S12, M12, H12, G12⟩ := id V11_b9
      refine own_step (fun _ k => X11.arraylength hx (by rw [e11]; exact Ar12.1) (State.isArrayOf_alike hZ.alike Ar12.2.1) (g := (mkF m 31 #[.val (.int p0), .val (.long PP), .second, .val (.ref b9), .val (.int i4), .val (.int i5), .val (.long u6), .second, .val (.long u8), .second] [(.ref b9)])) rfl rfl (hb hby own_d4_31) _ k) ?_
      rw [len_of S12 M12]
      show own_Ends _ _ _ _ _ _ _ (T11.setTop (mkF m 32 #[.val (.int p0), .val (.long PP), .second, .val (.ref b9), .val (.int i4), .val (.int i5), .val (.long u6), .second, .val (.long u8), .second] [(.int (2 : Int32))]))
      refine own_step (fun _ k => XS.istore X11.here hx rfl (hb hby own_d4_32) rfl (l' := #[.val (.int p0), .val (.long PP), .second, .val (.ref b9), .val (.int (2 : Int32)), .val (.int i5), .val (.long u6), .second, .val (.long u8), .second]) rfl k) ?_
      show own_Ends _ _ _ _ _ _ _ (T11.setTop (mkF m 34 #[.val (.int p0), .val (.long PP), .second, .val (.ref b9), .val (.int (2 : Int32)), .val (.int i5), .val (.long u6), .second, .val (.long u8), .second] []))
      refine own_step (fun _ k => XS.iconst X11.here hx rfl (hb hby own_d4_34) k) ?_
      show own_Ends _ _ _ _ _ _ _ (T11.setTop (mkF m 35 #[.val (.int p0), .val (.long PP), .second, .val (.ref b9), .val (.int (2 : Int32)), .val (.int i5), .val (.long u6), .second, .val (.long u8), .second] [(.int (0 : Int32))]))
      refine own_step (fun _ k => XS.istore X11.here hx rfl (hb hby own_d4_35) rfl (l' := #[.val (.int p0), .val (.long PP), .second, .val (.ref b9), .val (.int (2 : Int32)), .val (.int (0 : Int32)), .val (.long u6), .second, .val (.long u8), .second]) rfl k) ?_
      show own_Ends _ _ _ _ _ _ _ (T11.setTop (mkF m 37 #[.val (.int p0), .val (.long PP), .second, .val (.ref b9), .val (.int (2 : Int32)), .val (.int (0 : Int32)), .val (.long u6), .second, .val (.long u8), .second] []))
      refine own_step (fun _ k => XS.iload X11.here hx rfl (hb hby own_d4_37) rfl k) ?_
      show own_Ends _ _ _ _ _ _ _ (T11.setTop (mkF m 39 #[.val (.int p0), .val (.long PP), .second, .val (.ref b9), .val (.int (2 : Int32)), .val (.int (0 : Int32)), .val (.long u6), .second, .val (.long u8), .second] [(.int (0 : Int32))]))
      refine own_step (fun _ k => XS.iload X11.here hx rfl (hb hby own_d4_39) rfl k) ?_
      show own_Ends _ _ _ _ _ _ _ (T11.setTop (mkF m 41 #[.val (.int p0), .val (.long PP), .second, .val (.ref b9), .val (.int (2 : Int32)), .val (.int (0 : Int32)), .val (.long u6), .second, .val (.long u8), .second] [(.int (2 : Int32)), (.int (0 : Int32))]))
      refine own_step (fun _ k => XS.icmpNo X11.here hx rfl (hb hby own_d4_41) rfl (tlt (by decide)).2.1 k) ?_
      show own_Ends _ _ _ _ _ _ _ (T11.setTop (mkF m 44 #[.val (.int p0), .val (.long PP), .second, .val (.ref b9), .val (.int (2 : Int32)), .val (.int (0 : Int32)), .val (.long u6), .second, .val (.long u8), .second] []))
      refine own_step (fun _ k => XS.aloadN X11.here hx rfl (hb hby own_d4_44) rfl rfl k) ?_
      show own_Ends _ _ _ _ _ _ _ (T11.setTop (mkF m 45 #[.val (.int p0), .val (.long PP), .second, .val (.ref b9), .val (.int (2 : Int32)), .val (.int (0 : Int32)), .val (.long u6), .second, .val (.long u8), .second] [(.ref b9)]))
      refine own_step (fun _ k => XS.iload X11.here hx rfl (hb hby own_d4_45) rfl k) ?_
      show own_Ends _ _ _ _ _ _ _ (T11.setTop (mkF m 47 #[.val (.int p0), .val (.long PP), .second, .val (.ref b9), .val (.int (2 : Int32)), .val (.int (0 : Int32)), .val (.long u6), .second, .val (.long u8), .second] [(.int (0 : Int32)), (.ref b9)]))
      obtain ⟨cl13, Ar13, qq13, S13, M13, H13, G13⟩ := id V11_b9
      have hin13 : ¬ ((0 : Int32) < 0 ∨ cl13.slots.size ≤ ((0 : Int32)).toNatClampNeg) := inb_of S13 ⟨by decide, by decide⟩
      have hat13 : cl13.slots[((0 : Int32)).toNatClampNeg]? = some (.long PP) := Has.at H13 hin13 rfl
      refine own_step (fun _ k => X11.laload hx (j := (0 : Int32)) (v := (.long PP)) (by rw [e11]; exact Ar13.1) (State.isArrayOf_alike hZ.alike Ar13.2.1) Ar13.2.2 hin13 hat13 (g := (mkF m 47 #[.val (.int p0), .val (.long PP), .second, .val (.ref b9), .val (.int (2 : Int32)), .val (.int (0 : Int32)), .val (.long u6), .second, .val (.long u8), .second] [(.int (0 : Int32)), (.ref b9)])) rfl rfl (hb hby own_d4_47) _ k) ?_
      show own_Ends _ _ _ _ _ _ _ (T11.setTop (mkF m 48 #[.val (.int p0), .val (.long PP), .second, .val (.ref b9), .val (.int (2 : Int32)), .val (.int (0 : Int32)), .val (.long u6), .second, .val (.long u8), .second] [(.long PP)]))
      refine own_step (fun _ k => XS.lstore X11.here hx rfl (hb hby own_d4_48) rfl (l' := #[.val (.int p0), .val (.long PP), .second, .val (.ref b9), .val (.int (2 : Int32)), .val (.int (0 : Int32)), .val (.long PP), .second, .val (.long u8), .second]) rfl k) ?_
      show own_Ends _ _ _ _ _ _ _ (T11.setTop (mkF m 50 #[.val (.int p0), .val (.long PP), .second, .val (.ref b9), .val (.int (2 : Int32)), .val (.int (0 : Int32)), .val (.long PP), .second, .val (.long u8), .second] []))
      refine own_step (fun _ k => XS.lload X11.here hx rfl (hb hby own_d4_50) rfl k) ?_
      show own_Ends _ _ _ _ _ _ _ (T11.setTop (mkF m 52 #[.val (.int p0), .val (.long PP), .second, .val (.ref b9), .val (.int (2 : Int32)), .val (.int (0 : Int32)), .val (.long PP), .second, .val (.long u8), .second] [(.long PP)]))
      refine own_step (fun _ k => X11.ldc2Long hx hown (mvT hZ (hw _ (List.mem_of_getElem? (i := 8) rfl))) (g := (mkF m 52 #[.val (.int p0), .val (.long PP), .second, .val (.ref b9), .val (.int (2 : Int32)), .val (.int (0 : Int32)), .val (.long PP), .second, .val (.long u8), .second] [(.long PP)])) rfl (hb hby own_d4_52) _ k) ?_
      show own_Ends _ _ _ _ _ _ _ (T11.setTop (mkF m 55 #[.val (.int p0), .val (.long PP), .second, .val (.ref b9), .val (.int (2 : Int32)), .val (.int (0 : Int32)), .val (.long PP), .second, .val (.long u8), .second] [(.long (1024 : Int64)), (.long PP)]))
      refine own_step (fun _ k => XS.lcmp X11.here hx rfl (hb hby own_d4_55) rfl k) ?_
      show own_Ends _ _ _ _ _ _ _ (T11.setTop (mkF m 56 #[.val (.int p0), .val (.long PP), .second, .val (.ref b9), .val (.int (2 : Int32)), .val (.int (0 : Int32)), .val (.long PP), .second, .val (.long u8), .second] [(.int (lcmpW PP (1024 : Int64)))]))
      have J70_14 : ∀ (uu0 : Int64) (hu0 : uu0 = R0), own_Ends p e below s ({ frames := 0, cells := 30, slots := 60, locals := 0 } : Room).cells ({ frames := 0, cells := 30, slots := 60, locals := 0 } : Room).slots (own_Q4 Z p0  h0 n0) (T11.setTop (mkF m 70 #[.val (.int p0), .val (.long PP), .second, .val (.ref b9), .val (.int (2 : Int32)), .val (.int (0 : Int32)), .val (.long PP), .second, .val (.long u8), .second] [(.long uu0)])) := by
        intro uu0 hu0
        show own_Ends _ _ _ _ _ _ _ (T11.setTop (mkF m 70 #[.val (.int p0), .val (.long PP), .second, .val (.ref b9), .val (.int (2 : Int32)), .val (.int (0 : Int32)), .val (.long PP), .second, .val (.long u8), .second] [(.long uu0)]))
        rw [← hu0] at q60
        refine own_step (fun _ k => XS.lstore X11.here hx rfl (hb hby own_d4_70) rfl (l' := #[.val (.int p0), .val (.long PP), .second, .val (.ref b9), .val (.int (2 : Int32)), .val (.int (0 : Int32)), .val (.long PP), .second, .val (.long uu0), .second]) rfl k) ?_
        show own_Ends _ _ _ _ _ _ _ (T11.setTop (mkF m 72 #[.val (.int p0), .val (.long PP), .second, .val (.ref b9), .val (.int (2 : Int32)), .val (.int (0 : Int32)), .val (.long PP), .second, .val (.long uu0), .second] []))
        refine own_step (fun _ k => XS.lload X11.here hx rfl (hb hby own_d4_72) rfl k) ?_
        show own_Ends _ _ _ _ _ _ _ (T11.setTop (mkF m 74 #[.val (.int p0), .val (.long PP), .second, .val (.ref b9), .val (.int (2 : Int32)), .val (.int (0 : Int32)), .val (.long PP), .second, .val (.long uu0), .second] [(.long uu0)]))
        refine own_step (fun _ k => XS.iloadN X11.here hx rfl (hb hby own_d4_74) rfl k) ?_
        show own_Ends _ _ _ _ _ _ _ (T11.setTop (mkF m 75 #[.val (.int p0), .val (.long PP), .second, .val (.ref b9), .val (.int (2 : Int32)), .val (.int (0 : Int32)), .val (.long PP), .second, .val (.long uu0), .second] [(.int p0), (.long uu0)]))
        refine own_step (fun _ k => XS.i2l X11.here hx rfl (hb hby own_d4_75) rfl k) ?_
        show own_Ends _ _ _ _ _ _ _ (T11.setTop (mkF m 76 #[.val (.int p0), .val (.long PP), .second, .val (.ref b9), .val (.int (2 : Int32)), .val (.int (0 : Int32)), .val (.long PP), .second, .val (.long uu0), .second] [(.long ((p0).toInt64)), (.long uu0)]))
        refine own_step (fun _ k => XS.lcmp X11.here hx rfl (hb hby own_d4_76) rfl k) ?_
        show own_Ends _ _ _ _ _ _ _ (T11.setTop (mkF m 77 #[.val (.int p0), .val (.long PP), .second, .val (.ref b9), .val (.int (2 : Int32)), .val (.int (0 : Int32)), .val (.long PP), .second, .val (.long uu0), .second] [(.int (lcmpW uu0 ((p0).toInt64)))]))
        by_cases c0 : uu0 < ((p0).toInt64)
        · refine own_step (fun _ k => XS.ifYes X11.here hx rfl (pc0 := 77) (pc' := 93) rfl (hb hby own_d4_77) rfl ((if0 _ _).trans (tlt ((lw_lt _ _).mpr c0)).1) (by decide) (by decide) k) ?_
          show own_Ends _ _ _ _ _ _ _ (T11.setTop (mkF m 93 #[.val (.int p0), .val (.long PP), .second, .val (.ref b9), .val (.int (2 : Int32)), .val (.int (0 : Int32)), .val (.long PP), .second, .val (.long uu0), .second] []))
          refine own_step (fun _ k => XS.iinc X11.here hx rfl (hb hby own_d4_93) rfl (l' := #[.val (.int p0), .val (.long PP), .second, .val (.ref b9), .val (.int (2 : Int32)), .val (.int ((0 : Int32) + (1 : Int32))), .val (.long PP), .second, .val (.long uu0), .second]) rfl k) ?_
          show own_Ends _ _ _ _ _ _ _ (T11.setTop (mkF m 96 #[.val (.int p0), .val (.long PP), .second, .val (.ref b9), .val (.int (2 : Int32)), .val (.int ((0 : Int32) + (1 : Int32))), .val (.long PP), .second, .val (.long uu0), .second] []))
          refine own_step (fun _ k => XS.goto X11.here hx rfl (pc0 := 96) (pc' := 37) rfl (hb hby own_d4_96) (by decide) (by decide) k) ?_
          show own_Ends _ _ _ _ _ _ _ (T11.setTop (mkF m 37 #[.val (.int p0), .val (.long PP), .second, .val (.ref b9), .val (.int (2 : Int32)), .val (.int ((0 : Int32) + (1 : Int32))), .val (.long PP), .second, .val (.long uu0), .second] []))
          refine own_step (fun _ k => XS.iload X11.here hx rfl (hb hby own_d4_37) rfl k) ?_
          show own_Ends _ _ _ _ _ _ _ (T11.setTop (mkF m 39 #[.val (.int p0), .val (.long PP), .second, .val (.ref b9), .val (.int (2 : Int32)), .val (.int ((0 : Int32) + (1 : Int32))), .val (.long PP), .second, .val (.long uu0), .second] [(.int ((0 : Int32) + (1 : Int32)))]))
          refine own_step (fun _ k => XS.iload X11.here hx rfl (hb hby own_d4_39) rfl k) ?_
          show own_Ends _ _ _ _ _ _ _ (T11.setTop (mkF m 41 #[.val (.int p0), .val (.long PP), .second, .val (.ref b9), .val (.int (2 : Int32)), .val (.int ((0 : Int32) + (1 : Int32))), .val (.long PP), .second, .val (.long uu0), .second] [(.int (2 : Int32)), (.int ((0 : Int32) + (1 : Int32)))]))
          refine own_step (fun _ k => XS.icmpNo X11.here hx rfl (hb hby own_d4_41) rfl (tlt (by decide)).2.1 k) ?_
          show own_Ends _ _ _ _ _ _ _ (T11.setTop (mkF m 44 #[.val (.int p0), .val (.long PP), .second, .val (.ref b9), .val (.int (2 : Int32)), .val (.int ((0 : Int32) + (1 : Int32))), .val (.long PP), .second, .val (.long uu0), .second] []))
          refine own_step (fun _ k => XS.aloadN X11.here hx rfl (hb hby own_d4_44) rfl rfl k) ?_
          show own_Ends _ _ _ _ _ _ _ (T11.setTop (mkF m 45 #[.val (.int p0), .val (.long PP), .second, .val (.ref b9), .val (.int (2 : Int32)), .val (.int ((0 : Int32) + (1 : Int32))), .val (.long PP), .second, .val (.long uu0), .second] [(.ref b9)]))
          refine own_step (fun _ k => XS.iload X11.here hx rfl (hb hby own_d4_45) rfl k) ?_
          show own_Ends _ _ _ _ _ _ _ (T11.setTop (mkF m 47 #[.val (.int p0), .val (.long PP), .second, .val (.ref b9), .val (.int (2 : Int32)), .val (.int ((0 : Int32) + (1 : Int32))), .val (.long PP), .second, .val (.long uu0), .second] [(.int ((0 : Int32) + (1 : Int32))), (.ref b9)]))
          obtain ⟨cl15, Ar15, qq15, S15, M15, H15, G15⟩ := id V11_b9
          have hin15 : ¬ (((0 : Int32) + (1 : Int32)) < 0 ∨ cl15.slots.size ≤ (((0 : Int32) + (1 : Int32))).toNatClampNeg) := inb_of S15 ⟨by decide, by decide⟩
          have hat15 : cl15.slots[(((0 : Int32) + (1 : Int32))).toNatClampNeg]? = some (.long HH) := Has.at H15 hin15 rfl
          refine own_step (fun _ k => X11.laload hx (j := ((0 : Int32) + (1 : Int32))) (v := (.long HH)) (by rw [e11]; exact Ar15.1) (State.isArrayOf_alike hZ.alike Ar15.2.1) Ar15.2.2 hin15 hat15 (g := (mkF m 47 #[.val (.int p0), .val (.long PP), .second, .val (.ref b9), .val (.int (2 : Int32)), .val (.int ((0 : Int32) + (1 : Int32))), .val (.long PP), .second, .val (.long uu0), .second] [(.int ((0 : Int32) + (1 : Int32))), (.ref b9)])) rfl rfl (hb hby own_d4_47) _ k) ?_
          show own_Ends _ _ _ _ _ _ _ (T11.setTop (mkF m 48 #[.val (.int p0), .val (.long PP), .second, .val (.ref b9), .val (.int (2 : Int32)), .val (.int ((0 : Int32) + (1 : Int32))), .val (.long PP), .second, .val (.long uu0), .second] [(.long HH)]))
          refine own_step (fun _ k => XS.lstore X11.here hx rfl (hb hby own_d4_48) rfl (l' := #[.val (.int p0), .val (.long PP), .second, .val (.ref b9), .val (.int (2 : Int32)), .val (.int ((0 : Int32) + (1 : Int32))), .val (.long HH), .second, .val (.long uu0), .second]) rfl k) ?_
          show own_Ends _ _ _ _ _ _ _ (T11.setTop (mkF m 50 #[.val (.int p0), .val (.long PP), .second, .val (.ref b9), .val (.int (2 : Int32)), .val (.int ((0 : Int32) + (1 : Int32))), .val (.long HH), .second, .val (.long uu0), .second] []))
          refine own_step (fun _ k => XS.lload X11.here hx rfl (hb hby own_d4_50) rfl k) ?_
          show own_Ends _ _ _ _ _ _ _ (T11.setTop (mkF m 52 #[.val (.int p0), .val (.long PP), .second, .val (.ref b9), .val (.int (2 : Int32)), .val (.int ((0 : Int32) + (1 : Int32))), .val (.long HH), .second, .val (.long uu0), .second] [(.long HH)]))
          refine own_step (fun _ k => X11.ldc2Long hx hown (mvT hZ (hw _ (List.mem_of_getElem? (i := 8) rfl))) (g := (mkF m 52 #[.val (.int p0), .val (.long PP), .second, .val (.ref b9), .val (.int (2 : Int32)), .val (.int ((0 : Int32) + (1 : Int32))), .val (.long HH), .second, .val (.long uu0), .second] [(.long HH)])) rfl (hb hby own_d4_52) _ k) ?_
          show own_Ends _ _ _ _ _ _ _ (T11.setTop (mkF m 55 #[.val (.int p0), .val (.long PP), .second, .val (.ref b9), .val (.int (2 : Int32)), .val (.int ((0 : Int32) + (1 : Int32))), .val (.long HH), .second, .val (.long uu0), .second] [(.long (1024 : Int64)), (.long HH)]))
          refine own_step (fun _ k => XS.lcmp X11.here hx rfl (hb hby own_d4_55) rfl k) ?_
          show own_Ends _ _ _ _ _ _ _ (T11.setTop (mkF m 56 #[.val (.int p0), .val (.long PP), .second, .val (.ref b9), .val (.int (2 : Int32)), .val (.int ((0 : Int32) + (1 : Int32))), .val (.long HH), .second, .val (.long uu0), .second] [(.int (lcmpW HH (1024 : Int64)))]))
          have J70_16 : ∀ (uu1 : Int64) (hu1 : uu1 = R1), own_Ends p e below s ({ frames := 0, cells := 30, slots := 60, locals := 0 } : Room).cells ({ frames := 0, cells := 30, slots := 60, locals := 0 } : Room).slots (own_Q4 Z p0  h0 n0) (T11.setTop (mkF m 70 #[.val (.int p0), .val (.long PP), .second, .val (.ref b9), .val (.int (2 : Int32)), .val (.int ((0 : Int32) + (1 : Int32))), .val (.long HH), .second, .val (.long uu0), .second] [(.long uu1)])) := by
            intro uu1 hu1
            show own_Ends _ _ _ _ _ _ _ (T11.setTop (mkF m 70 #[.val (.int p0), .val (.long PP), .second, .val (.ref b9), .val (.int (2 : Int32)), .val (.int ((0 : Int32) + (1 : Int32))), .val (.long HH), .second, .val (.long uu0), .second] [(.long uu1)]))
            rw [← hu1] at q61
            refine own_step (fun _ k => XS.lstore X11.here hx rfl (hb hby own_d4_70) rfl (l' := #[.val (.int p0), .val (.long PP), .second, .val (.ref b9), .val (.int (2 : Int32)), .val (.int ((0 : Int32) + (1 : Int32))), .val (.long HH), .second, .val (.long uu1), .second]) rfl k) ?_
            show own_Ends _ _ _ _ _ _ _ (T11.setTop (mkF m 72 #[.val (.int p0), .val (.long PP), .second, .val (.ref b9), .val (.int (2 : Int32)), .val (.int ((0 : Int32) + (1 : Int32))), .val (.long HH), .second, .val (.long uu1), .second] []))
            refine own_step (fun _ k => XS.lload X11.here hx rfl (hb hby own_d4_72) rfl k) ?_
            show own_Ends _ _ _ _ _ _ _ (T11.setTop (mkF m 74 #[.val (.int p0), .val (.long PP), .second, .val (.ref b9), .val (.int (2 : Int32)), .val (.int ((0 : Int32) + (1 : Int32))), .val (.long HH), .second, .val (.long uu1), .second] [(.long uu1)]))
            refine own_step (fun _ k => XS.iloadN X11.here hx rfl (hb hby own_d4_74) rfl k) ?_
            show own_Ends _ _ _ _ _ _ _ (T11.setTop (mkF m 75 #[.val (.int p0), .val (.long PP), .second, .val (.ref b9), .val (.int (2 : Int32)), .val (.int ((0 : Int32) + (1 : Int32))), .val (.long HH), .second, .val (.long uu1), .second] [(.int p0), (.long uu1)]))
            refine own_step (fun _ k => XS.i2l X11.here hx rfl (hb hby own_d4_75) rfl k) ?_
            show own_Ends _ _ _ _ _ _ _ (T11.setTop (mkF m 76 #[.val (.int p0), .val (.long PP), .second, .val (.ref b9), .val (.int (2 : Int32)), .val (.int ((0 : Int32) + (1 : Int32))), .val (.long HH), .second, .val (.long uu1), .second] [(.long ((p0).toInt64)), (.long uu1)]))
            refine own_step (fun _ k => XS.lcmp X11.here hx rfl (hb hby own_d4_76) rfl k) ?_
            show own_Ends _ _ _ _ _ _ _ (T11.setTop (mkF m 77 #[.val (.int p0), .val (.long PP), .second, .val (.ref b9), .val (.int (2 : Int32)), .val (.int ((0 : Int32) + (1 : Int32))), .val (.long HH), .second, .val (.long uu1), .second] [(.int (lcmpW uu1 ((p0).toInt64)))]))
            by_cases c1 : uu1 < ((p0).toInt64)
            · refine own_step (fun _ k => XS.ifYes X11.here hx rfl (pc0 := 77) (pc' := 93) rfl (hb hby own_d4_77) rfl ((if0 _ _).trans (tlt ((lw_lt _ _).mpr c1)).1) (by decide) (by decide) k) ?_
              show own_Ends _ _ _ _ _ _ _ (T11.setTop (mkF m 93 #[.val (.int p0), .val (.long PP), .second, .val (.ref b9), .val (.int (2 : Int32)), .val (.int ((0 : Int32) + (1 : Int32))), .val (.long HH), .second, .val (.long uu1), .second] []))
              refine own_step (fun _ k => XS.iinc X11.here hx rfl (hb hby own_d4_93) rfl (l' := #[.val (.int p0), .val (.long PP), .second, .val (.ref b9), .val (.int (2 : Int32)), .val (.int (((0 : Int32) + (1 : Int32)) + (1 : Int32))), .val (.long HH), .second, .val (.long uu1), .second]) rfl k) ?_
              show own_Ends _ _ _ _ _ _ _ (T11.setTop (mkF m 96 #[.val (.int p0), .val (.long PP), .second, .val (.ref b9), .val (.int (2 : Int32)), .val (.int (((0 : Int32) + (1 : Int32)) + (1 : Int32))), .val (.long HH), .second, .val (.long uu1), .second] []))
              refine own_step (fun _ k => XS.goto X11.here hx rfl (pc0 := 96) (pc' := 37) rfl (hb hby own_d4_96) (by decide) (by decide) k) ?_
              show own_Ends _ _ _ _ _ _ _ (T11.setTop (mkF m 37 #[.val (.int p0), .val (.long PP), .second, .val (.ref b9), .val (.int (2 : Int32)), .val (.int (((0 : Int32) + (1 : Int32)) + (1 : Int32))), .val (.long HH), .second, .val (.long uu1), .second] []))
              refine own_step (fun _ k => XS.iload X11.here hx rfl (hb hby own_d4_37) rfl k) ?_
              show own_Ends _ _ _ _ _ _ _ (T11.setTop (mkF m 39 #[.val (.int p0), .val (.long PP), .second, .val (.ref b9), .val (.int (2 : Int32)), .val (.int (((0 : Int32) + (1 : Int32)) + (1 : Int32))), .val (.long HH), .second, .val (.long uu1), .second] [(.int (((0 : Int32) + (1 : Int32)) + (1 : Int32)))]))
              refine own_step (fun _ k => XS.iload X11.here hx rfl (hb hby own_d4_39) rfl k) ?_
              show own_Ends _ _ _ _ _ _ _ (T11.setTop (mkF m 41 #[.val (.int p0), .val (.long PP), .second, .val (.ref b9), .val (.int (2 : Int32)), .val (.int (((0 : Int32) + (1 : Int32)) + (1 : Int32))), .val (.long HH), .second, .val (.long uu1), .second] [(.int (2 : Int32)), (.int (((0 : Int32) + (1 : Int32)) + (1 : Int32)))]))
              refine own_step (fun _ k => XS.icmpYes X11.here hx rfl (pc0 := 41) (pc' := 99) rfl (hb hby own_d4_41) rfl (flt (by decide)).2.1 (by decide) (by decide) k) ?_
              show own_Ends _ _ _ _ _ _ _ (T11.setTop (mkF m 99 #[.val (.int p0), .val (.long PP), .second, .val (.ref b9), .val (.int (2 : Int32)), .val (.int (((0 : Int32) + (1 : Int32)) + (1 : Int32))), .val (.long HH), .second, .val (.long uu1), .second] []))
              refine own_step (fun _ k => XS.lloadN X11.here hx rfl (hb hby own_d4_99) rfl k) ?_
              show own_Ends _ _ _ _ _ _ _ (T11.setTop (mkF m 100 #[.val (.int p0), .val (.long PP), .second, .val (.ref b9), .val (.int (2 : Int32)), .val (.int (((0 : Int32) + (1 : Int32)) + (1 : Int32))), .val (.long HH), .second, .val (.long uu1), .second] [(.long PP)]))
              refine own_step (fun _ k => X11.ldc2Long hx hown (mvT hZ (hw _ (List.mem_of_getElem? (i := 5) rfl))) (g := (mkF m 100 #[.val (.int p0), .val (.long PP), .second, .val (.ref b9), .val (.int (2 : Int32)), .val (.int (((0 : Int32) + (1 : Int32)) + (1 : Int32))), .val (.long HH), .second, .val (.long uu1), .second] [(.long PP)])) rfl (hb hby own_d4_100) _ k) ?_
              show own_Ends _ _ _ _ _ _ _ (T11.setTop (mkF m 103 #[.val (.int p0), .val (.long PP), .second, .val (.ref b9), .val (.int (2 : Int32)), .val (.int (((0 : Int32) + (1 : Int32)) + (1 : Int32))), .val (.long HH), .second, .val (.long uu1), .second] [(.long (2 : Int64)), (.long PP)]))
              refine own_step (fun _ k => XS.lmul X11.here hx rfl (hb hby own_d4_103) rfl k) ?_
              show own_Ends _ _ _ _ _ _ _ (T11.setTop (mkF m 104 #[.val (.int p0), .val (.long PP), .second, .val (.ref b9), .val (.int (2 : Int32)), .val (.int (((0 : Int32) + (1 : Int32)) + (1 : Int32))), .val (.long HH), .second, .val (.long uu1), .second] [(.long (PP * (2 : Int64)))]))
              rw [q3]
              show own_Ends _ _ _ _ _ _ _ (T11.setTop (mkF m 104 #[.val (.int p0), .val (.long PP), .second, .val (.ref b9), .val (.int (2 : Int32)), .val (.int (((0 : Int32) + (1 : Int32)) + (1 : Int32))), .val (.long HH), .second, .val (.long uu1), .second] [(.long (own_P (cn + 1)))]))
              refine own_step (fun _ k => XS.lstoreN X11.here hx rfl (hb hby own_d4_104) rfl (l' := #[.val (.int p0), .val (.long (own_P (cn + 1))), .second, .val (.ref b9), .val (.int (2 : Int32)), .val (.int (((0 : Int32) + (1 : Int32)) + (1 : Int32))), .val (.long HH), .second, .val (.long uu1), .second]) rfl k) ?_
              show own_Ends _ _ _ _ _ _ _ (T11.setTop (mkF m 105 #[.val (.int p0), .val (.long (own_P (cn + 1))), .second, .val (.ref b9), .val (.int (2 : Int32)), .val (.int (((0 : Int32) + (1 : Int32)) + (1 : Int32))), .val (.long HH), .second, .val (.long uu1), .second] []))
              refine own_step (fun _ k => XS.goto X11.here hx rfl (pc0 := 105) (pc' := 4) rfl (hb hby own_d4_105) (by decide) (by decide) k) ?_
              show own_Ends _ _ _ _ _ _ _ (T11.setTop (mkF m 4 #[.val (.int p0), .val (.long (own_P (cn + 1))), .second, .val (.ref b9), .val (.int (2 : Int32)), .val (.int (((0 : Int32) + (1 : Int32)) + (1 : Int32))), .val (.long HH), .second, .val (.long uu1), .second] []))
              exact ih (cn + 1) (by omega) _ Z11 _ N11 _ X11 e11 (z2 _ (by rw [hR1, ← hu1]; exact c1)) _ _ _ _ _
            · refine own_step (fun _ k => XS.ifNo X11.here hx rfl (hb hby own_d4_77) rfl ((if0 _ _).trans (flt (fun q => c1 ((lw_lt _ _).mp q))).1) k) ?_
              show own_Ends _ _ _ _ _ _ _ (T11.setTop (mkF m 80 #[.val (.int p0), .val (.long PP), .second, .val (.ref b9), .val (.int (2 : Int32)), .val (.int ((0 : Int32) + (1 : Int32))), .val (.long HH), .second, .val (.long uu1), .second] []))
              refine own_step (fun _ k => XS.lload X11.here hx rfl (hb hby own_d4_80) rfl k) ?_
              show own_Ends _ _ _ _ _ _ _ (T11.setTop (mkF m 82 #[.val (.int p0), .val (.long PP), .second, .val (.ref b9), .val (.int (2 : Int32)), .val (.int ((0 : Int32) + (1 : Int32))), .val (.long HH), .second, .val (.long uu1), .second] [(.long uu1)]))
              refine own_step (fun _ k => X11.ldc2Long hx hown (mvT hZ (hw _ (List.mem_of_getElem? (i := 9) rfl))) (g := (mkF m 82 #[.val (.int p0), .val (.long PP), .second, .val (.ref b9), .val (.int (2 : Int32)), .val (.int ((0 : Int32) + (1 : Int32))), .val (.long HH), .second, .val (.long uu1), .second] [(.long uu1)])) rfl (hb hby own_d4_82) _ k) ?_
              show own_Ends _ _ _ _ _ _ _ (T11.setTop (mkF m 85 #[.val (.int p0), .val (.long PP), .second, .val (.ref b9), .val (.int (2 : Int32)), .val (.int ((0 : Int32) + (1 : Int32))), .val (.long HH), .second, .val (.long uu1), .second] [(.long (2147483639 : Int64)), (.long uu1)]))
              refine own_step (fun _ k => XS.lcmp X11.here hx rfl (hb hby own_d4_85) rfl k) ?_
              show own_Ends _ _ _ _ _ _ _ (T11.setTop (mkF m 86 #[.val (.int p0), .val (.long PP), .second, .val (.ref b9), .val (.int (2 : Int32)), .val (.int ((0 : Int32) + (1 : Int32))), .val (.long HH), .second, .val (.long uu1), .second] [(.int (lcmpW uu1 (2147483639 : Int64)))]))
              refine own_step (fun _ k => XS.ifNo X11.here hx rfl (hb hby own_d4_86) rfl ((if0 _ _).trans (flt (fun q => q61 ((lw_gt _ _).mp q))).2.2.1) k) ?_
              show own_Ends _ _ _ _ _ _ _ (T11.setTop (mkF m 89 #[.val (.int p0), .val (.long PP), .second, .val (.ref b9), .val (.int (2 : Int32)), .val (.int ((0 : Int32) + (1 : Int32))), .val (.long HH), .second, .val (.long uu1), .second] []))
              refine own_step (fun _ k => XS.lload X11.here hx rfl (hb hby own_d4_89) rfl k) ?_
              show own_Ends _ _ _ _ _ _ _ (T11.setTop (mkF m 91 #[.val (.int p0), .val (.long PP), .second, .val (.ref b9), .val (.int (2 : Int32)), .val (.int ((0 : Int32) + (1 : Int32))), .val (.long HH), .second, .val (.long uu1), .second] [(.long uu1)]))
              refine own_step (fun _ k => XS.l2i X11.here hx rfl (hb hby own_d4_91) rfl k) ?_
              show own_Ends _ _ _ _ _ _ _ (T11.setTop (mkF m 92 #[.val (.int p0), .val (.long PP), .second, .val (.ref b9), .val (.int (2 : Int32)), .val (.int ((0 : Int32) + (1 : Int32))), .val (.long HH), .second, .val (.long uu1), .second] [(.int ((uu1).toInt32))]))
              refine own_ret X11 (BodyLoose.notSynchronized Bd) (v := (some (.int ((uu1).toInt32)))) (fun h => by rw [Bd.returns] at h; cases h) ?_ z3 z4 (fun fs hr => X11.ireturnOut hx Bd.returns rfl (by simp) (hb hby own_d4_92) hr)
              show own_Q4 Z p0  h0 n0 (some (.int ((uu1).toInt32))) T11.heap _
              rw [e11]
              exact ⟨_, rfl, N11, Z11, (a1l _ hu1 c1 (by rw [← hu0]; exact c0))⟩
          by_cases s1 : HH < (1024 : Int64)
          · refine own_step (fun _ k => XS.ifYes X11.here hx rfl (pc0 := 56) (pc' := 68) rfl (hb hby own_d4_56) rfl ((if0 _ _).trans (tlt ((lw_lt _ _).mpr s1)).1) (by decide) (by decide) k) ?_
            show own_Ends _ _ _ _ _ _ _ (T11.setTop (mkF m 68 #[.val (.int p0), .val (.long PP), .second, .val (.ref b9), .val (.int (2 : Int32)), .val (.int ((0 : Int32) + (1 : Int32))), .val (.long HH), .second, .val (.long uu0), .second] []))
            refine own_step (fun _ k => XS.lload X11.here hx rfl (hb hby own_d4_68) rfl k) ?_
            show own_Ends _ _ _ _ _ _ _ (T11.setTop (mkF m 70 #[.val (.int p0), .val (.long PP), .second, .val (.ref b9), .val (.int (2 : Int32)), .val (.int ((0 : Int32) + (1 : Int32))), .val (.long HH), .second, .val (.long uu0), .second] [(.long HH)]))
            exact J70_16 _ (q5.1 s1)
          · refine own_step (fun _ k => XS.ifNo X11.here hx rfl (hb hby own_d4_56) rfl ((if0 _ _).trans (flt (fun q => s1 ((lw_lt _ _).mp q))).1) k) ?_
            show own_Ends _ _ _ _ _ _ _ (T11.setTop (mkF m 59 #[.val (.int p0), .val (.long PP), .second, .val (.ref b9), .val (.int (2 : Int32)), .val (.int ((0 : Int32) + (1 : Int32))), .val (.long HH), .second, .val (.long uu0), .second] []))
            refine own_step (fun _ k => XS.lload X11.here hx rfl (hb hby own_d4_59) rfl k) ?_
            show own_Ends _ _ _ _ _ _ _ (T11.setTop (mkF m 61 #[.val (.int p0), .val (.long PP), .second, .val (.ref b9), .val (.int (2 : Int32)), .val (.int ((0 : Int32) + (1 : Int32))), .val (.long HH), .second, .val (.long uu0), .second] [(.long HH)]))
            refine own_step (fun _ k => X11.ldc2Long hx hown (mvT hZ (hw _ (List.mem_of_getElem? (i := 27) rfl))) (g := (mkF m 61 #[.val (.int p0), .val (.long PP), .second, .val (.ref b9), .val (.int (2 : Int32)), .val (.int ((0 : Int32) + (1 : Int32))), .val (.long HH), .second, .val (.long uu0), .second] [(.long HH)])) rfl (hb hby own_d4_61) _ k) ?_
            show own_Ends _ _ _ _ _ _ _ (T11.setTop (mkF m 64 #[.val (.int p0), .val (.long PP), .second, .val (.ref b9), .val (.int (2 : Int32)), .val (.int ((0 : Int32) + (1 : Int32))), .val (.long HH), .second, .val (.long uu0), .second] [(.long (32 : Int64)), (.long HH)]))
            refine own_step (fun _ k => XS.lsub X11.here hx rfl (hb hby own_d4_64) rfl k) ?_
            show own_Ends _ _ _ _ _ _ _ (T11.setTop (mkF m 65 #[.val (.int p0), .val (.long PP), .second, .val (.ref b9), .val (.int (2 : Int32)), .val (.int ((0 : Int32) + (1 : Int32))), .val (.long HH), .second, .val (.long uu0), .second] [(.long (HH - (32 : Int64)))]))
            refine own_step (fun _ k => XS.goto X11.here hx rfl (pc0 := 65) (pc' := 70) rfl (hb hby own_d4_65) (by decide) (by decide) k) ?_
            show own_Ends _ _ _ _ _ _ _ (T11.setTop (mkF m 70 #[.val (.int p0), .val (.long PP), .second, .val (.ref b9), .val (.int (2 : Int32)), .val (.int ((0 : Int32) + (1 : Int32))), .val (.long HH), .second, .val (.long uu0), .second] [(.long (HH - (32 : Int64)))]))
            exact J70_16 _ (q5.2 s1)
        · refine own_step (fun _ k => XS.ifNo X11.here hx rfl (hb hby own_d4_77) rfl ((if0 _ _).trans (flt (fun q => c0 ((lw_lt _ _).mp q))).1) k) ?_
          show own_Ends _ _ _ _ _ _ _ (T11.setTop (mkF m 80 #[.val (.int p0), .val (.long PP), .second, .val (.ref b9), .val (.int (2 : Int32)), .val (.int (0 : Int32)), .val (.long PP), .second, .val (.long uu0), .second] []))
          refine own_step (fun _ k => XS.lload X11.here hx rfl (hb hby own_d4_80) rfl k) ?_
          show own_Ends _ _ _ _ _ _ _ (T11.setTop (mkF m 82 #[.val (.int p0), .val (.long PP), .second, .val (.ref b9), .val (.int (2 : Int32)), .val (.int (0 : Int32)), .val (.long PP), .second, .val (.long uu0), .second] [(.long uu0)]))
          refine own_step (fun _ k => X11.ldc2Long hx hown (mvT hZ (hw _ (List.mem_of_getElem? (i := 9) rfl))) (g := (mkF m 82 #[.val (.int p0), .val (.long PP), .second, .val (.ref b9), .val (.int (2 : Int32)), .val (.int (0 : Int32)), .val (.long PP), .second, .val (.long uu0), .second] [(.long uu0)])) rfl (hb hby own_d4_82) _ k) ?_
          show own_Ends _ _ _ _ _ _ _ (T11.setTop (mkF m 85 #[.val (.int p0), .val (.long PP), .second, .val (.ref b9), .val (.int (2 : Int32)), .val (.int (0 : Int32)), .val (.long PP), .second, .val (.long uu0), .second] [(.long (2147483639 : Int64)), (.long uu0)]))
          refine own_step (fun _ k => XS.lcmp X11.here hx rfl (hb hby own_d4_85) rfl k) ?_
          show own_Ends _ _ _ _ _ _ _ (T11.setTop (mkF m 86 #[.val (.int p0), .val (.long PP), .second, .val (.ref b9), .val (.int (2 : Int32)), .val (.int (0 : Int32)), .val (.long PP), .second, .val (.long uu0), .second] [(.int (lcmpW uu0 (2147483639 : Int64)))]))
          refine own_step (fun _ k => XS.ifNo X11.here hx rfl (hb hby own_d4_86) rfl ((if0 _ _).trans (flt (fun q => q60 ((lw_gt _ _).mp q))).2.2.1) k) ?_
          show own_Ends _ _ _ _ _ _ _ (T11.setTop (mkF m 89 #[.val (.int p0), .val (.long PP), .second, .val (.ref b9), .val (.int (2 : Int32)), .val (.int (0 : Int32)), .val (.long PP), .second, .val (.long uu0), .second] []))
          refine own_step (fun _ k => XS.lload X11.here hx rfl (hb hby own_d4_89) rfl k) ?_
          show own_Ends _ _ _ _ _ _ _ (T11.setTop (mkF m 91 #[.val (.int p0), .val (.long PP), .second, .val (.ref b9), .val (.int (2 : Int32)), .val (.int (0 : Int32)), .val (.long PP), .second, .val (.long uu0), .second] [(.long uu0)]))
          refine own_step (fun _ k => XS.l2i X11.here hx rfl (hb hby own_d4_91) rfl k) ?_
          show own_Ends _ _ _ _ _ _ _ (T11.setTop (mkF m 92 #[.val (.int p0), .val (.long PP), .second, .val (.ref b9), .val (.int (2 : Int32)), .val (.int (0 : Int32)), .val (.long PP), .second, .val (.long uu0), .second] [(.int ((uu0).toInt32))]))
          refine own_ret X11 (BodyLoose.notSynchronized Bd) (v := (some (.int ((uu0).toInt32)))) (fun h => by rw [Bd.returns] at h; cases h) ?_ z3 z4 (fun fs hr => X11.ireturnOut hx Bd.returns rfl (by simp) (hb hby own_d4_92) hr)
          show own_Q4 Z p0  h0 n0 (some (.int ((uu0).toInt32))) T11.heap _
          rw [e11]
          exact ⟨_, rfl, N11, Z11, (a0l _ hu0 c0)⟩
      by_cases s0 : PP < (1024 : Int64)
      · refine own_step (fun _ k => XS.ifYes X11.here hx rfl (pc0 := 56) (pc' := 68) rfl (hb hby own_d4_56) rfl ((if0 _ _).trans (tlt ((lw_lt _ _).mpr s0)).1) (by decide) (by decide) k) ?_
        show own_Ends _ _ _ _ _ _ _ (T11.setTop (mkF m 68 #[.val (.int p0), .val (.long PP), .second, .val (.ref b9), .val (.int (2 : Int32)), .val (.int (0 : Int32)), .val (.long PP), .second, .val (.long u8), .second] []))
        refine own_step (fun _ k => XS.lload X11.here hx rfl (hb hby own_d4_68) rfl k) ?_
        show own_Ends _ _ _ _ _ _ _ (T11.setTop (mkF m 70 #[.val (.int p0), .val (.long PP), .second, .val (.ref b9), .val (.int (2 : Int32)), .val (.int (0 : Int32)), .val (.long PP), .second, .val (.long u8), .second] [(.long PP)]))
        exact J70_14 _ (q4.1 s0)
      · refine own_step (fun _ k => XS.ifNo X11.here hx rfl (hb hby own_d4_56) rfl ((if0 _ _).trans (flt (fun q => s0 ((lw_lt _ _).mp q))).1) k) ?_
        show own_Ends _ _ _ _ _ _ _ (T11.setTop (mkF m 59 #[.val (.int p0), .val (.long PP), .second, .val (.ref b9), .val (.int (2 : Int32)), .val (.int (0 : Int32)), .val (.long PP), .second, .val (.long u8), .second] []))
        refine own_step (fun _ k => XS.lload X11.here hx rfl (hb hby own_d4_59) rfl k) ?_
        show own_Ends _ _ _ _ _ _ _ (T11.setTop (mkF m 61 #[.val (.int p0), .val (.long PP), .second, .val (.ref b9), .val (.int (2 : Int32)), .val (.int (0 : Int32)), .val (.long PP), .second, .val (.long u8), .second] [(.long PP)]))
        refine own_step (fun _ k => X11.ldc2Long hx hown (mvT hZ (hw _ (List.mem_of_getElem? (i := 27) rfl))) (g := (mkF m 61 #[.val (.int p0), .val (.long PP), .second, .val (.ref b9), .val (.int (2 : Int32)), .val (.int (0 : Int32)), .val (.long PP), .second, .val (.long u8), .second] [(.long PP)])) rfl (hb hby own_d4_61) _ k) ?_
        show own_Ends _ _ _ _ _ _ _ (T11.setTop (mkF m 64 #[.val (.int p0), .val (.long PP), .second, .val (.ref b9), .val (.int (2 : Int32)), .val (.int (0 : Int32)), .val (.long PP), .second, .val (.long u8), .second] [(.long (32 : Int64)), (.long PP)]))
        refine own_step (fun _ k => XS.lsub X11.here hx rfl (hb hby own_d4_64) rfl k) ?_
        show own_Ends _ _ _ _ _ _ _ (T11.setTop (mkF m 65 #[.val (.int p0), .val (.long PP), .second, .val (.ref b9), .val (.int (2 : Int32)), .val (.int (0 : Int32)), .val (.long PP), .second, .val (.long u8), .second] [(.long (PP - (32 : Int64)))]))
        refine own_step (fun _ k => XS.goto X11.here hx rfl (pc0 := 65) (pc' := 70) rfl (hb hby own_d4_65) (by decide) (by decide) k) ?_
        show own_Ends _ _ _ _ _ _ _ (T11.setTop (mkF m 70 #[.val (.int p0), .val (.long PP), .second, .val (.ref b9), .val (.int (2 : Int32)), .val (.int (0 : Int32)), .val (.long PP), .second, .val (.long u8), .second] [(.long (PP - (32 : Int64)))]))
        exact J70_14 _ (q4.2 s0)
  have hprev : (0 : Nat) = 0 ∨ own_R (2 * 0 - 1) < p0.toInt64 := Or.inl rfl
  have q1 : ¬ (2147483647 : Int64) < own_P 0 := own_k1 ⟨0, by omega⟩
  have q2 : own_P 0 + own_P 0 / 2 = own_H 0 := own_k2 ⟨0, by omega⟩
  have q3 : own_P 0 * 2 = own_P (0 + 1) := own_k3 ⟨0, by omega⟩
  have q4 : (own_P 0 < 1024 → own_P 0 = own_R (2 * 0)) ∧ (¬ own_P 0 < 1024 → own_P 0 - 32 = own_R (2 * 0)) := own_k4 ⟨0, by omega⟩
  have q5 : (own_H 0 < 1024 → own_H 0 = own_R (2 * 0 + 1)) ∧ (¬ own_H 0 < 1024 → own_H 0 - 32 = own_R (2 * 0 + 1)) := own_k5 ⟨0, by omega⟩
  have q60 : ¬ (2147483639 : Int64) < own_R (2 * 0) := own_k6 ⟨2 * 0, by omega⟩
  have q61 : ¬ (2147483639 : Int64) < own_R (2 * 0 + 1) := own_k6 ⟨2 * 0 + 1, by omega⟩
  have i0 : 2 * 0 < 60 := by omega
  have i1 : 2 * 0 + 1 < 60 := by omega
  have z0 : (2 * 0 = 0 ∨ own_R (2 * 0 - 1) < p0.toInt64) := hprev.imp (fun q => by omega) id
  have z1 : ∀ w : Int64, own_R (2 * 0) < w → (2 * 0 + 1 = 0 ∨ own_R (2 * 0 + 1 - 1) < w) := fun w h => Or.inr h
  have z2 : ∀ w : Int64, own_R (2 * 0 + 1) < w → (0 + 1 = 0 ∨ own_R (2 * (0 + 1) - 1) < w) := fun w h => Or.inr (by rw [show 2 * (0 + 1) - 1 = 2 * 0 + 1 by omega]; exact h)
  have z3 : 0 + 1 ≤ 30 := by omega
  have z4 : 2 * 0 + 2 ≤ 60 := by omega
  have a0l : ∀ (u : Int64), u = own_R (2 * 0) → ¬ u < p0.toInt64 → own_AL p0 u.toInt32 := fun u hu hc => Or.inl ⟨_, i0, by rw [hu], by rw [← hu]; exact hc, z0⟩
  have a1l : ∀ (u : Int64), u = own_R (2 * 0 + 1) → ¬ u < p0.toInt64 → own_R (2 * 0) < p0.toInt64 → own_AL p0 u.toInt32 := fun u hu hc hd => Or.inl ⟨_, i1, by rw [hu], by rw [← hu]; exact hc, z1 _ hd⟩
  generalize hPP : own_P 0 = PP at q1 q2 q3 q4 ⊢
  generalize hHH : own_H 0 = HH at q2 q5
  generalize hR0 : own_R (2 * 0) = R0 at q4 q60 a0l a1l
  generalize hR1 : own_R (2 * 0 + 1) = R1 at q5 q61 a1l
  show own_Ends _ _ _ _ _ _ _ (s₁.setTop (mkF m 4 #[.val (.int p0), .val (.long PP), .second, .unset, .unset, .unset, .unset, .unset, .unset, .unset] []))
  refine own_step (fun _ k => XS.lloadN X0.here hx rfl (hb hby own_d4_4) rfl k) ?_
  show own_Ends _ _ _ _ _ _ _ (s₁.setTop (mkF m 5 #[.val (.int p0), .val (.long PP), .second, .unset, .unset, .unset, .unset, .unset, .unset, .unset] [(.long PP)]))
  refine own_step (fun _ k => X0.ldc2Long hx hown (mvT hZ (hw _ (List.mem_of_getElem? (i := 6) rfl))) (g := (mkF m 5 #[.val (.int p0), .val (.long PP), .second, .unset, .unset, .unset, .unset, .unset, .unset, .unset] [(.long PP)])) rfl (hb hby own_d4_5) _ k) ?_
  show own_Ends _ _ _ _ _ _ _ (s₁.setTop (mkF m 8 #[.val (.int p0), .val (.long PP), .second, .unset, .unset, .unset, .unset, .unset, .unset, .unset] [(.long (2147483647 : Int64)), (.long PP)]))
  refine own_step (fun _ k => XS.lcmp X0.here hx rfl (hb hby own_d4_8) rfl k) ?_
  show own_Ends _ _ _ _ _ _ _ (s₁.setTop (mkF m 9 #[.val (.int p0), .val (.long PP), .second, .unset, .unset, .unset, .unset, .unset, .unset, .unset] [(.int (lcmpW PP (2147483647 : Int64)))]))
  refine own_step (fun _ k => XS.ifNo X0.here hx rfl (hb hby own_d4_9) rfl ((if0 _ _).trans (flt (fun q => q1 ((lw_gt _ _).mp q))).2.2.1) k) ?_
  show own_Ends _ _ _ _ _ _ _ (s₁.setTop (mkF m 12 #[.val (.int p0), .val (.long PP), .second, .unset, .unset, .unset, .unset, .unset, .unset, .unset] []))
  refine own_step (fun _ k => XS.iconst X0.here hx rfl (hb hby own_d4_12) k) ?_
  show own_Ends _ _ _ _ _ _ _ (s₁.setTop (mkF m 13 #[.val (.int p0), .val (.long PP), .second, .unset, .unset, .unset, .unset, .unset, .unset, .unset] [(.int (2 : Int32))]))
  obtain ⟨T17, h17, k17, X17, e17, E17, A17, st17⟩ := newP X0 hx hZ (hw _ (List.mem_of_getElem? (i := 7) rfl)) e0 (g := (mkF m 13 #[.val (.int p0), .val (.long PP), .second, .unset, .unset, .unset, .unset, .unset, .unset, .unset] [(.int (2 : Int32))])) rfl (hb hby own_d4_13) rfl (by decide) (cap := 2) (by decide) (by decide) z3 z4
  obtain ⟨b17, g17⟩ : ∃ z, z = h0.size := ⟨_, rfl⟩
  rw [← g17] at A17 st17
  have gn17 : n0 ≤ b17 := Nat.le_trans Z0 (Nat.le_of_eq g17.symm)
  have Z17 := Nat.le_trans Z0 E17.1
  have V17_b17 : Arv Z h17 b17 k17 .long (2 : Int32) [(.long (0 : Int64)), (.long (0 : Int64))] (.long (0 : Int64)) := (Arv.new A17 (by decide)).pad (pad_rep [] (.long (0 : Int64)) 2)
  refine own_step (fun _ k => st17 _ k) ?_
  show own_Ends _ _ _ _ _ _ _ (T17.setTop (mkF m 15 #[.val (.int p0), .val (.long PP), .second, .unset, .unset, .unset, .unset, .unset, .unset, .unset] [(.ref b17)]))
  refine own_step (fun _ k => XS.dup X17.here hx rfl (hb hby own_d4_15) rfl rfl k) ?_
  show own_Ends _ _ _ _ _ _ _ (T17.setTop (mkF m 16 #[.val (.int p0), .val (.long PP), .second, .unset, .unset, .unset, .unset, .unset, .unset, .unset] [(.ref b17), (.ref b17)]))
  refine own_step (fun _ k => XS.iconst X17.here hx rfl (hb hby own_d4_16) k) ?_
  show own_Ends _ _ _ _ _ _ _ (T17.setTop (mkF m 17 #[.val (.int p0), .val (.long PP), .second, .unset, .unset, .unset, .unset, .unset, .unset, .unset] [(.int (0 : Int32)), (.ref b17), (.ref b17)]))
  refine own_step (fun _ k => XS.lloadN X17.here hx rfl (hb hby own_d4_17) rfl k) ?_
  show own_Ends _ _ _ _ _ _ _ (T17.setTop (mkF m 18 #[.val (.int p0), .val (.long PP), .second, .unset, .unset, .unset, .unset, .unset, .unset, .unset] [(.long PP), (.int (0 : Int32)), (.ref b17), (.ref b17)]))
  obtain ⟨cl18, Ar18, qq18, S18, M18, H18, G18⟩ := id V17_b17
  have hin18 : ¬ ((0 : Int32) < 0 ∨ cl18.slots.size ≤ ((0 : Int32)).toNatClampNeg) := inb_of S18 ⟨by decide, by decide⟩
  obtain ⟨T18, h18, X18, e18, W18, st18⟩ := stJ X17 hx hZ e17 Ar18 (j := (0 : Int32)) hin18 (g := (mkF m 18 #[.val (.int p0), .val (.long PP), .second, .unset, .unset, .unset, .unset, .unset, .unset, .unset] [(.long PP), (.int (0 : Int32)), (.ref b17), (.ref b17)])) rfl rfl (hb hby own_d4_18)
  have N18 := Fr.snoc X18 N0 gn17
  have V18_b17 : Arv Z h18 b17 k17 .long (2 : Int32) [(.long PP), (.long (0 : Int64))] (.long (0 : Int64)) := Arv.set Ar18 qq18 S18 M18 H18 G18 rfl W18 0 (by decide) (by simp)
  have Z18 := Nat.le_trans Z17 (Keep.of_wr W18).1
  refine own_step (fun _ k => st18 _ k) ?_
  show own_Ends _ _ _ _ _ _ _ (T18.setTop (mkF m 19 #[.val (.int p0), .val (.long PP), .second, .unset, .unset, .unset, .unset, .unset, .unset, .unset] [(.ref b17)]))
  refine own_step (fun _ k => XS.dup X18.here hx rfl (hb hby own_d4_19) rfl rfl k) ?_
  show own_Ends _ _ _ _ _ _ _ (T18.setTop (mkF m 20 #[.val (.int p0), .val (.long PP), .second, .unset, .unset, .unset, .unset, .unset, .unset, .unset] [(.ref b17), (.ref b17)]))
  refine own_step (fun _ k => XS.iconst X18.here hx rfl (hb hby own_d4_20) k) ?_
  show own_Ends _ _ _ _ _ _ _ (T18.setTop (mkF m 21 #[.val (.int p0), .val (.long PP), .second, .unset, .unset, .unset, .unset, .unset, .unset, .unset] [(.int (1 : Int32)), (.ref b17), (.ref b17)]))
  refine own_step (fun _ k => XS.lloadN X18.here hx rfl (hb hby own_d4_21) rfl k) ?_
  show own_Ends _ _ _ _ _ _ _ (T18.setTop (mkF m 22 #[.val (.int p0), .val (.long PP), .second, .unset, .unset, .unset, .unset, .unset, .unset, .unset] [(.long PP), (.int (1 : Int32)), (.ref b17), (.ref b17)]))
  refine own_step (fun _ k => XS.lloadN X18.here hx rfl (hb hby own_d4_22) rfl k) ?_
  show own_Ends _ _ _ _ _ _ _ (T18.setTop (mkF m 23 #[.val (.int p0), .val (.long PP), .second, .unset, .unset, .unset, .unset, .unset, .unset, .unset] [(.long PP), (.long PP), (.int (1 : Int32)), (.ref b17), (.ref b17)]))
  refine own_step (fun _ k => X18.ldc2Long hx hown (mvT hZ (hw _ (List.mem_of_getElem? (i := 5) rfl))) (g := (mkF m 23 #[.val (.int p0), .val (.long PP), .second, .unset, .unset, .unset, .unset, .unset, .unset, .unset] [(.long PP), (.long PP), (.int (1 : Int32)), (.ref b17), (.ref b17)])) rfl (hb hby own_d4_23) _ k) ?_
  show own_Ends _ _ _ _ _ _ _ (T18.setTop (mkF m 26 #[.val (.int p0), .val (.long PP), .second, .unset, .unset, .unset, .unset, .unset, .unset, .unset] [(.long (2 : Int64)), (.long PP), (.long PP), (.int (1 : Int32)), (.ref b17), (.ref b17)]))
  refine own_step (fun _ k => XS.ldiv X18.here hx rfl (hb hby own_d4_26) rfl (by decide) k) ?_
  show own_Ends _ _ _ _ _ _ _ (T18.setTop (mkF m 27 #[.val (.int p0), .val (.long PP), .second, .unset, .unset, .unset, .unset, .unset, .unset, .unset] [(.long (PP / (2 : Int64))), (.long PP), (.int (1 : Int32)), (.ref b17), (.ref b17)]))
  refine own_step (fun _ k => XS.ladd X18.here hx rfl (hb hby own_d4_27) rfl k) ?_
  show own_Ends _ _ _ _ _ _ _ (T18.setTop (mkF m 28 #[.val (.int p0), .val (.long PP), .second, .unset, .unset, .unset, .unset, .unset, .unset, .unset] [(.long (PP + (PP / (2 : Int64)))), (.int (1 : Int32)), (.ref b17), (.ref b17)]))
  rw [q2]
  show own_Ends _ _ _ _ _ _ _ (T18.setTop (mkF m 28 #[.val (.int p0), .val (.long PP), .second, .unset, .unset, .unset, .unset, .unset, .unset, .unset] [(.long HH), (.int (1 : Int32)), (.ref b17), (.ref b17)]))
  obtain ⟨cl19, Ar19, qq19, S19, M19, H19, G19⟩ := id V18_b17
  have hin19 : ¬ ((1 : Int32) < 0 ∨ cl19.slots.size ≤ ((1 : Int32)).toNatClampNeg) := inb_of S19 ⟨by decide, by decide⟩
  obtain ⟨T19, h19, X19, e19, W19, st19⟩ := stJ X18 hx hZ e18 Ar19 (j := (1 : Int32)) hin19 (g := (mkF m 28 #[.val (.int p0), .val (.long PP), .second, .unset, .unset, .unset, .unset, .unset, .unset, .unset] [(.long HH), (.int (1 : Int32)), (.ref b17), (.ref b17)])) rfl rfl (hb hby own_d4_28)
  have N19 := Fr.snoc X19 N18 gn17
  have V19_b17 : Arv Z h19 b17 k17 .long (2 : Int32) [(.long PP), (.long HH)] (.long (0 : Int64)) := Arv.set Ar19 qq19 S19 M19 H19 G19 rfl W19 1 (by decide) (by simp)
  have Z19 := Nat.le_trans Z18 (Keep.of_wr W19).1
  refine own_step (fun _ k => st19 _ k) ?_
  show own_Ends _ _ _ _ _ _ _ (T19.setTop (mkF m 29 #[.val (.int p0), .val (.long PP), .second, .unset, .unset, .unset, .unset, .unset, .unset, .unset] [(.ref b17)]))
  refine own_step (fun _ k => XS.astoreN X19.here hx rfl (hb hby own_d4_29) rfl rfl (l' := #[.val (.int p0), .val (.long PP), .second, .val (.ref b17), .unset, .unset, .unset, .unset, .unset, .unset]) rfl k) ?_
  show own_Ends _ _ _ _ _ _ _ (T19.setTop (mkF m 30 #[.val (.int p0), .val (.long PP), .second, .val (.ref b17), .unset, .unset, .unset, .unset, .unset, .unset] []))
  refine own_step (fun _ k => XS.aloadN X19.here hx rfl (hb hby own_d4_30) rfl rfl k) ?_
  show own_Ends _ _ _ _ _ _ _ (T19.setTop (mkF m 31 #[.val (.int p0), .val (.long PP), .second, .val (.ref b17), .unset, .unset, .unset, .unset, .unset, .unset] [(.ref b17)]))
  obtain ⟨cl20, Ar20, qq20, S20, M20, H20, G20⟩ := id V19_b17
  refine own_step (fun _ k => X19.arraylength hx (by rw [e19]; exact Ar20.1) (State.isArrayOf_alike hZ.alike Ar20.2.1) (g := (mkF m 31 #[.val (.int p0), .val (.long PP), .second, .val (.ref b17), .unset, .unset, .unset, .unset, .unset, .unset] [(.ref b17)])) rfl rfl (hb hby own_d4_31) _ k) ?_
  rw [len_of S20 M20]
  show own_Ends _ _ _ _ _ _ _ (T19.setTop (mkF m 32 #[.val (.int p0), .val (.long PP), .second, .val (.ref b17), .unset, .unset, .unset, .unset, .unset, .unset] [(.int (2 : Int32))]))
  refine own_step (fun _ k => XS.istore X19.here hx rfl (hb hby own_d4_32) rfl (l' := #[.val (.int p0), .val (.long PP), .second, .val (.ref b17), .val (.int (2 : Int32)), .unset, .unset, .unset, .unset, .unset]) rfl k) ?_
  show own_Ends _ _ _ _ _ _ _ (T19.setTop (mkF m 34 #[.val (.int p0), .val (.long PP), .second, .val (.ref b17), .val (.int (2 : Int32)), .unset, .unset, .unset, .unset, .unset] []))
  refine own_step (fun _ k => XS.iconst X19.here hx rfl (hb hby own_d4_34) k) ?_
  show own_Ends _ _ _ _ _ _ _ (T19.setTop (mkF m 35 #[.val (.int p0), .val (.long PP), .second, .val (.ref b17), .val (.int (2 : Int32)), .unset, .unset, .unset, .unset, .unset] [(.int (0 : Int32))]))
  refine own_step (fun _ k => XS.istore X19.here hx rfl (hb hby own_d4_35) rfl (l' := #[.val (.int p0), .val (.long PP), .second, .val (.ref b17), .val (.int (2 : Int32)), .val (.int (0 : Int32)), .unset, .unset, .unset, .unset]) rfl k) ?_
  show own_Ends _ _ _ _ _ _ _ (T19.setTop (mkF m 37 #[.val (.int p0), .val (.long PP), .second, .val (.ref b17), .val (.int (2 : Int32)), .val (.int (0 : Int32)), .unset, .unset, .unset, .unset] []))
  refine own_step (fun _ k => XS.iload X19.here hx rfl (hb hby own_d4_37) rfl k) ?_
  show own_Ends _ _ _ _ _ _ _ (T19.setTop (mkF m 39 #[.val (.int p0), .val (.long PP), .second, .val (.ref b17), .val (.int (2 : Int32)), .val (.int (0 : Int32)), .unset, .unset, .unset, .unset] [(.int (0 : Int32))]))
  refine own_step (fun _ k => XS.iload X19.here hx rfl (hb hby own_d4_39) rfl k) ?_
  show own_Ends _ _ _ _ _ _ _ (T19.setTop (mkF m 41 #[.val (.int p0), .val (.long PP), .second, .val (.ref b17), .val (.int (2 : Int32)), .val (.int (0 : Int32)), .unset, .unset, .unset, .unset] [(.int (2 : Int32)), (.int (0 : Int32))]))
  refine own_step (fun _ k => XS.icmpNo X19.here hx rfl (hb hby own_d4_41) rfl (tlt (by decide)).2.1 k) ?_
  show own_Ends _ _ _ _ _ _ _ (T19.setTop (mkF m 44 #[.val (.int p0), .val (.long PP), .second, .val (.ref b17), .val (.int (2 : Int32)), .val (.int (0 : Int32)), .unset, .unset, .unset, .unset] []))
  refine own_step (fun _ k => XS.aloadN X19.here hx rfl (hb hby own_d4_44) rfl rfl k) ?_
  show own_Ends _ _ _ _ _ _ _ (T19.setTop (mkF m 45 #[.val (.int p0), .val (.long PP), .second, .val (.ref b17), .val (.int (2 : Int32)), .val (.int (0 : Int32)), .unset, .unset, .unset, .unset] [(.ref b17)]))
  refine own_step (fun _ k => XS.iload X19.here hx rfl (hb hby own_d4_45) rfl k) ?_
  show own_Ends _ _ _ _ _ _ _ (T19.setTop (mkF m 47 #[.val (.int p0), .val (.long PP), .second, .val (.ref b17), .val (.int (2 : Int32)), .val (.int (0 : Int32)), .unset, .unset, .unset, .unset] [(.int (0 : Int32)), (.ref b17)]))
  obtain ⟨cl21, Ar21, qq21, S21, M21, H21, G21⟩ := id V19_b17
  have hin21 : ¬ ((0 : Int32) < 0 ∨ cl21.slots.size ≤ ((0 : Int32)).toNatClampNeg) := inb_of S21 ⟨by decide, by decide⟩
  have hat21 : cl21.slots[((0 : Int32)).toNatClampNeg]? = some (.long PP) := Has.at H21 hin21 rfl
  refine own_step (fun _ k => X19.laload hx (j := (0 : Int32)) (v := (.long PP)) (by rw [e19]; exact Ar21.1) (State.isArrayOf_alike hZ.alike Ar21.2.1) Ar21.2.2 hin21 hat21 (g := (mkF m 47 #[.val (.int p0), .val (.long PP), .second, .val (.ref b17), .val (.int (2 : Int32)), .val (.int (0 : Int32)), .unset, .unset, .unset, .unset] [(.int (0 : Int32)), (.ref b17)])) rfl rfl (hb hby own_d4_47) _ k) ?_
  show own_Ends _ _ _ _ _ _ _ (T19.setTop (mkF m 48 #[.val (.int p0), .val (.long PP), .second, .val (.ref b17), .val (.int (2 : Int32)), .val (.int (0 : Int32)), .unset, .unset, .unset, .unset] [(.long PP)]))
  refine own_step (fun _ k => XS.lstore X19.here hx rfl (hb hby own_d4_48) rfl (l' := #[.val (.int p0), .val (.long PP), .second, .val (.ref b17), .val (.int (2 : Int32)), .val (.int (0 : Int32)), .val (.long PP), .second, .unset, .unset]) rfl k) ?_
  show own_Ends _ _ _ _ _ _ _ (T19.setTop (mkF m 50 #[.val (.int p0), .val (.long PP), .second, .val (.ref b17), .val (.int (2 : Int32)), .val (.int (0 : Int32)), .val (.long PP), .second, .unset, .unset] []))
  refine own_step (fun _ k => XS.lload X19.here hx rfl (hb hby own_d4_50) rfl k) ?_
  show own_Ends _ _ _ _ _ _ _ (T19.setTop (mkF m 52 #[.val (.int p0), .val (.long PP), .second, .val (.ref b17), .val (.int (2 : Int32)), .val (.int (0 : Int32)), .val (.long PP), .second, .unset, .unset] [(.long PP)]))
  refine own_step (fun _ k => X19.ldc2Long hx hown (mvT hZ (hw _ (List.mem_of_getElem? (i := 8) rfl))) (g := (mkF m 52 #[.val (.int p0), .val (.long PP), .second, .val (.ref b17), .val (.int (2 : Int32)), .val (.int (0 : Int32)), .val (.long PP), .second, .unset, .unset] [(.long PP)])) rfl (hb hby own_d4_52) _ k) ?_
  show own_Ends _ _ _ _ _ _ _ (T19.setTop (mkF m 55 #[.val (.int p0), .val (.long PP), .second, .val (.ref b17), .val (.int (2 : Int32)), .val (.int (0 : Int32)), .val (.long PP), .second, .unset, .unset] [(.long (1024 : Int64)), (.long PP)]))
  refine own_step (fun _ k => XS.lcmp X19.here hx rfl (hb hby own_d4_55) rfl k) ?_
  show own_Ends _ _ _ _ _ _ _ (T19.setTop (mkF m 56 #[.val (.int p0), .val (.long PP), .second, .val (.ref b17), .val (.int (2 : Int32)), .val (.int (0 : Int32)), .val (.long PP), .second, .unset, .unset] [(.int (lcmpW PP (1024 : Int64)))]))
  have J70_22 : ∀ (uu0 : Int64) (hu0 : uu0 = R0), own_Ends p e below s ({ frames := 0, cells := 30, slots := 60, locals := 0 } : Room).cells ({ frames := 0, cells := 30, slots := 60, locals := 0 } : Room).slots (own_Q4 Z p0  h0 n0) (T19.setTop (mkF m 70 #[.val (.int p0), .val (.long PP), .second, .val (.ref b17), .val (.int (2 : Int32)), .val (.int (0 : Int32)), .val (.long PP), .second, .unset, .unset] [(.long uu0)])) := by
    intro uu0 hu0
    show own_Ends _ _ _ _ _ _ _ (T19.setTop (mkF m 70 #[.val (.int p0), .val (.long PP), .second, .val (.ref b17), .val (.int (2 : Int32)), .val (.int (0 : Int32)), .val (.long PP), .second, .unset, .unset] [(.long uu0)]))
    rw [← hu0] at q60
    refine own_step (fun _ k => XS.lstore X19.here hx rfl (hb hby own_d4_70) rfl (l' := #[.val (.int p0), .val (.long PP), .second, .val (.ref b17), .val (.int (2 : Int32)), .val (.int (0 : Int32)), .val (.long PP), .second, .val (.long uu0), .second]) rfl k) ?_
    show own_Ends _ _ _ _ _ _ _ (T19.setTop (mkF m 72 #[.val (.int p0), .val (.long PP), .second, .val (.ref b17), .val (.int (2 : Int32)), .val (.int (0 : Int32)), .val (.long PP), .second, .val (.long uu0), .second] []))
    refine own_step (fun _ k => XS.lload X19.here hx rfl (hb hby own_d4_72) rfl k) ?_
    show own_Ends _ _ _ _ _ _ _ (T19.setTop (mkF m 74 #[.val (.int p0), .val (.long PP), .second, .val (.ref b17), .val (.int (2 : Int32)), .val (.int (0 : Int32)), .val (.long PP), .second, .val (.long uu0), .second] [(.long uu0)]))
    refine own_step (fun _ k => XS.iloadN X19.here hx rfl (hb hby own_d4_74) rfl k) ?_
    show own_Ends _ _ _ _ _ _ _ (T19.setTop (mkF m 75 #[.val (.int p0), .val (.long PP), .second, .val (.ref b17), .val (.int (2 : Int32)), .val (.int (0 : Int32)), .val (.long PP), .second, .val (.long uu0), .second] [(.int p0), (.long uu0)]))
    refine own_step (fun _ k => XS.i2l X19.here hx rfl (hb hby own_d4_75) rfl k) ?_
    show own_Ends _ _ _ _ _ _ _ (T19.setTop (mkF m 76 #[.val (.int p0), .val (.long PP), .second, .val (.ref b17), .val (.int (2 : Int32)), .val (.int (0 : Int32)), .val (.long PP), .second, .val (.long uu0), .second] [(.long ((p0).toInt64)), (.long uu0)]))
    refine own_step (fun _ k => XS.lcmp X19.here hx rfl (hb hby own_d4_76) rfl k) ?_
    show own_Ends _ _ _ _ _ _ _ (T19.setTop (mkF m 77 #[.val (.int p0), .val (.long PP), .second, .val (.ref b17), .val (.int (2 : Int32)), .val (.int (0 : Int32)), .val (.long PP), .second, .val (.long uu0), .second] [(.int (lcmpW uu0 ((p0).toInt64)))]))
    by_cases c0 : uu0 < ((p0).toInt64)
    · refine own_step (fun _ k => XS.ifYes X19.here hx rfl (pc0 := 77) (pc' := 93) rfl (hb hby own_d4_77) rfl ((if0 _ _).trans (tlt ((lw_lt _ _).mpr c0)).1) (by decide) (by decide) k) ?_
      show own_Ends _ _ _ _ _ _ _ (T19.setTop (mkF m 93 #[.val (.int p0), .val (.long PP), .second, .val (.ref b17), .val (.int (2 : Int32)), .val (.int (0 : Int32)), .val (.long PP), .second, .val (.long uu0), .second] []))
      refine own_step (fun _ k => XS.iinc X19.here hx rfl (hb hby own_d4_93) rfl (l' := #[.val (.int p0), .val (.long PP), .second, .val (.ref b17), .val (.int (2 : Int32)), .val (.int ((0 : Int32) + (1 : Int32))), .val (.long PP), .second, .val (.long uu0), .second]) rfl k) ?_
      show own_Ends _ _ _ _ _ _ _ (T19.setTop (mkF m 96 #[.val (.int p0), .val (.long PP), .second, .val (.ref b17), .val (.int (2 : Int32)), .val (.int ((0 : Int32) + (1 : Int32))), .val (.long PP), .second, .val (.long uu0), .second] []))
      refine own_step (fun _ k => XS.goto X19.here hx rfl (pc0 := 96) (pc' := 37) rfl (hb hby own_d4_96) (by decide) (by decide) k) ?_
      show own_Ends _ _ _ _ _ _ _ (T19.setTop (mkF m 37 #[.val (.int p0), .val (.long PP), .second, .val (.ref b17), .val (.int (2 : Int32)), .val (.int ((0 : Int32) + (1 : Int32))), .val (.long PP), .second, .val (.long uu0), .second] []))
      refine own_step (fun _ k => XS.iload X19.here hx rfl (hb hby own_d4_37) rfl k) ?_
      show own_Ends _ _ _ _ _ _ _ (T19.setTop (mkF m 39 #[.val (.int p0), .val (.long PP), .second, .val (.ref b17), .val (.int (2 : Int32)), .val (.int ((0 : Int32) + (1 : Int32))), .val (.long PP), .second, .val (.long uu0), .second] [(.int ((0 : Int32) + (1 : Int32)))]))
      refine own_step (fun _ k => XS.iload X19.here hx rfl (hb hby own_d4_39) rfl k) ?_
      show own_Ends _ _ _ _ _ _ _ (T19.setTop (mkF m 41 #[.val (.int p0), .val (.long PP), .second, .val (.ref b17), .val (.int (2 : Int32)), .val (.int ((0 : Int32) + (1 : Int32))), .val (.long PP), .second, .val (.long uu0), .second] [(.int (2 : Int32)), (.int ((0 : Int32) + (1 : Int32)))]))
      refine own_step (fun _ k => XS.icmpNo X19.here hx rfl (hb hby own_d4_41) rfl (tlt (by decide)).2.1 k) ?_
      show own_Ends _ _ _ _ _ _ _ (T19.setTop (mkF m 44 #[.val (.int p0), .val (.long PP), .second, .val (.ref b17), .val (.int (2 : Int32)), .val (.int ((0 : Int32) + (1 : Int32))), .val (.long PP), .second, .val (.long uu0), .second] []))
      refine own_step (fun _ k => XS.aloadN X19.here hx rfl (hb hby own_d4_44) rfl rfl k) ?_
      show own_Ends _ _ _ _ _ _ _ (T19.setTop (mkF m 45 #[.val (.int p0), .val (.long PP), .second, .val (.ref b17), .val (.int (2 : Int32)), .val (.int ((0 : Int32) + (1 : Int32))), .val (.long PP), .second, .val (.long uu0), .second] [(.ref b17)]))
      refine own_step (fun _ k => XS.iload X19.here hx rfl (hb hby own_d4_45) rfl k) ?_
      show own_Ends _ _ _ _ _ _ _ (T19.setTop (mkF m 47 #[.val (.int p0), .val (.long PP), .second, .val (.ref b17), .val (.int (2 : Int32)), .val (.int ((0 : Int32) + (1 : Int32))), .val (.long PP), .second, .val (.long uu0), .second] [(.int ((0 : Int32) + (1 : Int32))), (.ref b17)]))
      obtain ⟨cl23, Ar23, qq23, S23, M23, H23, G23⟩ := id V19_b17
      have hin23 : ¬ (((0 : Int32) + (1 : Int32)) < 0 ∨ cl23.slots.size ≤ (((0 : Int32) + (1 : Int32))).toNatClampNeg) := inb_of S23 ⟨by decide, by decide⟩
      have hat23 : cl23.slots[(((0 : Int32) + (1 : Int32))).toNatClampNeg]? = some (.long HH) := Has.at H23 hin23 rfl
      refine own_step (fun _ k => X19.laload hx (j := ((0 : Int32) + (1 : Int32))) (v := (.long HH)) (by rw [e19]; exact Ar23.1) (State.isArrayOf_alike hZ.alike Ar23.2.1) Ar23.2.2 hin23 hat23 (g := (mkF m 47 #[.val (.int p0), .val (.long PP), .second, .val (.ref b17), .val (.int (2 : Int32)), .val (.int ((0 : Int32) + (1 : Int32))), .val (.long PP), .second, .val (.long uu0), .second] [(.int ((0 : Int32) + (1 : Int32))), (.ref b17)])) rfl rfl (hb hby own_d4_47) _ k) ?_
      show own_Ends _ _ _ _ _ _ _ (T19.setTop (mkF m 48 #[.val (.int p0), .val (.long PP), .second, .val (.ref b17), .val (.int (2 : Int32)), .val (.int ((0 : Int32) + (1 : Int32))), .val (.long PP), .second, .val (.long uu0), .second] [(.long HH)]))
      refine own_step (fun _ k => XS.lstore X19.here hx rfl (hb hby own_d4_48) rfl (l' := #[.val (.int p0), .val (.long PP), .second, .val (.ref b17), .val (.int (2 : Int32)), .val (.int ((0 : Int32) + (1 : Int32))), .val (.long HH), .second, .val (.long uu0), .second]) rfl k) ?_
      show own_Ends _ _ _ _ _ _ _ (T19.setTop (mkF m 50 #[.val (.int p0), .val (.long PP), .second, .val (.ref b17), .val (.int (2 : Int32)), .val (.int ((0 : Int32) + (1 : Int32))), .val (.long HH), .second, .val (.long uu0), .second] []))
      refine own_step (fun _ k => XS.lload X19.here hx rfl (hb hby own_d4_50) rfl k) ?_
      show own_Ends _ _ _ _ _ _ _ (T19.setTop (mkF m 52 #[.val (.int p0), .val (.long PP), .second, .val (.ref b17), .val (.int (2 : Int32)), .val (.int ((0 : Int32) + (1 : Int32))), .val (.long HH), .second, .val (.long uu0), .second] [(.long HH)]))
      refine own_step (fun _ k => X19.ldc2Long hx hown (mvT hZ (hw _ (List.mem_of_getElem? (i := 8) rfl))) (g := (mkF m 52 #[.val (.int p0), .val (.long PP), .second, .val (.ref b17), .val (.int (2 : Int32)), .val (.int ((0 : Int32) + (1 : Int32))), .val (.long HH), .second, .val (.long uu0), .second] [(.long HH)])) rfl (hb hby own_d4_52) _ k) ?_
      show own_Ends _ _ _ _ _ _ _ (T19.setTop (mkF m 55 #[.val (.int p0), .val (.long PP), .second, .val (.ref b17), .val (.int (2 : Int32)), .val (.int ((0 : Int32) + (1 : Int32))), .val (.long HH), .second, .val (.long uu0), .second] [(.long (1024 : Int64)), (.long HH)]))
      refine own_step (fun _ k => XS.lcmp X19.here hx rfl (hb hby own_d4_55) rfl k) ?_
      show own_Ends _ _ _ _ _ _ _ (T19.setTop (mkF m 56 #[.val (.int p0), .val (.long PP), .second, .val (.ref b17), .val (.int (2 : Int32)), .val (.int ((0 : Int32) + (1 : Int32))), .val (.long HH), .second, .val (.long uu0), .second] [(.int (lcmpW HH (1024 : Int64)))]))
      have J70_24 : ∀ (uu1 : Int64) (hu1 : uu1 = R1), own_Ends p e below s ({ frames := 0, cells := 30, slots := 60, locals := 0 } : Room).cells ({ frames := 0, cells := 30, slots := 60, locals := 0 } : Room).slots (own_Q4 Z p0  h0 n0) (T19.setTop (mkF m 70 #[.val (.int p0), .val (.long PP), .second, .val (.ref b17), .val (.int (2 : Int32)), .val (.int ((0 : Int32) + (1 : Int32))), .val (.long HH), .second, .val (.long uu0), .second] [(.long uu1)])) := by
        intro uu1 hu1
        show own_Ends _ _ _ _ _ _ _ (T19.setTop (mkF m 70 #[.val (.int p0), .val (.long PP), .second, .val (.ref b17), .val (.int (2 : Int32)), .val (.int ((0 : Int32) + (1 : Int32))), .val (.long HH), .second, .val (.long uu0), .second] [(.long uu1)]))
        rw [← hu1] at q61
        refine own_step (fun _ k => XS.lstore X19.here hx rfl (hb hby own_d4_70) rfl (l' := #[.val (.int p0), .val (.long PP), .second, .val (.ref b17), .val (.int (2 : Int32)), .val (.int ((0 : Int32) + (1 : Int32))), .val (.long HH), .second, .val (.long uu1), .second]) rfl k) ?_
        show own_Ends _ _ _ _ _ _ _ (T19.setTop (mkF m 72 #[.val (.int p0), .val (.long PP), .second, .val (.ref b17), .val (.int (2 : Int32)), .val (.int ((0 : Int32) + (1 : Int32))), .val (.long HH), .second, .val (.long uu1), .second] []))
        refine own_step (fun _ k => XS.lload X19.here hx rfl (hb hby own_d4_72) rfl k) ?_
        show own_Ends _ _ _ _ _ _ _ (T19.setTop (mkF m 74 #[.val (.int p0), .val (.long PP), .second, .val (.ref b17), .val (.int (2 : Int32)), .val (.int ((0 : Int32) + (1 : Int32))), .val (.long HH), .second, .val (.long uu1), .second] [(.long uu1)]))
        refine own_step (fun _ k => XS.iloadN X19.here hx rfl (hb hby own_d4_74) rfl k) ?_
        show own_Ends _ _ _ _ _ _ _ (T19.setTop (mkF m 75 #[.val (.int p0), .val (.long PP), .second, .val (.ref b17), .val (.int (2 : Int32)), .val (.int ((0 : Int32) + (1 : Int32))), .val (.long HH), .second, .val (.long uu1), .second] [(.int p0), (.long uu1)]))
        refine own_step (fun _ k => XS.i2l X19.here hx rfl (hb hby own_d4_75) rfl k) ?_
        show own_Ends _ _ _ _ _ _ _ (T19.setTop (mkF m 76 #[.val (.int p0), .val (.long PP), .second, .val (.ref b17), .val (.int (2 : Int32)), .val (.int ((0 : Int32) + (1 : Int32))), .val (.long HH), .second, .val (.long uu1), .second] [(.long ((p0).toInt64)), (.long uu1)]))
        refine own_step (fun _ k => XS.lcmp X19.here hx rfl (hb hby own_d4_76) rfl k) ?_
        show own_Ends _ _ _ _ _ _ _ (T19.setTop (mkF m 77 #[.val (.int p0), .val (.long PP), .second, .val (.ref b17), .val (.int (2 : Int32)), .val (.int ((0 : Int32) + (1 : Int32))), .val (.long HH), .second, .val (.long uu1), .second] [(.int (lcmpW uu1 ((p0).toInt64)))]))
        by_cases c1 : uu1 < ((p0).toInt64)
        · refine own_step (fun _ k => XS.ifYes X19.here hx rfl (pc0 := 77) (pc' := 93) rfl (hb hby own_d4_77) rfl ((if0 _ _).trans (tlt ((lw_lt _ _).mpr c1)).1) (by decide) (by decide) k) ?_
          show own_Ends _ _ _ _ _ _ _ (T19.setTop (mkF m 93 #[.val (.int p0), .val (.long PP), .second, .val (.ref b17), .val (.int (2 : Int32)), .val (.int ((0 : Int32) + (1 : Int32))), .val (.long HH), .second, .val (.long uu1), .second] []))
          refine own_step (fun _ k => XS.iinc X19.here hx rfl (hb hby own_d4_93) rfl (l' := #[.val (.int p0), .val (.long PP), .second, .val (.ref b17), .val (.int (2 : Int32)), .val (.int (((0 : Int32) + (1 : Int32)) + (1 : Int32))), .val (.long HH), .second, .val (.long uu1), .second]) rfl k) ?_
          show own_Ends _ _ _ _ _ _ _ (T19.setTop (mkF m 96 #[.val (.int p0), .val (.long PP), .second, .val (.ref b17), .val (.int (2 : Int32)), .val (.int (((0 : Int32) + (1 : Int32)) + (1 : Int32))), .val (.long HH), .second, .val (.long uu1), .second] []))
          refine own_step (fun _ k => XS.goto X19.here hx rfl (pc0 := 96) (pc' := 37) rfl (hb hby own_d4_96) (by decide) (by decide) k) ?_
          show own_Ends _ _ _ _ _ _ _ (T19.setTop (mkF m 37 #[.val (.int p0), .val (.long PP), .second, .val (.ref b17), .val (.int (2 : Int32)), .val (.int (((0 : Int32) + (1 : Int32)) + (1 : Int32))), .val (.long HH), .second, .val (.long uu1), .second] []))
          refine own_step (fun _ k => XS.iload X19.here hx rfl (hb hby own_d4_37) rfl k) ?_
          show own_Ends _ _ _ _ _ _ _ (T19.setTop (mkF m 39 #[.val (.int p0), .val (.long PP), .second, .val (.ref b17), .val (.int (2 : Int32)), .val (.int (((0 : Int32) + (1 : Int32)) + (1 : Int32))), .val (.long HH), .second, .val (.long uu1), .second] [(.int (((0 : Int32) + (1 : Int32)) + (1 : Int32)))]))
          refine own_step (fun _ k => XS.iload X19.here hx rfl (hb hby own_d4_39) rfl k) ?_
          show own_Ends _ _ _ _ _ _ _ (T19.setTop (mkF m 41 #[.val (.int p0), .val (.long PP), .second, .val (.ref b17), .val (.int (2 : Int32)), .val (.int (((0 : Int32) + (1 : Int32)) + (1 : Int32))), .val (.long HH), .second, .val (.long uu1), .second] [(.int (2 : Int32)), (.int (((0 : Int32) + (1 : Int32)) + (1 : Int32)))]))
          refine own_step (fun _ k => XS.icmpYes X19.here hx rfl (pc0 := 41) (pc' := 99) rfl (hb hby own_d4_41) rfl (flt (by decide)).2.1 (by decide) (by decide) k) ?_
          show own_Ends _ _ _ _ _ _ _ (T19.setTop (mkF m 99 #[.val (.int p0), .val (.long PP), .second, .val (.ref b17), .val (.int (2 : Int32)), .val (.int (((0 : Int32) + (1 : Int32)) + (1 : Int32))), .val (.long HH), .second, .val (.long uu1), .second] []))
          refine own_step (fun _ k => XS.lloadN X19.here hx rfl (hb hby own_d4_99) rfl k) ?_
          show own_Ends _ _ _ _ _ _ _ (T19.setTop (mkF m 100 #[.val (.int p0), .val (.long PP), .second, .val (.ref b17), .val (.int (2 : Int32)), .val (.int (((0 : Int32) + (1 : Int32)) + (1 : Int32))), .val (.long HH), .second, .val (.long uu1), .second] [(.long PP)]))
          refine own_step (fun _ k => X19.ldc2Long hx hown (mvT hZ (hw _ (List.mem_of_getElem? (i := 5) rfl))) (g := (mkF m 100 #[.val (.int p0), .val (.long PP), .second, .val (.ref b17), .val (.int (2 : Int32)), .val (.int (((0 : Int32) + (1 : Int32)) + (1 : Int32))), .val (.long HH), .second, .val (.long uu1), .second] [(.long PP)])) rfl (hb hby own_d4_100) _ k) ?_
          show own_Ends _ _ _ _ _ _ _ (T19.setTop (mkF m 103 #[.val (.int p0), .val (.long PP), .second, .val (.ref b17), .val (.int (2 : Int32)), .val (.int (((0 : Int32) + (1 : Int32)) + (1 : Int32))), .val (.long HH), .second, .val (.long uu1), .second] [(.long (2 : Int64)), (.long PP)]))
          refine own_step (fun _ k => XS.lmul X19.here hx rfl (hb hby own_d4_103) rfl k) ?_
          show own_Ends _ _ _ _ _ _ _ (T19.setTop (mkF m 104 #[.val (.int p0), .val (.long PP), .second, .val (.ref b17), .val (.int (2 : Int32)), .val (.int (((0 : Int32) + (1 : Int32)) + (1 : Int32))), .val (.long HH), .second, .val (.long uu1), .second] [(.long (PP * (2 : Int64)))]))
          rw [q3]
          show own_Ends _ _ _ _ _ _ _ (T19.setTop (mkF m 104 #[.val (.int p0), .val (.long PP), .second, .val (.ref b17), .val (.int (2 : Int32)), .val (.int (((0 : Int32) + (1 : Int32)) + (1 : Int32))), .val (.long HH), .second, .val (.long uu1), .second] [(.long (own_P (0 + 1)))]))
          refine own_step (fun _ k => XS.lstoreN X19.here hx rfl (hb hby own_d4_104) rfl (l' := #[.val (.int p0), .val (.long (own_P (0 + 1))), .second, .val (.ref b17), .val (.int (2 : Int32)), .val (.int (((0 : Int32) + (1 : Int32)) + (1 : Int32))), .val (.long HH), .second, .val (.long uu1), .second]) rfl k) ?_
          show own_Ends _ _ _ _ _ _ _ (T19.setTop (mkF m 105 #[.val (.int p0), .val (.long (own_P (0 + 1))), .second, .val (.ref b17), .val (.int (2 : Int32)), .val (.int (((0 : Int32) + (1 : Int32)) + (1 : Int32))), .val (.long HH), .second, .val (.long uu1), .second] []))
          refine own_step (fun _ k => XS.goto X19.here hx rfl (pc0 := 105) (pc' := 4) rfl (hb hby own_d4_105) (by decide) (by decide) k) ?_
          show own_Ends _ _ _ _ _ _ _ (T19.setTop (mkF m 4 #[.val (.int p0), .val (.long (own_P (0 + 1))), .second, .val (.ref b17), .val (.int (2 : Int32)), .val (.int (((0 : Int32) + (1 : Int32)) + (1 : Int32))), .val (.long HH), .second, .val (.long uu1), .second] []))
          exact loop 29 (0 + 1) (by omega) _ Z19 _ N19 _ X19 e19 (z2 _ (by rw [hR1, ← hu1]; exact c1)) _ _ _ _ _
        · refine own_step (fun _ k => XS.ifNo X19.here hx rfl (hb hby own_d4_77) rfl ((if0 _ _).trans (flt (fun q => c1 ((lw_lt _ _).mp q))).1) k) ?_
          show own_Ends _ _ _ _ _ _ _ (T19.setTop (mkF m 80 #[.val (.int p0), .val (.long PP), .second, .val (.ref b17), .val (.int (2 : Int32)), .val (.int ((0 : Int32) + (1 : Int32))), .val (.long HH), .second, .val (.long uu1), .second] []))
          refine own_step (fun _ k => XS.lload X19.here hx rfl (hb hby own_d4_80) rfl k) ?_
          show own_Ends _ _ _ _ _ _ _ (T19.setTop (mkF m 82 #[.val (.int p0), .val (.long PP), .second, .val (.ref b17), .val (.int (2 : Int32)), .val (.int ((0 : Int32) + (1 : Int32))), .val (.long HH), .second, .val (.long uu1), .second] [(.long uu1)]))
          refine own_step (fun _ k => X19.ldc2Long hx hown (mvT hZ (hw _ (List.mem_of_getElem? (i := 9) rfl))) (g := (mkF m 82 #[.val (.int p0), .val (.long PP), .second, .val (.ref b17), .val (.int (2 : Int32)), .val (.int ((0 : Int32) + (1 : Int32))), .val (.long HH), .second, .val (.long uu1), .second] [(.long uu1)])) rfl (hb hby own_d4_82) _ k) ?_
          show own_Ends _ _ _ _ _ _ _ (T19.setTop (mkF m 85 #[.val (.int p0), .val (.long PP), .second, .val (.ref b17), .val (.int (2 : Int32)), .val (.int ((0 : Int32) + (1 : Int32))), .val (.long HH), .second, .val (.long uu1), .second] [(.long (2147483639 : Int64)), (.long uu1)]))
          refine own_step (fun _ k => XS.lcmp X19.here hx rfl (hb hby own_d4_85) rfl k) ?_
          show own_Ends _ _ _ _ _ _ _ (T19.setTop (mkF m 86 #[.val (.int p0), .val (.long PP), .second, .val (.ref b17), .val (.int (2 : Int32)), .val (.int ((0 : Int32) + (1 : Int32))), .val (.long HH), .second, .val (.long uu1), .second] [(.int (lcmpW uu1 (2147483639 : Int64)))]))
          refine own_step (fun _ k => XS.ifNo X19.here hx rfl (hb hby own_d4_86) rfl ((if0 _ _).trans (flt (fun q => q61 ((lw_gt _ _).mp q))).2.2.1) k) ?_
          show own_Ends _ _ _ _ _ _ _ (T19.setTop (mkF m 89 #[.val (.int p0), .val (.long PP), .second, .val (.ref b17), .val (.int (2 : Int32)), .val (.int ((0 : Int32) + (1 : Int32))), .val (.long HH), .second, .val (.long uu1), .second] []))
          refine own_step (fun _ k => XS.lload X19.here hx rfl (hb hby own_d4_89) rfl k) ?_
          show own_Ends _ _ _ _ _ _ _ (T19.setTop (mkF m 91 #[.val (.int p0), .val (.long PP), .second, .val (.ref b17), .val (.int (2 : Int32)), .val (.int ((0 : Int32) + (1 : Int32))), .val (.long HH), .second, .val (.long uu1), .second] [(.long uu1)]))
          refine own_step (fun _ k => XS.l2i X19.here hx rfl (hb hby own_d4_91) rfl k) ?_
          show own_Ends _ _ _ _ _ _ _ (T19.setTop (mkF m 92 #[.val (.int p0), .val (.long PP), .second, .val (.ref b17), .val (.int (2 : Int32)), .val (.int ((0 : Int32) + (1 : Int32))), .val (.long HH), .second, .val (.long uu1), .second] [(.int ((uu1).toInt32))]))
          refine own_ret X19 (BodyLoose.notSynchronized Bd) (v := (some (.int ((uu1).toInt32)))) (fun h => by rw [Bd.returns] at h; cases h) ?_ z3 z4 (fun fs hr => X19.ireturnOut hx Bd.returns rfl (by simp) (hb hby own_d4_92) hr)
          show own_Q4 Z p0  h0 n0 (some (.int ((uu1).toInt32))) T19.heap _
          rw [e19]
          exact ⟨_, rfl, N19, Z19, (a1l _ hu1 c1 (by rw [← hu0]; exact c0))⟩
      by_cases s1 : HH < (1024 : Int64)
      · refine own_step (fun _ k => XS.ifYes X19.here hx rfl (pc0 := 56) (pc' := 68) rfl (hb hby own_d4_56) rfl ((if0 _ _).trans (tlt ((lw_lt _ _).mpr s1)).1) (by decide) (by decide) k) ?_
        show own_Ends _ _ _ _ _ _ _ (T19.setTop (mkF m 68 #[.val (.int p0), .val (.long PP), .second, .val (.ref b17), .val (.int (2 : Int32)), .val (.int ((0 : Int32) + (1 : Int32))), .val (.long HH), .second, .val (.long uu0), .second] []))
        refine own_step (fun _ k => XS.lload X19.here hx rfl (hb hby own_d4_68) rfl k) ?_
        show own_Ends _ _ _ _ _ _ _ (T19.setTop (mkF m 70 #[.val (.int p0), .val (.long PP), .second, .val (.ref b17), .val (.int (2 : Int32)), .val (.int ((0 : Int32) + (1 : Int32))), .val (.long HH), .second, .val (.long uu0), .second] [(.long HH)]))
        exact J70_24 _ (q5.1 s1)
      · refine own_step (fun _ k => XS.ifNo X19.here hx rfl (hb hby own_d4_56) rfl ((if0 _ _).trans (flt (fun q => s1 ((lw_lt _ _).mp q))).1) k) ?_
        show own_Ends _ _ _ _ _ _ _ (T19.setTop (mkF m 59 #[.val (.int p0), .val (.long PP), .second, .val (.ref b17), .val (.int (2 : Int32)), .val (.int ((0 : Int32) + (1 : Int32))), .val (.long HH), .second, .val (.long uu0), .second] []))
        refine own_step (fun _ k => XS.lload X19.here hx rfl (hb hby own_d4_59) rfl k) ?_
        show own_Ends _ _ _ _ _ _ _ (T19.setTop (mkF m 61 #[.val (.int p0), .val (.long PP), .second, .val (.ref b17), .val (.int (2 : Int32)), .val (.int ((0 : Int32) + (1 : Int32))), .val (.long HH), .second, .val (.long uu0), .second] [(.long HH)]))
        refine own_step (fun _ k => X19.ldc2Long hx hown (mvT hZ (hw _ (List.mem_of_getElem? (i := 27) rfl))) (g := (mkF m 61 #[.val (.int p0), .val (.long PP), .second, .val (.ref b17), .val (.int (2 : Int32)), .val (.int ((0 : Int32) + (1 : Int32))), .val (.long HH), .second, .val (.long uu0), .second] [(.long HH)])) rfl (hb hby own_d4_61) _ k) ?_
        show own_Ends _ _ _ _ _ _ _ (T19.setTop (mkF m 64 #[.val (.int p0), .val (.long PP), .second, .val (.ref b17), .val (.int (2 : Int32)), .val (.int ((0 : Int32) + (1 : Int32))), .val (.long HH), .second, .val (.long uu0), .second] [(.long (32 : Int64)), (.long HH)]))
        refine own_step (fun _ k => XS.lsub X19.here hx rfl (hb hby own_d4_64) rfl k) ?_
        show own_Ends _ _ _ _ _ _ _ (T19.setTop (mkF m 65 #[.val (.int p0), .val (.long PP), .second, .val (.ref b17), .val (.int (2 : Int32)), .val (.int ((0 : Int32) + (1 : Int32))), .val (.long HH), .second, .val (.long uu0), .second] [(.long (HH - (32 : Int64)))]))
        refine own_step (fun _ k => XS.goto X19.here hx rfl (pc0 := 65) (pc' := 70) rfl (hb hby own_d4_65) (by decide) (by decide) k) ?_
        show own_Ends _ _ _ _ _ _ _ (T19.setTop (mkF m 70 #[.val (.int p0), .val (.long PP), .second, .val (.ref b17), .val (.int (2 : Int32)), .val (.int ((0 : Int32) + (1 : Int32))), .val (.long HH), .second, .val (.long uu0), .second] [(.long (HH - (32 : Int64)))]))
        exact J70_24 _ (q5.2 s1)
    · refine own_step (fun _ k => XS.ifNo X19.here hx rfl (hb hby own_d4_77) rfl ((if0 _ _).trans (flt (fun q => c0 ((lw_lt _ _).mp q))).1) k) ?_
      show own_Ends _ _ _ _ _ _ _ (T19.setTop (mkF m 80 #[.val (.int p0), .val (.long PP), .second, .val (.ref b17), .val (.int (2 : Int32)), .val (.int (0 : Int32)), .val (.long PP), .second, .val (.long uu0), .second] []))
      refine own_step (fun _ k => XS.lload X19.here hx rfl (hb hby own_d4_80) rfl k) ?_
      show own_Ends _ _ _ _ _ _ _ (T19.setTop (mkF m 82 #[.val (.int p0), .val (.long PP), .second, .val (.ref b17), .val (.int (2 : Int32)), .val (.int (0 : Int32)), .val (.long PP), .second, .val (.long uu0), .second] [(.long uu0)]))
      refine own_step (fun _ k => X19.ldc2Long hx hown (mvT hZ (hw _ (List.mem_of_getElem? (i := 9) rfl))) (g := (mkF m 82 #[.val (.int p0), .val (.long PP), .second, .val (.ref b17), .val (.int (2 : Int32)), .val (.int (0 : Int32)), .val (.long PP), .second, .val (.long uu0), .second] [(.long uu0)])) rfl (hb hby own_d4_82) _ k) ?_
      show own_Ends _ _ _ _ _ _ _ (T19.setTop (mkF m 85 #[.val (.int p0), .val (.long PP), .second, .val (.ref b17), .val (.int (2 : Int32)), .val (.int (0 : Int32)), .val (.long PP), .second, .val (.long uu0), .second] [(.long (2147483639 : Int64)), (.long uu0)]))
      refine own_step (fun _ k => XS.lcmp X19.here hx rfl (hb hby own_d4_85) rfl k) ?_
      show own_Ends _ _ _ _ _ _ _ (T19.setTop (mkF m 86 #[.val (.int p0), .val (.long PP), .second, .val (.ref b17), .val (.int (2 : Int32)), .val (.int (0 : Int32)), .val (.long PP), .second, .val (.long uu0), .second] [(.int (lcmpW uu0 (2147483639 : Int64)))]))
      refine own_step (fun _ k => XS.ifNo X19.here hx rfl (hb hby own_d4_86) rfl ((if0 _ _).trans (flt (fun q => q60 ((lw_gt _ _).mp q))).2.2.1) k) ?_
      show own_Ends _ _ _ _ _ _ _ (T19.setTop (mkF m 89 #[.val (.int p0), .val (.long PP), .second, .val (.ref b17), .val (.int (2 : Int32)), .val (.int (0 : Int32)), .val (.long PP), .second, .val (.long uu0), .second] []))
      refine own_step (fun _ k => XS.lload X19.here hx rfl (hb hby own_d4_89) rfl k) ?_
      show own_Ends _ _ _ _ _ _ _ (T19.setTop (mkF m 91 #[.val (.int p0), .val (.long PP), .second, .val (.ref b17), .val (.int (2 : Int32)), .val (.int (0 : Int32)), .val (.long PP), .second, .val (.long uu0), .second] [(.long uu0)]))
      refine own_step (fun _ k => XS.l2i X19.here hx rfl (hb hby own_d4_91) rfl k) ?_
      show own_Ends _ _ _ _ _ _ _ (T19.setTop (mkF m 92 #[.val (.int p0), .val (.long PP), .second, .val (.ref b17), .val (.int (2 : Int32)), .val (.int (0 : Int32)), .val (.long PP), .second, .val (.long uu0), .second] [(.int ((uu0).toInt32))]))
      refine own_ret X19 (BodyLoose.notSynchronized Bd) (v := (some (.int ((uu0).toInt32)))) (fun h => by rw [Bd.returns] at h; cases h) ?_ z3 z4 (fun fs hr => X19.ireturnOut hx Bd.returns rfl (by simp) (hb hby own_d4_92) hr)
      show own_Q4 Z p0  h0 n0 (some (.int ((uu0).toInt32))) T19.heap _
      rw [e19]
      exact ⟨_, rfl, N19, Z19, (a0l _ hu0 c0)⟩
  by_cases s0 : PP < (1024 : Int64)
  · refine own_step (fun _ k => XS.ifYes X19.here hx rfl (pc0 := 56) (pc' := 68) rfl (hb hby own_d4_56) rfl ((if0 _ _).trans (tlt ((lw_lt _ _).mpr s0)).1) (by decide) (by decide) k) ?_
    show own_Ends _ _ _ _ _ _ _ (T19.setTop (mkF m 68 #[.val (.int p0), .val (.long PP), .second, .val (.ref b17), .val (.int (2 : Int32)), .val (.int (0 : Int32)), .val (.long PP), .second, .unset, .unset] []))
    refine own_step (fun _ k => XS.lload X19.here hx rfl (hb hby own_d4_68) rfl k) ?_
    show own_Ends _ _ _ _ _ _ _ (T19.setTop (mkF m 70 #[.val (.int p0), .val (.long PP), .second, .val (.ref b17), .val (.int (2 : Int32)), .val (.int (0 : Int32)), .val (.long PP), .second, .unset, .unset] [(.long PP)]))
    exact J70_22 _ (q4.1 s0)
  · refine own_step (fun _ k => XS.ifNo X19.here hx rfl (hb hby own_d4_56) rfl ((if0 _ _).trans (flt (fun q => s0 ((lw_lt _ _).mp q))).1) k) ?_
    show own_Ends _ _ _ _ _ _ _ (T19.setTop (mkF m 59 #[.val (.int p0), .val (.long PP), .second, .val (.ref b17), .val (.int (2 : Int32)), .val (.int (0 : Int32)), .val (.long PP), .second, .unset, .unset] []))
    refine own_step (fun _ k => XS.lload X19.here hx rfl (hb hby own_d4_59) rfl k) ?_
    show own_Ends _ _ _ _ _ _ _ (T19.setTop (mkF m 61 #[.val (.int p0), .val (.long PP), .second, .val (.ref b17), .val (.int (2 : Int32)), .val (.int (0 : Int32)), .val (.long PP), .second, .unset, .unset] [(.long PP)]))
    refine own_step (fun _ k => X19.ldc2Long hx hown (mvT hZ (hw _ (List.mem_of_getElem? (i := 27) rfl))) (g := (mkF m 61 #[.val (.int p0), .val (.long PP), .second, .val (.ref b17), .val (.int (2 : Int32)), .val (.int (0 : Int32)), .val (.long PP), .second, .unset, .unset] [(.long PP)])) rfl (hb hby own_d4_61) _ k) ?_
    show own_Ends _ _ _ _ _ _ _ (T19.setTop (mkF m 64 #[.val (.int p0), .val (.long PP), .second, .val (.ref b17), .val (.int (2 : Int32)), .val (.int (0 : Int32)), .val (.long PP), .second, .unset, .unset] [(.long (32 : Int64)), (.long PP)]))
    refine own_step (fun _ k => XS.lsub X19.here hx rfl (hb hby own_d4_64) rfl k) ?_
    show own_Ends _ _ _ _ _ _ _ (T19.setTop (mkF m 65 #[.val (.int p0), .val (.long PP), .second, .val (.ref b17), .val (.int (2 : Int32)), .val (.int (0 : Int32)), .val (.long PP), .second, .unset, .unset] [(.long (PP - (32 : Int64)))]))
    refine own_step (fun _ k => XS.goto X19.here hx rfl (pc0 := 65) (pc' := 70) rfl (hb hby own_d4_65) (by decide) (by decide) k) ?_
    show own_Ends _ _ _ _ _ _ _ (T19.setTop (mkF m 70 #[.val (.int p0), .val (.long PP), .second, .val (.ref b17), .val (.int (2 : Int32)), .val (.int (0 : Int32)), .val (.long PP), .second, .unset, .unset] [(.long (PP - (32 : Int64)))]))
    exact J70_22 _ (q4.2 s0)
theorem own_ef0 (m : MethodId) (p0 : Int32) (p1 : Int32) : entryFrame m #[(.int p0), (.int p1)] maxLocals = mkF m 0 #[.val (.int p0), .val (.int p1), .unset, .unset] [] := by first | (simp [entryFrame, mkF, argsToLocals, Value.category, maxLocals]; done) | rfl
theorem own_pd1 : parseMethodDescriptor "(I)I" = some ⟨[.int], some .int⟩ := by decide +kernel
theorem own_pd2 : parseMethodDescriptor "(J)J" = some ⟨[.long], some .long⟩ := by decide +kernel
def own_Q0 (Z : State) (p0 : Int32) (p1 : Int32)  (h0 : Heap) (n0 : Nat) (v : Option Value) (h : Heap) (L : List Loc) : Prop := v = some (.int 1) ∧ Fr n0 L
set_option maxRecDepth 65536 in
set_option maxHeartbeats 40000000 in
theorem own_rm0 (l : Launch) (Z : State) (a0 : Array Value) (hw : ∀ d ∈ tables_1, d.before a0 Z = true) (ws : List Jvm.Cond) (p0 : Int32) (p1 : Int32)  (h0 : Heap) (n0 : Nat) (Z0 : n0 ≤ h0.size)  :
    MetFree l x (head1 (Jvm.Cond.code x code maxLocals ret :: ws) room_1) (fun a U => a = #[(.int p0), (.int p1)] ∧ Z.Warmed39 U.vm ∧ U.heap = h0) (fun _ _ _ _ _ => True) (fun _ U o U' => ∃ v L, o = .returned v ∧ own_Q0 Z p0 p1  h0 n0 v U'.heap L ∧ FrameEnd U o U' L 30 60) := by
  refine MetFree.of_bodySF (plainFor_of_name own_pn0) hisR ?_
  intro p e s m args below meth c s₁ Bd hml0 hP hK
  obtain ⟨rfl, hZ, hh⟩ := hP
  have hx := Bd.exec
  have hby := Bd.bytes
  have hml : c.maxLocals = 4 := hml0
  have hown : s.vm.findClass "org/halflife/store/CapacitiesAtLeastPinLaw" = some m.cls := findClass_of_methodNamed Bd.named
  have hnm := (name_of_methodNamed Bd.named Bd.method).1
  have X0 : Stand p l e room_1 s m #[(.int p0), (.int p1)] below meth c s₁ [] 0 0 := Stand.of_body Bd
  have e0 : s₁.heap = h0 := by rw [← hh, Bd.state]; rfl
  have N0 := Fr.nil n0
  suffices H : own_Ends p e below s 30 60 (own_Q0 Z p0 p1  h0 n0) (s₁.setTop (mkF m 0 #[.val (.int p0), .val (.int p1), .unset, .unset] [])) by
    obtain ⟨s₂, o, h1, h2⟩ := H
    exact ⟨s₂, o, castTop (own_ef0 m p0 p1) h1, h2⟩
  show own_Ends _ _ _ _ _ _ _ (s₁.setTop (mkF m 0 #[.val (.int p0), .val (.int p1), .unset, .unset] []))
  refine own_step (fun _ k => XS.iloadN X0.here hx rfl (hb hby at_0) rfl k) ?_
  show own_Ends _ _ _ _ _ _ _ (s₁.setTop (mkF m 1 #[.val (.int p0), .val (.int p1), .unset, .unset] [(.int p0)]))
  refine own_step (fun _ k => X0.ldcInt hx hown (mvT hZ (hw _ (List.mem_of_getElem? (i := 0) rfl))) (g := (mkF m 1 #[.val (.int p0), .val (.int p1), .unset, .unset] [(.int p0)])) rfl (hb hby at_1) _ k) ?_
  show own_Ends _ _ _ _ _ _ _ (s₁.setTop (mkF m 3 #[.val (.int p0), .val (.int p1), .unset, .unset] [(.int (2147483647 : Int32)), (.int p0)]))
  refine own_step (fun _ k => XS.iand X0.here hx rfl (hb hby at_3) rfl k) ?_
  show own_Ends _ _ _ _ _ _ _ (s₁.setTop (mkF m 4 #[.val (.int p0), .val (.int p1), .unset, .unset] [(.int (p0 &&& (2147483647 : Int32)))]))
  refine own_step (fun _ k => XS.iloadN X0.here hx rfl (hb hby at_4) rfl k) ?_
  show own_Ends _ _ _ _ _ _ _ (s₁.setTop (mkF m 5 #[.val (.int p0), .val (.int p1), .unset, .unset] [(.int p1), (.int (p0 &&& (2147483647 : Int32)))]))
  refine own_step (fun _ k => XS.bipush X0.here hx rfl (hb hby at_5) k) ?_
  show own_Ends _ _ _ _ _ _ _ (s₁.setTop (mkF m 7 #[.val (.int p0), .val (.int p1), .unset, .unset] [(.int (31 : Int32)), (.int p1), (.int (p0 &&& (2147483647 : Int32)))]))
  refine own_step (fun _ k => XS.iand X0.here hx rfl (hb hby at_7) rfl k) ?_
  show own_Ends _ _ _ _ _ _ _ (s₁.setTop (mkF m 8 #[.val (.int p0), .val (.int p1), .unset, .unset] [(.int (p1 &&& (31 : Int32))), (.int (p0 &&& (2147483647 : Int32)))]))
  refine own_step (fun _ k => XT.iushr X0.here hx rfl (hb hby at_8) rfl k) ?_
  show own_Ends _ _ _ _ _ _ _ (s₁.setTop (mkF m 9 #[.val (.int p0), .val (.int p1), .unset, .unset] [(.int (XT.ushr (p0 &&& (2147483647 : Int32)) (p1 &&& (31 : Int32))))]))
  generalize hev : (XT.ushr (p0 &&& (2147483647 : Int32)) (p1 &&& (31 : Int32))) = ev
  refine own_step (fun _ k => XS.istoreN X0.here hx rfl (hb hby at_9) rfl (l' := #[.val (.int p0), .val (.int p1), .val (.int ev), .unset]) rfl k) ?_
  show own_Ends _ _ _ _ _ _ _ (s₁.setTop (mkF m 10 #[.val (.int p0), .val (.int p1), .val (.int ev), .unset] []))
  refine own_step (fun _ k => XS.iloadN X0.here hx rfl (hb hby at_10) rfl k) ?_
  show own_Ends _ _ _ _ _ _ _ (s₁.setTop (mkF m 11 #[.val (.int p0), .val (.int p1), .val (.int ev), .unset] [(.int ev)]))
  refine own_step (fun _ k => XS.iconst X0.here hx rfl (hb hby at_11) k) ?_
  show own_Ends _ _ _ _ _ _ _ (s₁.setTop (mkF m 12 #[.val (.int p0), .val (.int p1), .val (.int ev), .unset] [(.int (1 : Int32)), (.int ev)]))
  by_cases h1 : ev < (1 : Int32)
  · refine own_step (fun _ k => XS.icmpNo X0.here hx rfl (hb hby at_12) rfl (tlt h1).2.1 k) ?_
    show own_Ends _ _ _ _ _ _ _ (s₁.setTop (mkF m 15 #[.val (.int p0), .val (.int p1), .val (.int ev), .unset] []))
    refine own_step (fun _ k => XS.iconst X0.here hx rfl (hb hby at_15) k) ?_
    show own_Ends _ _ _ _ _ _ _ (s₁.setTop (mkF m 16 #[.val (.int p0), .val (.int p1), .val (.int ev), .unset] [(.int (1 : Int32))]))
    refine own_ret X0 (BodyLoose.notSynchronized Bd) (v := (some (.int (1 : Int32)))) (fun h => by rw [Bd.returns] at h; cases h) ?_ (by decide) (by decide) (fun fs hr => X0.ireturnOut hx Bd.returns rfl (by simp) (hb hby at_16) hr)
    show own_Q0 Z p0 p1  h0 n0 (some (.int (1 : Int32))) s₁.heap _
    rw [e0]
    exact ⟨rfl, N0⟩
  · refine own_step (fun _ k => XS.icmpYes X0.here hx rfl (pc0 := 12) (pc' := 17) rfl (hb hby at_12) rfl (flt h1).2.1 (by decide) (by decide) k) ?_
    show own_Ends _ _ _ _ _ _ _ (s₁.setTop (mkF m 17 #[.val (.int p0), .val (.int p1), .val (.int ev), .unset] []))
    refine own_step (fun _ k => XS.iloadN X0.here hx rfl (hb hby at_17) rfl k) ?_
    show own_Ends _ _ _ _ _ _ _ (s₁.setTop (mkF m 18 #[.val (.int p0), .val (.int p1), .val (.int ev), .unset] [(.int ev)]))
    obtain ⟨_, _, ⟨T25, L25, k25, n25⟩, -, X25, ⟨Lc25, hQ25, l25, y25, z25⟩, st25⟩ := Jvm.LawKit.callS X0 hx (y := (⟨"org/halflife/store/Capacities", "atLeast", "(I)I"⟩ : MethodName)) hown (mvT hZ (hw _ (List.mem_of_getElem? (i := 1) rfl))) (mvT hZ (hw _ (List.mem_of_getElem? (i := 2) rfl))) (mvT hZ (hw _ (List.mem_of_getElem? (i := 3) rfl))) (mvT hZ (hw _ (List.mem_of_getElem? (i := 4) rfl))) (by decide) (backOf (W := 0) (own_rm4 l Z a0 hw [] ev  h0 n0 Z0 ) hZ (hw _ (List.mem_of_getElem? (i := 4) rfl)) (hw _ (List.mem_of_getElem? (i := 3) rfl)) (by decide) (by decide)) (g := (mkF m 18 #[.val (.int p0), .val (.int p1), .val (.int ev), .unset] [(.int ev)])) rfl (by rw [hml]; rfl) (argsL := [(.int ev)]) (rest := []) (lenOf own_pd1 rfl) rfl (by show 2 * 0 + _ ≤ _; exact Nat.le_of_eq rfl) (hb hby at_18) (fun _ _ => ⟨rfl, e0, (by decide : 0 + 30 ≤ _), (by decide : 0 + 60 ≤ _)⟩)
    dsimp only [Pt.U, Pt.locs, Pt.cells, Pt.slots] at X25 l25 y25 z25 st25 hQ25
    subst l25 y25 z25
    obtain ⟨rr, rfl, Nq25, ZZ25, hAL25⟩ := hQ25
    have N25 := Fr.app N0 Nq25
    refine own_step (fun _ k => st25 _ k) ?_
    show own_Ends _ _ _ _ _ _ _ (T25.setTop (mkF m 21 #[.val (.int p0), .val (.int p1), .val (.int ev), .unset] [(.int rr)]))
    refine own_step (fun _ k => XS.istoreN X25.here hx rfl (hb hby at_21) rfl (l' := #[.val (.int p0), .val (.int p1), .val (.int ev), .val (.int rr)]) rfl k) ?_
    show own_Ends _ _ _ _ _ _ _ (T25.setTop (mkF m 22 #[.val (.int p0), .val (.int p1), .val (.int ev), .val (.int rr)] []))
    refine own_step (fun _ k => XS.iloadN X25.here hx rfl (hb hby at_22) rfl k) ?_
    show own_Ends _ _ _ _ _ _ _ (T25.setTop (mkF m 23 #[.val (.int p0), .val (.int p1), .val (.int ev), .val (.int rr)] [(.int ev)]))
    refine own_step (fun _ k => XS.i2l X25.here hx rfl (hb hby at_23) rfl k) ?_
    show own_Ends _ _ _ _ _ _ _ (T25.setTop (mkF m 24 #[.val (.int p0), .val (.int p1), .val (.int ev), .val (.int rr)] [(.long ((ev).toInt64))]))
    refine own_step (fun _ k => X25.ldc2Long hx hown (mvT hZ (hw _ (List.mem_of_getElem? (i := 10) rfl))) (g := (mkF m 24 #[.val (.int p0), .val (.int p1), .val (.int ev), .val (.int rr)] [(.long ((ev).toInt64))])) rfl (hb hby at_24) _ k) ?_
    show own_Ends _ _ _ _ _ _ _ (T25.setTop (mkF m 27 #[.val (.int p0), .val (.int p1), .val (.int ev), .val (.int rr)] [(.long (1610612704 : Int64)), (.long ((ev).toInt64))]))
    refine own_step (fun _ k => XS.lcmp X25.here hx rfl (hb hby at_27) rfl k) ?_
    show own_Ends _ _ _ _ _ _ _ (T25.setTop (mkF m 28 #[.val (.int p0), .val (.int p1), .val (.int ev), .val (.int rr)] [(.int (lcmpW ((ev).toInt64) (1610612704 : Int64)))]))
    by_cases h2 : (1610612704 : Int64) < ((ev).toInt64)
    · refine own_step (fun _ k => XS.ifNo X25.here hx rfl (hb hby at_28) rfl ((if0 _ _).trans (tlt ((lw_gt _ _).mpr h2)).2.2.2) k) ?_
      show own_Ends _ _ _ _ _ _ _ (T25.setTop (mkF m 31 #[.val (.int p0), .val (.int p1), .val (.int ev), .val (.int rr)] []))
      have hr : rr = 2147483639 := by
        rcases hAL25 with ⟨i, hi, hr, hge, -⟩ | ⟨-, hr⟩
        · exfalso
          have := own_k8 ⟨i, hi⟩
          simp only [own_lt] at *
          omega
        · exact hr
      refine own_step (fun _ k => XS.iloadN X25.here hx rfl (hb hby at_31) rfl k) ?_
      show own_Ends _ _ _ _ _ _ _ (T25.setTop (mkF m 32 #[.val (.int p0), .val (.int p1), .val (.int ev), .val (.int rr)] [(.int rr)]))
      refine own_step (fun _ k => X25.ldcInt hx hown (mvT hZ (hw _ (List.mem_of_getElem? (i := 33) rfl))) (g := (mkF m 32 #[.val (.int p0), .val (.int p1), .val (.int ev), .val (.int rr)] [(.int rr)])) rfl (hb hby at_32) _ k) ?_
      show own_Ends _ _ _ _ _ _ _ (T25.setTop (mkF m 34 #[.val (.int p0), .val (.int p1), .val (.int ev), .val (.int rr)] [(.int (2147483639 : Int32)), (.int rr)]))
      refine own_step (fun _ k => XS.icmpNo X25.here hx rfl (hb hby at_34) rfl (teq hr).2 k) ?_
      show own_Ends _ _ _ _ _ _ _ (T25.setTop (mkF m 37 #[.val (.int p0), .val (.int p1), .val (.int ev), .val (.int rr)] []))
      refine own_step (fun _ k => XS.iconst X25.here hx rfl (hb hby at_37) k) ?_
      show own_Ends _ _ _ _ _ _ _ (T25.setTop (mkF m 38 #[.val (.int p0), .val (.int p1), .val (.int ev), .val (.int rr)] [(.int (1 : Int32))]))
      refine own_step (fun _ k => XS.goto X25.here hx rfl (pc0 := 38) (pc' := 42) rfl (hb hby at_38) (by decide) (by decide) k) ?_
      show own_Ends _ _ _ _ _ _ _ (T25.setTop (mkF m 42 #[.val (.int p0), .val (.int p1), .val (.int ev), .val (.int rr)] [(.int (1 : Int32))]))
      refine own_ret X25 (BodyLoose.notSynchronized Bd) (v := (some (.int (1 : Int32)))) (fun h => by rw [Bd.returns] at h; cases h) ?_ (by decide) (by decide) (fun fs hr => X25.ireturnOut hx Bd.returns rfl (by simp) (hb hby at_42) hr)
      show own_Q0 Z p0 p1  h0 n0 (some (.int (1 : Int32))) T25.heap _
      skip
      exact ⟨rfl, N25⟩
    · refine own_step (fun _ k => XS.ifYes X25.here hx rfl (pc0 := 28) (pc' := 43) rfl (hb hby at_28) rfl ((if0 _ _).trans (flt (fun q => h2 ((lw_gt _ _).mp q))).2.2.2) (by decide) (by decide) k) ?_
      show own_Ends _ _ _ _ _ _ _ (T25.setTop (mkF m 43 #[.val (.int p0), .val (.int p1), .val (.int ev), .val (.int rr)] []))
      obtain ⟨i, hi, hr, hge, hpr⟩ : ∃ i : Nat, i < 60 ∧ rr = (own_R i).toInt32 ∧ ¬ own_R i < ev.toInt64 ∧ (i = 0 ∨ own_R (i - 1) < ev.toInt64) := by
        rcases hAL25 with h | ⟨h, -⟩
        · exact h
        · exact absurd (show (1610612704 : Int64) < ev.toInt64 from h) h2
      have h7 : rr.toInt64 = own_R i := by rw [hr]; exact own_k7 ⟨i, hi⟩
      have h9 : own_inL rr.toInt64 = 1 := by rw [h7]; exact own_k9 ⟨i, hi⟩
      have hbe : own_below rr.toInt64 < ev.toInt64 := by
        rw [h7, own_k10 ⟨i, hi⟩]
        by_cases hz : i = 0
        · rw [if_pos hz]; exact own_pos h1
        · rw [if_neg hz]; exact hpr.resolve_left hz
      have hge2 : ¬ rr.toInt64 < ev.toInt64 := by rw [h7]; exact hge
      refine own_step (fun _ k => XS.iloadN X25.here hx rfl (hb hby at_43) rfl k) ?_
      show own_Ends _ _ _ _ _ _ _ (T25.setTop (mkF m 44 #[.val (.int p0), .val (.int p1), .val (.int ev), .val (.int rr)] [(.int rr)]))
      refine own_step (fun _ k => XS.i2l X25.here hx rfl (hb hby at_44) rfl k) ?_
      show own_Ends _ _ _ _ _ _ _ (T25.setTop (mkF m 45 #[.val (.int p0), .val (.int p1), .val (.int ev), .val (.int rr)] [(.long ((rr).toInt64))]))
      obtain ⟨_, _, ⟨T26, L26, k26, n26⟩, -, X26, ⟨Lc26, hQ26, l26, y26, z26⟩, st26⟩ := Jvm.LawKit.callS X25 hx (y := (⟨"org/halflife/store/CapacitiesAtLeastPinLaw", "inLadder", "(J)Z"⟩ : MethodName)) hown (mvT hZ (hw _ (List.mem_of_getElem? (i := 11) rfl))) (mvT hZ (hw _ (List.mem_of_getElem? (i := 12) rfl))) (mvT hZ (hw _ (List.mem_of_getElem? (i := 13) rfl))) (mvT hZ (hw _ (List.mem_of_getElem? (i := 14) rfl))) (by decide) (backOf (W := 0) (own_rm2 l Z a0 hw [] ((rr).toInt64)  T25.heap n0 ZZ25 ) hZ (hw _ (List.mem_of_getElem? (i := 14) rfl)) (hw _ (List.mem_of_getElem? (i := 13) rfl)) (by decide) (by decide)) (g := (mkF m 45 #[.val (.int p0), .val (.int p1), .val (.int ev), .val (.int rr)] [(.long ((rr).toInt64))])) rfl (by rw [hml]; rfl) (argsL := [(.long ((rr).toInt64))]) (rest := []) (lenOf own_pd0 rfl) rfl (by show 2 * 0 + _ ≤ _; exact Nat.le_of_eq rfl) (hb hby at_45) (fun _ _ => ⟨rfl, rfl, (by decide : 30 + 0 ≤ _), (by decide : 60 + 0 ≤ _)⟩)
      dsimp only [Pt.U, Pt.locs, Pt.cells, Pt.slots] at X26 l26 y26 z26 st26 hQ26
      subst l26 y26 z26
      obtain ⟨rfl, Nq26, e26⟩ := hQ26
      have N26 := Fr.app N25 Nq26
      refine own_step (fun _ k => st26 _ k) ?_
      show own_Ends _ _ _ _ _ _ _ (T26.setTop (mkF m 48 #[.val (.int p0), .val (.int p1), .val (.int ev), .val (.int rr)] [(.int (own_inL ((rr).toInt64)))]))
      rw [h9]
      show own_Ends _ _ _ _ _ _ _ (T26.setTop (mkF m 48 #[.val (.int p0), .val (.int p1), .val (.int ev), .val (.int rr)] [(.int (1 : Int32))]))
      refine own_step (fun _ k => XS.ifNo X26.here hx rfl (hb hby at_48) rfl ((if0 _ _).trans (feq (by decide)).1) k) ?_
      show own_Ends _ _ _ _ _ _ _ (T26.setTop (mkF m 51 #[.val (.int p0), .val (.int p1), .val (.int ev), .val (.int rr)] []))
      refine own_step (fun _ k => XS.iloadN X26.here hx rfl (hb hby at_51) rfl k) ?_
      show own_Ends _ _ _ _ _ _ _ (T26.setTop (mkF m 52 #[.val (.int p0), .val (.int p1), .val (.int ev), .val (.int rr)] [(.int rr)]))
      refine own_step (fun _ k => XS.i2l X26.here hx rfl (hb hby at_52) rfl k) ?_
      show own_Ends _ _ _ _ _ _ _ (T26.setTop (mkF m 53 #[.val (.int p0), .val (.int p1), .val (.int ev), .val (.int rr)] [(.long ((rr).toInt64))]))
      refine own_step (fun _ k => XS.iloadN X26.here hx rfl (hb hby at_53) rfl k) ?_
      show own_Ends _ _ _ _ _ _ _ (T26.setTop (mkF m 54 #[.val (.int p0), .val (.int p1), .val (.int ev), .val (.int rr)] [(.int ev), (.long ((rr).toInt64))]))
      refine own_step (fun _ k => XS.i2l X26.here hx rfl (hb hby at_54) rfl k) ?_
      show own_Ends _ _ _ _ _ _ _ (T26.setTop (mkF m 55 #[.val (.int p0), .val (.int p1), .val (.int ev), .val (.int rr)] [(.long ((ev).toInt64)), (.long ((rr).toInt64))]))
      refine own_step (fun _ k => XS.lcmp X26.here hx rfl (hb hby at_55) rfl k) ?_
      show own_Ends _ _ _ _ _ _ _ (T26.setTop (mkF m 56 #[.val (.int p0), .val (.int p1), .val (.int ev), .val (.int rr)] [(.int (lcmpW ((rr).toInt64) ((ev).toInt64)))]))
      refine own_step (fun _ k => XS.ifNo X26.here hx rfl (hb hby at_56) rfl ((if0 _ _).trans (flt (fun q => hge2 ((lw_lt _ _).mp q))).1) k) ?_
      show own_Ends _ _ _ _ _ _ _ (T26.setTop (mkF m 59 #[.val (.int p0), .val (.int p1), .val (.int ev), .val (.int rr)] []))
      refine own_step (fun _ k => XS.iloadN X26.here hx rfl (hb hby at_59) rfl k) ?_
      show own_Ends _ _ _ _ _ _ _ (T26.setTop (mkF m 60 #[.val (.int p0), .val (.int p1), .val (.int ev), .val (.int rr)] [(.int rr)]))
      refine own_step (fun _ k => XS.i2l X26.here hx rfl (hb hby at_60) rfl k) ?_
      show own_Ends _ _ _ _ _ _ _ (T26.setTop (mkF m 61 #[.val (.int p0), .val (.int p1), .val (.int ev), .val (.int rr)] [(.long ((rr).toInt64))]))
      obtain ⟨_, _, ⟨T27, L27, k27, n27⟩, -, X27, ⟨Lc27, hQ27, l27, y27, z27⟩, st27⟩ := Jvm.LawKit.callS X26 hx (y := (⟨"org/halflife/store/CapacitiesAtLeastPinLaw", "below", "(J)J"⟩ : MethodName)) hown (mvT hZ (hw _ (List.mem_of_getElem? (i := 20) rfl))) (mvT hZ (hw _ (List.mem_of_getElem? (i := 21) rfl))) (mvT hZ (hw _ (List.mem_of_getElem? (i := 13) rfl))) (mvT hZ (hw _ (List.mem_of_getElem? (i := 22) rfl))) (by decide) (backOf (W := 0) (own_rm3 l Z a0 hw [] ((rr).toInt64)  T25.heap n0 ZZ25 ) hZ (hw _ (List.mem_of_getElem? (i := 22) rfl)) (hw _ (List.mem_of_getElem? (i := 13) rfl)) (by decide) (by decide)) (g := (mkF m 61 #[.val (.int p0), .val (.int p1), .val (.int ev), .val (.int rr)] [(.long ((rr).toInt64))])) rfl (by rw [hml]; rfl) (argsL := [(.long ((rr).toInt64))]) (rest := []) (lenOf own_pd2 rfl) rfl (by show 2 * 0 + _ ≤ _; exact Nat.le_of_eq rfl) (hb hby at_61) (fun _ _ => ⟨rfl, e26, (by decide : 30 + 0 ≤ _), (by decide : 60 + 0 ≤ _)⟩)
      dsimp only [Pt.U, Pt.locs, Pt.cells, Pt.slots] at X27 l27 y27 z27 st27 hQ27
      subst l27 y27 z27
      obtain ⟨rfl, Nq27, e27⟩ := hQ27
      have N27 := Fr.app N26 Nq27
      refine own_step (fun _ k => st27 _ k) ?_
      show own_Ends _ _ _ _ _ _ _ (T27.setTop (mkF m 64 #[.val (.int p0), .val (.int p1), .val (.int ev), .val (.int rr)] [(.long (own_below ((rr).toInt64)))]))
      refine own_step (fun _ k => XS.iloadN X27.here hx rfl (hb hby at_64) rfl k) ?_
      show own_Ends _ _ _ _ _ _ _ (T27.setTop (mkF m 65 #[.val (.int p0), .val (.int p1), .val (.int ev), .val (.int rr)] [(.int ev), (.long (own_below ((rr).toInt64)))]))
      refine own_step (fun _ k => XS.i2l X27.here hx rfl (hb hby at_65) rfl k) ?_
      show own_Ends _ _ _ _ _ _ _ (T27.setTop (mkF m 66 #[.val (.int p0), .val (.int p1), .val (.int ev), .val (.int rr)] [(.long ((ev).toInt64)), (.long (own_below ((rr).toInt64)))]))
      refine own_step (fun _ k => XS.lcmp X27.here hx rfl (hb hby at_66) rfl k) ?_
      show own_Ends _ _ _ _ _ _ _ (T27.setTop (mkF m 67 #[.val (.int p0), .val (.int p1), .val (.int ev), .val (.int rr)] [(.int (lcmpW (own_below ((rr).toInt64)) ((ev).toInt64)))]))
      refine own_step (fun _ k => XS.ifNo X27.here hx rfl (hb hby at_67) rfl ((if0 _ _).trans (tlt ((lw_lt _ _).mpr hbe)).2.1) k) ?_
      show own_Ends _ _ _ _ _ _ _ (T27.setTop (mkF m 70 #[.val (.int p0), .val (.int p1), .val (.int ev), .val (.int rr)] []))
      refine own_step (fun _ k => XS.iconst X27.here hx rfl (hb hby at_70) k) ?_
      show own_Ends _ _ _ _ _ _ _ (T27.setTop (mkF m 71 #[.val (.int p0), .val (.int p1), .val (.int ev), .val (.int rr)] [(.int (1 : Int32))]))
      refine own_step (fun _ k => XS.goto X27.here hx rfl (pc0 := 71) (pc' := 75) rfl (hb hby at_71) (by decide) (by decide) k) ?_
      show own_Ends _ _ _ _ _ _ _ (T27.setTop (mkF m 75 #[.val (.int p0), .val (.int p1), .val (.int ev), .val (.int rr)] [(.int (1 : Int32))]))
      refine own_ret X27 (BodyLoose.notSynchronized Bd) (v := (some (.int (1 : Int32)))) (fun h => by rw [Bd.returns] at h; cases h) ?_ (by decide) (by decide) (fun fs hr => X27.ireturnOut hx Bd.returns rfl (by simp) (hb hby at_75) hr)
      show own_Q0 Z p0 p1  h0 n0 (some (.int (1 : Int32))) T27.heap _
      rw [e27]
      exact ⟨rfl, N27⟩
set_option maxRecDepth 65536 in
set_option maxHeartbeats 40000000 in
theorem comes_1 {Post : Tables → Env → Array Value → State → Outcome → State → Prop} (hpost : ∀ tb e args s v u, (limb_1_1.after args s (.returned v) u = true ∧ limb_1_2.after args s (.returned v) u = true ∧ True) → FrameEnd s (.returned v) u (Jvm.fieldLocs frame_1_writes args s ++ Jvm.arrayLocs frame_1_arrays args s ++ Jvm.staticLocs frame_1_statics s) 72 192 → Post tb e args s (.returned v) u) :
    ArmFor flags0 classFile x code maxLocals ret World_1 tables_1 room_1 Calls_1 rest_1 Pre_1 Post := by
  intro l hfl _ _ p e ha hc hk s m args below hf hA hF happ hP
  obtain ⟨hcalls, hrest, hpre⟩ := hP
  obtain ⟨-, -, -, hnamed, -, -, -, hat⟩ := (Spec.applies_iff hf).mp happ
  obtain ⟨hg, hn⟩ := and_e (Cond.before_iff.mp (show (Jvm.Cond.and given_1 narrow_1).before args s = true from hpre))
  obtain ⟨g0, hg⟩ := and_e hg
  obtain ⟨ga0, hg⟩ := and_e hg
  obtain ⟨w0, w1, rfl⟩ : ∃ w0 w1 : Value, args = #[w0, w1] := by
    have hs : args.size = 2 := by simpa [Cond.value, given_1] using g0
    obtain ⟨L⟩ := args
    match L, hs with
    | [w0, w1], _ => exact ⟨w0, w1, rfl⟩
  have hw := fun d (hd : d ∈ tables_1) => atoms_spec (ws := Jvm.Cond.code x code maxLocals ret :: tables_1) hat d (List.mem_cons_of_mem _ hd)
  obtain ⟨i0, ei0⟩ := is_v ga0
  obtain rfl : w0 = (.int i0) := Option.some.inj ei0
  obtain ⟨i1, ei1⟩ := is_v hg
  obtain rfl : w1 = (.int i1) := Option.some.inj ei1
  obtain ⟨n, o, h1, h2, h3, _, L, rfl, ⟨rfl, N⟩, hq⟩ := own_rm0 l s _ hw tables_1 i0 i1 s.heap s.heap.size (Nat.le_refl _)  p e ha hc hk s m _ below hf ((Spec.applies_iff_loose hf).mp happ).1 ⟨rfl, State.Warmed39.refl s, rfl⟩ trivial
  refine ⟨n, _, h1, h2, h3, hpost _ _ _ _ _ _ ⟨Cond.after_iff.mpr rfl, Cond.after_iff.mpr (eq_i res_at (Term.int_eval (1)) rfl), trivial⟩ ⟨hq.1, hq.2.1, (hq.2.2.sift fun y hy => Or.inr (N y hy)).mono (by decide) (by decide)⟩⟩
theorem main_1_1 : Claimed_1_1 := comes_1 fun _ _ _ _ _ _ h hF => ⟨h.1, hF⟩
theorem main_1_2 : Claimed_1_2 := comes_1 fun _ _ _ _ _ _ h hF => ⟨h.2.1, hF⟩
end Jvm.Pilot.@@N@@
namespace Jvm.Pilot.@@N@@
open Jvm Jvm.ClassFile Sem Op Lib Jvm.Free Jvm.Stand Jvm.Pilot.@@N@@.Jvm.D
/-! MADE BY PROGRAM (witnessworld.py) out of the Statement's table words and the real class files: 11 classes; the members and pool entries that the words name. The judged class is class 1, her method 4. -/
namespace start1
open Jvm.ClassFile
def u (s : String) : CpInfo := .utf8 (stringToUtf16 s)
/-- a pool by its gaps: so many unusable entries, then the entry; so many at the end -/
def gap : Nat → List CpInfo → List CpInfo
  | 0, r => r
  | n + 1, r => .unusable :: gap n r
def poolList (es : List (Nat × CpInfo)) (last : Nat) : List CpInfo := es.foldr (fun e r => gap e.1 (e.2 :: r)) (gap last [])
def pool (es : List (Nat × CpInfo)) (last : Nat) : Array CpInfo := ⟨poolList es last⟩
def fileOf (pool : Array CpInfo) (this : Nat) (attrs : Array Attribute := #[]) (ms : Array MethodInfo := #[]) (fl : Nat := 33) (sup : Nat := 0) (ifs : Array Nat := #[]) (fds : Array FieldInfo := #[]) : ClassFile where
  minorVersion := 0
  majorVersion := 65
  constantPool := pool
  accessFlags := fl
  thisClass := this
  superClass := sup
  interfaces := ifs
  fields := fds
  methods := ms
  attributes := attrs
def plain (name : String) (sup : Option ClassId) : Class where
  name := name
  kind := .ordinary
  loader := none
  accessFlags := 33
  super := sup
  interfaces := #[]
  cf := none
  fields := #[]
  methods := #[]
  instanceTypes := #[]
  staticTypes := #[]
  resolved := #[]
  callSites := []
  init := .initialized
  statics := none
  mirror := none

def pool0 : Array CpInfo := pool [(5, u "<init>"), (0, u "()V"), (1, .class_ 10), (1, u "java/lang/Object")] 113

def k0m0 : Method := { name := "<init>", desc := "()V", sig := { parameters := [], returnType := none }, accessFlags := 1, code := none }
/-- java/lang/Object -/
def k0 : Class := { plain "java/lang/Object" none with
  accessFlags := 33
  interfaces := #[]
  cf := some (fileOf pool0 8 #[] #[{ accessFlags := 1, nameIndex := 5, descriptorIndex := 6, attributes := #[] }] 33 0 #[] #[])
  fields := #[]
  methods := #[k0m0]
  instanceTypes := #[]
  staticTypes := #[]
  resolved := Array.replicate 124 none
  statics := none }

def pool1 : Array CpInfo := pool [(2, .class_ 4), (1, u "java/lang/Object"), (0, u "<init>"), (0, u "()V"), (0, .long 2), (1, .long 768), (1, .methodref 12 13), (0, .class_ 14), (0, .nameAndType 15 16), (0, u "org/halflife/store/CapacitiesAtLeastPinLaw"), (0, u "pow2"), (0, u "(J)Z"), (0, .long 3), (1, .long 32), (1, .long 1024), (1, .long 1073741824), (1, .long 512), (1, .long 536870912), (1, .long 992), (1, .long 4), (1, .integer 2147483647), (0, .methodref 35 36), (0, .class_ 37), (0, .nameAndType 38 39), (0, u "org/halflife/store/Capacities"), (0, u "atLeast"), (0, u "(I)I"), (0, .long 1610612704), (3, .integer 2147483639), (0, .methodref 12 46), (0, .nameAndType 47 16), (0, u "inLadder"), (0, .methodref 12 49), (0, .nameAndType 50 51), (0, u "below"), (0, u "(J)J"), (3, u "law"), (0, u "(II)Z")] 2

def k1m0 : Method := { name := "<init>", desc := "()V", sig := { parameters := [], returnType := none }, accessFlags := 2, code := none }
def k1c1 : Code := { maxStack := 6, maxLocals := 2, code := method_2_code, exceptionTable := #[], attributes := #[] }
def k1m1 : Method := { name := "pow2", desc := "(J)Z", sig := { parameters := [.long], returnType := some .boolean }, accessFlags := 10, code := some k1c1 }
def k1c2 : Code := { maxStack := 4, maxLocals := 4, code := method_3_code, exceptionTable := #[], attributes := #[] }
def k1m2 : Method := { name := "inLadder", desc := "(J)Z", sig := { parameters := [.long], returnType := some .boolean }, accessFlags := 10, code := some k1c2 }
def k1c3 : Code := { maxStack := 4, maxLocals := 6, code := method_4_code, exceptionTable := #[], attributes := #[] }
def k1m3 : Method := { name := "below", desc := "(J)J", sig := { parameters := [.long], returnType := some .long }, accessFlags := 10, code := some k1c3 }
def k1c4 : Code := { maxStack := 4, maxLocals := 4, code := code, exceptionTable := #[], attributes := #[] }
def k1m4 : Method := { name := "law", desc := "(II)Z", sig := { parameters := [.int, .int], returnType := some .boolean }, accessFlags := 9, code := some k1c4 }
/-- org/halflife/store/CapacitiesAtLeastPinLaw -/
def k1 : Class := { plain "org/halflife/store/CapacitiesAtLeastPinLaw" (some 0) with
  accessFlags := 49
  interfaces := #[]
  cf := some (fileOf pool1 12 #[] #[{ accessFlags := 2, nameIndex := 5, descriptorIndex := 6, attributes := #[] }, { accessFlags := 10, nameIndex := 15, descriptorIndex := 16, attributes := #[] }, { accessFlags := 10, nameIndex := 47, descriptorIndex := 16, attributes := #[] }, { accessFlags := 10, nameIndex := 50, descriptorIndex := 51, attributes := #[] }, { accessFlags := 9, nameIndex := 55, descriptorIndex := 56, attributes := #[] }] 49 2 #[] #[])
  fields := #[]
  methods := #[k1m0, k1m1, k1m2, k1m3, k1m4]
  instanceTypes := #[]
  staticTypes := #[]
  resolved := Array.replicate 59 none
  statics := none }

def pool2 : Array CpInfo := pool [(4, .class_ 6), (1, u "java/lang/Object"), (0, u "<init>"), (0, u "()V"), (0, .long 2), (1, .long 2147483647), (1, .class_ 14), (0, u "org/halflife/store/Capacities"), (0, .long 1024), (1, .long 32), (1, .long 2147483639), (1, .integer 2147483639), (0, u "LARGE"), (0, u "I"), (2, u "HEADER"), (1, u "MAX"), (2, u "atLeast"), (0, u "(I)I")] 5

def k2m0 : Method := { name := "<init>", desc := "()V", sig := { parameters := [], returnType := none }, accessFlags := 2, code := none }
def k2c1 : Code := { maxStack := 9, maxLocals := 10, code := prog_69_method_2_code, exceptionTable := #[], attributes := #[] }
def k2m1 : Method := { name := "atLeast", desc := "(I)I", sig := { parameters := [.int], returnType := some .int }, accessFlags := 8, code := some k2c1 }
/-- org/halflife/store/Capacities -/
def k2 : Class := { plain "org/halflife/store/Capacities" (some 0) with
  accessFlags := 48
  interfaces := #[]
  cf := some (fileOf pool2 13 #[] #[{ accessFlags := 2, nameIndex := 7, descriptorIndex := 8, attributes := #[] }, { accessFlags := 8, nameIndex := 31, descriptorIndex := 32, attributes := #[] }] 48 4 #[] #[{ accessFlags := 26, nameIndex := 22, descriptorIndex := 23, attributes := #[] }, { accessFlags := 26, nameIndex := 26, descriptorIndex := 23, attributes := #[] }, { accessFlags := 26, nameIndex := 28, descriptorIndex := 23, attributes := #[] }])
  fields := #[{ name := "LARGE", type := .int, accessFlags := 26, slot := 0, constantValue := 0 }, { name := "HEADER", type := .int, accessFlags := 26, slot := 1, constantValue := 0 }, { name := "MAX", type := .int, accessFlags := 26, slot := 2, constantValue := 0 }]
  methods := #[k2m0, k2m1]
  instanceTypes := #[]
  staticTypes := #[.int, .int, .int]
  resolved := Array.replicate 38 none
  statics := none }

def pool3 : Array CpInfo := pool [(1, u "java/lang/Cloneable"), (0, .class_ 1), (0, u "java/lang/Object"), (0, .class_ 3)] 3

/-- java/lang/Cloneable -/
def k3 : Class := { plain "java/lang/Cloneable" (some 0) with
  accessFlags := 1537
  interfaces := #[]
  cf := some (fileOf pool3 2 #[] #[] 1537 4 #[] #[])
  fields := #[]
  methods := #[]
  instanceTypes := #[]
  staticTypes := #[]
  resolved := Array.replicate 8 none
  statics := none }

def pool4 : Array CpInfo := pool [(1, u "java/io/Serializable"), (0, .class_ 1), (0, u "java/lang/Object"), (0, .class_ 3)] 3

/-- java/io/Serializable -/
def k4 : Class := { plain "java/io/Serializable" (some 0) with
  accessFlags := 1537
  interfaces := #[]
  cf := some (fileOf pool4 2 #[] #[] 1537 4 #[] #[])
  fields := #[]
  methods := #[]
  instanceTypes := #[]
  staticTypes := #[]
  resolved := Array.replicate 8 none
  statics := none }

/-- the primitive byte -/
def k5 : Class := { plain "byte" none with kind := .primitive 'B', accessFlags := 0x411 }
/-- [B -/
def k6 : Class := { plain "[B" (some 0) with kind := .array 5 .byte, interfaces := #[3, 4], accessFlags := 1041 }

/-- the primitive int -/
def k7 : Class := { plain "int" none with kind := .primitive 'I', accessFlags := 0x411 }
/-- [I -/
def k8 : Class := { plain "[I" (some 0) with kind := .array 7 .int, interfaces := #[3, 4], accessFlags := 1041 }

/-- the primitive long -/
def k9 : Class := { plain "long" none with kind := .primitive 'J', accessFlags := 0x411 }
/-- [J -/
def k10 : Class := { plain "[J" (some 0) with kind := .array 9 .long, interfaces := #[3, 4], accessFlags := 1041 }

def heap : Heap := #[]
def classes : Array Class := #[k0, k1, k2, k3, k4, k5, k6, k7, k8, k9, k10]
def interned : List (Array UInt16 × Addr) := []
def slotsUsed : Nat := 0
def theMethod : MethodId := ⟨1, 4⟩
def args0 : Array Value := #[.int 5, .int 7]
def aboutOver (below : List Frame) : State where
  vm := { classes := classes, interned := interned.toArray }
  heap := heap
  slotsUsed := slotsUsed
  threads := #[{ frames := .invoking theMethod args0 :: below }]
def below0 : List Frame := [.native { method := ⟨0, 0⟩, args := #[] }]
def about1 : State := aboutOver below0
def p0 : Program := .bare "" "" ""
def e0 : Env := launch0.env 0 0 0
theorem w_frames : about1.frames = Frame.invoking theMethod args0 :: below0 := rfl
set_option maxRecDepth 65536 in
theorem w_args : argsFit about1.vm theMethod args0 = true := by decide +kernel
set_option maxRecDepth 65536 in
theorem w_heap : heapFits about1 = true := by decide +kernel
set_option maxRecDepth 65536 in
theorem w_runnable : about1.curStatus? = some .runnable := by decide +kernel
set_option maxRecDepth 65536 in
theorem w_alone : about1.alone = true := by decide +kernel
set_option maxRecDepth 65536 in
theorem w_named : about1.methodNamed? x = some theMethod := by decide +kernel
set_option maxRecDepth 65536 in
theorem w_hears : about1.hears theMethod below0 = true := by decide +kernel
set_option maxRecDepth 65536 in
theorem w_ripe : about1.ripe theMethod args0 below0 = true := by decide +kernel
theorem w_running : about1.status = .running := rfl
set_option maxRecDepth 65536 in
theorem w_room : about1.hasRoom e0.platform room_1 = true :=
  launch0.hasRoom_least _ room_1 (by decide +kernel) (by decide +kernel) (by decide +kernel) (by decide +kernel) (by decide +kernel) (by decide +kernel)
theorem allAtoms_all (ts : List Jvm.Cond) (a : Array Jvm.Value) (st : Jvm.State) : (allAtoms ts).before a st = ts.all (fun c => c.before a st) := by
  induction ts with
  | nil => rfl
  | cons c t ih =>
    show (Jvm.Cond.and c (allAtoms t)).before a st = _
    rw [Jvm.Cond.before_and, ih, List.all_cons]
def words1 : List Jvm.Cond := Jvm.Cond.code x code maxLocals ret :: tables_1
/-- a 'code' word, met by the world's own term for the bytes: nothing is compared byte by byte -/
theorem code_word {y : MethodName} {bytes : ByteArray} {mx : Nat} {rt : Option FieldType} {a : Array Value} {s : State} {m : MethodId} {meth : Method} {c : Code} (h1 : s.methodNamed? y = some m) (h2 : s.vm.method? m = some meth) (h3 : meth.code = some c) (h4 : c.code = bytes)
    (h5 : (c.maxLocals == mx && c.exceptionTable.isEmpty && decide (c.maxStack ≤ mostOperands) && decide (meth.sig.returnType = rt) && !meth.locks && decide (parseMethodDescriptor y.desc = some meth.sig)) = true) : (Jvm.Cond.code y bytes mx rt).before a s = true := by
  simp only [Bool.and_eq_true, beq_iff_eq, Bool.not_eq_true', decide_eq_true_eq] at h5
  obtain ⟨⟨⟨⟨⟨g1, g2⟩, g3⟩, g4⟩, g5⟩, g6⟩ := h5
  simp [Cond.before, Cond.holds, Cond.value, h1, h2, h3, h4, g1, g2, g3, g4, g5, g6]
def isCode : Jvm.Cond → Bool
  | .code _ _ _ _ => true
  | _ => false
theorem all_split {L : List Jvm.Cond} {P : Jvm.Cond → Bool} (h1 : L.all (fun c => isCode c || P c) = true) (h2 : ∀ c ∈ L.filter isCode, P c = true) : L.all P = true := by
  refine List.all_eq_true.mpr fun c hc => ?_
  have h := List.all_eq_true.mp h1 c hc
  rcases Bool.eq_false_or_eq_true (isCode c) with hi | hi
  · exact h2 c (List.mem_filter.mpr ⟨hc, hi⟩)
  · simpa [hi] using h
set_option maxRecDepth 65536 in
theorem w_c0 : (Jvm.Cond.code x code maxLocals ret).before args0 about1 = true := code_word (m := ⟨1, 4⟩) (meth := k1m4) (c := k1c4) (by decide +kernel) rfl rfl rfl (by decide +kernel)
set_option maxRecDepth 65536 in
theorem w_c1 : (Jvm.Cond.code ({ cls := "org/halflife/store/Capacities", name := "atLeast", desc := "(I)I" } : Jvm.MethodName) prog_69_method_2_code (10 : Nat) (Option.some Jvm.ClassFile.FieldType.int)).before args0 about1 = true := code_word (m := ⟨2, 1⟩) (meth := k2m1) (c := k2c1) (by decide +kernel) rfl rfl rfl (by decide +kernel)
set_option maxRecDepth 65536 in
theorem w_c2 : (Jvm.Cond.code ({ cls := "org/halflife/store/CapacitiesAtLeastPinLaw", name := "inLadder", desc := "(J)Z" } : Jvm.MethodName) method_3_code (4 : Nat) (Option.some Jvm.ClassFile.FieldType.boolean)).before args0 about1 = true := code_word (m := ⟨1, 2⟩) (meth := k1m2) (c := k1c2) (by decide +kernel) rfl rfl rfl (by decide +kernel)
set_option maxRecDepth 65536 in
theorem w_c3 : (Jvm.Cond.code ({ cls := "org/halflife/store/CapacitiesAtLeastPinLaw", name := "pow2", desc := "(J)Z" } : Jvm.MethodName) method_2_code (2 : Nat) (Option.some Jvm.ClassFile.FieldType.boolean)).before args0 about1 = true := code_word (m := ⟨1, 1⟩) (meth := k1m1) (c := k1c1) (by decide +kernel) rfl rfl rfl (by decide +kernel)
set_option maxRecDepth 65536 in
theorem w_c4 : (Jvm.Cond.code ({ cls := "org/halflife/store/CapacitiesAtLeastPinLaw", name := "below", desc := "(J)J" } : Jvm.MethodName) method_4_code (6 : Nat) (Option.some Jvm.ClassFile.FieldType.long)).before args0 about1 = true := code_word (m := ⟨1, 3⟩) (meth := k1m3) (c := k1c3) (by decide +kernel) rfl rfl rfl (by decide +kernel)
def codes1 : List Jvm.Cond := [Jvm.Cond.code x code maxLocals ret, Jvm.Cond.code ({ cls := "org/halflife/store/Capacities", name := "atLeast", desc := "(I)I" } : Jvm.MethodName) prog_69_method_2_code (10 : Nat) (Option.some Jvm.ClassFile.FieldType.int), Jvm.Cond.code ({ cls := "org/halflife/store/CapacitiesAtLeastPinLaw", name := "inLadder", desc := "(J)Z" } : Jvm.MethodName) method_3_code (4 : Nat) (Option.some Jvm.ClassFile.FieldType.boolean), Jvm.Cond.code ({ cls := "org/halflife/store/CapacitiesAtLeastPinLaw", name := "pow2", desc := "(J)Z" } : Jvm.MethodName) method_2_code (2 : Nat) (Option.some Jvm.ClassFile.FieldType.boolean), Jvm.Cond.code ({ cls := "org/halflife/store/CapacitiesAtLeastPinLaw", name := "below", desc := "(J)J" } : Jvm.MethodName) method_4_code (6 : Nat) (Option.some Jvm.ClassFile.FieldType.long)]
set_option maxRecDepth 65536 in
theorem codes_eq : words1.filter isCode = codes1 := rfl
theorem w_codes : ∀ c ∈ words1.filter isCode, c.before args0 about1 = true := by
  rw [codes_eq]
  intro c hc
  simp only [codes1, List.mem_cons, List.not_mem_nil, or_false] at hc
  rcases hc with rfl | rfl | rfl | rfl | rfl
  · exact w_c0
  · exact w_c1
  · exact w_c2
  · exact w_c3
  · exact w_c4
set_option maxRecDepth 65536 in
theorem w_t1 : (words1.take 24).all (fun c => isCode c || c.before args0 about1) = true := by decide +kernel
set_option maxRecDepth 65536 in
theorem w_t2 : (words1.drop 24).all (fun c => isCode c || c.before args0 about1) = true := by decide +kernel
theorem w_tables : (allAtoms (Jvm.Cond.code x code maxLocals ret :: tables_1)).before args0 about1 = true := by
  rw [allAtoms_all]
  show words1.all (fun c => c.before args0 about1) = true
  refine all_split ?_ w_codes
  rw [← List.take_append_drop 24 words1, List.all_append, w_t1, w_t2]
  rfl
set_option maxRecDepth 65536 in
theorem w_case : (Jvm.Cond.and given_1 narrow_1).before args0 about1 = true := by decide +kernel
theorem w_applies : (headSpec (Jvm.Cond.code x code maxLocals ret :: tables_1) room_1).applies x e0.platform about1 = true :=
  (Spec.applies_iff w_frames).mpr ⟨w_running, w_runnable, w_alone, w_named, w_hears, w_ripe, w_room, w_tables⟩
theorem atStart : AtStart classFile x code maxLocals ret World_1 tables_1 room_1 Calls_1 rest_1 Pre_1 launch0 p0 e0 about1 theMethod args0 below0 :=
  ⟨lists_1, trivial, launch0.admits_env _ _ _, launch0.least_env, fairChoices_fair.cas, fairChoices_fair.clock, w_frames, w_args, w_heap, w_applies, trivial, trivial, w_case⟩
end start1
theorem witness_1 : WitnessClaimed_1 := ⟨start1.p0, start1.e0, start1.about1, start1.theMethod, start1.args0, start1.below0, start1.atStart⟩
end Jvm.Pilot.@@N@@
