import JvmDerived
import JvmDerived.Pilot.@@N@@Statement
import JvmDerived.Pilot.@@N@@Code
set_option linter.unusedVariables false
set_option linter.unusedSimpArgs false
@@BLOCK:NumsL.lean.txt@@
namespace Jvm.Pilot.@@N@@
open Jvm Jvm.ClassFile Sem Op Lib Jvm.Free Jvm.Stand Jvm.LawKit Jvm.RoadKit Bundle Jvm.Pilot.@@N@@.Jvm.D
/-- the run that stands at st comes to a return: Q says what is returned, the heap and the places written; at most kc cells and ks slots are new -/
def own_Ends (p : Program) (e : Env) (below : List Frame) (s : State) (kc ks : Nat) (Q : Option Value → Heap → List Loc → Prop) (st : State) : Prop :=
  ∃ s₂ o, Steps p.tables e below st s₂ ∧ s₂.status = .running ∧ Ended s₂ below o ∧ ∃ v L, o = .returned v ∧ Q v s₂.heap L ∧ FrameEnd s o s₂ L kc ks
theorem own_step {p : Program} {e : Env} {below : List Frame} {s : State} {kc ks : Nat} {Q : Option Value → Heap → List Loc → Prop} {st st' : State}
    (h : ∀ t, Steps p.tables e below st' t → Steps p.tables e below st t) (k : own_Ends p e below s kc ks Q st') : own_Ends p e below s kc ks Q st := by
  obtain ⟨s₂, o, h1, h2⟩ := k
  exact ⟨s₂, o, h _ h1, h2⟩
theorem own_ret {p : Program} {l : Launch} {e : Env} {R : Room} {s : State} {m : MethodId} {args : Array Value} {below : List Frame} {meth : Method} {c : Code} {T : State} {locs : List Loc} {cells slots : Nat} {kc ks : Nat} {Q : Option Value → Heap → List Loc → Prop} {st : State}
    (X : Stand p l e R s m args below meth c T locs cells slots) (hlocks : meth.locks = false) {v : Option Value} (hv : meth.sig.returnType = none → v = none) (hq : Q v T.heap locs) (hc : cells ≤ kc) (hs : slots ≤ ks)
    (hr : ∀ fs, (∀ (f : JFrame) (acts : List Action), f.method = m → f.locked = none → f.entered = [] → (doReturn e (T.setTop f) acts v).1 = T.setFrames fs) → Steps p.tables e below st (T.setFrames fs)) : own_Ends p e below s kc ks Q st := by
  obtain ⟨fs, h1, hrun, hended, hW, hsame⟩ := X.leave (v := v) hv hlocks
  exact ⟨_, _, hr fs h1, hrun, hended, v, locs, rfl, hq, ⟨_, rfl⟩, hW, hsame.mono hc hs⟩

def own_EndsW (p : Program) (e : Env) (below : List Frame) (s : State) (kc ks : Nat) (Q : Option Value → Heap → List Loc → Prop) (st : State) : Prop :=
  ∃ s₂ o, Steps p.tables e below st s₂ ∧ s₂.status = .running ∧ Ended s₂ below o ∧ ∃ v L, o = .returned v ∧ Q v s₂.heap L ∧ ReturnedEndW s o s₂ L kc ks
theorem own_stepW {p : Program} {e : Env} {below : List Frame} {s : State} {kc ks : Nat} {Q : Option Value → Heap → List Loc → Prop} {st st' : State}
    (h : ∀ t, Steps p.tables e below st' t → Steps p.tables e below st t) (k : own_EndsW p e below s kc ks Q st') : own_EndsW p e below s kc ks Q st := by
  obtain ⟨s₂, o, h1, h2⟩ := k
  exact ⟨s₂, o, h _ h1, h2⟩
theorem own_retW {p : Program} {l : Launch} {e : Env} {R : Room} {s : State} {vm₁ : Vm} {m : MethodId} {args : Array Value} {below : List Frame} {meth : Method} {c : Code} {T : State} {locs : List Loc} {cells slots : Nat} {kc ks : Nat} {Q : Option Value → Heap → List Loc → Prop} {st : State}
    (X : Stand p l e R (s.setVm vm₁) m args below meth c T locs cells slots) {n : Nat} (hS : s.Since vm₁ n) (hn : n ≤ T.heap.size) (hlocks : meth.locks = false) {v : Option Value} (hv : meth.sig.returnType = none → v = none) (hq : Q v T.heap locs) (hc : cells ≤ kc) (hs : slots ≤ ks)
    (hr : ∀ fs, (∀ (f : JFrame) (acts : List Action), f.method = m → f.locked = none → f.entered = [] → (doReturn e (T.setTop f) acts v).1 = T.setFrames fs) → Steps p.tables e below st (T.setFrames fs)) : own_EndsW p e below s kc ks Q st := by
  obtain ⟨fs, h1, hrun, hended, hE⟩ := X.leaveW hS hn (v := v) hv hlocks
  exact ⟨_, _, hr fs h1, hrun, hended, v, locs, rfl, hq, hE.1, hE.2.1, hE.2.2.1, hE.2.2.2.mono hc hs⟩
theorem own_backS {p : Program} {l : Launch} {e : Env} {R : Room} {s Z : State} {args a0 : Array Value} {below : List Frame} {h : Heap} {y : MethodName} {bytes : ByteArray} {maxL : Nat} {ret : Option FieldType} {rm : Room} {len W : Nat} {as' : Array Value} {Q : Option Value → Heap → List Loc → Prop}
    (hM : MetFree l y (head1 [Cond.code y bytes maxL ret] rm) (fun a U => a = as' ∧ Z.Warmed39 U.vm ∧ U.heap = h) (fun _ _ _ _ _ => True) (fun _ U o U' => ∃ v L, o = .returned v ∧ Q v U'.heap L ∧ ReturnedEndW U o U' L rm.cells rm.slots))
    (hZ : Z.Warmed39 s.vm) (wc : (Cond.code y bytes maxL ret).before a0 Z = true) (wz : (Cond.initialized y.cls).before a0 Z = true) (hf : rm.frames + 1 ≤ R.frames) (hl : W + (maxL + 11) + rm.locals ≤ R.locals) :
    BackS l R p e below s args y len W (fun A a => a = as' ∧ A.U.heap = h ∧ A.cells + rm.cells ≤ R.cells ∧ A.slots + rm.slots ≤ R.slots)
      (fun A _ v B => ∃ L, Q v B.U.heap L ∧ B.locs = A.locs ++ L ∧ B.cells = A.cells + rm.cells ∧ B.slots = A.slots + rm.slots) := by
  refine BackS.of_freeW (bytes := bytes) (maxL := maxL) (ret := ret) (E := fun _ _ o t L k n => k = rm.cells ∧ n = rm.slots ∧ ∃ v, o = .returned v ∧ Q v t.heap L) hM hf hl ?_ ?_ ?_ ?_ ?_
  · intro m meth c A a Y hp
    have hU : Z.Warmed39 A.U.vm := wtrans hZ Y.warmed
    refine ⟨?_, mv hU wc, mv hU wz, hp.2.2.1, hp.2.2.2⟩
    show (Cond.and _ .tt).before a A.U = true
    rw [Cond.before_and, mv hU wc]
    rfl
  · intro m meth c A a g mk Y hp
    exact ⟨hp.1, wtrans hZ Y.warmed, hp.2.1⟩
  · intros
    trivial
  · rintro a first o t ⟨v, L, h1, h2, h3⟩
    exact ⟨L, _, _, h3, rfl, rfl, v, h1, h2⟩
  · rintro m meth c A a g mk v t L k n Y hp - - ⟨e1, e2, v', e3, e4⟩
    cases e3
    subst e1 e2
    exact ⟨L, e4, rfl, rfl, rfl⟩
theorem own_lt {x y : Int32} : x < y ↔ x.toInt < y.toInt := Int32.lt_iff_toInt_lt
theorem own_lt64 {x y : Int64} : x < y ↔ x.toInt < y.toInt := Int64.lt_iff_toInt_lt
theorem own_up (x d : Int32) (n : Int) (hd : d.toInt = n) (h0 : 0 < n) (h1 : n < 2000000000) : ¬ ((1 : Int32) + ((x &&& (2147483647 : Int32)) - (x &&& (2147483647 : Int32)) / d * d)) < 1 ∧ ¬ d < ((1 : Int32) + ((x &&& (2147483647 : Int32)) - (x &&& (2147483647 : Int32)) / d * d)) := by
  have e := Jvm.Kit.i32_mask x 2147483647 (k := 31) (by decide) (by decide)
  generalize x &&& (2147483647 : Int32) = y at *
  have h := Jvm.Kit.i32_rem_nonneg (x := y) (y := d) (by omega)
  rw [← irem_eq_mod, hd] at h
  have g1 := Int.emod_nonneg y.toInt (show n ≠ 0 by omega)
  have g2 := Int.emod_lt_of_pos y.toInt h0
  generalize y - y / d * d = r at *
  have e1 : (1 : Int32).toInt = 1 := rfl
  rw [own_lt, own_lt, Jvm.Kit.i32_add (by omega) (by omega)]
  omega
theorem own_i2l {x : Int32} (h1 : ¬ x < 1) (h2 : ¬ (1000000 : Int32) < x) : ¬ x.toInt64 < 1 ∧ ¬ (1000000 : Int64) < x.toInt64 := by
  rw [own_lt64, own_lt64, c_i2l]
  rw [own_lt] at h1 h2
  have : (1 : Int32).toInt = 1 := rfl
  have : (1000000 : Int32).toInt = 1000000 := rfl
  have : (1 : Int64).toInt = 1 := rfl
  have : (1000000 : Int64).toInt = 1000000 := rfl
  omega
theorem own_mulI {x y : Int32} (h1 : ¬ x < 1) (h2 : ¬ (10000000 : Int32) < x) (h3 : ¬ y < 1) (h4 : ¬ (1000 : Int32) < y) : y.toInt64 ≠ 0 ∧ (x.toInt64 * y.toInt64) - (x.toInt64 * y.toInt64) / y.toInt64 * y.toInt64 = 0 ∧ (x.toInt64 * y.toInt64) / y.toInt64 = x.toInt64 := by
  rw [own_lt] at h1 h2 h3 h4
  have a1 : (1 : Int32).toInt = 1 := rfl
  have a2 : (10000000 : Int32).toInt = 10000000 := rfl
  have a3 : (1000 : Int32).toInt = 1000 := rfl
  have r0 : (0 : Int64).toInt = 0 := rfl
  have ex := c_i2l x
  have ey := c_i2l y
  have b1 : 0 ≤ x.toInt * y.toInt := Int.mul_nonneg (by omega) (by omega)
  have b2 : x.toInt * y.toInt ≤ 10000000 * 1000 := Int.mul_le_mul (by omega) (by omega) (by omega) (by omega)
  have em : (x.toInt64 * y.toInt64).toInt = x.toInt * y.toInt := by
    rw [Jvm.Kit.i64_mul (by rw [ex, ey]; omega) (by rw [ex, ey]; omega), ex, ey]
  refine ⟨?_, ?_, ?_⟩
  · rw [Ne, ← Int64.toInt_inj]; omega
  · rw [← Int64.toInt_inj, Jvm.Kit.i64_rem_nonneg (by omega), em, ey, r0]
    exact Int.mul_emod_left _ _
  · rw [← Int64.toInt_inj, Jvm.Kit.i64_div (by omega), em, ey, ex, Int.tdiv_eq_ediv_of_nonneg (by omega)]
    exact Int.mul_ediv_cancel _ (by omega)
theorem own_d1_0 : decode jdk_30_method_1_code 0 = .ok (.aload_n 0, 1) := by decide +kernel
theorem own_d1_1 : decode jdk_30_method_1_code 1 = .ok (.invokespecial 1, 3) := by decide +kernel
theorem own_d1_4 : decode jdk_30_method_1_code 4 = .ok (.return_, 1) := by decide +kernel
theorem own_pn0 : plainName "java/lang/Record" = true := by first | (simp [plainName, overriddenIn]; done) | decide +kernel
theorem own_ef1 (m : MethodId) (r0 : Addr) : entryFrame m #[(.ref r0)] 1 = mkF m 0 #[.val (.ref r0)] [] := by first | (simp [entryFrame, mkF, argsToLocals, Value.category]; done) | rfl
def own_Q1 (Z : State) (r0 : Addr)  (h0 : Heap) (n0 : Nat) (v : Option Value) (h : Heap) (L : List Loc) : Prop := v = none ∧ Fr n0 L ∧ h = h0
set_option maxRecDepth 65536 in
set_option maxHeartbeats 40000000 in
theorem own_rm1 (l : Launch) (Z : State) (a0 : Array Value) (hw : ∀ d ∈ tables_1, d.before a0 Z = true) (ws : List Jvm.Cond) (r0 : Addr)  (h0 : Heap) (n0 : Nat) (Z0 : n0 ≤ h0.size)  :
    MetFree l (⟨"java/lang/Record", "<init>", "()V"⟩ : MethodName) (head1 (Jvm.Cond.code (⟨"java/lang/Record", "<init>", "()V"⟩ : MethodName) jdk_30_method_1_code 1 none :: ws) ({ frames := 1, cells := 0, slots := 0, locals := 12 } : Room)) (fun a U => a = #[(.ref r0)] ∧ Z.Warmed39 U.vm ∧ U.heap = h0) (fun _ _ _ _ _ => True) (fun _ U o U' => ∃ v L, o = .returned v ∧ own_Q1 Z r0  h0 n0 v U'.heap L ∧ FrameEnd U o U' L ({ frames := 1, cells := 0, slots := 0, locals := 12 } : Room).cells ({ frames := 1, cells := 0, slots := 0, locals := 12 } : Room).slots) := by
  refine MetFree.of_bodySF (plainFor_of_name own_pn0) hisR ?_
  intro p e s m args below meth c s₁ Bd hml0 hP hK
  obtain ⟨rfl, hZ, hh⟩ := hP
  have hx := Bd.exec
  have hby := Bd.bytes
  have hml : c.maxLocals = 1 := hml0
  have hown : s.vm.findClass "java/lang/Record" = some m.cls := findClass_of_methodNamed Bd.named
  have hnm := (name_of_methodNamed Bd.named Bd.method).1
  have X0 : Stand p l e ({ frames := 1, cells := 0, slots := 0, locals := 12 } : Room) s m #[(.ref r0)] below meth c s₁ [] 0 0 := Stand.of_body Bd
  have e0 : s₁.heap = h0 := by rw [← hh, Bd.state]; rfl
  have N0 := Fr.nil n0
  suffices H : own_Ends p e below s ({ frames := 1, cells := 0, slots := 0, locals := 12 } : Room).cells ({ frames := 1, cells := 0, slots := 0, locals := 12 } : Room).slots (own_Q1 Z r0  h0 n0) (s₁.setTop (mkF m 0 #[.val (.ref r0)] [])) by
    obtain ⟨s₂, o, h1, h2⟩ := H
    exact ⟨s₂, o, castTop (own_ef1 m r0) h1, h2⟩
  show own_Ends _ _ _ _ _ _ _ (s₁.setTop (mkF m 0 #[.val (.ref r0)] []))
  refine own_step (fun _ k => XS.aloadN X0.here hx rfl (hb hby own_d1_0) rfl rfl k) ?_
  show own_Ends _ _ _ _ _ _ _ (s₁.setTop (mkF m 1 #[.val (.ref r0)] [(.ref r0)]))
  obtain ⟨T1, X1, e1, st1⟩ := initO X0 hx hZ hown (hw _ (List.mem_of_getElem? (i := 14) rfl)) (hw _ (List.mem_of_getElem? (i := 15) rfl)) (hw _ (List.mem_of_getElem? (i := 16) rfl)) e0 (g := (mkF m 1 #[.val (.ref r0)] [(.ref r0)])) rfl (by rw [hml]; rfl) rfl (hb hby own_d1_1) (by decide) (W := 0) (by show 2 * 0 + _ ≤ _; exact Nat.le_of_eq rfl) (by decide)
  refine own_step (fun _ k => st1 _ k) ?_
  show own_Ends _ _ _ _ _ _ _ (T1.setTop (mkF m 4 #[.val (.ref r0)] []))
  refine own_ret X1 (BodyLoose.notSynchronized Bd) (v := none) (fun _ => rfl) ?_ (by decide) (by decide) (fun fs hr => X1.returnOut hx Bd.returns (hb hby own_d1_4) hr)
  show own_Q1 Z r0  h0 n0 none T1.heap _
  rw [e1]
  exact ⟨rfl, N0, rfl⟩
theorem own_d2_0 : decode prog_13_method_4_code 0 = .ok (.iload_n 1, 1) := by decide +kernel
theorem own_d2_1 : decode prog_13_method_4_code 1 = .ok (.iconst 1, 1) := by decide +kernel
theorem own_d2_2 : decode prog_13_method_4_code 2 = .ok (.if_icmp .lt 8, 3) := by decide +kernel
theorem own_d2_5 : decode prog_13_method_4_code 5 = .ok (.iload_n 1, 1) := by decide +kernel
theorem own_d2_6 : decode prog_13_method_4_code 6 = .ok (.iload_n 2, 1) := by decide +kernel
theorem own_d2_7 : decode prog_13_method_4_code 7 = .ok (.if_icmp .le 18, 3) := by decide +kernel
theorem own_d2_10 : decode prog_13_method_4_code 10 = .ok (.new 59, 3) := by decide +kernel
theorem own_d2_13 : decode prog_13_method_4_code 13 = .ok (.dup, 1) := by decide +kernel
theorem own_d2_14 : decode prog_13_method_4_code 14 = .ok (.aload_n 0, 1) := by decide +kernel
theorem own_d2_15 : decode prog_13_method_4_code 15 = .ok (.iload_n 2, 1) := by decide +kernel
theorem own_d2_21 : decode prog_13_method_4_code 21 = .ok (.invokespecial 64, 3) := by decide +kernel
theorem own_d2_24 : decode prog_13_method_4_code 24 = .ok (.athrow, 1) := by decide +kernel
theorem own_d2_25 : decode prog_13_method_4_code 25 = .ok (.return_, 1) := by decide +kernel
theorem own_pn1 : plainName "com/example/stockade/stockade/model/BurstPlan" = true := by first | (simp [plainName, overriddenIn]; done) | decide +kernel
theorem own_ef2 (m : MethodId) (r0 : Addr) (p1 : Int32) (p2 : Int32) : entryFrame m #[(.ref r0), (.int p1), (.int p2)] 3 = mkF m 0 #[.val (.ref r0), .val (.int p1), .val (.int p2)] [] := by first | (simp [entryFrame, mkF, argsToLocals, Value.category]; done) | rfl
def own_Q2 (Z : State) (r0 : Addr) (p1 : Int32) (p2 : Int32)  (h0 : Heap) (n0 : Nat) (v : Option Value) (h : Heap) (L : List Loc) : Prop := v = none ∧ Fr n0 L ∧ h = h0
set_option maxRecDepth 65536 in
set_option maxHeartbeats 40000000 in
theorem own_rm2 (l : Launch) (Z : State) (a0 : Array Value) (hw : ∀ d ∈ tables_1, d.before a0 Z = true) (ws : List Jvm.Cond) (r0 : Addr) (p1 : Int32) (p2 : Int32)  (h0 : Heap) (n0 : Nat) (Z0 : n0 ≤ h0.size) (hA : ¬ p1 < (1 : Int32)) (hB : ¬ p2 < p1) :
    MetFree l (⟨"com/example/stockade/stockade/model/BurstPlan", "check", "(Ljava/lang/String;II)V"⟩ : MethodName) (head1 (Jvm.Cond.code (⟨"com/example/stockade/stockade/model/BurstPlan", "check", "(Ljava/lang/String;II)V"⟩ : MethodName) prog_13_method_4_code 3 none :: ws) ({ frames := 0, cells := 0, slots := 0, locals := 0 } : Room)) (fun a U => a = #[(.ref r0), (.int p1), (.int p2)] ∧ Z.Warmed39 U.vm ∧ U.heap = h0) (fun _ _ _ _ _ => True) (fun _ U o U' => ∃ v L, o = .returned v ∧ own_Q2 Z r0 p1 p2  h0 n0 v U'.heap L ∧ FrameEnd U o U' L ({ frames := 0, cells := 0, slots := 0, locals := 0 } : Room).cells ({ frames := 0, cells := 0, slots := 0, locals := 0 } : Room).slots) := by
  refine MetFree.of_bodySF (plainFor_of_name own_pn1) hisR ?_
  intro p e s m args below meth c s₁ Bd hml0 hP hK
  obtain ⟨rfl, hZ, hh⟩ := hP
  have hx := Bd.exec
  have hby := Bd.bytes
  have hml : c.maxLocals = 3 := hml0
  have hown : s.vm.findClass "com/example/stockade/stockade/model/BurstPlan" = some m.cls := findClass_of_methodNamed Bd.named
  have hnm := (name_of_methodNamed Bd.named Bd.method).1
  have X0 : Stand p l e ({ frames := 0, cells := 0, slots := 0, locals := 0 } : Room) s m #[(.ref r0), (.int p1), (.int p2)] below meth c s₁ [] 0 0 := Stand.of_body Bd
  have e0 : s₁.heap = h0 := by rw [← hh, Bd.state]; rfl
  have N0 := Fr.nil n0
  suffices H : own_Ends p e below s ({ frames := 0, cells := 0, slots := 0, locals := 0 } : Room).cells ({ frames := 0, cells := 0, slots := 0, locals := 0 } : Room).slots (own_Q2 Z r0 p1 p2  h0 n0) (s₁.setTop (mkF m 0 #[.val (.ref r0), .val (.int p1), .val (.int p2)] [])) by
    obtain ⟨s₂, o, h1, h2⟩ := H
    exact ⟨s₂, o, castTop (own_ef2 m r0 p1 p2) h1, h2⟩
  show own_Ends _ _ _ _ _ _ _ (s₁.setTop (mkF m 0 #[.val (.ref r0), .val (.int p1), .val (.int p2)] []))
  refine own_step (fun _ k => XS.iloadN X0.here hx rfl (hb hby own_d2_0) rfl k) ?_
  show own_Ends _ _ _ _ _ _ _ (s₁.setTop (mkF m 1 #[.val (.ref r0), .val (.int p1), .val (.int p2)] [(.int p1)]))
  refine own_step (fun _ k => XS.iconst X0.here hx rfl (hb hby own_d2_1) k) ?_
  show own_Ends _ _ _ _ _ _ _ (s₁.setTop (mkF m 2 #[.val (.ref r0), .val (.int p1), .val (.int p2)] [(.int (1 : Int32)), (.int p1)]))
  refine own_step (fun _ k => XS.icmpNo X0.here hx rfl (hb hby own_d2_2) rfl (flt hA).1 k) ?_
  show own_Ends _ _ _ _ _ _ _ (s₁.setTop (mkF m 5 #[.val (.ref r0), .val (.int p1), .val (.int p2)] []))
  refine own_step (fun _ k => XS.iloadN X0.here hx rfl (hb hby own_d2_5) rfl k) ?_
  show own_Ends _ _ _ _ _ _ _ (s₁.setTop (mkF m 6 #[.val (.ref r0), .val (.int p1), .val (.int p2)] [(.int p1)]))
  refine own_step (fun _ k => XS.iloadN X0.here hx rfl (hb hby own_d2_6) rfl k) ?_
  show own_Ends _ _ _ _ _ _ _ (s₁.setTop (mkF m 7 #[.val (.ref r0), .val (.int p1), .val (.int p2)] [(.int p2), (.int p1)]))
  refine own_step (fun _ k => XS.icmpYes X0.here hx rfl (pc0 := 7) (pc' := 25) rfl (hb hby own_d2_7) rfl (flt hB).2.2.2 (by decide) (by decide) k) ?_
  show own_Ends _ _ _ _ _ _ _ (s₁.setTop (mkF m 25 #[.val (.ref r0), .val (.int p1), .val (.int p2)] []))
  refine own_ret X0 (BodyLoose.notSynchronized Bd) (v := none) (fun _ => rfl) ?_ (by decide) (by decide) (fun fs hr => X0.returnOut hx Bd.returns (hb hby own_d2_25) hr)
  show own_Q2 Z r0 p1 p2  h0 n0 none s₁.heap _
  rw [e0]
  exact ⟨rfl, N0, rfl⟩
theorem own_d3_0 : decode prog_17_method_4_code 0 = .ok (.lload_n 0, 1) := by decide +kernel
theorem own_d3_1 : decode prog_17_method_4_code 1 = .ok (.lconst 1, 1) := by decide +kernel
theorem own_d3_2 : decode prog_17_method_4_code 2 = .ok (.lcmp, 1) := by decide +kernel
theorem own_d3_3 : decode prog_17_method_4_code 3 = .ok (.ifCond .lt 11, 3) := by decide +kernel
theorem own_d3_6 : decode prog_17_method_4_code 6 = .ok (.lload_n 0, 1) := by decide +kernel
theorem own_d3_7 : decode prog_17_method_4_code 7 = .ok (.ldc2_w 50, 3) := by decide +kernel
theorem own_d3_10 : decode prog_17_method_4_code 10 = .ok (.lcmp, 1) := by decide +kernel
theorem own_d3_11 : decode prog_17_method_4_code 11 = .ok (.ifCond .le 13, 3) := by decide +kernel
theorem own_d3_14 : decode prog_17_method_4_code 14 = .ok (.new 52, 3) := by decide +kernel
theorem own_d3_17 : decode prog_17_method_4_code 17 = .ok (.dup, 1) := by decide +kernel
theorem own_d3_18 : decode prog_17_method_4_code 18 = .ok (.ldc 54, 2) := by decide +kernel
theorem own_d3_20 : decode prog_17_method_4_code 20 = .ok (.invokespecial 56, 3) := by decide +kernel
theorem own_d3_23 : decode prog_17_method_4_code 23 = .ok (.athrow, 1) := by decide +kernel
theorem own_d3_24 : decode prog_17_method_4_code 24 = .ok (.lload_n 0, 1) := by decide +kernel
theorem own_d3_25 : decode prog_17_method_4_code 25 = .ok (.lreturn, 1) := by decide +kernel
theorem own_pn2 : plainName "com/example/stockade/stockade/model/Claim" = true := by first | (simp [plainName, overriddenIn]; done) | decide +kernel
theorem own_ef3 (m : MethodId) (q0 : Int64) : entryFrame m #[(.long q0)] 2 = mkF m 0 #[.val (.long q0), .second] [] := by first | (simp [entryFrame, mkF, argsToLocals, Value.category]; done) | rfl
def own_Q3 (Z : State) (q0 : Int64)  (h0 : Heap) (n0 : Nat) (v : Option Value) (h : Heap) (L : List Loc) : Prop := v = some (.long q0) ∧ Fr n0 L ∧ h = h0
set_option maxRecDepth 65536 in
set_option maxHeartbeats 40000000 in
theorem own_rm3 (l : Launch) (Z : State) (a0 : Array Value) (hw : ∀ d ∈ tables_1, d.before a0 Z = true) (ws : List Jvm.Cond) (q0 : Int64)  (h0 : Heap) (n0 : Nat) (Z0 : n0 ≤ h0.size) (hA : ¬ q0 < (1 : Int64)) (hB : ¬ (1000000 : Int64) < q0) :
    MetFree l (⟨"com/example/stockade/stockade/model/Claim", "checkUnits", "(J)J"⟩ : MethodName) (head1 (Jvm.Cond.code (⟨"com/example/stockade/stockade/model/Claim", "checkUnits", "(J)J"⟩ : MethodName) prog_17_method_4_code 2 (some .long) :: ws) ({ frames := 0, cells := 0, slots := 0, locals := 0 } : Room)) (fun a U => a = #[(.long q0)] ∧ Z.Warmed39 U.vm ∧ U.heap = h0) (fun _ _ _ _ _ => True) (fun _ U o U' => ∃ v L, o = .returned v ∧ own_Q3 Z q0  h0 n0 v U'.heap L ∧ FrameEnd U o U' L ({ frames := 0, cells := 0, slots := 0, locals := 0 } : Room).cells ({ frames := 0, cells := 0, slots := 0, locals := 0 } : Room).slots) := by
  refine MetFree.of_bodySF (plainFor_of_name own_pn2) hisR ?_
  intro p e s m args below meth c s₁ Bd hml0 hP hK
  obtain ⟨rfl, hZ, hh⟩ := hP
  have hx := Bd.exec
  have hby := Bd.bytes
  have hml : c.maxLocals = 2 := hml0
  have hown : s.vm.findClass "com/example/stockade/stockade/model/Claim" = some m.cls := findClass_of_methodNamed Bd.named
  have hnm := (name_of_methodNamed Bd.named Bd.method).1
  have X0 : Stand p l e ({ frames := 0, cells := 0, slots := 0, locals := 0 } : Room) s m #[(.long q0)] below meth c s₁ [] 0 0 := Stand.of_body Bd
  have e0 : s₁.heap = h0 := by rw [← hh, Bd.state]; rfl
  have N0 := Fr.nil n0
  suffices H : own_Ends p e below s ({ frames := 0, cells := 0, slots := 0, locals := 0 } : Room).cells ({ frames := 0, cells := 0, slots := 0, locals := 0 } : Room).slots (own_Q3 Z q0  h0 n0) (s₁.setTop (mkF m 0 #[.val (.long q0), .second] [])) by
    obtain ⟨s₂, o, h1, h2⟩ := H
    exact ⟨s₂, o, castTop (own_ef3 m q0) h1, h2⟩
  show own_Ends _ _ _ _ _ _ _ (s₁.setTop (mkF m 0 #[.val (.long q0), .second] []))
  refine own_step (fun _ k => XS.lloadN X0.here hx rfl (hb hby own_d3_0) rfl k) ?_
  show own_Ends _ _ _ _ _ _ _ (s₁.setTop (mkF m 1 #[.val (.long q0), .second] [(.long q0)]))
  refine own_step (fun _ k => XS.lconst X0.here hx rfl (hb hby own_d3_1) k) ?_
  show own_Ends _ _ _ _ _ _ _ (s₁.setTop (mkF m 2 #[.val (.long q0), .second] [(.long (1 : Int64)), (.long q0)]))
  refine own_step (fun _ k => XS.lcmp X0.here hx rfl (hb hby own_d3_2) rfl k) ?_
  show own_Ends _ _ _ _ _ _ _ (s₁.setTop (mkF m 3 #[.val (.long q0), .second] [(.int (lcmpW q0 (1 : Int64)))]))
  refine own_step (fun _ k => XS.ifNo X0.here hx rfl (hb hby own_d3_3) rfl ((if0 _ _).trans (flt (fun q => hA ((lw_lt _ _).mp q))).1) k) ?_
  show own_Ends _ _ _ _ _ _ _ (s₁.setTop (mkF m 6 #[.val (.long q0), .second] []))
  refine own_step (fun _ k => XS.lloadN X0.here hx rfl (hb hby own_d3_6) rfl k) ?_
  show own_Ends _ _ _ _ _ _ _ (s₁.setTop (mkF m 7 #[.val (.long q0), .second] [(.long q0)]))
  refine own_step (fun _ k => X0.ldc2Long hx hown (mvT hZ (hw _ (List.mem_of_getElem? (i := 34) rfl))) (g := (mkF m 7 #[.val (.long q0), .second] [(.long q0)])) rfl (hb hby own_d3_7) _ k) ?_
  show own_Ends _ _ _ _ _ _ _ (s₁.setTop (mkF m 10 #[.val (.long q0), .second] [(.long (1000000 : Int64)), (.long q0)]))
  refine own_step (fun _ k => XS.lcmp X0.here hx rfl (hb hby own_d3_10) rfl k) ?_
  show own_Ends _ _ _ _ _ _ _ (s₁.setTop (mkF m 11 #[.val (.long q0), .second] [(.int (lcmpW q0 (1000000 : Int64)))]))
  refine own_step (fun _ k => XS.ifYes X0.here hx rfl (pc0 := 11) (pc' := 24) rfl (hb hby own_d3_11) rfl ((if0 _ _).trans (flt (fun q => hB ((lw_gt _ _).mp q))).2.2.2) (by decide) (by decide) k) ?_
  show own_Ends _ _ _ _ _ _ _ (s₁.setTop (mkF m 24 #[.val (.long q0), .second] []))
  refine own_step (fun _ k => XS.lloadN X0.here hx rfl (hb hby own_d3_24) rfl k) ?_
  show own_Ends _ _ _ _ _ _ _ (s₁.setTop (mkF m 25 #[.val (.long q0), .second] [(.long q0)]))
  refine own_ret X0 (BodyLoose.notSynchronized Bd) (v := (some (.long q0))) (fun h => by rw [Bd.returns] at h; cases h) ?_ (by decide) (by decide) (fun fs hr => X0.lreturnOut hx Bd.returns (hb hby own_d3_25) hr)
  show own_Q3 Z q0  h0 n0 (some (.long q0)) s₁.heap _
  rw [e0]
  exact ⟨rfl, N0, rfl⟩
theorem own_d4_0 : decode prog_13_method_2_code 0 = .ok (.aload_n 0, 1) := by decide +kernel
theorem own_d4_1 : decode prog_13_method_2_code 1 = .ok (.getfield 28, 3) := by decide +kernel
theorem own_d4_4 : decode prog_13_method_2_code 4 = .ok (.i2l, 1) := by decide +kernel
theorem own_d4_5 : decode prog_13_method_2_code 5 = .ok (.aload_n 0, 1) := by decide +kernel
theorem own_d4_6 : decode prog_13_method_2_code 6 = .ok (.getfield 31, 3) := by decide +kernel
theorem own_d4_9 : decode prog_13_method_2_code 9 = .ok (.i2l, 1) := by decide +kernel
theorem own_d4_10 : decode prog_13_method_2_code 10 = .ok (.lmul, 1) := by decide +kernel
theorem own_d4_11 : decode prog_13_method_2_code 11 = .ok (.lreturn, 1) := by decide +kernel
theorem own_ef4 (m : MethodId) (r0 : Addr) : entryFrame m #[(.ref r0)] 1 = mkF m 0 #[.val (.ref r0)] [] := by first | (simp [entryFrame, mkF, argsToLocals, Value.category]; done) | rfl
def own_Q4 (Z : State) (r0 : Addr) (xb xr : Int32) (h0 : Heap) (n0 : Nat) (v : Option Value) (h : Heap) (L : List Loc) : Prop := v = some (.long (xb.toInt64 * xr.toInt64)) ∧ Fr n0 L ∧ h = h0
set_option maxRecDepth 65536 in
set_option maxHeartbeats 40000000 in
theorem own_rm4 (l : Launch) (Z : State) (a0 : Array Value) (hw : ∀ d ∈ tables_1, d.before a0 Z = true) (ws : List Jvm.Cond) (r0 : Addr) (xb xr : Int32) (h0 : Heap) (n0 : Nat) (Z0 : n0 ≤ h0.size) (F0 : Fld Z h0 r0 "com/example/stockade/stockade/model/BurstPlan" "buyers" "I" (.int xb)) (F1 : Fld Z h0 r0 "com/example/stockade/stockade/model/BurstPlan" "repeat" "I" (.int xr)) :
    MetFree l (⟨"com/example/stockade/stockade/model/BurstPlan", "claims", "()J"⟩ : MethodName) (head1 (Jvm.Cond.code (⟨"com/example/stockade/stockade/model/BurstPlan", "claims", "()J"⟩ : MethodName) prog_13_method_2_code 1 (some .long) :: ws) ({ frames := 0, cells := 0, slots := 0, locals := 0 } : Room)) (fun a U => a = #[(.ref r0)] ∧ Z.Warmed39 U.vm ∧ U.heap = h0) (fun _ _ _ _ _ => True) (fun _ U o U' => ∃ v L, o = .returned v ∧ own_Q4 Z r0 xb xr h0 n0 v U'.heap L ∧ FrameEnd U o U' L ({ frames := 0, cells := 0, slots := 0, locals := 0 } : Room).cells ({ frames := 0, cells := 0, slots := 0, locals := 0 } : Room).slots) := by
  refine MetFree.of_bodySF (plainFor_of_name own_pn1) hisR ?_
  intro p e s m args below meth c s₁ Bd hml0 hP hK
  obtain ⟨rfl, hZ, hh⟩ := hP
  have hx := Bd.exec
  have hby := Bd.bytes
  have hml : c.maxLocals = 1 := hml0
  have hown : s.vm.findClass "com/example/stockade/stockade/model/BurstPlan" = some m.cls := findClass_of_methodNamed Bd.named
  have hnm := (name_of_methodNamed Bd.named Bd.method).1
  have X0 : Stand p l e ({ frames := 0, cells := 0, slots := 0, locals := 0 } : Room) s m #[(.ref r0)] below meth c s₁ [] 0 0 := Stand.of_body Bd
  have e0 : s₁.heap = h0 := by rw [← hh, Bd.state]; rfl
  have N0 := Fr.nil n0
  suffices H : own_Ends p e below s ({ frames := 0, cells := 0, slots := 0, locals := 0 } : Room).cells ({ frames := 0, cells := 0, slots := 0, locals := 0 } : Room).slots (own_Q4 Z r0 xb xr h0 n0) (s₁.setTop (mkF m 0 #[.val (.ref r0)] [])) by
    obtain ⟨s₂, o, h1, h2⟩ := H
    exact ⟨s₂, o, castTop (own_ef4 m r0) h1, h2⟩
  show own_Ends _ _ _ _ _ _ _ (s₁.setTop (mkF m 0 #[.val (.ref r0)] []))
  refine own_step (fun _ k => XS.aloadN X0.here hx rfl (hb hby own_d4_0) rfl rfl k) ?_
  show own_Ends _ _ _ _ _ _ _ (s₁.setTop (mkF m 1 #[.val (.ref r0)] [(.ref r0)]))
  obtain ⟨T2, X2, e2, st2⟩ := getF X0 hx hZ hown (host := "") (Or.inl (hw _ (List.mem_of_getElem? (i := 37) rfl))) Via.refl e0 F0 (g := (mkF m 1 #[.val (.ref r0)] [(.ref r0)])) rfl rfl (hb hby own_d4_1)
  refine own_step (fun _ k => st2 _ k) ?_
  show own_Ends _ _ _ _ _ _ _ (T2.setTop (mkF m 4 #[.val (.ref r0)] [(.int xb)]))
  refine own_step (fun _ k => XS.i2l X2.here hx rfl (hb hby own_d4_4) rfl k) ?_
  show own_Ends _ _ _ _ _ _ _ (T2.setTop (mkF m 5 #[.val (.ref r0)] [(.long ((xb).toInt64))]))
  refine own_step (fun _ k => XS.aloadN X2.here hx rfl (hb hby own_d4_5) rfl rfl k) ?_
  show own_Ends _ _ _ _ _ _ _ (T2.setTop (mkF m 6 #[.val (.ref r0)] [(.ref r0), (.long ((xb).toInt64))]))
  obtain ⟨T3, X3, e3, st3⟩ := getF X2 hx hZ hown (host := "") (Or.inl (hw _ (List.mem_of_getElem? (i := 39) rfl))) Via.refl e2 F1 (g := (mkF m 6 #[.val (.ref r0)] [(.ref r0), (.long ((xb).toInt64))])) rfl rfl (hb hby own_d4_6)
  refine own_step (fun _ k => st3 _ k) ?_
  show own_Ends _ _ _ _ _ _ _ (T3.setTop (mkF m 9 #[.val (.ref r0)] [(.int xr), (.long ((xb).toInt64))]))
  refine own_step (fun _ k => XS.i2l X3.here hx rfl (hb hby own_d4_9) rfl k) ?_
  show own_Ends _ _ _ _ _ _ _ (T3.setTop (mkF m 10 #[.val (.ref r0)] [(.long ((xr).toInt64)), (.long ((xb).toInt64))]))
  refine own_step (fun _ k => XS.lmul X3.here hx rfl (hb hby own_d4_10) rfl k) ?_
  show own_Ends _ _ _ _ _ _ _ (T3.setTop (mkF m 11 #[.val (.ref r0)] [(.long (((xb).toInt64) * ((xr).toInt64)))]))
  refine own_ret X3 (BodyLoose.notSynchronized Bd) (v := (some (.long (((xb).toInt64) * ((xr).toInt64))))) (fun h => by rw [Bd.returns] at h; cases h) ?_ (by decide) (by decide) (fun fs hr => X3.lreturnOut hx Bd.returns (hb hby own_d4_11) hr)
  show own_Q4 Z r0 xb xr h0 n0 (some (.long (((xb).toInt64) * ((xr).toInt64)))) T3.heap _
  rw [e3]
  exact ⟨rfl, N0, rfl⟩
theorem own_d5_0 : decode prog_13_method_1_code 0 = .ok (.aload_n 0, 1) := by decide +kernel
theorem own_d5_1 : decode prog_13_method_1_code 1 = .ok (.invokespecial 1, 3) := by decide +kernel
theorem own_d5_4 : decode prog_13_method_1_code 4 = .ok (.ldc 7, 2) := by decide +kernel
theorem own_d5_6 : decode prog_13_method_1_code 6 = .ok (.iload_n 1, 1) := by decide +kernel
theorem own_d5_7 : decode prog_13_method_1_code 7 = .ok (.ldc 11, 2) := by decide +kernel
theorem own_d5_9 : decode prog_13_method_1_code 9 = .ok (.invokestatic 12, 3) := by decide +kernel
theorem own_d5_12 : decode prog_13_method_1_code 12 = .ok (.ldc 16, 2) := by decide +kernel
theorem own_d5_14 : decode prog_13_method_1_code 14 = .ok (.iload_n 2, 1) := by decide +kernel
theorem own_d5_15 : decode prog_13_method_1_code 15 = .ok (.sipush 1000, 3) := by decide +kernel
theorem own_d5_18 : decode prog_13_method_1_code 18 = .ok (.invokestatic 12, 3) := by decide +kernel
theorem own_d5_21 : decode prog_13_method_1_code 21 = .ok (.iload_n 3, 1) := by decide +kernel
theorem own_d5_22 : decode prog_13_method_1_code 22 = .ok (.i2l, 1) := by decide +kernel
theorem own_d5_23 : decode prog_13_method_1_code 23 = .ok (.invokestatic 18, 3) := by decide +kernel
theorem own_d5_26 : decode prog_13_method_1_code 26 = .ok (.pop2, 1) := by decide +kernel
theorem own_d5_27 : decode prog_13_method_1_code 27 = .ok (.ldc 24, 2) := by decide +kernel
theorem own_d5_29 : decode prog_13_method_1_code 29 = .ok (.iload 4, 2) := by decide +kernel
theorem own_d5_31 : decode prog_13_method_1_code 31 = .ok (.sipush 10000, 3) := by decide +kernel
theorem own_d5_34 : decode prog_13_method_1_code 34 = .ok (.invokestatic 12, 3) := by decide +kernel
theorem own_d5_37 : decode prog_13_method_1_code 37 = .ok (.ldc 26, 2) := by decide +kernel
theorem own_d5_39 : decode prog_13_method_1_code 39 = .ok (.iload 5, 2) := by decide +kernel
theorem own_d5_41 : decode prog_13_method_1_code 41 = .ok (.sipush 1000, 3) := by decide +kernel
theorem own_d5_44 : decode prog_13_method_1_code 44 = .ok (.invokestatic 12, 3) := by decide +kernel
theorem own_d5_47 : decode prog_13_method_1_code 47 = .ok (.aload_n 0, 1) := by decide +kernel
theorem own_d5_48 : decode prog_13_method_1_code 48 = .ok (.iload_n 1, 1) := by decide +kernel
theorem own_d5_49 : decode prog_13_method_1_code 49 = .ok (.putfield 28, 3) := by decide +kernel
theorem own_d5_52 : decode prog_13_method_1_code 52 = .ok (.aload_n 0, 1) := by decide +kernel
theorem own_d5_53 : decode prog_13_method_1_code 53 = .ok (.iload_n 2, 1) := by decide +kernel
theorem own_d5_54 : decode prog_13_method_1_code 54 = .ok (.putfield 31, 3) := by decide +kernel
theorem own_d5_57 : decode prog_13_method_1_code 57 = .ok (.aload_n 0, 1) := by decide +kernel
theorem own_d5_58 : decode prog_13_method_1_code 58 = .ok (.iload_n 3, 1) := by decide +kernel
theorem own_d5_59 : decode prog_13_method_1_code 59 = .ok (.putfield 33, 3) := by decide +kernel
theorem own_d5_62 : decode prog_13_method_1_code 62 = .ok (.aload_n 0, 1) := by decide +kernel
theorem own_d5_63 : decode prog_13_method_1_code 63 = .ok (.iload 4, 2) := by decide +kernel
theorem own_d5_65 : decode prog_13_method_1_code 65 = .ok (.putfield 36, 3) := by decide +kernel
theorem own_d5_68 : decode prog_13_method_1_code 68 = .ok (.aload_n 0, 1) := by decide +kernel
theorem own_d5_69 : decode prog_13_method_1_code 69 = .ok (.iload 5, 2) := by decide +kernel
theorem own_d5_71 : decode prog_13_method_1_code 71 = .ok (.putfield 38, 3) := by decide +kernel
theorem own_d5_74 : decode prog_13_method_1_code 74 = .ok (.return_, 1) := by decide +kernel
theorem own_ef5 (m : MethodId) (r0 : Addr) (p1 : Int32) (p2 : Int32) (p3 : Int32) (p4 : Int32) (p5 : Int32) : entryFrame m #[(.ref r0), (.int p1), (.int p2), (.int p3), (.int p4), (.int p5)] 6 = mkF m 0 #[.val (.ref r0), .val (.int p1), .val (.int p2), .val (.int p3), .val (.int p4), .val (.int p5)] [] := by first | (simp [entryFrame, mkF, argsToLocals, Value.category]; done) | rfl
theorem own_pd0 : parseMethodDescriptor "()V" = some ⟨[], none⟩ := by decide +kernel
theorem own_pd1 : parseMethodDescriptor "(Ljava/lang/String;II)V" = some ⟨[(.object "java/lang/String"), .int, .int], none⟩ := by decide +kernel
theorem own_pd2 : parseMethodDescriptor "(J)J" = some ⟨[.long], some .long⟩ := by decide +kernel
def own_Q5 (Z : State) (r0 : Addr) (p1 : Int32) (p2 : Int32) (p3 : Int32) (p4 : Int32) (p5 : Int32)  (h0 : Heap) (n0 : Nat) (v : Option Value) (h : Heap) (L : List Loc) : Prop := v = none ∧ Fr n0 L ∧ Keep h0 h [r0] ∧ Exa Z h r0 "com/example/stockade/stockade/model/BurstPlan" ∧ Fld Z h r0 "com/example/stockade/stockade/model/BurstPlan" "buyers" "I" (.int p1) ∧ Fld Z h r0 "com/example/stockade/stockade/model/BurstPlan" "repeat" "I" (.int p2)
set_option maxRecDepth 65536 in
set_option maxHeartbeats 40000000 in
theorem own_rm5 (l : Launch) (Z : State) (a0 : Array Value) (hw : ∀ d ∈ tables_1, d.before a0 Z = true) (ws : List Jvm.Cond) (r0 : Addr) (p1 : Int32) (p2 : Int32) (p3 : Int32) (p4 : Int32) (p5 : Int32)  (h0 : Heap) (n0 : Nat) (Z0 : n0 ≤ h0.size) (F0 : Fld Z h0 r0 "com/example/stockade/stockade/model/BurstPlan" "buyers" "I" (.int (0 : Int32))) (F1 : Fld Z h0 r0 "com/example/stockade/stockade/model/BurstPlan" "repeat" "I" (.int (0 : Int32))) (F2 : Fld Z h0 r0 "com/example/stockade/stockade/model/BurstPlan" "units" "I" (.int (0 : Int32))) (F3 : Fld Z h0 r0 "com/example/stockade/stockade/model/BurstPlan" "threads" "I" (.int (0 : Int32))) (F4 : Fld Z h0 r0 "com/example/stockade/stockade/model/BurstPlan" "connections" "I" (.int (0 : Int32))) (EX : Exa Z h0 r0 "com/example/stockade/stockade/model/BurstPlan") (G : n0 ≤ r0) (hA1 : ¬ p1 < (1 : Int32)) (hB1 : ¬ (10000000 : Int32) < p1) (hA2 : ¬ p2 < (1 : Int32)) (hB2 : ¬ (1000 : Int32) < p2) (hA3 : ¬ p3 < (1 : Int32)) (hB3 : ¬ (1000000 : Int32) < p3) (hA4 : ¬ p4 < (1 : Int32)) (hB4 : ¬ (10000 : Int32) < p4) (hA5 : ¬ p5 < (1 : Int32)) (hB5 : ¬ (1000 : Int32) < p5) :
    MetFree l (⟨"com/example/stockade/stockade/model/BurstPlan", "<init>", "(IIIII)V"⟩ : MethodName) (head1 (Jvm.Cond.code (⟨"com/example/stockade/stockade/model/BurstPlan", "<init>", "(IIIII)V"⟩ : MethodName) prog_13_method_1_code 6 none :: ws) ({ frames := 2, cells := 8, slots := 136, locals := 24 } : Room)) (fun a U => a = #[(.ref r0), (.int p1), (.int p2), (.int p3), (.int p4), (.int p5)] ∧ Z.Warmed39 U.vm ∧ U.heap = h0) (fun _ _ _ _ _ => True) (fun _ U o U' => ∃ v L, o = .returned v ∧ own_Q5 Z r0 p1 p2 p3 p4 p5  h0 n0 v U'.heap L ∧ ReturnedEndW U o U' L ({ frames := 2, cells := 8, slots := 136, locals := 24 } : Room).cells ({ frames := 2, cells := 8, slots := 136, locals := 24 } : Room).slots) := by
  refine MetFree.of_bodySF (plainFor_of_name own_pn1) hisR ?_
  intro p e s m args below meth c s₁ Bd hml0 hP hK
  obtain ⟨rfl, hZ, hh⟩ := hP
  have hx := Bd.exec
  have hby := Bd.bytes
  have hml : c.maxLocals = 6 := hml0
  have hown : s.vm.findClass "com/example/stockade/stockade/model/BurstPlan" = some m.cls := findClass_of_methodNamed Bd.named
  have hnm := (name_of_methodNamed Bd.named Bd.method).1
  have X0 : Stand p l e ({ frames := 2, cells := 8, slots := 136, locals := 24 } : Room) s m #[(.ref r0), (.int p1), (.int p2), (.int p3), (.int p4), (.int p5)] below meth c s₁ [] 0 0 := Stand.of_body Bd
  have e0 : s₁.heap = h0 := by rw [← hh, Bd.state]; rfl
  have N0 := Fr.nil n0
  suffices H : own_EndsW p e below s ({ frames := 2, cells := 8, slots := 136, locals := 24 } : Room).cells ({ frames := 2, cells := 8, slots := 136, locals := 24 } : Room).slots (own_Q5 Z r0 p1 p2 p3 p4 p5  h0 n0) (s₁.setTop (mkF m 0 #[.val (.ref r0), .val (.int p1), .val (.int p2), .val (.int p3), .val (.int p4), .val (.int p5)] [])) by
    obtain ⟨s₂, o, h1, h2⟩ := H
    exact ⟨s₂, o, castTop (own_ef5 m r0 p1 p2 p3 p4 p5) h1, h2⟩
  show own_EndsW _ _ _ _ _ _ _ (s₁.setTop (mkF m 0 #[.val (.ref r0), .val (.int p1), .val (.int p2), .val (.int p3), .val (.int p4), .val (.int p5)] []))
  have Kp0 := Keep.refl h0 [r0]
  have wS : ∀ a ∈ Bundle.stringAtoms, a.before a0 Z = true := by
    intro a ha
    simp only [Bundle.stringAtoms, List.mem_cons, List.not_mem_nil, or_false] at ha
    rcases ha with rfl | rfl | rfl | rfl | rfl | rfl | rfl
    · exact (hw _ (List.mem_of_getElem? (i := 18) rfl))
    · exact (hw _ (List.mem_of_getElem? (i := 19) rfl))
    · exact (hw _ (List.mem_of_getElem? (i := 20) rfl))
    · exact (hw _ (List.mem_of_getElem? (i := 21) rfl))
    · exact (hw _ (List.mem_of_getElem? (i := 22) rfl))
    · exact (hw _ (List.mem_of_getElem? (i := 23) rfl))
    · exact (hw _ (List.mem_of_getElem? (i := 24) rfl))
  have hS0 := (State.WarmedH.refl s).since 0
  have kS0 := Nat.zero_le h0.size
  refine own_stepW (fun _ k => XS.aloadN X0.here hx rfl (hb hby own_d5_0) rfl rfl k) ?_
  show own_EndsW _ _ _ _ _ _ _ (s₁.setTop (mkF m 1 #[.val (.ref r0), .val (.int p1), .val (.int p2), .val (.int p3), .val (.int p4), .val (.int p5)] [(.ref r0)]))
  obtain ⟨_, _, ⟨T4, L4, k4, n4⟩, -, X4, ⟨Lc4, hQ4, l4, y4, z4⟩, st4⟩ := X0.specialBack hx (y := (⟨"java/lang/Record", "<init>", "()V"⟩ : MethodName)) rfl hown (mvT hZ (hw _ (List.mem_of_getElem? (i := 9) rfl))) (mvT hZ (hw _ (List.mem_of_getElem? (i := 10) rfl))) (mvT hZ (hw _ (List.mem_of_getElem? (i := 13) rfl))) (by decide) (backOf (W := 0) (own_rm1 l Z a0 hw [] r0  h0 n0 Z0 ) hZ (hw _ (List.mem_of_getElem? (i := 13) rfl)) (hw _ (List.mem_of_getElem? (i := 12) rfl)) (by decide) (by decide)) (g := (mkF m 1 #[.val (.ref r0), .val (.int p1), .val (.int p2), .val (.int p3), .val (.int p4), .val (.int p5)] [(.ref r0)])) rfl (by rw [hml]; rfl) (Steps.refl _) (a := r0) (argsL := []) (rest := []) (lenOf own_pd0 rfl) rfl (by show 2 * 0 + _ ≤ _; exact Nat.le_of_eq rfl) (hb hby own_d5_1) (fun _ _ => ⟨rfl, e0, (by decide : 0 + 0 ≤ _), (by decide : 0 + 0 ≤ _)⟩)
  dsimp only [Pt.U, Pt.locs, Pt.cells, Pt.slots] at X4 l4 y4 z4 st4 hQ4
  subst l4 y4 z4
  obtain ⟨rfl, Nq4, e4⟩ := hQ4
  have N4 := Fr.app N0 Nq4
  refine own_stepW (fun _ k => st4.trans k) ?_
  show own_EndsW _ _ _ _ _ _ _ (T4.setTop (mkF m 4 #[.val (.ref r0), .val (.int p1), .val (.int p2), .val (.int p3), .val (.int p4), .val (.int p5)] []))
  obtain ⟨sa5, T5, h5, k5, X5, e5, E5, hS5, hk5, hZ5, hown5, st5⟩ := ldcS (s := s) (vm0 := s.vm) X4 hx hZ hown (hw _ (List.mem_of_getElem? (i := 17) rfl)) wS e4 hS0 kS0 (g := (mkF m 4 #[.val (.ref r0), .val (.int p1), .val (.int p2), .val (.int p3), .val (.int p4), .val (.int p5)] [])) rfl (hb hby own_d5_4) (n := 24) (by decide) (by decide) (by decide) (by decide)
  have F5_r0_buyers := Fld.ext E5 F0
  have F5_r0_repeat := Fld.ext E5 F1
  have F5_r0_units := Fld.ext E5 F2
  have F5_r0_threads := Fld.ext E5 F3
  have F5_r0_connections := Fld.ext E5 F4
  have A5_r0 := Exa.ext E5 EX
  have Z5 := Nat.le_trans Z0 E5.1
  have kS5 := Nat.le_trans kS0 E5.1
  have Kp5 := Kp0.ext E5
  refine own_stepW (fun _ k => st5 _ k) ?_
  show own_EndsW _ _ _ _ _ _ _ (T5.setTop (mkF m 6 #[.val (.ref r0), .val (.int p1), .val (.int p2), .val (.int p3), .val (.int p4), .val (.int p5)] [(.ref sa5)]))
  refine own_stepW (fun _ k => XS.iloadN X5.here hx rfl (hb hby own_d5_6) rfl k) ?_
  show own_EndsW _ _ _ _ _ _ _ (T5.setTop (mkF m 7 #[.val (.ref r0), .val (.int p1), .val (.int p2), .val (.int p3), .val (.int p4), .val (.int p5)] [(.int p1), (.ref sa5)]))
  refine own_stepW (fun _ k => X5.ldcInt hx hown5 (mvT hZ5 (hw _ (List.mem_of_getElem? (i := 25) rfl))) (g := (mkF m 7 #[.val (.ref r0), .val (.int p1), .val (.int p2), .val (.int p3), .val (.int p4), .val (.int p5)] [(.int p1), (.ref sa5)])) rfl (hb hby own_d5_7) _ k) ?_
  show own_EndsW _ _ _ _ _ _ _ (T5.setTop (mkF m 9 #[.val (.ref r0), .val (.int p1), .val (.int p2), .val (.int p3), .val (.int p4), .val (.int p5)] [(.int (10000000 : Int32)), (.int p1), (.ref sa5)]))
  obtain ⟨_, _, ⟨T6, L6, k6, n6⟩, -, X6, ⟨Lc6, hQ6, l6, y6, z6⟩, st6⟩ := Jvm.LawKit.callS X5 hx (y := (⟨"com/example/stockade/stockade/model/BurstPlan", "check", "(Ljava/lang/String;II)V"⟩ : MethodName)) hown5 (mvT hZ5 (hw _ (List.mem_of_getElem? (i := 26) rfl))) (mvT hZ5 (hw _ (List.mem_of_getElem? (i := 27) rfl))) (mvT hZ5 (hw _ (List.mem_of_getElem? (i := 5) rfl))) (mvT hZ5 (hw _ (List.mem_of_getElem? (i := 28) rfl))) (by decide) (backOf (W := 0) (own_rm2 l Z a0 hw [] sa5 p1 (10000000 : Int32)  h5 n0 Z5 hA1 hB1) hZ5 (hw _ (List.mem_of_getElem? (i := 28) rfl)) (hw _ (List.mem_of_getElem? (i := 5) rfl)) (by decide) (by decide)) (g := (mkF m 9 #[.val (.ref r0), .val (.int p1), .val (.int p2), .val (.int p3), .val (.int p4), .val (.int p5)] [(.int (10000000 : Int32)), (.int p1), (.ref sa5)])) rfl (by rw [hml]; rfl) (argsL := [(.ref sa5), (.int p1), (.int (10000000 : Int32))]) (rest := []) (lenOf own_pd1 rfl) rfl (by show 2 * 0 + _ ≤ _; exact Nat.le_of_eq rfl) (hb hby own_d5_9) (fun _ _ => ⟨rfl, e5, (by decide : 2 + 0 ≤ _), (by decide : 28 + 0 ≤ _)⟩)
  dsimp only [Pt.U, Pt.locs, Pt.cells, Pt.slots] at X6 l6 y6 z6 st6 hQ6
  subst l6 y6 z6
  obtain ⟨rfl, Nq6, e6⟩ := hQ6
  have N6 := Fr.app N4 Nq6
  refine own_stepW (fun _ k => st6 _ k) ?_
  show own_EndsW _ _ _ _ _ _ _ (T6.setTop (mkF m 12 #[.val (.ref r0), .val (.int p1), .val (.int p2), .val (.int p3), .val (.int p4), .val (.int p5)] []))
  obtain ⟨sa7, T7, h7, k7, X7, e7, E7, hS7, hk7, hZ7, hown7, st7⟩ := ldcS (s := s) (vm0 := T5.vm) X6 hx hZ5 hown5 (hw _ (List.mem_of_getElem? (i := 29) rfl)) wS e6 hS5 hk5 (g := (mkF m 12 #[.val (.ref r0), .val (.int p1), .val (.int p2), .val (.int p3), .val (.int p4), .val (.int p5)] [])) rfl (hb hby own_d5_12) (n := 24) (by decide) (by decide) (by decide) (by decide)
  have F7_r0_buyers := Fld.ext E7 F5_r0_buyers
  have F7_r0_repeat := Fld.ext E7 F5_r0_repeat
  have F7_r0_units := Fld.ext E7 F5_r0_units
  have F7_r0_threads := Fld.ext E7 F5_r0_threads
  have F7_r0_connections := Fld.ext E7 F5_r0_connections
  have A7_r0 := Exa.ext E7 A5_r0
  have Z7 := Nat.le_trans Z5 E7.1
  have kS7 := Nat.le_trans hk5 E7.1
  have Kp7 := Kp5.ext E7
  refine own_stepW (fun _ k => st7 _ k) ?_
  show own_EndsW _ _ _ _ _ _ _ (T7.setTop (mkF m 14 #[.val (.ref r0), .val (.int p1), .val (.int p2), .val (.int p3), .val (.int p4), .val (.int p5)] [(.ref sa7)]))
  refine own_stepW (fun _ k => XS.iloadN X7.here hx rfl (hb hby own_d5_14) rfl k) ?_
  show own_EndsW _ _ _ _ _ _ _ (T7.setTop (mkF m 15 #[.val (.ref r0), .val (.int p1), .val (.int p2), .val (.int p3), .val (.int p4), .val (.int p5)] [(.int p2), (.ref sa7)]))
  refine own_stepW (fun _ k => XS.sipush X7.here hx rfl (hb hby own_d5_15) k) ?_
  show own_EndsW _ _ _ _ _ _ _ (T7.setTop (mkF m 18 #[.val (.ref r0), .val (.int p1), .val (.int p2), .val (.int p3), .val (.int p4), .val (.int p5)] [(.int (1000 : Int32)), (.int p2), (.ref sa7)]))
  obtain ⟨_, _, ⟨T8, L8, k8, n8⟩, -, X8, ⟨Lc8, hQ8, l8, y8, z8⟩, st8⟩ := Jvm.LawKit.callS X7 hx (y := (⟨"com/example/stockade/stockade/model/BurstPlan", "check", "(Ljava/lang/String;II)V"⟩ : MethodName)) hown7 (mvT hZ7 (hw _ (List.mem_of_getElem? (i := 26) rfl))) (mvT hZ7 (hw _ (List.mem_of_getElem? (i := 27) rfl))) (mvT hZ7 (hw _ (List.mem_of_getElem? (i := 5) rfl))) (mvT hZ7 (hw _ (List.mem_of_getElem? (i := 28) rfl))) (by decide) (backOf (W := 0) (own_rm2 l Z a0 hw [] sa7 p2 (1000 : Int32)  h7 n0 Z7 hA2 hB2) hZ7 (hw _ (List.mem_of_getElem? (i := 28) rfl)) (hw _ (List.mem_of_getElem? (i := 5) rfl)) (by decide) (by decide)) (g := (mkF m 18 #[.val (.ref r0), .val (.int p1), .val (.int p2), .val (.int p3), .val (.int p4), .val (.int p5)] [(.int (1000 : Int32)), (.int p2), (.ref sa7)])) rfl (by rw [hml]; rfl) (argsL := [(.ref sa7), (.int p2), (.int (1000 : Int32))]) (rest := []) (lenOf own_pd1 rfl) rfl (by show 2 * 0 + _ ≤ _; exact Nat.le_of_eq rfl) (hb hby own_d5_18) (fun _ _ => ⟨rfl, e7, (by decide : 4 + 0 ≤ _), (by decide : 56 + 0 ≤ _)⟩)
  dsimp only [Pt.U, Pt.locs, Pt.cells, Pt.slots] at X8 l8 y8 z8 st8 hQ8
  subst l8 y8 z8
  obtain ⟨rfl, Nq8, e8⟩ := hQ8
  have N8 := Fr.app N6 Nq8
  refine own_stepW (fun _ k => st8 _ k) ?_
  show own_EndsW _ _ _ _ _ _ _ (T8.setTop (mkF m 21 #[.val (.ref r0), .val (.int p1), .val (.int p2), .val (.int p3), .val (.int p4), .val (.int p5)] []))
  refine own_stepW (fun _ k => XS.iloadN X8.here hx rfl (hb hby own_d5_21) rfl k) ?_
  show own_EndsW _ _ _ _ _ _ _ (T8.setTop (mkF m 22 #[.val (.ref r0), .val (.int p1), .val (.int p2), .val (.int p3), .val (.int p4), .val (.int p5)] [(.int p3)]))
  refine own_stepW (fun _ k => XS.i2l X8.here hx rfl (hb hby own_d5_22) rfl k) ?_
  show own_EndsW _ _ _ _ _ _ _ (T8.setTop (mkF m 23 #[.val (.ref r0), .val (.int p1), .val (.int p2), .val (.int p3), .val (.int p4), .val (.int p5)] [(.long ((p3).toInt64))]))
  obtain ⟨hL, hM⟩ := own_i2l hA3 hB3
  obtain ⟨_, _, ⟨T9, L9, k9, n9⟩, -, X9, ⟨Lc9, hQ9, l9, y9, z9⟩, st9⟩ := Jvm.LawKit.callS X8 hx (y := (⟨"com/example/stockade/stockade/model/Claim", "checkUnits", "(J)J"⟩ : MethodName)) hown7 (mvT hZ7 (hw _ (List.mem_of_getElem? (i := 30) rfl))) (mvT hZ7 (hw _ (List.mem_of_getElem? (i := 31) rfl))) (mvT hZ7 (hw _ (List.mem_of_getElem? (i := 32) rfl))) (mvT hZ7 (hw _ (List.mem_of_getElem? (i := 33) rfl))) (by decide) (backOf (W := 0) (own_rm3 l Z a0 hw [] ((p3).toInt64)  h7 n0 Z7 hL hM) hZ7 (hw _ (List.mem_of_getElem? (i := 33) rfl)) (hw _ (List.mem_of_getElem? (i := 32) rfl)) (by decide) (by decide)) (g := (mkF m 23 #[.val (.ref r0), .val (.int p1), .val (.int p2), .val (.int p3), .val (.int p4), .val (.int p5)] [(.long ((p3).toInt64))])) rfl (by rw [hml]; rfl) (argsL := [(.long ((p3).toInt64))]) (rest := []) (lenOf own_pd2 rfl) rfl (by show 2 * 0 + _ ≤ _; exact Nat.le_of_eq rfl) (hb hby own_d5_23) (fun _ _ => ⟨rfl, e8, (by decide : 4 + 0 ≤ _), (by decide : 56 + 0 ≤ _)⟩)
  dsimp only [Pt.U, Pt.locs, Pt.cells, Pt.slots] at X9 l9 y9 z9 st9 hQ9
  subst l9 y9 z9
  obtain ⟨rfl, Nq9, e9⟩ := hQ9
  have N9 := Fr.app N8 Nq9
  refine own_stepW (fun _ k => st9 _ k) ?_
  show own_EndsW _ _ _ _ _ _ _ (T9.setTop (mkF m 26 #[.val (.ref r0), .val (.int p1), .val (.int p2), .val (.int p3), .val (.int p4), .val (.int p5)] [(.long ((p3).toInt64))]))
  refine own_stepW (fun _ k => by jvm_step X9.here [X9.here.top, hx, (hb hby own_d5_26), Value.category]; exact k) ?_
  show own_EndsW _ _ _ _ _ _ _ (T9.setTop (mkF m 27 #[.val (.ref r0), .val (.int p1), .val (.int p2), .val (.int p3), .val (.int p4), .val (.int p5)] []))
  obtain ⟨sa10, T10, h10, k10, X10, e10, E10, hS10, hk10, hZ10, hown10, st10⟩ := ldcS (s := s) (vm0 := T7.vm) X9 hx hZ7 hown7 (hw _ (List.mem_of_getElem? (i := 35) rfl)) wS e9 hS7 hk7 (g := (mkF m 27 #[.val (.ref r0), .val (.int p1), .val (.int p2), .val (.int p3), .val (.int p4), .val (.int p5)] [])) rfl (hb hby own_d5_27) (n := 28) (by decide) (by decide) (by decide) (by decide)
  have F10_r0_buyers := Fld.ext E10 F7_r0_buyers
  have F10_r0_repeat := Fld.ext E10 F7_r0_repeat
  have F10_r0_units := Fld.ext E10 F7_r0_units
  have F10_r0_threads := Fld.ext E10 F7_r0_threads
  have F10_r0_connections := Fld.ext E10 F7_r0_connections
  have A10_r0 := Exa.ext E10 A7_r0
  have Z10 := Nat.le_trans Z7 E10.1
  have kS10 := Nat.le_trans hk7 E10.1
  have Kp10 := Kp7.ext E10
  refine own_stepW (fun _ k => st10 _ k) ?_
  show own_EndsW _ _ _ _ _ _ _ (T10.setTop (mkF m 29 #[.val (.ref r0), .val (.int p1), .val (.int p2), .val (.int p3), .val (.int p4), .val (.int p5)] [(.ref sa10)]))
  refine own_stepW (fun _ k => XS.iload X10.here hx rfl (hb hby own_d5_29) rfl k) ?_
  show own_EndsW _ _ _ _ _ _ _ (T10.setTop (mkF m 31 #[.val (.ref r0), .val (.int p1), .val (.int p2), .val (.int p3), .val (.int p4), .val (.int p5)] [(.int p4), (.ref sa10)]))
  refine own_stepW (fun _ k => XS.sipush X10.here hx rfl (hb hby own_d5_31) k) ?_
  show own_EndsW _ _ _ _ _ _ _ (T10.setTop (mkF m 34 #[.val (.ref r0), .val (.int p1), .val (.int p2), .val (.int p3), .val (.int p4), .val (.int p5)] [(.int (10000 : Int32)), (.int p4), (.ref sa10)]))
  obtain ⟨_, _, ⟨T11, L11, k11, n11⟩, -, X11, ⟨Lc11, hQ11, l11, y11, z11⟩, st11⟩ := Jvm.LawKit.callS X10 hx (y := (⟨"com/example/stockade/stockade/model/BurstPlan", "check", "(Ljava/lang/String;II)V"⟩ : MethodName)) hown10 (mvT hZ10 (hw _ (List.mem_of_getElem? (i := 26) rfl))) (mvT hZ10 (hw _ (List.mem_of_getElem? (i := 27) rfl))) (mvT hZ10 (hw _ (List.mem_of_getElem? (i := 5) rfl))) (mvT hZ10 (hw _ (List.mem_of_getElem? (i := 28) rfl))) (by decide) (backOf (W := 0) (own_rm2 l Z a0 hw [] sa10 p4 (10000 : Int32)  h10 n0 Z10 hA4 hB4) hZ10 (hw _ (List.mem_of_getElem? (i := 28) rfl)) (hw _ (List.mem_of_getElem? (i := 5) rfl)) (by decide) (by decide)) (g := (mkF m 34 #[.val (.ref r0), .val (.int p1), .val (.int p2), .val (.int p3), .val (.int p4), .val (.int p5)] [(.int (10000 : Int32)), (.int p4), (.ref sa10)])) rfl (by rw [hml]; rfl) (argsL := [(.ref sa10), (.int p4), (.int (10000 : Int32))]) (rest := []) (lenOf own_pd1 rfl) rfl (by show 2 * 0 + _ ≤ _; exact Nat.le_of_eq rfl) (hb hby own_d5_34) (fun _ _ => ⟨rfl, e10, (by decide : 6 + 0 ≤ _), (by decide : 88 + 0 ≤ _)⟩)
  dsimp only [Pt.U, Pt.locs, Pt.cells, Pt.slots] at X11 l11 y11 z11 st11 hQ11
  subst l11 y11 z11
  obtain ⟨rfl, Nq11, e11⟩ := hQ11
  have N11 := Fr.app N9 Nq11
  refine own_stepW (fun _ k => st11 _ k) ?_
  show own_EndsW _ _ _ _ _ _ _ (T11.setTop (mkF m 37 #[.val (.ref r0), .val (.int p1), .val (.int p2), .val (.int p3), .val (.int p4), .val (.int p5)] []))
  obtain ⟨sa12, T12, h12, k12, X12, e12, E12, hS12, hk12, hZ12, hown12, st12⟩ := ldcS (s := s) (vm0 := T10.vm) X11 hx hZ10 hown10 (hw _ (List.mem_of_getElem? (i := 36) rfl)) wS e11 hS10 hk10 (g := (mkF m 37 #[.val (.ref r0), .val (.int p1), .val (.int p2), .val (.int p3), .val (.int p4), .val (.int p5)] [])) rfl (hb hby own_d5_37) (n := 44) (by decide) (by decide) (by decide) (by decide)
  have F12_r0_buyers := Fld.ext E12 F10_r0_buyers
  have F12_r0_repeat := Fld.ext E12 F10_r0_repeat
  have F12_r0_units := Fld.ext E12 F10_r0_units
  have F12_r0_threads := Fld.ext E12 F10_r0_threads
  have F12_r0_connections := Fld.ext E12 F10_r0_connections
  have A12_r0 := Exa.ext E12 A10_r0
  have Z12 := Nat.le_trans Z10 E12.1
  have kS12 := Nat.le_trans hk10 E12.1
  have Kp12 := Kp10.ext E12
  refine own_stepW (fun _ k => st12 _ k) ?_
  show own_EndsW _ _ _ _ _ _ _ (T12.setTop (mkF m 39 #[.val (.ref r0), .val (.int p1), .val (.int p2), .val (.int p3), .val (.int p4), .val (.int p5)] [(.ref sa12)]))
  refine own_stepW (fun _ k => XS.iload X12.here hx rfl (hb hby own_d5_39) rfl k) ?_
  show own_EndsW _ _ _ _ _ _ _ (T12.setTop (mkF m 41 #[.val (.ref r0), .val (.int p1), .val (.int p2), .val (.int p3), .val (.int p4), .val (.int p5)] [(.int p5), (.ref sa12)]))
  refine own_stepW (fun _ k => XS.sipush X12.here hx rfl (hb hby own_d5_41) k) ?_
  show own_EndsW _ _ _ _ _ _ _ (T12.setTop (mkF m 44 #[.val (.ref r0), .val (.int p1), .val (.int p2), .val (.int p3), .val (.int p4), .val (.int p5)] [(.int (1000 : Int32)), (.int p5), (.ref sa12)]))
  obtain ⟨_, _, ⟨T13, L13, k13, n13⟩, -, X13, ⟨Lc13, hQ13, l13, y13, z13⟩, st13⟩ := Jvm.LawKit.callS X12 hx (y := (⟨"com/example/stockade/stockade/model/BurstPlan", "check", "(Ljava/lang/String;II)V"⟩ : MethodName)) hown12 (mvT hZ12 (hw _ (List.mem_of_getElem? (i := 26) rfl))) (mvT hZ12 (hw _ (List.mem_of_getElem? (i := 27) rfl))) (mvT hZ12 (hw _ (List.mem_of_getElem? (i := 5) rfl))) (mvT hZ12 (hw _ (List.mem_of_getElem? (i := 28) rfl))) (by decide) (backOf (W := 0) (own_rm2 l Z a0 hw [] sa12 p5 (1000 : Int32)  h12 n0 Z12 hA5 hB5) hZ12 (hw _ (List.mem_of_getElem? (i := 28) rfl)) (hw _ (List.mem_of_getElem? (i := 5) rfl)) (by decide) (by decide)) (g := (mkF m 44 #[.val (.ref r0), .val (.int p1), .val (.int p2), .val (.int p3), .val (.int p4), .val (.int p5)] [(.int (1000 : Int32)), (.int p5), (.ref sa12)])) rfl (by rw [hml]; rfl) (argsL := [(.ref sa12), (.int p5), (.int (1000 : Int32))]) (rest := []) (lenOf own_pd1 rfl) rfl (by show 2 * 0 + _ ≤ _; exact Nat.le_of_eq rfl) (hb hby own_d5_44) (fun _ _ => ⟨rfl, e12, (by decide : 8 + 0 ≤ _), (by decide : 136 + 0 ≤ _)⟩)
  dsimp only [Pt.U, Pt.locs, Pt.cells, Pt.slots] at X13 l13 y13 z13 st13 hQ13
  subst l13 y13 z13
  obtain ⟨rfl, Nq13, e13⟩ := hQ13
  have N13 := Fr.app N11 Nq13
  refine own_stepW (fun _ k => st13 _ k) ?_
  show own_EndsW _ _ _ _ _ _ _ (T13.setTop (mkF m 47 #[.val (.ref r0), .val (.int p1), .val (.int p2), .val (.int p3), .val (.int p4), .val (.int p5)] []))
  refine own_stepW (fun _ k => XS.aloadN X13.here hx rfl (hb hby own_d5_47) rfl rfl k) ?_
  show own_EndsW _ _ _ _ _ _ _ (T13.setTop (mkF m 48 #[.val (.ref r0), .val (.int p1), .val (.int p2), .val (.int p3), .val (.int p4), .val (.int p5)] [(.ref r0)]))
  refine own_stepW (fun _ k => XS.iloadN X13.here hx rfl (hb hby own_d5_48) rfl k) ?_
  show own_EndsW _ _ _ _ _ _ _ (T13.setTop (mkF m 49 #[.val (.ref r0), .val (.int p1), .val (.int p2), .val (.int p3), .val (.int p4), .val (.int p5)] [(.int p1), (.ref r0)]))
  obtain ⟨T14, h14, X14, e14, W14, st14⟩ := putF X13 hx hZ12 hown12 (host := "") (Or.inl (hw _ (List.mem_of_getElem? (i := 37) rfl))) Via.refl e13 F12_r0_buyers A12_r0 (Or.inr ⟨(hw _ (List.mem_of_getElem? (i := 38) rfl)), rfl, hnm⟩) (hw _ (List.mem_of_getElem? (i := 4) rfl)) (ty := .int) (by decide) rfl rfl (g := (mkF m 49 #[.val (.ref r0), .val (.int p1), .val (.int p2), .val (.int p3), .val (.int p4), .val (.int p5)] [(.int p1), (.ref r0)])) rfl rfl (hb hby own_d5_49)
  have N14 := Fr.snoc X14 N13 G
  have F14_r0_repeat := Fld.other W14 F12_r0_repeat (Or.inr (RoadKit.slot_ne (Or.inr (hw _ (List.mem_of_getElem? (i := 40) rfl))) (Or.inr (hw _ (List.mem_of_getElem? (i := 38) rfl))) (by decide) (t := .int) (t' := .int) (by decide) (by decide)))
  have F14_r0_units := Fld.other W14 F12_r0_units (Or.inr (RoadKit.slot_ne (Or.inr (hw _ (List.mem_of_getElem? (i := 42) rfl))) (Or.inr (hw _ (List.mem_of_getElem? (i := 38) rfl))) (by decide) (t := .int) (t' := .int) (by decide) (by decide)))
  have F14_r0_threads := Fld.other W14 F12_r0_threads (Or.inr (RoadKit.slot_ne (Or.inr (hw _ (List.mem_of_getElem? (i := 44) rfl))) (Or.inr (hw _ (List.mem_of_getElem? (i := 38) rfl))) (by decide) (t := .int) (t' := .int) (by decide) (by decide)))
  have F14_r0_connections := Fld.other W14 F12_r0_connections (Or.inr (RoadKit.slot_ne (Or.inr (hw _ (List.mem_of_getElem? (i := 46) rfl))) (Or.inr (hw _ (List.mem_of_getElem? (i := 38) rfl))) (by decide) (t := .int) (t' := .int) (by decide) (by decide)))
  have A14_r0 := Exa.wr W14 A12_r0
  have Z14 := Nat.le_trans Z12 (Keep.of_wr W14).1
  have kS14 := Nat.le_trans hk12 (Keep.of_wr W14).1
  have Kp14 := Kp12.wr W14 (Or.inl (List.mem_of_getElem? (i := 0) rfl))
  have F14_r0_buyers := Fld.same W14 F12_r0_buyers
  refine own_stepW (fun _ k => st14 _ k) ?_
  show own_EndsW _ _ _ _ _ _ _ (T14.setTop (mkF m 52 #[.val (.ref r0), .val (.int p1), .val (.int p2), .val (.int p3), .val (.int p4), .val (.int p5)] []))
  refine own_stepW (fun _ k => XS.aloadN X14.here hx rfl (hb hby own_d5_52) rfl rfl k) ?_
  show own_EndsW _ _ _ _ _ _ _ (T14.setTop (mkF m 53 #[.val (.ref r0), .val (.int p1), .val (.int p2), .val (.int p3), .val (.int p4), .val (.int p5)] [(.ref r0)]))
  refine own_stepW (fun _ k => XS.iloadN X14.here hx rfl (hb hby own_d5_53) rfl k) ?_
  show own_EndsW _ _ _ _ _ _ _ (T14.setTop (mkF m 54 #[.val (.ref r0), .val (.int p1), .val (.int p2), .val (.int p3), .val (.int p4), .val (.int p5)] [(.int p2), (.ref r0)]))
  obtain ⟨T15, h15, X15, e15, W15, st15⟩ := putF X14 hx hZ12 hown12 (host := "") (Or.inl (hw _ (List.mem_of_getElem? (i := 39) rfl))) Via.refl e14 F14_r0_repeat A14_r0 (Or.inr ⟨(hw _ (List.mem_of_getElem? (i := 40) rfl)), rfl, hnm⟩) (hw _ (List.mem_of_getElem? (i := 4) rfl)) (ty := .int) (by decide) rfl rfl (g := (mkF m 54 #[.val (.ref r0), .val (.int p1), .val (.int p2), .val (.int p3), .val (.int p4), .val (.int p5)] [(.int p2), (.ref r0)])) rfl rfl (hb hby own_d5_54)
  have N15 := Fr.snoc X15 N14 G
  have F15_r0_buyers := Fld.other W15 F14_r0_buyers (Or.inr (RoadKit.slot_ne (Or.inr (hw _ (List.mem_of_getElem? (i := 38) rfl))) (Or.inr (hw _ (List.mem_of_getElem? (i := 40) rfl))) (by decide) (t := .int) (t' := .int) (by decide) (by decide)))
  have F15_r0_units := Fld.other W15 F14_r0_units (Or.inr (RoadKit.slot_ne (Or.inr (hw _ (List.mem_of_getElem? (i := 42) rfl))) (Or.inr (hw _ (List.mem_of_getElem? (i := 40) rfl))) (by decide) (t := .int) (t' := .int) (by decide) (by decide)))
  have F15_r0_threads := Fld.other W15 F14_r0_threads (Or.inr (RoadKit.slot_ne (Or.inr (hw _ (List.mem_of_getElem? (i := 44) rfl))) (Or.inr (hw _ (List.mem_of_getElem? (i := 40) rfl))) (by decide) (t := .int) (t' := .int) (by decide) (by decide)))
  have F15_r0_connections := Fld.other W15 F14_r0_connections (Or.inr (RoadKit.slot_ne (Or.inr (hw _ (List.mem_of_getElem? (i := 46) rfl))) (Or.inr (hw _ (List.mem_of_getElem? (i := 40) rfl))) (by decide) (t := .int) (t' := .int) (by decide) (by decide)))
  have A15_r0 := Exa.wr W15 A14_r0
  have Z15 := Nat.le_trans Z14 (Keep.of_wr W15).1
  have kS15 := Nat.le_trans kS14 (Keep.of_wr W15).1
  have Kp15 := Kp14.wr W15 (Or.inl (List.mem_of_getElem? (i := 0) rfl))
  have F15_r0_repeat := Fld.same W15 F14_r0_repeat
  refine own_stepW (fun _ k => st15 _ k) ?_
  show own_EndsW _ _ _ _ _ _ _ (T15.setTop (mkF m 57 #[.val (.ref r0), .val (.int p1), .val (.int p2), .val (.int p3), .val (.int p4), .val (.int p5)] []))
  refine own_stepW (fun _ k => XS.aloadN X15.here hx rfl (hb hby own_d5_57) rfl rfl k) ?_
  show own_EndsW _ _ _ _ _ _ _ (T15.setTop (mkF m 58 #[.val (.ref r0), .val (.int p1), .val (.int p2), .val (.int p3), .val (.int p4), .val (.int p5)] [(.ref r0)]))
  refine own_stepW (fun _ k => XS.iloadN X15.here hx rfl (hb hby own_d5_58) rfl k) ?_
  show own_EndsW _ _ _ _ _ _ _ (T15.setTop (mkF m 59 #[.val (.ref r0), .val (.int p1), .val (.int p2), .val (.int p3), .val (.int p4), .val (.int p5)] [(.int p3), (.ref r0)]))
  obtain ⟨T16, h16, X16, e16, W16, st16⟩ := putF X15 hx hZ12 hown12 (host := "") (Or.inl (hw _ (List.mem_of_getElem? (i := 41) rfl))) Via.refl e15 F15_r0_units A15_r0 (Or.inr ⟨(hw _ (List.mem_of_getElem? (i := 42) rfl)), rfl, hnm⟩) (hw _ (List.mem_of_getElem? (i := 4) rfl)) (ty := .int) (by decide) rfl rfl (g := (mkF m 59 #[.val (.ref r0), .val (.int p1), .val (.int p2), .val (.int p3), .val (.int p4), .val (.int p5)] [(.int p3), (.ref r0)])) rfl rfl (hb hby own_d5_59)
  have N16 := Fr.snoc X16 N15 G
  have F16_r0_buyers := Fld.other W16 F15_r0_buyers (Or.inr (RoadKit.slot_ne (Or.inr (hw _ (List.mem_of_getElem? (i := 38) rfl))) (Or.inr (hw _ (List.mem_of_getElem? (i := 42) rfl))) (by decide) (t := .int) (t' := .int) (by decide) (by decide)))
  have F16_r0_repeat := Fld.other W16 F15_r0_repeat (Or.inr (RoadKit.slot_ne (Or.inr (hw _ (List.mem_of_getElem? (i := 40) rfl))) (Or.inr (hw _ (List.mem_of_getElem? (i := 42) rfl))) (by decide) (t := .int) (t' := .int) (by decide) (by decide)))
  have F16_r0_threads := Fld.other W16 F15_r0_threads (Or.inr (RoadKit.slot_ne (Or.inr (hw _ (List.mem_of_getElem? (i := 44) rfl))) (Or.inr (hw _ (List.mem_of_getElem? (i := 42) rfl))) (by decide) (t := .int) (t' := .int) (by decide) (by decide)))
  have F16_r0_connections := Fld.other W16 F15_r0_connections (Or.inr (RoadKit.slot_ne (Or.inr (hw _ (List.mem_of_getElem? (i := 46) rfl))) (Or.inr (hw _ (List.mem_of_getElem? (i := 42) rfl))) (by decide) (t := .int) (t' := .int) (by decide) (by decide)))
  have A16_r0 := Exa.wr W16 A15_r0
  have Z16 := Nat.le_trans Z15 (Keep.of_wr W16).1
  have kS16 := Nat.le_trans kS15 (Keep.of_wr W16).1
  have Kp16 := Kp15.wr W16 (Or.inl (List.mem_of_getElem? (i := 0) rfl))
  have F16_r0_units := Fld.same W16 F15_r0_units
  refine own_stepW (fun _ k => st16 _ k) ?_
  show own_EndsW _ _ _ _ _ _ _ (T16.setTop (mkF m 62 #[.val (.ref r0), .val (.int p1), .val (.int p2), .val (.int p3), .val (.int p4), .val (.int p5)] []))
  refine own_stepW (fun _ k => XS.aloadN X16.here hx rfl (hb hby own_d5_62) rfl rfl k) ?_
  show own_EndsW _ _ _ _ _ _ _ (T16.setTop (mkF m 63 #[.val (.ref r0), .val (.int p1), .val (.int p2), .val (.int p3), .val (.int p4), .val (.int p5)] [(.ref r0)]))
  refine own_stepW (fun _ k => XS.iload X16.here hx rfl (hb hby own_d5_63) rfl k) ?_
  show own_EndsW _ _ _ _ _ _ _ (T16.setTop (mkF m 65 #[.val (.ref r0), .val (.int p1), .val (.int p2), .val (.int p3), .val (.int p4), .val (.int p5)] [(.int p4), (.ref r0)]))
  obtain ⟨T17, h17, X17, e17, W17, st17⟩ := putF X16 hx hZ12 hown12 (host := "") (Or.inl (hw _ (List.mem_of_getElem? (i := 43) rfl))) Via.refl e16 F16_r0_threads A16_r0 (Or.inr ⟨(hw _ (List.mem_of_getElem? (i := 44) rfl)), rfl, hnm⟩) (hw _ (List.mem_of_getElem? (i := 4) rfl)) (ty := .int) (by decide) rfl rfl (g := (mkF m 65 #[.val (.ref r0), .val (.int p1), .val (.int p2), .val (.int p3), .val (.int p4), .val (.int p5)] [(.int p4), (.ref r0)])) rfl rfl (hb hby own_d5_65)
  have N17 := Fr.snoc X17 N16 G
  have F17_r0_buyers := Fld.other W17 F16_r0_buyers (Or.inr (RoadKit.slot_ne (Or.inr (hw _ (List.mem_of_getElem? (i := 38) rfl))) (Or.inr (hw _ (List.mem_of_getElem? (i := 44) rfl))) (by decide) (t := .int) (t' := .int) (by decide) (by decide)))
  have F17_r0_repeat := Fld.other W17 F16_r0_repeat (Or.inr (RoadKit.slot_ne (Or.inr (hw _ (List.mem_of_getElem? (i := 40) rfl))) (Or.inr (hw _ (List.mem_of_getElem? (i := 44) rfl))) (by decide) (t := .int) (t' := .int) (by decide) (by decide)))
  have F17_r0_units := Fld.other W17 F16_r0_units (Or.inr (RoadKit.slot_ne (Or.inr (hw _ (List.mem_of_getElem? (i := 42) rfl))) (Or.inr (hw _ (List.mem_of_getElem? (i := 44) rfl))) (by decide) (t := .int) (t' := .int) (by decide) (by decide)))
  have F17_r0_connections := Fld.other W17 F16_r0_connections (Or.inr (RoadKit.slot_ne (Or.inr (hw _ (List.mem_of_getElem? (i := 46) rfl))) (Or.inr (hw _ (List.mem_of_getElem? (i := 44) rfl))) (by decide) (t := .int) (t' := .int) (by decide) (by decide)))
  have A17_r0 := Exa.wr W17 A16_r0
  have Z17 := Nat.le_trans Z16 (Keep.of_wr W17).1
  have kS17 := Nat.le_trans kS16 (Keep.of_wr W17).1
  have Kp17 := Kp16.wr W17 (Or.inl (List.mem_of_getElem? (i := 0) rfl))
  have F17_r0_threads := Fld.same W17 F16_r0_threads
  refine own_stepW (fun _ k => st17 _ k) ?_
  show own_EndsW _ _ _ _ _ _ _ (T17.setTop (mkF m 68 #[.val (.ref r0), .val (.int p1), .val (.int p2), .val (.int p3), .val (.int p4), .val (.int p5)] []))
  refine own_stepW (fun _ k => XS.aloadN X17.here hx rfl (hb hby own_d5_68) rfl rfl k) ?_
  show own_EndsW _ _ _ _ _ _ _ (T17.setTop (mkF m 69 #[.val (.ref r0), .val (.int p1), .val (.int p2), .val (.int p3), .val (.int p4), .val (.int p5)] [(.ref r0)]))
  refine own_stepW (fun _ k => XS.iload X17.here hx rfl (hb hby own_d5_69) rfl k) ?_
  show own_EndsW _ _ _ _ _ _ _ (T17.setTop (mkF m 71 #[.val (.ref r0), .val (.int p1), .val (.int p2), .val (.int p3), .val (.int p4), .val (.int p5)] [(.int p5), (.ref r0)]))
  obtain ⟨T18, h18, X18, e18, W18, st18⟩ := putF X17 hx hZ12 hown12 (host := "") (Or.inl (hw _ (List.mem_of_getElem? (i := 45) rfl))) Via.refl e17 F17_r0_connections A17_r0 (Or.inr ⟨(hw _ (List.mem_of_getElem? (i := 46) rfl)), rfl, hnm⟩) (hw _ (List.mem_of_getElem? (i := 4) rfl)) (ty := .int) (by decide) rfl rfl (g := (mkF m 71 #[.val (.ref r0), .val (.int p1), .val (.int p2), .val (.int p3), .val (.int p4), .val (.int p5)] [(.int p5), (.ref r0)])) rfl rfl (hb hby own_d5_71)
  have N18 := Fr.snoc X18 N17 G
  have F18_r0_buyers := Fld.other W18 F17_r0_buyers (Or.inr (RoadKit.slot_ne (Or.inr (hw _ (List.mem_of_getElem? (i := 38) rfl))) (Or.inr (hw _ (List.mem_of_getElem? (i := 46) rfl))) (by decide) (t := .int) (t' := .int) (by decide) (by decide)))
  have F18_r0_repeat := Fld.other W18 F17_r0_repeat (Or.inr (RoadKit.slot_ne (Or.inr (hw _ (List.mem_of_getElem? (i := 40) rfl))) (Or.inr (hw _ (List.mem_of_getElem? (i := 46) rfl))) (by decide) (t := .int) (t' := .int) (by decide) (by decide)))
  have F18_r0_units := Fld.other W18 F17_r0_units (Or.inr (RoadKit.slot_ne (Or.inr (hw _ (List.mem_of_getElem? (i := 42) rfl))) (Or.inr (hw _ (List.mem_of_getElem? (i := 46) rfl))) (by decide) (t := .int) (t' := .int) (by decide) (by decide)))
  have F18_r0_threads := Fld.other W18 F17_r0_threads (Or.inr (RoadKit.slot_ne (Or.inr (hw _ (List.mem_of_getElem? (i := 44) rfl))) (Or.inr (hw _ (List.mem_of_getElem? (i := 46) rfl))) (by decide) (t := .int) (t' := .int) (by decide) (by decide)))
  have A18_r0 := Exa.wr W18 A17_r0
  have Z18 := Nat.le_trans Z17 (Keep.of_wr W18).1
  have kS18 := Nat.le_trans kS17 (Keep.of_wr W18).1
  have Kp18 := Kp17.wr W18 (Or.inl (List.mem_of_getElem? (i := 0) rfl))
  have F18_r0_connections := Fld.same W18 F17_r0_connections
  refine own_stepW (fun _ k => st18 _ k) ?_
  show own_EndsW _ _ _ _ _ _ _ (T18.setTop (mkF m 74 #[.val (.ref r0), .val (.int p1), .val (.int p2), .val (.int p3), .val (.int p4), .val (.int p5)] []))
  refine own_retW X18 hS12 (by rw [e18]; exact kS18) (BodyLoose.notSynchronized Bd) (v := none) (fun _ => rfl) ?_ (by decide) (by decide) (fun fs hr => X18.returnOut hx Bd.returns (hb hby own_d5_74) hr)
  show own_Q5 Z r0 p1 p2 p3 p4 p5  h0 n0 none T18.heap _
  rw [e18]
  exact ⟨rfl, N18, Kp18, A18_r0, F18_r0_buyers, F18_r0_repeat⟩
theorem own_pn3 : plainName "com/example/stockade/stockade/model/BurstPlanClaimsPinLaw" = true := by first | (simp [plainName, overriddenIn]; done) | decide +kernel
theorem own_ef0 (m : MethodId) (p0 : Int32) (p1 : Int32) (p2 : Int32) (p3 : Int32) (p4 : Int32) : entryFrame m #[(.int p0), (.int p1), (.int p2), (.int p3), (.int p4)] maxLocals = mkF m 0 #[.val (.int p0), .val (.int p1), .val (.int p2), .val (.int p3), .val (.int p4), .unset, .unset, .unset, .unset, .unset, .unset, .unset, .unset] [] := by first | (simp [entryFrame, mkF, argsToLocals, Value.category, maxLocals]; done) | rfl
theorem own_pd3 : parseMethodDescriptor "(IIIII)V" = some ⟨[.int, .int, .int, .int, .int], none⟩ := by decide +kernel
theorem own_pd4 : parseMethodDescriptor "()J" = some ⟨[], some .long⟩ := by decide +kernel
def own_Q0 (Z : State) (p0 : Int32) (p1 : Int32) (p2 : Int32) (p3 : Int32) (p4 : Int32)  (h0 : Heap) (n0 : Nat) (v : Option Value) (h : Heap) (L : List Loc) : Prop := v = some (.int 1) ∧ Fr n0 L
set_option maxRecDepth 65536 in
set_option maxHeartbeats 40000000 in
theorem own_rm0 (l : Launch) (Z : State) (a0 : Array Value) (hw : ∀ d ∈ tables_1, d.before a0 Z = true) (ws : List Jvm.Cond) (p0 : Int32) (p1 : Int32) (p2 : Int32) (p3 : Int32) (p4 : Int32)  (h0 : Heap) (n0 : Nat) (Z0 : n0 ≤ h0.size)  :
    MetFree l x (head1 (Jvm.Cond.code x code maxLocals ret :: ws) room_1) (fun a U => a = #[(.int p0), (.int p1), (.int p2), (.int p3), (.int p4)] ∧ Z.Warmed39 U.vm ∧ U.heap = h0) (fun _ _ _ _ _ => True) (fun _ U o U' => ∃ v L, o = .returned v ∧ own_Q0 Z p0 p1 p2 p3 p4  h0 n0 v U'.heap L ∧ ReturnedEndW U o U' L 9 141) := by
  refine MetFree.of_bodySF (plainFor_of_name own_pn3) hisR ?_
  intro p e s m args below meth c s₁ Bd hml0 hP hK
  obtain ⟨rfl, hZ, hh⟩ := hP
  have hx := Bd.exec
  have hby := Bd.bytes
  have hml : c.maxLocals = 13 := hml0
  have hown : s.vm.findClass "com/example/stockade/stockade/model/BurstPlanClaimsPinLaw" = some m.cls := findClass_of_methodNamed Bd.named
  have hnm := (name_of_methodNamed Bd.named Bd.method).1
  have X0 : Stand p l e room_1 s m #[(.int p0), (.int p1), (.int p2), (.int p3), (.int p4)] below meth c s₁ [] 0 0 := Stand.of_body Bd
  have e0 : s₁.heap = h0 := by rw [← hh, Bd.state]; rfl
  have N0 := Fr.nil n0
  suffices H : own_EndsW p e below s 9 141 (own_Q0 Z p0 p1 p2 p3 p4  h0 n0) (s₁.setTop (mkF m 0 #[.val (.int p0), .val (.int p1), .val (.int p2), .val (.int p3), .val (.int p4), .unset, .unset, .unset, .unset, .unset, .unset, .unset, .unset] [])) by
    obtain ⟨s₂, o, h1, h2⟩ := H
    exact ⟨s₂, o, castTop (own_ef0 m p0 p1 p2 p3 p4) h1, h2⟩
  show own_EndsW _ _ _ _ _ _ _ (s₁.setTop (mkF m 0 #[.val (.int p0), .val (.int p1), .val (.int p2), .val (.int p3), .val (.int p4), .unset, .unset, .unset, .unset, .unset, .unset, .unset, .unset] []))
  refine own_stepW (fun _ k => XS.iconst X0.here hx rfl (hb hby at_0) k) ?_
  show own_EndsW _ _ _ _ _ _ _ (s₁.setTop (mkF m 1 #[.val (.int p0), .val (.int p1), .val (.int p2), .val (.int p3), .val (.int p4), .unset, .unset, .unset, .unset, .unset, .unset, .unset, .unset] [(.int (1 : Int32))]))
  refine own_stepW (fun _ k => XS.iloadN X0.here hx rfl (hb hby at_1) rfl k) ?_
  show own_EndsW _ _ _ _ _ _ _ (s₁.setTop (mkF m 2 #[.val (.int p0), .val (.int p1), .val (.int p2), .val (.int p3), .val (.int p4), .unset, .unset, .unset, .unset, .unset, .unset, .unset, .unset] [(.int p0), (.int (1 : Int32))]))
  refine own_stepW (fun _ k => X0.ldcInt hx hown (mvT hZ (hw _ (List.mem_of_getElem? (i := 0) rfl))) (g := (mkF m 2 #[.val (.int p0), .val (.int p1), .val (.int p2), .val (.int p3), .val (.int p4), .unset, .unset, .unset, .unset, .unset, .unset, .unset, .unset] [(.int p0), (.int (1 : Int32))])) rfl (hb hby at_2) _ k) ?_
  show own_EndsW _ _ _ _ _ _ _ (s₁.setTop (mkF m 4 #[.val (.int p0), .val (.int p1), .val (.int p2), .val (.int p3), .val (.int p4), .unset, .unset, .unset, .unset, .unset, .unset, .unset, .unset] [(.int (2147483647 : Int32)), (.int p0), (.int (1 : Int32))]))
  refine own_stepW (fun _ k => XS.iand X0.here hx rfl (hb hby at_4) rfl k) ?_
  show own_EndsW _ _ _ _ _ _ _ (s₁.setTop (mkF m 5 #[.val (.int p0), .val (.int p1), .val (.int p2), .val (.int p3), .val (.int p4), .unset, .unset, .unset, .unset, .unset, .unset, .unset, .unset] [(.int (p0 &&& (2147483647 : Int32))), (.int (1 : Int32))]))
  refine own_stepW (fun _ k => X0.ldcInt hx hown (mvT hZ (hw _ (List.mem_of_getElem? (i := 1) rfl))) (g := (mkF m 5 #[.val (.int p0), .val (.int p1), .val (.int p2), .val (.int p3), .val (.int p4), .unset, .unset, .unset, .unset, .unset, .unset, .unset, .unset] [(.int (p0 &&& (2147483647 : Int32))), (.int (1 : Int32))])) rfl (hb hby at_5) _ k) ?_
  show own_EndsW _ _ _ _ _ _ _ (s₁.setTop (mkF m 7 #[.val (.int p0), .val (.int p1), .val (.int p2), .val (.int p3), .val (.int p4), .unset, .unset, .unset, .unset, .unset, .unset, .unset, .unset] [(.int (10000000 : Int32)), (.int (p0 &&& (2147483647 : Int32))), (.int (1 : Int32))]))
  refine own_stepW (fun _ k => XS.irem X0.here hx rfl (hb hby at_7) rfl (by decide) k) ?_
  show own_EndsW _ _ _ _ _ _ _ (s₁.setTop (mkF m 8 #[.val (.int p0), .val (.int p1), .val (.int p2), .val (.int p3), .val (.int p4), .unset, .unset, .unset, .unset, .unset, .unset, .unset, .unset] [(.int ((p0 &&& (2147483647 : Int32)) - ((p0 &&& (2147483647 : Int32)) / (10000000 : Int32)) * (10000000 : Int32))), (.int (1 : Int32))]))
  refine own_stepW (fun _ k => XS.iadd X0.here hx rfl (hb hby at_8) rfl k) ?_
  show own_EndsW _ _ _ _ _ _ _ (s₁.setTop (mkF m 9 #[.val (.int p0), .val (.int p1), .val (.int p2), .val (.int p3), .val (.int p4), .unset, .unset, .unset, .unset, .unset, .unset, .unset, .unset] [(.int ((1 : Int32) + ((p0 &&& (2147483647 : Int32)) - ((p0 &&& (2147483647 : Int32)) / (10000000 : Int32)) * (10000000 : Int32))))]))
  obtain ⟨hA0, hB0⟩ := own_up p0 (10000000 : Int32) 10000000 rfl (by decide) (by decide)
  generalize ((1 : Int32) + ((p0 &&& (2147483647 : Int32)) - ((p0 &&& (2147483647 : Int32)) / (10000000 : Int32)) * (10000000 : Int32))) = vb at hA0 hB0 ⊢
  refine own_stepW (fun _ k => XS.istore X0.here hx rfl (hb hby at_9) rfl (l' := #[.val (.int p0), .val (.int p1), .val (.int p2), .val (.int p3), .val (.int p4), .val (.int vb), .unset, .unset, .unset, .unset, .unset, .unset, .unset]) rfl k) ?_
  show own_EndsW _ _ _ _ _ _ _ (s₁.setTop (mkF m 11 #[.val (.int p0), .val (.int p1), .val (.int p2), .val (.int p3), .val (.int p4), .val (.int vb), .unset, .unset, .unset, .unset, .unset, .unset, .unset] []))
  refine own_stepW (fun _ k => XS.iconst X0.here hx rfl (hb hby at_11) k) ?_
  show own_EndsW _ _ _ _ _ _ _ (s₁.setTop (mkF m 12 #[.val (.int p0), .val (.int p1), .val (.int p2), .val (.int p3), .val (.int p4), .val (.int vb), .unset, .unset, .unset, .unset, .unset, .unset, .unset] [(.int (1 : Int32))]))
  refine own_stepW (fun _ k => XS.iloadN X0.here hx rfl (hb hby at_12) rfl k) ?_
  show own_EndsW _ _ _ _ _ _ _ (s₁.setTop (mkF m 13 #[.val (.int p0), .val (.int p1), .val (.int p2), .val (.int p3), .val (.int p4), .val (.int vb), .unset, .unset, .unset, .unset, .unset, .unset, .unset] [(.int p1), (.int (1 : Int32))]))
  refine own_stepW (fun _ k => X0.ldcInt hx hown (mvT hZ (hw _ (List.mem_of_getElem? (i := 0) rfl))) (g := (mkF m 13 #[.val (.int p0), .val (.int p1), .val (.int p2), .val (.int p3), .val (.int p4), .val (.int vb), .unset, .unset, .unset, .unset, .unset, .unset, .unset] [(.int p1), (.int (1 : Int32))])) rfl (hb hby at_13) _ k) ?_
  show own_EndsW _ _ _ _ _ _ _ (s₁.setTop (mkF m 15 #[.val (.int p0), .val (.int p1), .val (.int p2), .val (.int p3), .val (.int p4), .val (.int vb), .unset, .unset, .unset, .unset, .unset, .unset, .unset] [(.int (2147483647 : Int32)), (.int p1), (.int (1 : Int32))]))
  refine own_stepW (fun _ k => XS.iand X0.here hx rfl (hb hby at_15) rfl k) ?_
  show own_EndsW _ _ _ _ _ _ _ (s₁.setTop (mkF m 16 #[.val (.int p0), .val (.int p1), .val (.int p2), .val (.int p3), .val (.int p4), .val (.int vb), .unset, .unset, .unset, .unset, .unset, .unset, .unset] [(.int (p1 &&& (2147483647 : Int32))), (.int (1 : Int32))]))
  refine own_stepW (fun _ k => XS.sipush X0.here hx rfl (hb hby at_16) k) ?_
  show own_EndsW _ _ _ _ _ _ _ (s₁.setTop (mkF m 19 #[.val (.int p0), .val (.int p1), .val (.int p2), .val (.int p3), .val (.int p4), .val (.int vb), .unset, .unset, .unset, .unset, .unset, .unset, .unset] [(.int (1000 : Int32)), (.int (p1 &&& (2147483647 : Int32))), (.int (1 : Int32))]))
  refine own_stepW (fun _ k => XS.irem X0.here hx rfl (hb hby at_19) rfl (by decide) k) ?_
  show own_EndsW _ _ _ _ _ _ _ (s₁.setTop (mkF m 20 #[.val (.int p0), .val (.int p1), .val (.int p2), .val (.int p3), .val (.int p4), .val (.int vb), .unset, .unset, .unset, .unset, .unset, .unset, .unset] [(.int ((p1 &&& (2147483647 : Int32)) - ((p1 &&& (2147483647 : Int32)) / (1000 : Int32)) * (1000 : Int32))), (.int (1 : Int32))]))
  refine own_stepW (fun _ k => XS.iadd X0.here hx rfl (hb hby at_20) rfl k) ?_
  show own_EndsW _ _ _ _ _ _ _ (s₁.setTop (mkF m 21 #[.val (.int p0), .val (.int p1), .val (.int p2), .val (.int p3), .val (.int p4), .val (.int vb), .unset, .unset, .unset, .unset, .unset, .unset, .unset] [(.int ((1 : Int32) + ((p1 &&& (2147483647 : Int32)) - ((p1 &&& (2147483647 : Int32)) / (1000 : Int32)) * (1000 : Int32))))]))
  obtain ⟨hA1, hB1⟩ := own_up p1 (1000 : Int32) 1000 rfl (by decide) (by decide)
  generalize ((1 : Int32) + ((p1 &&& (2147483647 : Int32)) - ((p1 &&& (2147483647 : Int32)) / (1000 : Int32)) * (1000 : Int32))) = vr at hA1 hB1 ⊢
  refine own_stepW (fun _ k => XS.istore X0.here hx rfl (hb hby at_21) rfl (l' := #[.val (.int p0), .val (.int p1), .val (.int p2), .val (.int p3), .val (.int p4), .val (.int vb), .val (.int vr), .unset, .unset, .unset, .unset, .unset, .unset]) rfl k) ?_
  show own_EndsW _ _ _ _ _ _ _ (s₁.setTop (mkF m 23 #[.val (.int p0), .val (.int p1), .val (.int p2), .val (.int p3), .val (.int p4), .val (.int vb), .val (.int vr), .unset, .unset, .unset, .unset, .unset, .unset] []))
  refine own_stepW (fun _ k => XS.iconst X0.here hx rfl (hb hby at_23) k) ?_
  show own_EndsW _ _ _ _ _ _ _ (s₁.setTop (mkF m 24 #[.val (.int p0), .val (.int p1), .val (.int p2), .val (.int p3), .val (.int p4), .val (.int vb), .val (.int vr), .unset, .unset, .unset, .unset, .unset, .unset] [(.int (1 : Int32))]))
  refine own_stepW (fun _ k => XS.iloadN X0.here hx rfl (hb hby at_24) rfl k) ?_
  show own_EndsW _ _ _ _ _ _ _ (s₁.setTop (mkF m 25 #[.val (.int p0), .val (.int p1), .val (.int p2), .val (.int p3), .val (.int p4), .val (.int vb), .val (.int vr), .unset, .unset, .unset, .unset, .unset, .unset] [(.int p2), (.int (1 : Int32))]))
  refine own_stepW (fun _ k => X0.ldcInt hx hown (mvT hZ (hw _ (List.mem_of_getElem? (i := 0) rfl))) (g := (mkF m 25 #[.val (.int p0), .val (.int p1), .val (.int p2), .val (.int p3), .val (.int p4), .val (.int vb), .val (.int vr), .unset, .unset, .unset, .unset, .unset, .unset] [(.int p2), (.int (1 : Int32))])) rfl (hb hby at_25) _ k) ?_
  show own_EndsW _ _ _ _ _ _ _ (s₁.setTop (mkF m 27 #[.val (.int p0), .val (.int p1), .val (.int p2), .val (.int p3), .val (.int p4), .val (.int vb), .val (.int vr), .unset, .unset, .unset, .unset, .unset, .unset] [(.int (2147483647 : Int32)), (.int p2), (.int (1 : Int32))]))
  refine own_stepW (fun _ k => XS.iand X0.here hx rfl (hb hby at_27) rfl k) ?_
  show own_EndsW _ _ _ _ _ _ _ (s₁.setTop (mkF m 28 #[.val (.int p0), .val (.int p1), .val (.int p2), .val (.int p3), .val (.int p4), .val (.int vb), .val (.int vr), .unset, .unset, .unset, .unset, .unset, .unset] [(.int (p2 &&& (2147483647 : Int32))), (.int (1 : Int32))]))
  refine own_stepW (fun _ k => X0.ldcInt hx hown (mvT hZ (hw _ (List.mem_of_getElem? (i := 2) rfl))) (g := (mkF m 28 #[.val (.int p0), .val (.int p1), .val (.int p2), .val (.int p3), .val (.int p4), .val (.int vb), .val (.int vr), .unset, .unset, .unset, .unset, .unset, .unset] [(.int (p2 &&& (2147483647 : Int32))), (.int (1 : Int32))])) rfl (hb hby at_28) _ k) ?_
  show own_EndsW _ _ _ _ _ _ _ (s₁.setTop (mkF m 30 #[.val (.int p0), .val (.int p1), .val (.int p2), .val (.int p3), .val (.int p4), .val (.int vb), .val (.int vr), .unset, .unset, .unset, .unset, .unset, .unset] [(.int (1000000 : Int32)), (.int (p2 &&& (2147483647 : Int32))), (.int (1 : Int32))]))
  refine own_stepW (fun _ k => XS.irem X0.here hx rfl (hb hby at_30) rfl (by decide) k) ?_
  show own_EndsW _ _ _ _ _ _ _ (s₁.setTop (mkF m 31 #[.val (.int p0), .val (.int p1), .val (.int p2), .val (.int p3), .val (.int p4), .val (.int vb), .val (.int vr), .unset, .unset, .unset, .unset, .unset, .unset] [(.int ((p2 &&& (2147483647 : Int32)) - ((p2 &&& (2147483647 : Int32)) / (1000000 : Int32)) * (1000000 : Int32))), (.int (1 : Int32))]))
  refine own_stepW (fun _ k => XS.iadd X0.here hx rfl (hb hby at_31) rfl k) ?_
  show own_EndsW _ _ _ _ _ _ _ (s₁.setTop (mkF m 32 #[.val (.int p0), .val (.int p1), .val (.int p2), .val (.int p3), .val (.int p4), .val (.int vb), .val (.int vr), .unset, .unset, .unset, .unset, .unset, .unset] [(.int ((1 : Int32) + ((p2 &&& (2147483647 : Int32)) - ((p2 &&& (2147483647 : Int32)) / (1000000 : Int32)) * (1000000 : Int32))))]))
  obtain ⟨hA2, hB2⟩ := own_up p2 (1000000 : Int32) 1000000 rfl (by decide) (by decide)
  generalize ((1 : Int32) + ((p2 &&& (2147483647 : Int32)) - ((p2 &&& (2147483647 : Int32)) / (1000000 : Int32)) * (1000000 : Int32))) = vu at hA2 hB2 ⊢
  refine own_stepW (fun _ k => XS.istore X0.here hx rfl (hb hby at_32) rfl (l' := #[.val (.int p0), .val (.int p1), .val (.int p2), .val (.int p3), .val (.int p4), .val (.int vb), .val (.int vr), .val (.int vu), .unset, .unset, .unset, .unset, .unset]) rfl k) ?_
  show own_EndsW _ _ _ _ _ _ _ (s₁.setTop (mkF m 34 #[.val (.int p0), .val (.int p1), .val (.int p2), .val (.int p3), .val (.int p4), .val (.int vb), .val (.int vr), .val (.int vu), .unset, .unset, .unset, .unset, .unset] []))
  refine own_stepW (fun _ k => XS.iconst X0.here hx rfl (hb hby at_34) k) ?_
  show own_EndsW _ _ _ _ _ _ _ (s₁.setTop (mkF m 35 #[.val (.int p0), .val (.int p1), .val (.int p2), .val (.int p3), .val (.int p4), .val (.int vb), .val (.int vr), .val (.int vu), .unset, .unset, .unset, .unset, .unset] [(.int (1 : Int32))]))
  refine own_stepW (fun _ k => XS.iloadN X0.here hx rfl (hb hby at_35) rfl k) ?_
  show own_EndsW _ _ _ _ _ _ _ (s₁.setTop (mkF m 36 #[.val (.int p0), .val (.int p1), .val (.int p2), .val (.int p3), .val (.int p4), .val (.int vb), .val (.int vr), .val (.int vu), .unset, .unset, .unset, .unset, .unset] [(.int p3), (.int (1 : Int32))]))
  refine own_stepW (fun _ k => X0.ldcInt hx hown (mvT hZ (hw _ (List.mem_of_getElem? (i := 0) rfl))) (g := (mkF m 36 #[.val (.int p0), .val (.int p1), .val (.int p2), .val (.int p3), .val (.int p4), .val (.int vb), .val (.int vr), .val (.int vu), .unset, .unset, .unset, .unset, .unset] [(.int p3), (.int (1 : Int32))])) rfl (hb hby at_36) _ k) ?_
  show own_EndsW _ _ _ _ _ _ _ (s₁.setTop (mkF m 38 #[.val (.int p0), .val (.int p1), .val (.int p2), .val (.int p3), .val (.int p4), .val (.int vb), .val (.int vr), .val (.int vu), .unset, .unset, .unset, .unset, .unset] [(.int (2147483647 : Int32)), (.int p3), (.int (1 : Int32))]))
  refine own_stepW (fun _ k => XS.iand X0.here hx rfl (hb hby at_38) rfl k) ?_
  show own_EndsW _ _ _ _ _ _ _ (s₁.setTop (mkF m 39 #[.val (.int p0), .val (.int p1), .val (.int p2), .val (.int p3), .val (.int p4), .val (.int vb), .val (.int vr), .val (.int vu), .unset, .unset, .unset, .unset, .unset] [(.int (p3 &&& (2147483647 : Int32))), (.int (1 : Int32))]))
  refine own_stepW (fun _ k => XS.sipush X0.here hx rfl (hb hby at_39) k) ?_
  show own_EndsW _ _ _ _ _ _ _ (s₁.setTop (mkF m 42 #[.val (.int p0), .val (.int p1), .val (.int p2), .val (.int p3), .val (.int p4), .val (.int vb), .val (.int vr), .val (.int vu), .unset, .unset, .unset, .unset, .unset] [(.int (10000 : Int32)), (.int (p3 &&& (2147483647 : Int32))), (.int (1 : Int32))]))
  refine own_stepW (fun _ k => XS.irem X0.here hx rfl (hb hby at_42) rfl (by decide) k) ?_
  show own_EndsW _ _ _ _ _ _ _ (s₁.setTop (mkF m 43 #[.val (.int p0), .val (.int p1), .val (.int p2), .val (.int p3), .val (.int p4), .val (.int vb), .val (.int vr), .val (.int vu), .unset, .unset, .unset, .unset, .unset] [(.int ((p3 &&& (2147483647 : Int32)) - ((p3 &&& (2147483647 : Int32)) / (10000 : Int32)) * (10000 : Int32))), (.int (1 : Int32))]))
  refine own_stepW (fun _ k => XS.iadd X0.here hx rfl (hb hby at_43) rfl k) ?_
  show own_EndsW _ _ _ _ _ _ _ (s₁.setTop (mkF m 44 #[.val (.int p0), .val (.int p1), .val (.int p2), .val (.int p3), .val (.int p4), .val (.int vb), .val (.int vr), .val (.int vu), .unset, .unset, .unset, .unset, .unset] [(.int ((1 : Int32) + ((p3 &&& (2147483647 : Int32)) - ((p3 &&& (2147483647 : Int32)) / (10000 : Int32)) * (10000 : Int32))))]))
  obtain ⟨hA3, hB3⟩ := own_up p3 (10000 : Int32) 10000 rfl (by decide) (by decide)
  generalize ((1 : Int32) + ((p3 &&& (2147483647 : Int32)) - ((p3 &&& (2147483647 : Int32)) / (10000 : Int32)) * (10000 : Int32))) = vt at hA3 hB3 ⊢
  refine own_stepW (fun _ k => XS.istore X0.here hx rfl (hb hby at_44) rfl (l' := #[.val (.int p0), .val (.int p1), .val (.int p2), .val (.int p3), .val (.int p4), .val (.int vb), .val (.int vr), .val (.int vu), .val (.int vt), .unset, .unset, .unset, .unset]) rfl k) ?_
  show own_EndsW _ _ _ _ _ _ _ (s₁.setTop (mkF m 46 #[.val (.int p0), .val (.int p1), .val (.int p2), .val (.int p3), .val (.int p4), .val (.int vb), .val (.int vr), .val (.int vu), .val (.int vt), .unset, .unset, .unset, .unset] []))
  refine own_stepW (fun _ k => XS.iconst X0.here hx rfl (hb hby at_46) k) ?_
  show own_EndsW _ _ _ _ _ _ _ (s₁.setTop (mkF m 47 #[.val (.int p0), .val (.int p1), .val (.int p2), .val (.int p3), .val (.int p4), .val (.int vb), .val (.int vr), .val (.int vu), .val (.int vt), .unset, .unset, .unset, .unset] [(.int (1 : Int32))]))
  refine own_stepW (fun _ k => XS.iload X0.here hx rfl (hb hby at_47) rfl k) ?_
  show own_EndsW _ _ _ _ _ _ _ (s₁.setTop (mkF m 49 #[.val (.int p0), .val (.int p1), .val (.int p2), .val (.int p3), .val (.int p4), .val (.int vb), .val (.int vr), .val (.int vu), .val (.int vt), .unset, .unset, .unset, .unset] [(.int p4), (.int (1 : Int32))]))
  refine own_stepW (fun _ k => X0.ldcInt hx hown (mvT hZ (hw _ (List.mem_of_getElem? (i := 0) rfl))) (g := (mkF m 49 #[.val (.int p0), .val (.int p1), .val (.int p2), .val (.int p3), .val (.int p4), .val (.int vb), .val (.int vr), .val (.int vu), .val (.int vt), .unset, .unset, .unset, .unset] [(.int p4), (.int (1 : Int32))])) rfl (hb hby at_49) _ k) ?_
  show own_EndsW _ _ _ _ _ _ _ (s₁.setTop (mkF m 51 #[.val (.int p0), .val (.int p1), .val (.int p2), .val (.int p3), .val (.int p4), .val (.int vb), .val (.int vr), .val (.int vu), .val (.int vt), .unset, .unset, .unset, .unset] [(.int (2147483647 : Int32)), (.int p4), (.int (1 : Int32))]))
  refine own_stepW (fun _ k => XS.iand X0.here hx rfl (hb hby at_51) rfl k) ?_
  show own_EndsW _ _ _ _ _ _ _ (s₁.setTop (mkF m 52 #[.val (.int p0), .val (.int p1), .val (.int p2), .val (.int p3), .val (.int p4), .val (.int vb), .val (.int vr), .val (.int vu), .val (.int vt), .unset, .unset, .unset, .unset] [(.int (p4 &&& (2147483647 : Int32))), (.int (1 : Int32))]))
  refine own_stepW (fun _ k => XS.sipush X0.here hx rfl (hb hby at_52) k) ?_
  show own_EndsW _ _ _ _ _ _ _ (s₁.setTop (mkF m 55 #[.val (.int p0), .val (.int p1), .val (.int p2), .val (.int p3), .val (.int p4), .val (.int vb), .val (.int vr), .val (.int vu), .val (.int vt), .unset, .unset, .unset, .unset] [(.int (1000 : Int32)), (.int (p4 &&& (2147483647 : Int32))), (.int (1 : Int32))]))
  refine own_stepW (fun _ k => XS.irem X0.here hx rfl (hb hby at_55) rfl (by decide) k) ?_
  show own_EndsW _ _ _ _ _ _ _ (s₁.setTop (mkF m 56 #[.val (.int p0), .val (.int p1), .val (.int p2), .val (.int p3), .val (.int p4), .val (.int vb), .val (.int vr), .val (.int vu), .val (.int vt), .unset, .unset, .unset, .unset] [(.int ((p4 &&& (2147483647 : Int32)) - ((p4 &&& (2147483647 : Int32)) / (1000 : Int32)) * (1000 : Int32))), (.int (1 : Int32))]))
  refine own_stepW (fun _ k => XS.iadd X0.here hx rfl (hb hby at_56) rfl k) ?_
  show own_EndsW _ _ _ _ _ _ _ (s₁.setTop (mkF m 57 #[.val (.int p0), .val (.int p1), .val (.int p2), .val (.int p3), .val (.int p4), .val (.int vb), .val (.int vr), .val (.int vu), .val (.int vt), .unset, .unset, .unset, .unset] [(.int ((1 : Int32) + ((p4 &&& (2147483647 : Int32)) - ((p4 &&& (2147483647 : Int32)) / (1000 : Int32)) * (1000 : Int32))))]))
  obtain ⟨hA4, hB4⟩ := own_up p4 (1000 : Int32) 1000 rfl (by decide) (by decide)
  generalize ((1 : Int32) + ((p4 &&& (2147483647 : Int32)) - ((p4 &&& (2147483647 : Int32)) / (1000 : Int32)) * (1000 : Int32))) = vk at hA4 hB4 ⊢
  refine own_stepW (fun _ k => XS.istore X0.here hx rfl (hb hby at_57) rfl (l' := #[.val (.int p0), .val (.int p1), .val (.int p2), .val (.int p3), .val (.int p4), .val (.int vb), .val (.int vr), .val (.int vu), .val (.int vt), .val (.int vk), .unset, .unset, .unset]) rfl k) ?_
  show own_EndsW _ _ _ _ _ _ _ (s₁.setTop (mkF m 59 #[.val (.int p0), .val (.int p1), .val (.int p2), .val (.int p3), .val (.int p4), .val (.int vb), .val (.int vr), .val (.int vu), .val (.int vt), .val (.int vk), .unset, .unset, .unset] []))
  obtain ⟨T19, h19, X19, e19, E19, A19, D19, -, st19⟩ := newO X0 hx hZ hown (hw _ (List.mem_of_getElem? (i := 3) rfl)) (hw _ (List.mem_of_getElem? (i := 4) rfl)) (hw _ (List.mem_of_getElem? (i := 5) rfl)) e0 (g := (mkF m 59 #[.val (.int p0), .val (.int p1), .val (.int p2), .val (.int p3), .val (.int p4), .val (.int vb), .val (.int vr), .val (.int vu), .val (.int vt), .val (.int vk), .unset, .unset, .unset] [])) rfl (hb hby at_59) (by decide) (by decide)
  obtain ⟨b19, g19⟩ : ∃ z, z = h0.size := ⟨_, rfl⟩
  rw [← g19] at A19 D19 st19
  have gn19 : n0 ≤ b19 := Nat.le_trans Z0 (Nat.le_of_eq g19.symm)
  have Z19 := Nat.le_trans Z0 E19.1
  have F19_b19_buyers : Fld Z h19 b19 "com/example/stockade/stockade/model/BurstPlan" "buyers" "I" (.int (0 : Int32)) := D19 (Or.inr (hw _ (List.mem_of_getElem? (i := 38) rfl))) (ty := .int) (by decide)
  have F19_b19_repeat : Fld Z h19 b19 "com/example/stockade/stockade/model/BurstPlan" "repeat" "I" (.int (0 : Int32)) := D19 (Or.inr (hw _ (List.mem_of_getElem? (i := 40) rfl))) (ty := .int) (by decide)
  have F19_b19_units : Fld Z h19 b19 "com/example/stockade/stockade/model/BurstPlan" "units" "I" (.int (0 : Int32)) := D19 (Or.inr (hw _ (List.mem_of_getElem? (i := 42) rfl))) (ty := .int) (by decide)
  have F19_b19_threads : Fld Z h19 b19 "com/example/stockade/stockade/model/BurstPlan" "threads" "I" (.int (0 : Int32)) := D19 (Or.inr (hw _ (List.mem_of_getElem? (i := 44) rfl))) (ty := .int) (by decide)
  have F19_b19_connections : Fld Z h19 b19 "com/example/stockade/stockade/model/BurstPlan" "connections" "I" (.int (0 : Int32)) := D19 (Or.inr (hw _ (List.mem_of_getElem? (i := 46) rfl))) (ty := .int) (by decide)
  refine own_stepW (fun _ k => st19 _ k) ?_
  show own_EndsW _ _ _ _ _ _ _ (T19.setTop (mkF m 62 #[.val (.int p0), .val (.int p1), .val (.int p2), .val (.int p3), .val (.int p4), .val (.int vb), .val (.int vr), .val (.int vu), .val (.int vt), .val (.int vk), .unset, .unset, .unset] [(.ref b19)]))
  refine own_stepW (fun _ k => XS.dup X19.here hx rfl (hb hby at_62) rfl rfl k) ?_
  show own_EndsW _ _ _ _ _ _ _ (T19.setTop (mkF m 63 #[.val (.int p0), .val (.int p1), .val (.int p2), .val (.int p3), .val (.int p4), .val (.int vb), .val (.int vr), .val (.int vu), .val (.int vt), .val (.int vk), .unset, .unset, .unset] [(.ref b19), (.ref b19)]))
  refine own_stepW (fun _ k => XS.iload X19.here hx rfl (hb hby at_63) rfl k) ?_
  show own_EndsW _ _ _ _ _ _ _ (T19.setTop (mkF m 65 #[.val (.int p0), .val (.int p1), .val (.int p2), .val (.int p3), .val (.int p4), .val (.int vb), .val (.int vr), .val (.int vu), .val (.int vt), .val (.int vk), .unset, .unset, .unset] [(.int vb), (.ref b19), (.ref b19)]))
  refine own_stepW (fun _ k => XS.iload X19.here hx rfl (hb hby at_65) rfl k) ?_
  show own_EndsW _ _ _ _ _ _ _ (T19.setTop (mkF m 67 #[.val (.int p0), .val (.int p1), .val (.int p2), .val (.int p3), .val (.int p4), .val (.int vb), .val (.int vr), .val (.int vu), .val (.int vt), .val (.int vk), .unset, .unset, .unset] [(.int vr), (.int vb), (.ref b19), (.ref b19)]))
  refine own_stepW (fun _ k => XS.iload X19.here hx rfl (hb hby at_67) rfl k) ?_
  show own_EndsW _ _ _ _ _ _ _ (T19.setTop (mkF m 69 #[.val (.int p0), .val (.int p1), .val (.int p2), .val (.int p3), .val (.int p4), .val (.int vb), .val (.int vr), .val (.int vu), .val (.int vt), .val (.int vk), .unset, .unset, .unset] [(.int vu), (.int vr), (.int vb), (.ref b19), (.ref b19)]))
  refine own_stepW (fun _ k => XS.iload X19.here hx rfl (hb hby at_69) rfl k) ?_
  show own_EndsW _ _ _ _ _ _ _ (T19.setTop (mkF m 71 #[.val (.int p0), .val (.int p1), .val (.int p2), .val (.int p3), .val (.int p4), .val (.int vb), .val (.int vr), .val (.int vu), .val (.int vt), .val (.int vk), .unset, .unset, .unset] [(.int vt), (.int vu), (.int vr), (.int vb), (.ref b19), (.ref b19)]))
  refine own_stepW (fun _ k => XS.iload X19.here hx rfl (hb hby at_71) rfl k) ?_
  show own_EndsW _ _ _ _ _ _ _ (T19.setTop (mkF m 73 #[.val (.int p0), .val (.int p1), .val (.int p2), .val (.int p3), .val (.int p4), .val (.int vb), .val (.int vr), .val (.int vu), .val (.int vt), .val (.int vk), .unset, .unset, .unset] [(.int vk), (.int vt), (.int vu), (.int vr), (.int vb), (.ref b19), (.ref b19)]))
  obtain ⟨_, _, ⟨T20, L20, k20, n20⟩, -, X20, hS20, hg20, ⟨Lc20, hQ20, l20, y20, z20⟩, st20⟩ := X19.specialBackS hx (y := (⟨"com/example/stockade/stockade/model/BurstPlan", "<init>", "(IIIII)V"⟩ : MethodName)) rfl hown (mvT hZ (hw _ (List.mem_of_getElem? (i := 6) rfl))) (mvT hZ (hw _ (List.mem_of_getElem? (i := 7) rfl))) (mvT hZ (hw _ (List.mem_of_getElem? (i := 8) rfl))) (by decide) (own_backS (W := 1) (own_rm5 l Z a0 hw [] b19 vb vr vu vt vk h19 n0 Z19 F19_b19_buyers F19_b19_repeat F19_b19_units F19_b19_threads F19_b19_connections A19 gn19 hA0 hB0 hA1 hB1 hA2 hB2 hA3 hB3 hA4 hB4) hZ (hw _ (List.mem_of_getElem? (i := 8) rfl)) (hw _ (List.mem_of_getElem? (i := 5) rfl)) (by decide) (by decide)) (g := (mkF m 73 #[.val (.int p0), .val (.int p1), .val (.int p2), .val (.int p3), .val (.int p4), .val (.int vb), .val (.int vr), .val (.int vu), .val (.int vt), .val (.int vk), .unset, .unset, .unset] [(.int vk), (.int vt), (.int vu), (.int vr), (.int vb), (.ref b19), (.ref b19)])) rfl (by rw [hml]; rfl) (Steps.refl _) (a := b19) (argsL := [(.int vb), (.int vr), (.int vu), (.int vt), (.int vk)]) (rest := [(.ref b19)]) (lenOf own_pd3 rfl) rfl (by show 2 * 0 + _ ≤ _; exact Nat.le_of_eq rfl) (hb hby at_73) (fun _ _ => ⟨rfl, e19, (by decide : 1 + 8 ≤ _), (by decide : 5 + 136 ≤ _)⟩)
  dsimp only [Pt.U, Pt.locs, Pt.cells, Pt.slots] at X20 hS20 hg20 l20 y20 z20 st20 hQ20
  subst l20 y20 z20
  obtain ⟨rfl, Nq20, K20, AA20, G0_20, G1_20⟩ := hQ20
  have N20 := Fr.app N0 Nq20
  have hZ20 : Z.Warmed39 (s.setVm T20.vm).vm := State.Warmed39.trans hZ hS20.1
  have hown20 : (s.setVm T20.vm).vm.findClass "com/example/stockade/stockade/model/BurstPlanClaimsPinLaw" = some m.cls := by show T20.vm.findClass _ = _; rw [hS20.1.alike.findClass]; exact hown
  refine own_stepW (fun _ k => st20.trans k) ?_
  show own_EndsW _ _ _ _ _ _ _ (T20.setTop (mkF m 76 #[.val (.int p0), .val (.int p1), .val (.int p2), .val (.int p3), .val (.int p4), .val (.int vb), .val (.int vr), .val (.int vu), .val (.int vt), .val (.int vk), .unset, .unset, .unset] [(.ref b19)]))
  have Z20 := Nat.le_trans Z19 K20.1
  have kS20 := Nat.le_refl T20.heap.size
  refine own_stepW (fun _ k => XS.astore X20.here hx rfl (hb hby at_76) rfl rfl (l' := #[.val (.int p0), .val (.int p1), .val (.int p2), .val (.int p3), .val (.int p4), .val (.int vb), .val (.int vr), .val (.int vu), .val (.int vt), .val (.int vk), .val (.ref b19), .unset, .unset]) rfl k) ?_
  show own_EndsW _ _ _ _ _ _ _ (T20.setTop (mkF m 78 #[.val (.int p0), .val (.int p1), .val (.int p2), .val (.int p3), .val (.int p4), .val (.int vb), .val (.int vr), .val (.int vu), .val (.int vt), .val (.int vk), .val (.ref b19), .unset, .unset] []))
  refine own_stepW (fun _ k => XS.aload X20.here hx rfl (hb hby at_78) rfl rfl k) ?_
  show own_EndsW _ _ _ _ _ _ _ (T20.setTop (mkF m 80 #[.val (.int p0), .val (.int p1), .val (.int p2), .val (.int p3), .val (.int p4), .val (.int vb), .val (.int vr), .val (.int vu), .val (.int vt), .val (.int vk), .val (.ref b19), .unset, .unset] [(.ref b19)]))
  obtain ⟨cq21, kq21, qa21, qb21, qc21⟩ := isOf hZ20 rfl AA20
  obtain ⟨_, _, ⟨T21, L21, k21, n21⟩, -, X21, ⟨Lc21, hQ21, l21, y21, z21⟩, st21⟩ := X20.virtualBack hx (y := (⟨"com/example/stockade/stockade/model/BurstPlan", "claims", "()J"⟩ : MethodName)) (z := (⟨"com/example/stockade/stockade/model/BurstPlan", "claims", "()J"⟩ : MethodName)) hown20 (mvT hZ20 (hw _ (List.mem_of_getElem? (i := 47) rfl))) (mvT hZ20 (hw _ (List.mem_of_getElem? (i := 48) rfl))) (notFace_of_selects (args := #[]) (mvT hZ20 (hw _ (List.mem_of_getElem? (i := 50) rfl)))) (mvT hZ20 (hw _ (List.mem_of_getElem? (i := 50) rfl))) (mvT hZ20 (hw _ (List.mem_of_getElem? (i := 49) rfl))) (by decide) (backOf (W := 0) (own_rm4 l Z a0 hw [] b19 vb vr T20.heap n0 Z20 G0_20 G1_20) hZ20 (hw _ (List.mem_of_getElem? (i := 51) rfl)) (hw _ (List.mem_of_getElem? (i := 5) rfl)) (by decide) (by decide)) qa21 qc21 (g := (mkF m 80 #[.val (.int p0), .val (.int p1), .val (.int p2), .val (.int p3), .val (.int p4), .val (.int vb), .val (.int vr), .val (.int vu), .val (.int vt), .val (.int vk), .val (.ref b19), .unset, .unset] [(.ref b19)])) rfl (by rw [hml]; rfl) (Steps.refl _) (argsL := []) (rest := []) (lenOf own_pd4 rfl) rfl (by show 2 * 0 + _ ≤ _; exact Nat.le_of_eq rfl) (hb hby at_80) (fun _ _ => ⟨rfl, rfl, (by decide : 9 + 0 ≤ _), (by decide : 141 + 0 ≤ _)⟩)
  dsimp only [Pt.U, Pt.locs, Pt.cells, Pt.slots] at X21 l21 y21 z21 st21 hQ21
  subst l21 y21 z21
  obtain ⟨rfl, Nq21, e21⟩ := hQ21
  have N21 := Fr.app N20 Nq21
  refine own_stepW (fun _ k => st21.trans k) ?_
  show own_EndsW _ _ _ _ _ _ _ (T21.setTop (mkF m 83 #[.val (.int p0), .val (.int p1), .val (.int p2), .val (.int p3), .val (.int p4), .val (.int vb), .val (.int vr), .val (.int vu), .val (.int vt), .val (.int vk), .val (.ref b19), .unset, .unset] [(.long (vb.toInt64 * vr.toInt64))]))
  obtain ⟨m0, m1, m2⟩ := own_mulI hA0 hB0 hA1 hB1
  refine own_stepW (fun _ k => XS.lstore X21.here hx rfl (hb hby at_83) rfl (l' := #[.val (.int p0), .val (.int p1), .val (.int p2), .val (.int p3), .val (.int p4), .val (.int vb), .val (.int vr), .val (.int vu), .val (.int vt), .val (.int vk), .val (.ref b19), .val (.long (vb.toInt64 * vr.toInt64)), .second]) rfl k) ?_
  show own_EndsW _ _ _ _ _ _ _ (T21.setTop (mkF m 85 #[.val (.int p0), .val (.int p1), .val (.int p2), .val (.int p3), .val (.int p4), .val (.int vb), .val (.int vr), .val (.int vu), .val (.int vt), .val (.int vk), .val (.ref b19), .val (.long (vb.toInt64 * vr.toInt64)), .second] []))
  refine own_stepW (fun _ k => XS.lload X21.here hx rfl (hb hby at_85) rfl k) ?_
  show own_EndsW _ _ _ _ _ _ _ (T21.setTop (mkF m 87 #[.val (.int p0), .val (.int p1), .val (.int p2), .val (.int p3), .val (.int p4), .val (.int vb), .val (.int vr), .val (.int vu), .val (.int vt), .val (.int vk), .val (.ref b19), .val (.long (vb.toInt64 * vr.toInt64)), .second] [(.long (vb.toInt64 * vr.toInt64))]))
  refine own_stepW (fun _ k => XS.iload X21.here hx rfl (hb hby at_87) rfl k) ?_
  show own_EndsW _ _ _ _ _ _ _ (T21.setTop (mkF m 89 #[.val (.int p0), .val (.int p1), .val (.int p2), .val (.int p3), .val (.int p4), .val (.int vb), .val (.int vr), .val (.int vu), .val (.int vt), .val (.int vk), .val (.ref b19), .val (.long (vb.toInt64 * vr.toInt64)), .second] [(.int vr), (.long (vb.toInt64 * vr.toInt64))]))
  refine own_stepW (fun _ k => XS.i2l X21.here hx rfl (hb hby at_89) rfl k) ?_
  show own_EndsW _ _ _ _ _ _ _ (T21.setTop (mkF m 90 #[.val (.int p0), .val (.int p1), .val (.int p2), .val (.int p3), .val (.int p4), .val (.int vb), .val (.int vr), .val (.int vu), .val (.int vt), .val (.int vk), .val (.ref b19), .val (.long (vb.toInt64 * vr.toInt64)), .second] [(.long ((vr).toInt64)), (.long (vb.toInt64 * vr.toInt64))]))
  refine own_stepW (fun _ k => XS.lrem X21.here hx rfl (hb hby at_90) rfl m0 k) ?_
  show own_EndsW _ _ _ _ _ _ _ (T21.setTop (mkF m 91 #[.val (.int p0), .val (.int p1), .val (.int p2), .val (.int p3), .val (.int p4), .val (.int vb), .val (.int vr), .val (.int vu), .val (.int vt), .val (.int vk), .val (.ref b19), .val (.long (vb.toInt64 * vr.toInt64)), .second] [(.long ((vb.toInt64 * vr.toInt64) - ((vb.toInt64 * vr.toInt64) / ((vr).toInt64)) * ((vr).toInt64)))]))
  refine own_stepW (fun _ k => XS.lconst X21.here hx rfl (hb hby at_91) k) ?_
  show own_EndsW _ _ _ _ _ _ _ (T21.setTop (mkF m 92 #[.val (.int p0), .val (.int p1), .val (.int p2), .val (.int p3), .val (.int p4), .val (.int vb), .val (.int vr), .val (.int vu), .val (.int vt), .val (.int vk), .val (.ref b19), .val (.long (vb.toInt64 * vr.toInt64)), .second] [(.long (0 : Int64)), (.long ((vb.toInt64 * vr.toInt64) - ((vb.toInt64 * vr.toInt64) / ((vr).toInt64)) * ((vr).toInt64)))]))
  refine own_stepW (fun _ k => XS.lcmp X21.here hx rfl (hb hby at_92) rfl k) ?_
  show own_EndsW _ _ _ _ _ _ _ (T21.setTop (mkF m 93 #[.val (.int p0), .val (.int p1), .val (.int p2), .val (.int p3), .val (.int p4), .val (.int vb), .val (.int vr), .val (.int vu), .val (.int vt), .val (.int vk), .val (.ref b19), .val (.long (vb.toInt64 * vr.toInt64)), .second] [(.int (lcmpW ((vb.toInt64 * vr.toInt64) - ((vb.toInt64 * vr.toInt64) / ((vr).toInt64)) * ((vr).toInt64)) (0 : Int64)))]))
  refine own_stepW (fun _ k => XS.ifNo X21.here hx rfl (hb hby at_93) rfl ((if0 _ _).trans (teq ((lw_eq _ _).mpr m1)).2) k) ?_
  show own_EndsW _ _ _ _ _ _ _ (T21.setTop (mkF m 96 #[.val (.int p0), .val (.int p1), .val (.int p2), .val (.int p3), .val (.int p4), .val (.int vb), .val (.int vr), .val (.int vu), .val (.int vt), .val (.int vk), .val (.ref b19), .val (.long (vb.toInt64 * vr.toInt64)), .second] []))
  refine own_stepW (fun _ k => XS.lload X21.here hx rfl (hb hby at_96) rfl k) ?_
  show own_EndsW _ _ _ _ _ _ _ (T21.setTop (mkF m 98 #[.val (.int p0), .val (.int p1), .val (.int p2), .val (.int p3), .val (.int p4), .val (.int vb), .val (.int vr), .val (.int vu), .val (.int vt), .val (.int vk), .val (.ref b19), .val (.long (vb.toInt64 * vr.toInt64)), .second] [(.long (vb.toInt64 * vr.toInt64))]))
  refine own_stepW (fun _ k => XS.iload X21.here hx rfl (hb hby at_98) rfl k) ?_
  show own_EndsW _ _ _ _ _ _ _ (T21.setTop (mkF m 100 #[.val (.int p0), .val (.int p1), .val (.int p2), .val (.int p3), .val (.int p4), .val (.int vb), .val (.int vr), .val (.int vu), .val (.int vt), .val (.int vk), .val (.ref b19), .val (.long (vb.toInt64 * vr.toInt64)), .second] [(.int vr), (.long (vb.toInt64 * vr.toInt64))]))
  refine own_stepW (fun _ k => XS.i2l X21.here hx rfl (hb hby at_100) rfl k) ?_
  show own_EndsW _ _ _ _ _ _ _ (T21.setTop (mkF m 101 #[.val (.int p0), .val (.int p1), .val (.int p2), .val (.int p3), .val (.int p4), .val (.int vb), .val (.int vr), .val (.int vu), .val (.int vt), .val (.int vk), .val (.ref b19), .val (.long (vb.toInt64 * vr.toInt64)), .second] [(.long ((vr).toInt64)), (.long (vb.toInt64 * vr.toInt64))]))
  refine own_stepW (fun _ k => XS.ldiv X21.here hx rfl (hb hby at_101) rfl m0 k) ?_
  show own_EndsW _ _ _ _ _ _ _ (T21.setTop (mkF m 102 #[.val (.int p0), .val (.int p1), .val (.int p2), .val (.int p3), .val (.int p4), .val (.int vb), .val (.int vr), .val (.int vu), .val (.int vt), .val (.int vk), .val (.ref b19), .val (.long (vb.toInt64 * vr.toInt64)), .second] [(.long ((vb.toInt64 * vr.toInt64) / ((vr).toInt64)))]))
  refine own_stepW (fun _ k => XS.iload X21.here hx rfl (hb hby at_102) rfl k) ?_
  show own_EndsW _ _ _ _ _ _ _ (T21.setTop (mkF m 104 #[.val (.int p0), .val (.int p1), .val (.int p2), .val (.int p3), .val (.int p4), .val (.int vb), .val (.int vr), .val (.int vu), .val (.int vt), .val (.int vk), .val (.ref b19), .val (.long (vb.toInt64 * vr.toInt64)), .second] [(.int vb), (.long ((vb.toInt64 * vr.toInt64) / ((vr).toInt64)))]))
  refine own_stepW (fun _ k => XS.i2l X21.here hx rfl (hb hby at_104) rfl k) ?_
  show own_EndsW _ _ _ _ _ _ _ (T21.setTop (mkF m 105 #[.val (.int p0), .val (.int p1), .val (.int p2), .val (.int p3), .val (.int p4), .val (.int vb), .val (.int vr), .val (.int vu), .val (.int vt), .val (.int vk), .val (.ref b19), .val (.long (vb.toInt64 * vr.toInt64)), .second] [(.long ((vb).toInt64)), (.long ((vb.toInt64 * vr.toInt64) / ((vr).toInt64)))]))
  refine own_stepW (fun _ k => XS.lcmp X21.here hx rfl (hb hby at_105) rfl k) ?_
  show own_EndsW _ _ _ _ _ _ _ (T21.setTop (mkF m 106 #[.val (.int p0), .val (.int p1), .val (.int p2), .val (.int p3), .val (.int p4), .val (.int vb), .val (.int vr), .val (.int vu), .val (.int vt), .val (.int vk), .val (.ref b19), .val (.long (vb.toInt64 * vr.toInt64)), .second] [(.int (lcmpW ((vb.toInt64 * vr.toInt64) / ((vr).toInt64)) ((vb).toInt64)))]))
  refine own_stepW (fun _ k => XS.ifNo X21.here hx rfl (hb hby at_106) rfl ((if0 _ _).trans (teq ((lw_eq _ _).mpr m2)).2) k) ?_
  show own_EndsW _ _ _ _ _ _ _ (T21.setTop (mkF m 109 #[.val (.int p0), .val (.int p1), .val (.int p2), .val (.int p3), .val (.int p4), .val (.int vb), .val (.int vr), .val (.int vu), .val (.int vt), .val (.int vk), .val (.ref b19), .val (.long (vb.toInt64 * vr.toInt64)), .second] []))
  refine own_stepW (fun _ k => XS.iconst X21.here hx rfl (hb hby at_109) k) ?_
  show own_EndsW _ _ _ _ _ _ _ (T21.setTop (mkF m 110 #[.val (.int p0), .val (.int p1), .val (.int p2), .val (.int p3), .val (.int p4), .val (.int vb), .val (.int vr), .val (.int vu), .val (.int vt), .val (.int vk), .val (.ref b19), .val (.long (vb.toInt64 * vr.toInt64)), .second] [(.int (1 : Int32))]))
  refine own_stepW (fun _ k => XS.goto X21.here hx rfl (pc0 := 110) (pc' := 114) rfl (hb hby at_110) (by decide) (by decide) k) ?_
  show own_EndsW _ _ _ _ _ _ _ (T21.setTop (mkF m 114 #[.val (.int p0), .val (.int p1), .val (.int p2), .val (.int p3), .val (.int p4), .val (.int vb), .val (.int vr), .val (.int vu), .val (.int vt), .val (.int vk), .val (.ref b19), .val (.long (vb.toInt64 * vr.toInt64)), .second] [(.int (1 : Int32))]))
  refine own_retW X21 hS20 (by rw [e21]; exact kS20) (BodyLoose.notSynchronized Bd) (v := (some (.int (1 : Int32)))) (fun h => by rw [Bd.returns] at h; cases h) ?_ (by decide) (by decide) (fun fs hr => X21.ireturnOut hx Bd.returns rfl (by simp) (hb hby at_114) hr)
  show own_Q0 Z p0 p1 p2 p3 p4  h0 n0 (some (.int (1 : Int32))) T21.heap _
  rw [e21]
  exact ⟨rfl, N21⟩
set_option maxRecDepth 65536 in
set_option maxHeartbeats 40000000 in
theorem comes_1 {Post : Tables → Env → Array Value → State → Outcome → State → Prop} (hpost : ∀ tb e args s v u, (limb_1_1.after args s (.returned v) u = true ∧ limb_1_2.after args s (.returned v) u = true ∧ True) → ReturnedEndW s (.returned v) u (Jvm.fieldLocs frame_1_writes args s ++ Jvm.arrayLocs frame_1_arrays args s ++ Jvm.staticLocs frame_1_statics s) 24 4224 → Post tb e args s (.returned v) u) :
    ArmFor flags0 classFile x code maxLocals ret World_1 tables_1 room_1 Calls_1 rest_1 Pre_1 Post := by
  intro l hfl _ _ p e ha hc hk s m args below hf hA hF happ hP
  obtain ⟨hcalls, hrest, hpre⟩ := hP
  obtain ⟨-, -, -, hnamed, -, -, -, hat⟩ := (Spec.applies_iff hf).mp happ
  obtain ⟨hg, hn⟩ := and_e (Cond.before_iff.mp (show (Jvm.Cond.and given_1 narrow_1).before args s = true from hpre))
  obtain ⟨g0, hg⟩ := and_e hg
  obtain ⟨ga0, hg⟩ := and_e hg
  obtain ⟨ga1, hg⟩ := and_e hg
  obtain ⟨ga2, hg⟩ := and_e hg
  obtain ⟨ga3, hg⟩ := and_e hg
  obtain ⟨w0, w1, w2, w3, w4, rfl⟩ : ∃ w0 w1 w2 w3 w4 : Value, args = #[w0, w1, w2, w3, w4] := by
    have hs : args.size = 5 := by simpa [Cond.value, given_1] using g0
    obtain ⟨L⟩ := args
    match L, hs with
    | [w0, w1, w2, w3, w4], _ => exact ⟨w0, w1, w2, w3, w4, rfl⟩
  have hw := fun d (hd : d ∈ tables_1) => atoms_spec (ws := Jvm.Cond.code x code maxLocals ret :: tables_1) hat d (List.mem_cons_of_mem _ hd)
  obtain ⟨i0, ei0⟩ := is_v ga0
  obtain rfl : w0 = (.int i0) := Option.some.inj ei0
  obtain ⟨i1, ei1⟩ := is_v ga1
  obtain rfl : w1 = (.int i1) := Option.some.inj ei1
  obtain ⟨i2, ei2⟩ := is_v ga2
  obtain rfl : w2 = (.int i2) := Option.some.inj ei2
  obtain ⟨i3, ei3⟩ := is_v ga3
  obtain rfl : w3 = (.int i3) := Option.some.inj ei3
  obtain ⟨i4, ei4⟩ := is_v hg
  obtain rfl : w4 = (.int i4) := Option.some.inj ei4
  obtain ⟨n, o, h1, h2, h3, _, L, rfl, ⟨rfl, N⟩, hq⟩ := own_rm0 l s _ hw tables_1 i0 i1 i2 i3 i4 s.heap s.heap.size (Nat.le_refl _)  p e ha hc hk s m _ below hf ((Spec.applies_iff_loose hf).mp happ).1 ⟨rfl, State.Warmed39.refl s, rfl⟩ trivial
  refine ⟨n, _, h1, h2, h3, hpost _ _ _ _ _ _ ⟨Cond.after_iff.mpr rfl, Cond.after_iff.mpr (eq_i res_at (Term.int_eval (1)) rfl), trivial⟩ ⟨hq.1, hq.2.1, hq.2.2.1, (hq.2.2.2.sift fun y hy => Or.inr (N y hy)).mono (by decide) (by decide)⟩⟩
theorem main_1_1 : Claimed_1_1 := comes_1 fun _ _ _ _ _ _ h hF => ⟨h.1, hF⟩
theorem main_1_2 : Claimed_1_2 := comes_1 fun _ _ _ _ _ _ h hF => ⟨h.2.1, hF⟩
end Jvm.Pilot.@@N@@
namespace Jvm.Pilot.@@N@@
open Jvm Jvm.ClassFile Sem Op Lib Jvm.Free Jvm.Stand Jvm.Pilot.@@N@@.Jvm.D
/-! MADE BY PROGRAM (witnessworld.py) out of the Statement's table words and the real class files: 17 classes; the members and pool entries that the words name. The judged class is class 1, her method 1. -/
namespace start1
open Jvm.ClassFile
def u (s : String) : CpInfo := .utf8 (stringToUtf16 s)
/-- a pool by its gaps: so many unusable entries, then the entry; so many at the end -/
def gap : Nat → List CpInfo → List CpInfo
  | 0, r => r
  | n + 1, r => .unusable :: gap n r
def poolList (es : List (Nat × CpInfo)) (last : Nat) : List CpInfo := es.foldr (fun e r => gap e.1 (e.2 :: r)) (gap last [])
def pool (es : List (Nat × CpInfo)) (last : Nat) : Array CpInfo := ⟨poolList es last⟩
def fileOf (pool : Array CpInfo) (this : Nat) (attrs : Array Attribute := #[]) (ms : Array MethodInfo := #[]) (fl : Nat := 33) (sup : Nat := 0) (ifs : Array Nat := #[]) (fds : Array FieldInfo := #[]) : ClassFile where
  minorVersion := 0
  majorVersion := 65
  constantPool := pool
  accessFlags := fl
  thisClass := this
  superClass := sup
  interfaces := ifs
  fields := fds
  methods := ms
  attributes := attrs
def plain (name : String) (sup : Option ClassId) : Class where
  name := name
  kind := .ordinary
  loader := none
  accessFlags := 33
  super := sup
  interfaces := #[]
  cf := none
  fields := #[]
  methods := #[]
  instanceTypes := #[]
  staticTypes := #[]
  resolved := #[]
  callSites := []
  init := .initialized
  statics := none
  mirror := none

def pool0 : Array CpInfo := pool [(5, u "<init>"), (0, u "()V"), (1, .class_ 10), (1, u "java/lang/Object")] 113

def k0c0 : Code := { maxStack := 0, maxLocals := 1, code := object_method_1_code, exceptionTable := #[], attributes := #[] }
def k0m0 : Method := { name := "<init>", desc := "()V", sig := { parameters := [], returnType := none }, accessFlags := 1, code := some k0c0 }
/-- java/lang/Object -/
def k0 : Class := { plain "java/lang/Object" none with
  accessFlags := 33
  interfaces := #[]
  cf := some (fileOf pool0 8 #[] #[{ accessFlags := 1, nameIndex := 5, descriptorIndex := 6, attributes := #[] }] 33 0 #[] #[])
  fields := #[]
  methods := #[k0m0]
  instanceTypes := #[]
  staticTypes := #[]
  resolved := Array.replicate 124 none
  statics := none }

def pool1 : Array CpInfo := pool [(2, .class_ 4), (1, u "java/lang/Object"), (0, u "<init>"), (0, u "()V"), (0, .integer 2147483647), (0, .class_ 9), (0, u "com/example/stockade/stockade/model/BurstPlan"), (0, .integer 10000000), (0, .integer 1000000), (0, .methodref 8 13), (0, .nameAndType 5 14), (0, u "(IIIII)V"), (0, .methodref 8 16), (0, .nameAndType 17 18), (0, u "claims"), (0, u "()J"), (0, .class_ 20), (0, u "com/example/stockade/stockade/model/BurstPlanClaimsPinLaw"), (2, u "law"), (0, u "(IIIII)Z")] 3

def k1m0 : Method := { name := "<init>", desc := "()V", sig := { parameters := [], returnType := none }, accessFlags := 2, code := none }
def k1c1 : Code := { maxStack := 7, maxLocals := 13, code := code, exceptionTable := #[], attributes := #[] }
def k1m1 : Method := { name := "law", desc := "(IIIII)Z", sig := { parameters := [.int, .int, .int, .int, .int], returnType := some .boolean }, accessFlags := 9, code := some k1c1 }
/-- com/example/stockade/stockade/model/BurstPlanClaimsPinLaw -/
def k1 : Class := { plain "com/example/stockade/stockade/model/BurstPlanClaimsPinLaw" (some 0) with
  accessFlags := 49
  interfaces := #[]
  cf := some (fileOf pool1 19 #[] #[{ accessFlags := 2, nameIndex := 5, descriptorIndex := 6, attributes := #[] }, { accessFlags := 9, nameIndex := 23, descriptorIndex := 24, attributes := #[] }] 49 2 #[] #[])
  fields := #[]
  methods := #[k1m0, k1m1]
  instanceTypes := #[]
  staticTypes := #[]
  resolved := Array.replicate 28 none
  statics := none }

def pool2 : Array CpInfo := pool [(1, .methodref 2 3), (0, .class_ 4), (0, .nameAndType 5 6), (0, u "java/lang/Object"), (0, u "<init>"), (0, u "()V"), (0, .class_ 8), (0, u "java/lang/Record")] 13

def k2c0 : Code := { maxStack := 1, maxLocals := 1, code := jdk_30_method_1_code, exceptionTable := #[], attributes := #[] }
def k2m0 : Method := { name := "<init>", desc := "()V", sig := { parameters := [], returnType := none }, accessFlags := 4, code := some k2c0 }
/-- java/lang/Record -/
def k2 : Class := { plain "java/lang/Record" (some 0) with
  accessFlags := 1057
  interfaces := #[]
  cf := some (fileOf pool2 7 #[] #[{ accessFlags := 4, nameIndex := 5, descriptorIndex := 6, attributes := #[] }] 1057 2 #[] #[])
  fields := #[]
  methods := #[k2m0]
  instanceTypes := #[]
  staticTypes := #[]
  resolved := Array.replicate 22 none
  statics := none }

def pool3 : Array CpInfo := pool [(1, .methodref 2 3), (0, .class_ 4), (0, .nameAndType 5 6), (0, u "java/lang/Record"), (0, u "<init>"), (0, u "()V"), (0, .string 8), (0, u "buyers"), (0, .class_ 10), (0, u "com/example/stockade/stockade/model/BurstPlan"), (0, .integer 10000000), (0, .methodref 9 13), (0, .nameAndType 14 15), (0, u "check"), (0, u "(Ljava/lang/String;II)V"), (0, .string 17), (0, u "repeat"), (0, .methodref 19 20), (0, .class_ 21), (0, .nameAndType 22 23), (0, u "com/example/stockade/stockade/model/Claim"), (0, u "checkUnits"), (0, u "(J)J"), (0, .string 25), (0, u "threads"), (0, .string 27), (0, u "connections"), (0, .fieldref 9 29), (0, .nameAndType 8 30), (0, u "I"), (0, .fieldref 9 32), (0, .nameAndType 17 30), (0, .fieldref 9 34), (0, .nameAndType 35 30), (0, u "units"), (0, .fieldref 9 37), (0, .nameAndType 25 30), (0, .fieldref 9 39), (0, .nameAndType 27 30), (2, u "claims"), (0, u "()J"), (33, u "MAX_BUYERS"), (1, u "MAX_REPEAT"), (1, u "MAX_THREADS"), (1, u "MAX_CONNECTIONS"), (0, u "DEFAULT_REPEAT"), (1, u "DEFAULT_THREADS"), (1, u "DEFAULT_CONNECTIONS"), (1, u "BUYER_PREFIX"), (0, u "Ljava/lang/String;"), (2, u "(IIIII)V")] 43

def k3c0 : Code := { maxStack := 3, maxLocals := 6, code := prog_13_method_1_code, exceptionTable := #[], attributes := #[] }
def k3m0 : Method := { name := "<init>", desc := "(IIIII)V", sig := { parameters := [.int, .int, .int, .int, .int], returnType := none }, accessFlags := 1, code := some k3c0 }
def k3c1 : Code := { maxStack := 4, maxLocals := 1, code := prog_13_method_2_code, exceptionTable := #[], attributes := #[] }
def k3m1 : Method := { name := "claims", desc := "()J", sig := { parameters := [], returnType := some .long }, accessFlags := 1, code := some k3c1 }
def k3c2 : Code := { maxStack := 4, maxLocals := 3, code := prog_13_method_4_code, exceptionTable := #[], attributes := #[] }
def k3m2 : Method := { name := "check", desc := "(Ljava/lang/String;II)V", sig := { parameters := [(.object "java/lang/String"), .int, .int], returnType := none }, accessFlags := 10, code := some k3c2 }
/-- com/example/stockade/stockade/model/BurstPlan -/
def k3 : Class := { plain "com/example/stockade/stockade/model/BurstPlan" (some 2) with
  accessFlags := 49
  interfaces := #[]
  cf := some (fileOf pool3 9 #[] #[{ accessFlags := 1, nameIndex := 5, descriptorIndex := 94, attributes := #[] }, { accessFlags := 1, nameIndex := 42, descriptorIndex := 43, attributes := #[] }, { accessFlags := 10, nameIndex := 14, descriptorIndex := 15, attributes := #[] }] 49 2 #[] #[{ accessFlags := 18, nameIndex := 8, descriptorIndex := 30, attributes := #[] }, { accessFlags := 18, nameIndex := 17, descriptorIndex := 30, attributes := #[] }, { accessFlags := 18, nameIndex := 35, descriptorIndex := 30, attributes := #[] }, { accessFlags := 18, nameIndex := 25, descriptorIndex := 30, attributes := #[] }, { accessFlags := 18, nameIndex := 27, descriptorIndex := 30, attributes := #[] }, { accessFlags := 25, nameIndex := 77, descriptorIndex := 30, attributes := #[] }, { accessFlags := 25, nameIndex := 79, descriptorIndex := 30, attributes := #[] }, { accessFlags := 25, nameIndex := 81, descriptorIndex := 30, attributes := #[] }, { accessFlags := 25, nameIndex := 83, descriptorIndex := 30, attributes := #[] }, { accessFlags := 25, nameIndex := 84, descriptorIndex := 30, attributes := #[] }, { accessFlags := 25, nameIndex := 86, descriptorIndex := 30, attributes := #[] }, { accessFlags := 25, nameIndex := 88, descriptorIndex := 30, attributes := #[] }, { accessFlags := 26, nameIndex := 90, descriptorIndex := 91, attributes := #[] }])
  fields := #[{ name := "buyers", type := .int, accessFlags := 18, slot := 0, constantValue := 0 }, { name := "repeat", type := .int, accessFlags := 18, slot := 1, constantValue := 0 }, { name := "units", type := .int, accessFlags := 18, slot := 2, constantValue := 0 }, { name := "threads", type := .int, accessFlags := 18, slot := 3, constantValue := 0 }, { name := "connections", type := .int, accessFlags := 18, slot := 4, constantValue := 0 }, { name := "MAX_BUYERS", type := .int, accessFlags := 25, slot := 0, constantValue := 0 }, { name := "MAX_REPEAT", type := .int, accessFlags := 25, slot := 1, constantValue := 0 }, { name := "MAX_THREADS", type := .int, accessFlags := 25, slot := 2, constantValue := 0 }, { name := "MAX_CONNECTIONS", type := .int, accessFlags := 25, slot := 3, constantValue := 0 }, { name := "DEFAULT_REPEAT", type := .int, accessFlags := 25, slot := 4, constantValue := 0 }, { name := "DEFAULT_THREADS", type := .int, accessFlags := 25, slot := 5, constantValue := 0 }, { name := "DEFAULT_CONNECTIONS", type := .int, accessFlags := 25, slot := 6, constantValue := 0 }, { name := "BUYER_PREFIX", type := (.object "java/lang/String"), accessFlags := 26, slot := 7, constantValue := 0 }]
  methods := #[k3m0, k3m1, k3m2]
  instanceTypes := #[.int, .int, .int, .int, .int]
  staticTypes := #[.int, .int, .int, .int, .int, .int, .int, (.object "java/lang/String")]
  resolved := Array.replicate 138 none
  statics := none }

def pool4 : Array CpInfo := pool [(1, .class_ 2), (0, u "java/io/Serializable"), (0, .class_ 4), (0, u "java/lang/Object")] 2

/-- java/io/Serializable -/
def k4 : Class := { plain "java/io/Serializable" (some 0) with
  accessFlags := 1537
  interfaces := #[]
  cf := some (fileOf pool4 1 #[] #[] 1537 3 #[] #[])
  fields := #[]
  methods := #[]
  instanceTypes := #[]
  staticTypes := #[]
  resolved := Array.replicate 7 none
  statics := none }

def pool5 : Array CpInfo := pool [(1, .class_ 2), (0, u "java/lang/Comparable"), (0, .class_ 4), (0, u "java/lang/Object")] 7

/-- java/lang/Comparable -/
def k5 : Class := { plain "java/lang/Comparable" (some 0) with
  accessFlags := 1537
  interfaces := #[]
  cf := some (fileOf pool5 1 #[] #[] 1537 3 #[] #[])
  fields := #[]
  methods := #[]
  instanceTypes := #[]
  staticTypes := #[]
  resolved := Array.replicate 12 none
  statics := none }

def pool6 : Array CpInfo := pool [(2, .class_ 4), (1, u "java/lang/CharSequence"), (42, .class_ 48), (0, u "java/lang/CharSequence$1CodePointIterator"), (10, .class_ 60), (0, u "java/lang/CharSequence$1CharIterator"), (5, .class_ 67), (0, u "java/lang/Object")] 63

/-- java/lang/CharSequence -/
def k6 : Class := { plain "java/lang/CharSequence" (some 0) with
  accessFlags := 1537
  interfaces := #[]
  cf := some (fileOf pool6 2 #[.nestMembers #[47, 59]] #[] 1537 66 #[] #[])
  fields := #[]
  methods := #[]
  instanceTypes := #[]
  staticTypes := #[]
  resolved := Array.replicate 131 none
  statics := none }

def pool7 : Array CpInfo := pool [(1, .class_ 2), (0, u "java/lang/constant/Constable"), (0, .class_ 4), (0, u "java/lang/Object")] 6

/-- java/lang/constant/Constable -/
def k7 : Class := { plain "java/lang/constant/Constable" (some 0) with
  accessFlags := 1537
  interfaces := #[]
  cf := some (fileOf pool7 1 #[] #[] 1537 3 #[] #[])
  fields := #[]
  methods := #[]
  instanceTypes := #[]
  staticTypes := #[]
  resolved := Array.replicate 11 none
  statics := none }

def pool8 : Array CpInfo := pool [(1, .class_ 2), (0, u "java/lang/constant/ConstantDesc"), (0, .class_ 4), (0, u "java/lang/Object")] 32

/-- java/lang/constant/ConstantDesc -/
def k8 : Class := { plain "java/lang/constant/ConstantDesc" (some 0) with
  accessFlags := 1537
  interfaces := #[]
  cf := some (fileOf pool8 1 #[] #[] 1537 3 #[] #[])
  fields := #[]
  methods := #[]
  instanceTypes := #[]
  staticTypes := #[]
  resolved := Array.replicate 37 none
  statics := none }

def pool9 : Array CpInfo := pool [(2, .class_ 4), (1, u "java/lang/Object"), (0, u "<init>"), (0, u "()V"), (3, .class_ 12), (1, u "java/lang/String"), (0, u "value"), (0, u "[B"), (2, u "coder"), (0, u "B"), (2, u "hash"), (0, u "I"), (2, u "hashIsZero"), (0, u "Z"), (13, u "COMPACT_STRINGS"), (534, .class_ 576), (0, u "java/lang/CharSequence"), (22, u "CASE_INSENSITIVE_ORDER"), (0, u "Ljava/util/Comparator;"), (500, u "serialPersistentFields"), (0, u "[Ljava/io/ObjectStreamField;"), (0, .class_ 1104), (0, u "java/lang/String$CaseInsensitiveComparator"), (1, .class_ 1107), (0, u "java/io/Serializable"), (0, .class_ 1109), (0, u "java/lang/Comparable"), (0, .class_ 1111), (0, u "java/lang/constant/Constable"), (0, .class_ 1113), (0, u "java/lang/constant/ConstantDesc"), (2, u "serialVersionUID"), (0, u "J"), (3, u "REPL"), (0, u "C"), (2, u "LATIN1"), (1, u "UTF16")] 323

def k9m0 : Method := { name := "<init>", desc := "()V", sig := { parameters := [], returnType := none }, accessFlags := 1, code := none }
/-- java/lang/String -/
def k9 : Class := { plain "java/lang/String" (some 0) with
  accessFlags := 49
  interfaces := #[4, 5, 6, 7, 8]
  cf := some (fileOf pool9 10 #[.nestMembers #[1103]] #[{ accessFlags := 1, nameIndex := 5, descriptorIndex := 6, attributes := #[] }] 49 2 #[1106, 1108, 575, 1110, 1112] #[{ accessFlags := 18, nameIndex := 13, descriptorIndex := 14, attributes := #[] }, { accessFlags := 18, nameIndex := 17, descriptorIndex := 18, attributes := #[] }, { accessFlags := 2, nameIndex := 21, descriptorIndex := 22, attributes := #[] }, { accessFlags := 2, nameIndex := 25, descriptorIndex := 26, attributes := #[] }, { accessFlags := 26, nameIndex := 1116, descriptorIndex := 1117, attributes := #[] }, { accessFlags := 24, nameIndex := 40, descriptorIndex := 26, attributes := #[] }, { accessFlags := 26, nameIndex := 1101, descriptorIndex := 1102, attributes := #[] }, { accessFlags := 26, nameIndex := 1121, descriptorIndex := 1122, attributes := #[] }, { accessFlags := 25, nameIndex := 599, descriptorIndex := 600, attributes := #[] }, { accessFlags := 24, nameIndex := 1125, descriptorIndex := 18, attributes := #[] }, { accessFlags := 24, nameIndex := 1127, descriptorIndex := 18, attributes := #[] }])
  fields := #[{ name := "value", type := (.array .byte), accessFlags := 18, slot := 0, constantValue := 0 }, { name := "coder", type := .byte, accessFlags := 18, slot := 1, constantValue := 0 }, { name := "hash", type := .int, accessFlags := 2, slot := 2, constantValue := 0 }, { name := "hashIsZero", type := .boolean, accessFlags := 2, slot := 3, constantValue := 0 }, { name := "serialVersionUID", type := .long, accessFlags := 26, slot := 0, constantValue := 0 }, { name := "COMPACT_STRINGS", type := .boolean, accessFlags := 24, slot := 1, constantValue := 0 }, { name := "serialPersistentFields", type := (.array (.object "java/io/ObjectStreamField")), accessFlags := 26, slot := 2, constantValue := 0 }, { name := "REPL", type := .char, accessFlags := 26, slot := 3, constantValue := 0 }, { name := "CASE_INSENSITIVE_ORDER", type := (.object "java/util/Comparator"), accessFlags := 25, slot := 4, constantValue := 0 }, { name := "LATIN1", type := .byte, accessFlags := 24, slot := 5, constantValue := 0 }, { name := "UTF16", type := .byte, accessFlags := 24, slot := 6, constantValue := 0 }]
  methods := #[k9m0]
  instanceTypes := #[(.array .byte), .byte, .int, .boolean]
  staticTypes := #[.long, .boolean, (.array (.object "java/io/ObjectStreamField")), .char, (.object "java/util/Comparator"), .byte, .byte]
  resolved := Array.replicate 1451 none
  statics := none }

def pool10 : Array CpInfo := pool [(1, .class_ 2), (0, u "com/example/stockade/stockade/model/ClaimLogEntry"), (0, .class_ 4), (0, u "java/lang/Object")] 9

/-- com/example/stockade/stockade/model/ClaimLogEntry -/
def k10 : Class := { plain "com/example/stockade/stockade/model/ClaimLogEntry" (some 0) with
  accessFlags := 1537
  interfaces := #[]
  cf := some (fileOf pool10 1 #[] #[] 1537 3 #[] #[])
  fields := #[]
  methods := #[]
  instanceTypes := #[]
  staticTypes := #[]
  resolved := Array.replicate 14 none
  statics := none }

def pool11 : Array CpInfo := pool [(2, .class_ 4), (1, u "java/lang/Record"), (11, u "buyer"), (1, u "item"), (3, .class_ 24), (1, u "com/example/stockade/stockade/model/Claim"), (0, u "claimId"), (0, u "Ljava/lang/String;"), (2, u "Lcom/example/stockade/stockade/model/BuyerId;"), (2, u "units"), (0, u "J"), (2, u "Ljava/util/Optional;"), (2, u "claimedAt"), (0, u "Ljava/time/Instant;"), (9, .long 1000000), (20, .class_ 72), (0, u "com/example/stockade/stockade/model/ClaimLogEntry"), (2, u "MAX_UNITS"), (8, u "checkUnits"), (0, u "(J)J")] 31

def k11c0 : Code := { maxStack := 4, maxLocals := 2, code := prog_17_method_4_code, exceptionTable := #[], attributes := #[] }
def k11m0 : Method := { name := "checkUnits", desc := "(J)J", sig := { parameters := [.long], returnType := some .long }, accessFlags := 9, code := some k11c0 }
/-- com/example/stockade/stockade/model/Claim -/
def k11 : Class := { plain "com/example/stockade/stockade/model/Claim" (some 2) with
  accessFlags := 49
  interfaces := #[10]
  cf := some (fileOf pool11 22 #[] #[{ accessFlags := 9, nameIndex := 84, descriptorIndex := 85, attributes := #[] }] 49 2 #[71] #[{ accessFlags := 18, nameIndex := 25, descriptorIndex := 26, attributes := #[] }, { accessFlags := 18, nameIndex := 16, descriptorIndex := 29, attributes := #[] }, { accessFlags := 18, nameIndex := 32, descriptorIndex := 33, attributes := #[] }, { accessFlags := 18, nameIndex := 18, descriptorIndex := 36, attributes := #[] }, { accessFlags := 18, nameIndex := 39, descriptorIndex := 40, attributes := #[] }, { accessFlags := 25, nameIndex := 75, descriptorIndex := 33, attributes := #[] }])
  fields := #[{ name := "claimId", type := (.object "java/lang/String"), accessFlags := 18, slot := 0, constantValue := 0 }, { name := "buyer", type := (.object "com/example/stockade/stockade/model/BuyerId"), accessFlags := 18, slot := 1, constantValue := 0 }, { name := "units", type := .long, accessFlags := 18, slot := 2, constantValue := 0 }, { name := "item", type := (.object "java/util/Optional"), accessFlags := 18, slot := 3, constantValue := 0 }, { name := "claimedAt", type := (.object "java/time/Instant"), accessFlags := 18, slot := 4, constantValue := 0 }, { name := "MAX_UNITS", type := .long, accessFlags := 25, slot := 0, constantValue := 0 }]
  methods := #[k11m0]
  instanceTypes := #[(.object "java/lang/String"), (.object "com/example/stockade/stockade/model/BuyerId"), .long, (.object "java/util/Optional"), (.object "java/time/Instant")]
  staticTypes := #[.long]
  resolved := Array.replicate 117 none
  statics := none }

def pool12 : Array CpInfo := pool [(1, u "java/lang/Cloneable"), (0, .class_ 1), (0, u "java/lang/Object"), (0, .class_ 3)] 3

/-- java/lang/Cloneable -/
def k12 : Class := { plain "java/lang/Cloneable" (some 0) with
  accessFlags := 1537
  interfaces := #[]
  cf := some (fileOf pool12 2 #[] #[] 1537 4 #[] #[])
  fields := #[]
  methods := #[]
  instanceTypes := #[]
  staticTypes := #[]
  resolved := Array.replicate 8 none
  statics := none }

/-- the primitive byte -/
def k13 : Class := { plain "byte" none with kind := .primitive 'B', accessFlags := 0x411 }
/-- [B -/
def k14 : Class := { plain "[B" (some 0) with kind := .array 13 .byte, interfaces := #[12, 4], accessFlags := 1041 }

/-- the primitive int -/
def k15 : Class := { plain "int" none with kind := .primitive 'I', accessFlags := 0x411 }
/-- [I -/
def k16 : Class := { plain "[I" (some 0) with kind := .array 15 .int, interfaces := #[12, 4], accessFlags := 1041 }

def heap : Heap := #[]
def classes : Array Class := #[k0, k1, k2, k3, k4, k5, k6, k7, k8, k9, k10, k11, k12, k13, k14, k15, k16]
def interned : List (Array UInt16 × Addr) := []
def slotsUsed : Nat := 0
def theMethod : MethodId := ⟨1, 1⟩
def args0 : Array Value := #[.int 5, .int 7, .int 9, .int 1, .int 2]
def aboutOver (below : List Frame) : State where
  vm := { classes := classes, interned := interned.toArray }
  heap := heap
  slotsUsed := slotsUsed
  threads := #[{ frames := .invoking theMethod args0 :: below }]
def below0 : List Frame := [.native { method := ⟨0, 0⟩, args := #[] }]
def about1 : State := aboutOver below0
def p0 : Program := .bare "" "" ""
def e0 : Env := launch0.env 0 0 0
theorem w_frames : about1.frames = Frame.invoking theMethod args0 :: below0 := rfl
set_option maxRecDepth 65536 in
theorem w_args : argsFit about1.vm theMethod args0 = true := by decide +kernel
set_option maxRecDepth 65536 in
theorem w_heap : heapFits about1 = true := by decide +kernel
set_option maxRecDepth 65536 in
theorem w_runnable : about1.curStatus? = some .runnable := by decide +kernel
set_option maxRecDepth 65536 in
theorem w_alone : about1.alone = true := by decide +kernel
set_option maxRecDepth 65536 in
theorem w_named : about1.methodNamed? x = some theMethod := by decide +kernel
set_option maxRecDepth 65536 in
theorem w_hears : about1.hears theMethod below0 = true := by decide +kernel
set_option maxRecDepth 65536 in
theorem w_ripe : about1.ripe theMethod args0 below0 = true := by decide +kernel
theorem w_running : about1.status = .running := rfl
set_option maxRecDepth 65536 in
theorem w_room : about1.hasRoom e0.platform room_1 = true :=
  launch0.hasRoom_least _ room_1 (by decide +kernel) (by decide +kernel) (by decide +kernel) (by decide +kernel) (by decide +kernel) (by decide +kernel)
theorem allAtoms_all (ts : List Jvm.Cond) (a : Array Jvm.Value) (st : Jvm.State) : (allAtoms ts).before a st = ts.all (fun c => c.before a st) := by
  induction ts with
  | nil => rfl
  | cons c t ih =>
    show (Jvm.Cond.and c (allAtoms t)).before a st = _
    rw [Jvm.Cond.before_and, ih, List.all_cons]
def words1 : List Jvm.Cond := Jvm.Cond.code x code maxLocals ret :: tables_1
/-- a 'code' word, met by the world's own term for the bytes: nothing is compared byte by byte -/
theorem code_word {y : MethodName} {bytes : ByteArray} {mx : Nat} {rt : Option FieldType} {a : Array Value} {s : State} {m : MethodId} {meth : Method} {c : Code} (h1 : s.methodNamed? y = some m) (h2 : s.vm.method? m = some meth) (h3 : meth.code = some c) (h4 : c.code = bytes)
    (h5 : (c.maxLocals == mx && c.exceptionTable.isEmpty && decide (c.maxStack ≤ mostOperands) && decide (meth.sig.returnType = rt) && !meth.locks && decide (parseMethodDescriptor y.desc = some meth.sig)) = true) : (Jvm.Cond.code y bytes mx rt).before a s = true := by
  simp only [Bool.and_eq_true, beq_iff_eq, Bool.not_eq_true', decide_eq_true_eq] at h5
  obtain ⟨⟨⟨⟨⟨g1, g2⟩, g3⟩, g4⟩, g5⟩, g6⟩ := h5
  simp [Cond.before, Cond.holds, Cond.value, h1, h2, h3, h4, g1, g2, g3, g4, g5, g6]
def isCode : Jvm.Cond → Bool
  | .code _ _ _ _ => true
  | _ => false
theorem all_split {L : List Jvm.Cond} {P : Jvm.Cond → Bool} (h1 : L.all (fun c => isCode c || P c) = true) (h2 : ∀ c ∈ L.filter isCode, P c = true) : L.all P = true := by
  refine List.all_eq_true.mpr fun c hc => ?_
  have h := List.all_eq_true.mp h1 c hc
  rcases Bool.eq_false_or_eq_true (isCode c) with hi | hi
  · exact h2 c (List.mem_filter.mpr ⟨hc, hi⟩)
  · simpa [hi] using h
set_option maxRecDepth 65536 in
theorem w_c0 : (Jvm.Cond.code x code maxLocals ret).before args0 about1 = true := code_word (m := ⟨1, 1⟩) (meth := k1m1) (c := k1c1) (by decide +kernel) rfl rfl rfl (by decide +kernel)
set_option maxRecDepth 65536 in
theorem w_c1 : (Jvm.Cond.code ({ cls := "com/example/stockade/stockade/model/BurstPlan", name := "<init>", desc := "(IIIII)V" } : Jvm.MethodName) prog_13_method_1_code (6 : Nat) (Option.none : Option Jvm.ClassFile.FieldType)).before args0 about1 = true := code_word (m := ⟨3, 0⟩) (meth := k3m0) (c := k3c0) (by decide +kernel) rfl rfl rfl (by decide +kernel)
set_option maxRecDepth 65536 in
theorem w_c2 : (Jvm.Cond.code ({ cls := "java/lang/Record", name := "<init>", desc := "()V" } : Jvm.MethodName) jdk_30_method_1_code (1 : Nat) (Option.none : Option Jvm.ClassFile.FieldType)).before args0 about1 = true := code_word (m := ⟨2, 0⟩) (meth := k2m0) (c := k2c0) (by decide +kernel) rfl rfl rfl (by decide +kernel)
set_option maxRecDepth 65536 in
theorem w_c3 : (Jvm.Cond.code ({ cls := "java/lang/Object", name := "<init>", desc := "()V" } : Jvm.MethodName) object_method_1_code (1 : Nat) (Option.none : Option Jvm.ClassFile.FieldType)).before args0 about1 = true := code_word (m := ⟨0, 0⟩) (meth := k0m0) (c := k0c0) (by decide +kernel) rfl rfl rfl (by decide +kernel)
set_option maxRecDepth 65536 in
theorem w_c4 : (Jvm.Cond.code ({ cls := "com/example/stockade/stockade/model/BurstPlan", name := "check", desc := "(Ljava/lang/String;II)V" } : Jvm.MethodName) prog_13_method_4_code (3 : Nat) (Option.none : Option Jvm.ClassFile.FieldType)).before args0 about1 = true := code_word (m := ⟨3, 2⟩) (meth := k3m2) (c := k3c2) (by decide +kernel) rfl rfl rfl (by decide +kernel)
set_option maxRecDepth 65536 in
theorem w_c5 : (Jvm.Cond.code ({ cls := "com/example/stockade/stockade/model/Claim", name := "checkUnits", desc := "(J)J" } : Jvm.MethodName) prog_17_method_4_code (2 : Nat) (Option.some Jvm.ClassFile.FieldType.long)).before args0 about1 = true := code_word (m := ⟨11, 0⟩) (meth := k11m0) (c := k11c0) (by decide +kernel) rfl rfl rfl (by decide +kernel)
set_option maxRecDepth 65536 in
theorem w_c6 : (Jvm.Cond.code ({ cls := "com/example/stockade/stockade/model/BurstPlan", name := "claims", desc := "()J" } : Jvm.MethodName) prog_13_method_2_code (1 : Nat) (Option.some Jvm.ClassFile.FieldType.long)).before args0 about1 = true := code_word (m := ⟨3, 1⟩) (meth := k3m1) (c := k3c1) (by decide +kernel) rfl rfl rfl (by decide +kernel)
def codes1 : List Jvm.Cond := [Jvm.Cond.code x code maxLocals ret, Jvm.Cond.code ({ cls := "com/example/stockade/stockade/model/BurstPlan", name := "<init>", desc := "(IIIII)V" } : Jvm.MethodName) prog_13_method_1_code (6 : Nat) (Option.none : Option Jvm.ClassFile.FieldType), Jvm.Cond.code ({ cls := "java/lang/Record", name := "<init>", desc := "()V" } : Jvm.MethodName) jdk_30_method_1_code (1 : Nat) (Option.none : Option Jvm.ClassFile.FieldType), Jvm.Cond.code ({ cls := "java/lang/Object", name := "<init>", desc := "()V" } : Jvm.MethodName) object_method_1_code (1 : Nat) (Option.none : Option Jvm.ClassFile.FieldType), Jvm.Cond.code ({ cls := "com/example/stockade/stockade/model/BurstPlan", name := "check", desc := "(Ljava/lang/String;II)V" } : Jvm.MethodName) prog_13_method_4_code (3 : Nat) (Option.none : Option Jvm.ClassFile.FieldType), Jvm.Cond.code ({ cls := "com/example/stockade/stockade/model/Claim", name := "checkUnits", desc := "(J)J" } : Jvm.MethodName) prog_17_method_4_code (2 : Nat) (Option.some Jvm.ClassFile.FieldType.long), Jvm.Cond.code ({ cls := "com/example/stockade/stockade/model/BurstPlan", name := "claims", desc := "()J" } : Jvm.MethodName) prog_13_method_2_code (1 : Nat) (Option.some Jvm.ClassFile.FieldType.long)]
set_option maxRecDepth 65536 in
theorem codes_eq : words1.filter isCode = codes1 := rfl
theorem w_codes : ∀ c ∈ words1.filter isCode, c.before args0 about1 = true := by
  rw [codes_eq]
  intro c hc
  simp only [codes1, List.mem_cons, List.not_mem_nil, or_false] at hc
  rcases hc with rfl | rfl | rfl | rfl | rfl | rfl | rfl
  · exact w_c0
  · exact w_c1
  · exact w_c2
  · exact w_c3
  · exact w_c4
  · exact w_c5
  · exact w_c6
set_option maxRecDepth 65536 in
theorem w_t1 : (words1.take 24).all (fun c => isCode c || c.before args0 about1) = true := by decide +kernel
set_option maxRecDepth 65536 in
theorem w_t2 : ((words1.drop 24).take 24).all (fun c => isCode c || c.before args0 about1) = true := by decide +kernel
set_option maxRecDepth 65536 in
theorem w_t3 : ((words1.drop 24).drop 24).all (fun c => isCode c || c.before args0 about1) = true := by decide +kernel
theorem w_tables : (allAtoms (Jvm.Cond.code x code maxLocals ret :: tables_1)).before args0 about1 = true := by
  rw [allAtoms_all]
  show words1.all (fun c => c.before args0 about1) = true
  refine all_split ?_ w_codes
  rw [← List.take_append_drop 24 words1, List.all_append, w_t1, ← List.take_append_drop 24 (words1.drop 24), List.all_append, w_t2, w_t3]
  rfl
set_option maxRecDepth 65536 in
theorem w_case : (Jvm.Cond.and given_1 narrow_1).before args0 about1 = true := by decide +kernel
theorem w_applies : (headSpec (Jvm.Cond.code x code maxLocals ret :: tables_1) room_1).applies x e0.platform about1 = true :=
  (Spec.applies_iff w_frames).mpr ⟨w_running, w_runnable, w_alone, w_named, w_hears, w_ripe, w_room, w_tables⟩
theorem atStart : AtStart classFile x code maxLocals ret World_1 tables_1 room_1 Calls_1 rest_1 Pre_1 launch0 p0 e0 about1 theMethod args0 below0 :=
  ⟨lists_1, trivial, launch0.admits_env _ _ _, launch0.least_env, fairChoices_fair.cas, fairChoices_fair.clock, w_frames, w_args, w_heap, w_applies, trivial, trivial, w_case⟩
end start1
theorem witness_1 : WitnessClaimed_1 := ⟨start1.p0, start1.e0, start1.about1, start1.theMethod, start1.args0, start1.below0, start1.atStart⟩
end Jvm.Pilot.@@N@@
