import JvmDerived
import JvmDerived.Pilot.@@N@@Statement
import JvmDerived.Pilot.@@N@@Code
set_option linter.unusedVariables false
set_option linter.unusedSimpArgs false
@@BLOCK:NumsL.lean.txt@@
namespace Jvm.Pilot.@@N@@
open Jvm Jvm.ClassFile Sem Op Lib Jvm.Free Jvm.Stand Jvm.LawKit Jvm.RoadKit Bundle Jvm.Pilot.@@N@@.Jvm.D
/-- the run that stands at st comes to a return: Q says what is returned, the heap and the places written; at most kc cells and ks slots are new -/
def own_Ends (p : Program) (e : Env) (below : List Frame) (s : State) (kc ks : Nat) (Q : Option Value → Heap → List Loc → Prop) (st : State) : Prop :=
  ∃ s₂ o, Steps p.tables e below st s₂ ∧ s₂.status = .running ∧ Ended s₂ below o ∧ ∃ v L, o = .returned v ∧ Q v s₂.heap L ∧ FrameEnd s o s₂ L kc ks
theorem own_step {p : Program} {e : Env} {below : List Frame} {s : State} {kc ks : Nat} {Q : Option Value → Heap → List Loc → Prop} {st st' : State}
    (h : ∀ t, Steps p.tables e below st' t → Steps p.tables e below st t) (k : own_Ends p e below s kc ks Q st') : own_Ends p e below s kc ks Q st := by
  obtain ⟨s₂, o, h1, h2⟩ := k
  exact ⟨s₂, o, h _ h1, h2⟩
theorem own_ret {p : Program} {l : Launch} {e : Env} {R : Room} {s : State} {m : MethodId} {args : Array Value} {below : List Frame} {meth : Method} {c : Code} {T : State} {locs : List Loc} {cells slots : Nat} {kc ks : Nat} {Q : Option Value → Heap → List Loc → Prop} {st : State}
    (X : Stand p l e R s m args below meth c T locs cells slots) (hlocks : meth.locks = false) {v : Option Value} (hv : meth.sig.returnType = none → v = none) (hq : Q v T.heap locs) (hc : cells ≤ kc) (hs : slots ≤ ks)
    (hr : ∀ fs, (∀ (f : JFrame) (acts : List Action), f.method = m → f.locked = none → f.entered = [] → (doReturn e (T.setTop f) acts v).1 = T.setFrames fs) → Steps p.tables e below st (T.setFrames fs)) : own_Ends p e below s kc ks Q st := by
  obtain ⟨fs, h1, hrun, hended, hW, hsame⟩ := X.leave (v := v) hv hlocks
  exact ⟨_, _, hr fs h1, hrun, hended, v, locs, rfl, hq, ⟨_, rfl⟩, hW, hsame.mono hc hs⟩

def own_sl (x : Int64) (k : Int32) : Int64 := x <<< (k.toInt64 &&& 63)
def own_min (x y : Int32) : Int32 := if y < x then y else x
def own_max (x y : Int32) : Int32 := if x < y then y else x
def own_top (x : Int64) (n : Int32) : Int64 := if n = 0 then 0 else own_sl (XT.ushrL x (64 - n)) (64 - n)
def own_bits (z n : Int32) : Int32 := if z = 0 then 96 + n else n
def own_mh (b : Int32) (x : Int64) : Int64 := if b < 64 then (if b = 0 then 0 else x &&& own_sl (-1) (64 - b)) else x
def own_ml (b : Int32) (x : Int64) : Int64 := if 64 < b then x &&& own_sl (-1) (128 - b) else 0
theorem own_lt {x y : Int32} : x < y ↔ x.toInt < y.toInt := Int32.lt_iff_toInt_lt
theorem own_kl : ∀ n : Fin 64, (((Int32.ofNat n.val).toInt64 &&& 63).toBitVec.smod 64).toNat = n.val := by decide +kernel
theorem own_kr : ∀ n : Fin 64, (((Int32.ofNat n.val).toInt64.toUInt64 &&& Int64.toUInt64 63).toBitVec % 64#64).toNat = n.val := by decide +kernel
theorem own_nat {k : Int32} {n : Nat} (h : k.toInt = n) : k = Int32.ofNat n := by
  apply Int32.toInt_inj.mp
  have := rng32 k
  rw [h, Int32.toInt_ofNat_of_lt (by omega)]
theorem own_slB (x : Int64) {k : Int32} {n : Nat} (h : k.toInt = n) (hn : n < 64) : (own_sl x k).toBitVec = x.toBitVec <<< n := by
  have e : (own_sl x k).toBitVec = x.toBitVec <<< ((k.toInt64 &&& 63).toBitVec.smod 64).toNat := rfl
  rw [e, own_nat h, own_kl ⟨n, hn⟩]
theorem own_srB (x : Int64) {k : Int32} {n : Nat} (h : k.toInt = n) (hn : n < 64) : (XT.ushrL x k).toBitVec = x.toBitVec >>> n := by
  have e : (XT.ushrL x k).toBitVec = x.toBitVec >>> ((k.toInt64.toUInt64 &&& Int64.toUInt64 63).toBitVec % 64#64).toNat := rfl
  rw [e, own_nat h, own_kr ⟨n, hn⟩]
theorem own_maskB (x : BitVec 64) (n : Nat) : x &&& ((-1 : Int64).toBitVec <<< n) = (x >>> n) <<< n := by
  apply BitVec.eq_of_getLsbD_eq
  intro i hi
  have e : (-1 : Int64).toBitVec = BitVec.allOnes 64 := by decide
  rw [e]
  simp only [BitVec.getLsbD_and, BitVec.getLsbD_shiftLeft, BitVec.getLsbD_ushiftRight, BitVec.getLsbD_allOnes]
  by_cases h : i < n
  · simp [h]
  · have e2 : n + (i - n) = i := by omega
    have e3 : i - n < 64 := by omega
    simp [h, hi, e2, e3]
theorem own_mask (x : Int64) {k : Int32} {n : Nat} (h : k.toInt = n) (hn : n < 64) : x &&& own_sl (-1) k = own_sl (XT.ushrL x k) k := by
  apply Int64.toBitVec_inj.mp
  rw [own_slB _ h hn, own_srB _ h hn]
  show x.toBitVec &&& (own_sl (-1) k).toBitVec = _
  rw [own_slB _ h hn, own_maskB]
theorem own_top64 (x : Int64) : own_top x 64 = x := by
  rw [own_top, if_neg (by decide)]
  apply Int64.toBitVec_inj.mp
  rw [own_slB (n := 0) _ (by decide) (by decide), own_srB (n := 0) _ (by decide) (by decide)]
  simp
theorem own_lenB (x : Int32) (d : Int32) (n : Int) (hd : d.toInt = n) (h0 : 0 < n) : 0 ≤ ((x &&& (2147483647 : Int32)) - (x &&& (2147483647 : Int32)) / d * d).toInt ∧ ((x &&& (2147483647 : Int32)) - (x &&& (2147483647 : Int32)) / d * d).toInt < n := by
  have e := Jvm.Kit.i32_mask x 2147483647 (k := 31) (by decide) (by decide)
  generalize x &&& (2147483647 : Int32) = y at *
  rw [irem_eq_mod, Jvm.Kit.i32_rem_nonneg (by omega), hd]
  exact ⟨Int.emod_nonneg _ (by omega), Int.emod_lt_of_pos _ h0⟩
theorem own_v6h {x : Int64} {b : Int32} (h0 : 0 ≤ b.toInt) (h1 : b.toInt < 129) : own_mh b x = own_top x (own_min b 64) := by
  have e64 : (64 : Int32).toInt = 64 := rfl
  have e0 : (0 : Int32).toInt = 0 := rfl
  unfold own_mh own_min
  by_cases h : b < 64
  · rw [if_pos h]
    rw [own_lt] at h
    rw [if_neg (show ¬ (64 : Int32) < b by rw [own_lt]; omega)]
    unfold own_top
    by_cases hz : b = 0
    · rw [if_pos hz, if_pos hz]
    · rw [if_neg hz, if_neg hz]
      rw [← Int32.toInt_inj] at hz
      have es : (64 - b).toInt = 64 - b.toInt := by rw [Jvm.Kit.i32_sub (by omega) (by omega), e64]
      exact own_mask x (n := (64 - b.toInt).toNat) (by omega) (by omega)
  · rw [if_neg h]
    rw [own_lt] at h
    by_cases h2 : (64 : Int32) < b
    · rw [if_pos h2, own_top64]
    · rw [own_lt] at h2
      have : b = 64 := Int32.toInt_inj.mp (by omega)
      subst this
      rw [if_neg (by decide), own_top64]
theorem own_v6l {x : Int64} {b : Int32} (h0 : 0 ≤ b.toInt) (h1 : b.toInt < 129) : own_ml b x = own_top x (own_max (b - 64) 0) := by
  have e64 : (64 : Int32).toInt = 64 := rfl
  have e128 : (128 : Int32).toInt = 128 := rfl
  have e0 : (0 : Int32).toInt = 0 := rfl
  have es : (b - 64).toInt = b.toInt - 64 := by rw [Jvm.Kit.i32_sub (by omega) (by omega), e64]
  unfold own_ml own_max
  by_cases h : (64 : Int32) < b
  · rw [if_pos h]
    rw [own_lt] at h
    rw [if_neg (by rw [own_lt]; omega)]
    unfold own_top
    have e2 : (64 - (b - 64)).toInt = 128 - b.toInt := by rw [Jvm.Kit.i32_sub (by omega) (by omega), e64]; omega
    have e3 : (128 - b).toInt = 128 - b.toInt := by rw [Jvm.Kit.i32_sub (by omega) (by omega), e128]
    have e4 : 64 - (b - 64) = 128 - b := Int32.toInt_inj.mp (by omega)
    rw [if_neg (by rw [← Int32.toInt_inj]; omega), e4]
    exact own_mask x (n := (128 - b.toInt).toNat) (by omega) (by omega)
  · rw [if_neg h]
    rw [own_lt] at h
    by_cases h2 : b - 64 < 0
    · rw [if_pos h2]; rfl
    · rw [own_lt] at h2
      have : b - 64 = 0 := Int32.toInt_inj.mp (by omega)
      rw [if_neg (by rw [own_lt]; omega), this]; rfl
theorem own_v4h {b : Int32} (h0 : 0 ≤ b.toInt) (h1 : b.toInt < 33) : own_mh (96 + b) 0 = 0 := by
  have e64 : (64 : Int32).toInt = 64 := rfl
  have e96 : (96 : Int32).toInt = 96 := rfl
  unfold own_mh
  rw [if_neg]
  rw [own_lt, Jvm.Kit.i32_add (by omega) (by omega)]
  omega
theorem own_v4B (y : BitVec 64) (n : Nat) (hn : n ≤ 32) : (y &&& 4294967295#64) &&& ((-1 : Int64).toBitVec <<< (32 - n)) = (((((y &&& 4294967295#64) <<< 32) >>> (64 - n)) <<< (64 - n)) >>> 32) := by
  apply BitVec.eq_of_getLsbD_eq
  intro i hi
  have e : (-1 : Int64).toBitVec = BitVec.allOnes 64 := by decide
  have e2 : (4294967295#64) = BitVec.allOnes 64 >>> 32 := by decide
  rw [e, e2]
  simp only [BitVec.getLsbD_and, BitVec.getLsbD_shiftLeft, BitVec.getLsbD_ushiftRight, BitVec.getLsbD_allOnes]
  by_cases h : i < 32 - n
  · have h3 : 32 + i < 64 - n := by omega
    simp [h, h3]
  · by_cases h4 : i < 32
    · have a1 : 64 - n + (32 + i - (64 - n)) = 32 + i := by omega
      have a2 : 32 + i - 32 = i := by omega
      have a3 : i - (32 - n) < 64 := by omega
      have a4 : ¬ 32 + i < 64 - n := by omega
      have a5 : 32 + i < 64 := by omega
      simp [h, h4, hi, a1, a2, a3, a4, a5]
    · have a5 : ¬ 32 + i < 64 := by omega
      simp [h4, a5]
theorem own_v4l {x : Int64} {b : Int32} (h0 : 0 ≤ b.toInt) (h1 : b.toInt < 33) : own_ml (96 + b) (x &&& (4294967295 : Int64)) = XT.ushrL (own_top (own_sl (x &&& (4294967295 : Int64)) 32) b) 32 := by
  have e64 : (64 : Int32).toInt = 64 := rfl
  have e96 : (96 : Int32).toInt = 96 := rfl
  have e128 : (128 : Int32).toInt = 128 := rfl
  have es : (96 + b).toInt = 96 + b.toInt := by rw [Jvm.Kit.i32_add (by omega) (by omega), e96]
  obtain ⟨n, hn⟩ : ∃ n : Nat, b.toInt = n := ⟨b.toInt.toNat, by omega⟩
  unfold own_ml
  rw [if_pos (by rw [own_lt]; omega)]
  have e3 : (128 - (96 + b)).toInt = ((32 - n : Nat) : Int) := by rw [Jvm.Kit.i32_sub (by omega) (by omega), e128]; omega
  apply Int64.toBitVec_inj.mp
  rw [own_srB (n := 32) _ (by decide) (by decide)]
  show (x.toBitVec &&& 4294967295#64) &&& (own_sl (-1) (128 - (96 + b))).toBitVec = _
  rw [own_slB _ e3 (by omega), own_v4B _ n (by omega)]
  unfold own_top
  by_cases hz : b = 0
  · subst hz
    have : n = 0 := by have : (0 : Int32).toInt = 0 := rfl; omega
    subst this
    rw [if_pos rfl]
    apply BitVec.eq_of_getLsbD_eq
    intro i hi
    simp
  · rw [if_neg hz]
    have hz' : n ≠ 0 := by
      intro q; apply hz; apply Int32.toInt_inj.mp; rw [hn, q]; rfl
    have e4 : (64 - b).toInt = ((64 - n : Nat) : Int) := by rw [Jvm.Kit.i32_sub (by omega) (by omega), e64]; omega
    rw [own_slB _ e4 (by omega), own_srB _ e4 (by omega), own_slB (n := 32) _ (by decide) (by decide)]
    rfl
theorem own_d1_0 : decode jdk_30_method_1_code 0 = .ok (.aload_n 0, 1) := by decide +kernel
theorem own_d1_1 : decode jdk_30_method_1_code 1 = .ok (.invokespecial 1, 3) := by decide +kernel
theorem own_d1_4 : decode jdk_30_method_1_code 4 = .ok (.return_, 1) := by decide +kernel
theorem own_pn0 : plainName "java/lang/Record" = true := by first | (simp [plainName, overriddenIn]; done) | decide +kernel
theorem own_ef1 (m : MethodId) (r0 : Addr) : entryFrame m #[(.ref r0)] 1 = mkF m 0 #[.val (.ref r0)] [] := by first | (simp [entryFrame, mkF, argsToLocals, Value.category]; done) | rfl
def own_Q1 (Z : State) (r0 : Addr)  (h0 : Heap) (n0 : Nat) (v : Option Value) (h : Heap) (L : List Loc) : Prop := v = none ∧ Fr n0 L ∧ h = h0
set_option maxRecDepth 65536 in
set_option maxHeartbeats 40000000 in
theorem own_rm1 (l : Launch) (Z : State) (a0 : Array Value) (hw : ∀ d ∈ tables_1, d.before a0 Z = true) (ws : List Jvm.Cond) (r0 : Addr)  (h0 : Heap) (n0 : Nat) (Z0 : n0 ≤ h0.size)  :
    MetFree l (⟨"java/lang/Record", "<init>", "()V"⟩ : MethodName) (head1 (Jvm.Cond.code (⟨"java/lang/Record", "<init>", "()V"⟩ : MethodName) jdk_30_method_1_code 1 none :: ws) ({ frames := 1, cells := 0, slots := 0, locals := 12 } : Room)) (fun a U => a = #[(.ref r0)] ∧ Z.Warmed39 U.vm ∧ U.heap = h0) (fun _ _ _ _ _ => True) (fun _ U o U' => ∃ v L, o = .returned v ∧ own_Q1 Z r0  h0 n0 v U'.heap L ∧ FrameEnd U o U' L ({ frames := 1, cells := 0, slots := 0, locals := 12 } : Room).cells ({ frames := 1, cells := 0, slots := 0, locals := 12 } : Room).slots) := by
  refine MetFree.of_bodySF (plainFor_of_name own_pn0) hisR ?_
  intro p e s m args below meth c s₁ Bd hml0 hP hK
  obtain ⟨rfl, hZ, hh⟩ := hP
  have hx := Bd.exec
  have hby := Bd.bytes
  have hml : c.maxLocals = 1 := hml0
  have hown : s.vm.findClass "java/lang/Record" = some m.cls := findClass_of_methodNamed Bd.named
  have hnm := (name_of_methodNamed Bd.named Bd.method).1
  have X0 : Stand p l e ({ frames := 1, cells := 0, slots := 0, locals := 12 } : Room) s m #[(.ref r0)] below meth c s₁ [] 0 0 := Stand.of_body Bd
  have e0 : s₁.heap = h0 := by rw [← hh, Bd.state]; rfl
  have N0 := Fr.nil n0
  suffices H : own_Ends p e below s ({ frames := 1, cells := 0, slots := 0, locals := 12 } : Room).cells ({ frames := 1, cells := 0, slots := 0, locals := 12 } : Room).slots (own_Q1 Z r0  h0 n0) (s₁.setTop (mkF m 0 #[.val (.ref r0)] [])) by
    obtain ⟨s₂, o, h1, h2⟩ := H
    exact ⟨s₂, o, castTop (own_ef1 m r0) h1, h2⟩
  show own_Ends _ _ _ _ _ _ _ (s₁.setTop (mkF m 0 #[.val (.ref r0)] []))
  refine own_step (fun _ k => XS.aloadN X0.here hx rfl (hb hby own_d1_0) rfl rfl k) ?_
  show own_Ends _ _ _ _ _ _ _ (s₁.setTop (mkF m 1 #[.val (.ref r0)] [(.ref r0)]))
  obtain ⟨T1, X1, e1, st1⟩ := initO X0 hx hZ hown (hw _ (List.mem_of_getElem? (i := 13) rfl)) (hw _ (List.mem_of_getElem? (i := 14) rfl)) (hw _ (List.mem_of_getElem? (i := 15) rfl)) e0 (g := (mkF m 1 #[.val (.ref r0)] [(.ref r0)])) rfl (by rw [hml]; rfl) rfl (hb hby own_d1_1) (by decide) (W := 0) (by show 2 * 0 + _ ≤ _; exact Nat.le_of_eq rfl) (by decide)
  refine own_step (fun _ k => st1 _ k) ?_
  show own_Ends _ _ _ _ _ _ _ (T1.setTop (mkF m 4 #[.val (.ref r0)] []))
  refine own_ret X1 (BodyLoose.notSynchronized Bd) (v := none) (fun _ => rfl) ?_ (by decide) (by decide) (fun fs hr => X1.returnOut hx Bd.returns (hb hby own_d1_4) hr)
  show own_Q1 Z r0  h0 n0 none T1.heap _
  rw [e1]
  exact ⟨rfl, N0, rfl⟩
theorem own_d2_0 : decode prog_10_method_1_code 0 = .ok (.aload_n 0, 1) := by decide +kernel
theorem own_d2_1 : decode prog_10_method_1_code 1 = .ok (.invokespecial 1, 3) := by decide +kernel
theorem own_d2_4 : decode prog_10_method_1_code 4 = .ok (.aload_n 0, 1) := by decide +kernel
theorem own_d2_5 : decode prog_10_method_1_code 5 = .ok (.iload_n 1, 1) := by decide +kernel
theorem own_d2_6 : decode prog_10_method_1_code 6 = .ok (.putfield 7, 3) := by decide +kernel
theorem own_d2_9 : decode prog_10_method_1_code 9 = .ok (.aload_n 0, 1) := by decide +kernel
theorem own_d2_10 : decode prog_10_method_1_code 10 = .ok (.lload_n 2, 1) := by decide +kernel
theorem own_d2_11 : decode prog_10_method_1_code 11 = .ok (.putfield 13, 3) := by decide +kernel
theorem own_d2_14 : decode prog_10_method_1_code 14 = .ok (.aload_n 0, 1) := by decide +kernel
theorem own_d2_15 : decode prog_10_method_1_code 15 = .ok (.lload 4, 2) := by decide +kernel
theorem own_d2_17 : decode prog_10_method_1_code 17 = .ok (.putfield 17, 3) := by decide +kernel
theorem own_d2_20 : decode prog_10_method_1_code 20 = .ok (.return_, 1) := by decide +kernel
theorem own_pn1 : plainName "com/example/rulewright/rulewright/IpAddress" = true := by first | (simp [plainName, overriddenIn]; done) | decide +kernel
theorem own_ef2 (m : MethodId) (r0 : Addr) (p1 : Int32) (q2 : Int64) (q3 : Int64) : entryFrame m #[(.ref r0), (.int p1), (.long q2), (.long q3)] 6 = mkF m 0 #[.val (.ref r0), .val (.int p1), .val (.long q2), .second, .val (.long q3), .second] [] := by first | (simp [entryFrame, mkF, argsToLocals, Value.category]; done) | rfl
theorem own_pd0 : parseMethodDescriptor "()V" = some ⟨[], none⟩ := by decide +kernel
def own_Q2 (Z : State) (r0 : Addr) (p1 : Int32) (q2 : Int64) (q3 : Int64)  (h0 : Heap) (n0 : Nat) (v : Option Value) (h : Heap) (L : List Loc) : Prop := v = none ∧ Fr n0 L ∧ Keep h0 h [r0] ∧ Exa Z h r0 "com/example/rulewright/rulewright/IpAddress" ∧ Fld Z h r0 "com/example/rulewright/rulewright/IpAddress" "v6" "Z" (.int p1) ∧ Fld Z h r0 "com/example/rulewright/rulewright/IpAddress" "high" "J" (.long q2) ∧ Fld Z h r0 "com/example/rulewright/rulewright/IpAddress" "low" "J" (.long q3)
set_option maxRecDepth 65536 in
set_option maxHeartbeats 40000000 in
theorem own_rm2 (l : Launch) (Z : State) (a0 : Array Value) (hw : ∀ d ∈ tables_1, d.before a0 Z = true) (ws : List Jvm.Cond) (r0 : Addr) (p1 : Int32) (q2 : Int64) (q3 : Int64)  (h0 : Heap) (n0 : Nat) (Z0 : n0 ≤ h0.size) (F0 : Fld Z h0 r0 "com/example/rulewright/rulewright/IpAddress" "v6" "Z" (.int (0 : Int32))) (F1 : Fld Z h0 r0 "com/example/rulewright/rulewright/IpAddress" "high" "J" (.long (0 : Int64))) (F2 : Fld Z h0 r0 "com/example/rulewright/rulewright/IpAddress" "low" "J" (.long (0 : Int64))) (EX : Exa Z h0 r0 "com/example/rulewright/rulewright/IpAddress") (G : n0 ≤ r0) (hz : p1 &&& 1 = p1) :
    MetFree l (⟨"com/example/rulewright/rulewright/IpAddress", "<init>", "(ZJJ)V"⟩ : MethodName) (head1 (Jvm.Cond.code (⟨"com/example/rulewright/rulewright/IpAddress", "<init>", "(ZJJ)V"⟩ : MethodName) prog_10_method_1_code 6 none :: ws) ({ frames := 2, cells := 0, slots := 0, locals := 24 } : Room)) (fun a U => a = #[(.ref r0), (.int p1), (.long q2), (.long q3)] ∧ Z.Warmed39 U.vm ∧ U.heap = h0) (fun _ _ _ _ _ => True) (fun _ U o U' => ∃ v L, o = .returned v ∧ own_Q2 Z r0 p1 q2 q3  h0 n0 v U'.heap L ∧ FrameEnd U o U' L ({ frames := 2, cells := 0, slots := 0, locals := 24 } : Room).cells ({ frames := 2, cells := 0, slots := 0, locals := 24 } : Room).slots) := by
  refine MetFree.of_bodySF (plainFor_of_name own_pn1) hisR ?_
  intro p e s m args below meth c s₁ Bd hml0 hP hK
  obtain ⟨rfl, hZ, hh⟩ := hP
  have hx := Bd.exec
  have hby := Bd.bytes
  have hml : c.maxLocals = 6 := hml0
  have hown : s.vm.findClass "com/example/rulewright/rulewright/IpAddress" = some m.cls := findClass_of_methodNamed Bd.named
  have hnm := (name_of_methodNamed Bd.named Bd.method).1
  have X0 : Stand p l e ({ frames := 2, cells := 0, slots := 0, locals := 24 } : Room) s m #[(.ref r0), (.int p1), (.long q2), (.long q3)] below meth c s₁ [] 0 0 := Stand.of_body Bd
  have e0 : s₁.heap = h0 := by rw [← hh, Bd.state]; rfl
  have N0 := Fr.nil n0
  suffices H : own_Ends p e below s ({ frames := 2, cells := 0, slots := 0, locals := 24 } : Room).cells ({ frames := 2, cells := 0, slots := 0, locals := 24 } : Room).slots (own_Q2 Z r0 p1 q2 q3  h0 n0) (s₁.setTop (mkF m 0 #[.val (.ref r0), .val (.int p1), .val (.long q2), .second, .val (.long q3), .second] [])) by
    obtain ⟨s₂, o, h1, h2⟩ := H
    exact ⟨s₂, o, castTop (own_ef2 m r0 p1 q2 q3) h1, h2⟩
  show own_Ends _ _ _ _ _ _ _ (s₁.setTop (mkF m 0 #[.val (.ref r0), .val (.int p1), .val (.long q2), .second, .val (.long q3), .second] []))
  have Kp0 := Keep.refl h0 [r0]
  refine own_step (fun _ k => XS.aloadN X0.here hx rfl (hb hby own_d2_0) rfl rfl k) ?_
  show own_Ends _ _ _ _ _ _ _ (s₁.setTop (mkF m 1 #[.val (.ref r0), .val (.int p1), .val (.long q2), .second, .val (.long q3), .second] [(.ref r0)]))
  obtain ⟨_, _, ⟨T2, L2, k2, n2⟩, -, X2, ⟨Lc2, hQ2, l2, y2, z2⟩, st2⟩ := X0.specialBack hx (y := (⟨"java/lang/Record", "<init>", "()V"⟩ : MethodName)) rfl hown (mvT hZ (hw _ (List.mem_of_getElem? (i := 8) rfl))) (mvT hZ (hw _ (List.mem_of_getElem? (i := 9) rfl))) (mvT hZ (hw _ (List.mem_of_getElem? (i := 12) rfl))) (by decide) (backOf (W := 0) (own_rm1 l Z a0 hw [] r0  h0 n0 Z0 ) hZ (hw _ (List.mem_of_getElem? (i := 12) rfl)) (hw _ (List.mem_of_getElem? (i := 11) rfl)) (by decide) (by decide)) (g := (mkF m 1 #[.val (.ref r0), .val (.int p1), .val (.long q2), .second, .val (.long q3), .second] [(.ref r0)])) rfl (by rw [hml]; rfl) (Steps.refl _) (a := r0) (argsL := []) (rest := []) (lenOf own_pd0 rfl) rfl (by show 2 * 0 + _ ≤ _; exact Nat.le_of_eq rfl) (hb hby own_d2_1) (fun _ _ => ⟨rfl, e0, (by decide : 0 + 0 ≤ _), (by decide : 0 + 0 ≤ _)⟩)
  dsimp only [Pt.U, Pt.locs, Pt.cells, Pt.slots] at X2 l2 y2 z2 st2 hQ2
  subst l2 y2 z2
  obtain ⟨rfl, Nq2, e2⟩ := hQ2
  have N2 := Fr.app N0 Nq2
  refine own_step (fun _ k => st2.trans k) ?_
  show own_Ends _ _ _ _ _ _ _ (T2.setTop (mkF m 4 #[.val (.ref r0), .val (.int p1), .val (.long q2), .second, .val (.long q3), .second] []))
  refine own_step (fun _ k => XS.aloadN X2.here hx rfl (hb hby own_d2_4) rfl rfl k) ?_
  show own_Ends _ _ _ _ _ _ _ (T2.setTop (mkF m 5 #[.val (.ref r0), .val (.int p1), .val (.long q2), .second, .val (.long q3), .second] [(.ref r0)]))
  refine own_step (fun _ k => XS.iloadN X2.here hx rfl (hb hby own_d2_5) rfl k) ?_
  show own_Ends _ _ _ _ _ _ _ (T2.setTop (mkF m 6 #[.val (.ref r0), .val (.int p1), .val (.long q2), .second, .val (.long q3), .second] [(.int p1), (.ref r0)]))
  obtain ⟨T3, h3, X3, e3, W3, st3⟩ := putFN X2 hx hZ hown (hw _ (List.mem_of_getElem? (i := 16) rfl)) Via.refl e2 F0 EX (Or.inr ⟨(hw _ (List.mem_of_getElem? (i := 17) rfl)), rfl, hnm⟩) (hw _ (List.mem_of_getElem? (i := 3) rfl)) (ty := .boolean) (v' := (.int (p1 &&& 1))) (by decide) rfl (fits_nar_bool _) (g := (mkF m 6 #[.val (.ref r0), .val (.int p1), .val (.long q2), .second, .val (.long q3), .second] [(.int p1), (.ref r0)])) rfl rfl (hb hby own_d2_6)
  have N3 := Fr.snoc X3 N2 G
  have F3_r0_high := Fld.other W3 F1 (Or.inr (RoadKit.slot_ne (Or.inr (hw _ (List.mem_of_getElem? (i := 19) rfl))) (Or.inr (hw _ (List.mem_of_getElem? (i := 17) rfl))) (by decide) (t := .long) (t' := .boolean) (by decide) (by decide)))
  have F3_r0_low := Fld.other W3 F2 (Or.inr (RoadKit.slot_ne (Or.inr (hw _ (List.mem_of_getElem? (i := 21) rfl))) (Or.inr (hw _ (List.mem_of_getElem? (i := 17) rfl))) (by decide) (t := .long) (t' := .boolean) (by decide) (by decide)))
  have A3_r0 := Exa.wr W3 EX
  have Z3 := Nat.le_trans Z0 (Keep.of_wr W3).1
  have Kp3 := Kp0.wr W3 (Or.inl (List.mem_of_getElem? (i := 0) rfl))
  have F3_r0_v6 := Fld.same W3 F0
  refine own_step (fun _ k => st3 _ k) ?_
  show own_Ends _ _ _ _ _ _ _ (T3.setTop (mkF m 9 #[.val (.ref r0), .val (.int p1), .val (.long q2), .second, .val (.long q3), .second] []))
  rw [hz] at F3_r0_v6
  refine own_step (fun _ k => XS.aloadN X3.here hx rfl (hb hby own_d2_9) rfl rfl k) ?_
  show own_Ends _ _ _ _ _ _ _ (T3.setTop (mkF m 10 #[.val (.ref r0), .val (.int p1), .val (.long q2), .second, .val (.long q3), .second] [(.ref r0)]))
  refine own_step (fun _ k => XS.lloadN X3.here hx rfl (hb hby own_d2_10) rfl k) ?_
  show own_Ends _ _ _ _ _ _ _ (T3.setTop (mkF m 11 #[.val (.ref r0), .val (.int p1), .val (.long q2), .second, .val (.long q3), .second] [(.long q2), (.ref r0)]))
  obtain ⟨T4, h4, X4, e4, W4, st4⟩ := putF X3 hx hZ hown (host := "") (Or.inl (hw _ (List.mem_of_getElem? (i := 18) rfl))) Via.refl e3 F3_r0_high A3_r0 (Or.inr ⟨(hw _ (List.mem_of_getElem? (i := 19) rfl)), rfl, hnm⟩) (hw _ (List.mem_of_getElem? (i := 3) rfl)) (ty := .long) (by decide) rfl rfl (g := (mkF m 11 #[.val (.ref r0), .val (.int p1), .val (.long q2), .second, .val (.long q3), .second] [(.long q2), (.ref r0)])) rfl rfl (hb hby own_d2_11)
  have N4 := Fr.snoc X4 N3 G
  have F4_r0_v6 := Fld.other W4 F3_r0_v6 (Or.inr (RoadKit.slot_ne (Or.inr (hw _ (List.mem_of_getElem? (i := 17) rfl))) (Or.inr (hw _ (List.mem_of_getElem? (i := 19) rfl))) (by decide) (t := .boolean) (t' := .long) (by decide) (by decide)))
  have F4_r0_low := Fld.other W4 F3_r0_low (Or.inr (RoadKit.slot_ne (Or.inr (hw _ (List.mem_of_getElem? (i := 21) rfl))) (Or.inr (hw _ (List.mem_of_getElem? (i := 19) rfl))) (by decide) (t := .long) (t' := .long) (by decide) (by decide)))
  have A4_r0 := Exa.wr W4 A3_r0
  have Z4 := Nat.le_trans Z3 (Keep.of_wr W4).1
  have Kp4 := Kp3.wr W4 (Or.inl (List.mem_of_getElem? (i := 0) rfl))
  have F4_r0_high := Fld.same W4 F3_r0_high
  refine own_step (fun _ k => st4 _ k) ?_
  show own_Ends _ _ _ _ _ _ _ (T4.setTop (mkF m 14 #[.val (.ref r0), .val (.int p1), .val (.long q2), .second, .val (.long q3), .second] []))
  refine own_step (fun _ k => XS.aloadN X4.here hx rfl (hb hby own_d2_14) rfl rfl k) ?_
  show own_Ends _ _ _ _ _ _ _ (T4.setTop (mkF m 15 #[.val (.ref r0), .val (.int p1), .val (.long q2), .second, .val (.long q3), .second] [(.ref r0)]))
  refine own_step (fun _ k => XS.lload X4.here hx rfl (hb hby own_d2_15) rfl k) ?_
  show own_Ends _ _ _ _ _ _ _ (T4.setTop (mkF m 17 #[.val (.ref r0), .val (.int p1), .val (.long q2), .second, .val (.long q3), .second] [(.long q3), (.ref r0)]))
  obtain ⟨T5, h5, X5, e5, W5, st5⟩ := putF X4 hx hZ hown (host := "") (Or.inl (hw _ (List.mem_of_getElem? (i := 20) rfl))) Via.refl e4 F4_r0_low A4_r0 (Or.inr ⟨(hw _ (List.mem_of_getElem? (i := 21) rfl)), rfl, hnm⟩) (hw _ (List.mem_of_getElem? (i := 3) rfl)) (ty := .long) (by decide) rfl rfl (g := (mkF m 17 #[.val (.ref r0), .val (.int p1), .val (.long q2), .second, .val (.long q3), .second] [(.long q3), (.ref r0)])) rfl rfl (hb hby own_d2_17)
  have N5 := Fr.snoc X5 N4 G
  have F5_r0_v6 := Fld.other W5 F4_r0_v6 (Or.inr (RoadKit.slot_ne (Or.inr (hw _ (List.mem_of_getElem? (i := 17) rfl))) (Or.inr (hw _ (List.mem_of_getElem? (i := 21) rfl))) (by decide) (t := .boolean) (t' := .long) (by decide) (by decide)))
  have F5_r0_high := Fld.other W5 F4_r0_high (Or.inr (RoadKit.slot_ne (Or.inr (hw _ (List.mem_of_getElem? (i := 19) rfl))) (Or.inr (hw _ (List.mem_of_getElem? (i := 21) rfl))) (by decide) (t := .long) (t' := .long) (by decide) (by decide)))
  have A5_r0 := Exa.wr W5 A4_r0
  have Z5 := Nat.le_trans Z4 (Keep.of_wr W5).1
  have Kp5 := Kp4.wr W5 (Or.inl (List.mem_of_getElem? (i := 0) rfl))
  have F5_r0_low := Fld.same W5 F4_r0_low
  refine own_step (fun _ k => st5 _ k) ?_
  show own_Ends _ _ _ _ _ _ _ (T5.setTop (mkF m 20 #[.val (.ref r0), .val (.int p1), .val (.long q2), .second, .val (.long q3), .second] []))
  refine own_ret X5 (BodyLoose.notSynchronized Bd) (v := none) (fun _ => rfl) ?_ (by decide) (by decide) (fun fs hr => X5.returnOut hx Bd.returns (hb hby own_d2_20) hr)
  show own_Q2 Z r0 p1 q2 q3  h0 n0 none T5.heap _
  rw [e5]
  exact ⟨rfl, N5, Kp5, A5_r0, F5_r0_v6, F5_r0_high, F5_r0_low⟩
theorem own_d3_0 : decode prog_10_method_4_code 0 = .ok (.aload_n 0, 1) := by decide +kernel
theorem own_d3_1 : decode prog_10_method_4_code 1 = .ok (.getfield 7, 3) := by decide +kernel
theorem own_d3_4 : decode prog_10_method_4_code 4 = .ok (.ifCond .eq 7, 3) := by decide +kernel
theorem own_d3_7 : decode prog_10_method_4_code 7 = .ok (.iload_n 1, 1) := by decide +kernel
theorem own_d3_8 : decode prog_10_method_4_code 8 = .ok (.goto 7, 3) := by decide +kernel
theorem own_d3_11 : decode prog_10_method_4_code 11 = .ok (.bipush 96, 2) := by decide +kernel
theorem own_d3_13 : decode prog_10_method_4_code 13 = .ok (.iload_n 1, 1) := by decide +kernel
theorem own_d3_14 : decode prog_10_method_4_code 14 = .ok (.iadd, 1) := by decide +kernel
theorem own_d3_15 : decode prog_10_method_4_code 15 = .ok (.istore_n 2, 1) := by decide +kernel
theorem own_d3_16 : decode prog_10_method_4_code 16 = .ok (.iload_n 2, 1) := by decide +kernel
theorem own_d3_17 : decode prog_10_method_4_code 17 = .ok (.bipush 64, 2) := by decide +kernel
theorem own_d3_19 : decode prog_10_method_4_code 19 = .ok (.if_icmp .lt 10, 3) := by decide +kernel
theorem own_d3_22 : decode prog_10_method_4_code 22 = .ok (.aload_n 0, 1) := by decide +kernel
theorem own_d3_23 : decode prog_10_method_4_code 23 = .ok (.getfield 13, 3) := by decide +kernel
theorem own_d3_26 : decode prog_10_method_4_code 26 = .ok (.goto 24, 3) := by decide +kernel
theorem own_d3_29 : decode prog_10_method_4_code 29 = .ok (.iload_n 2, 1) := by decide +kernel
theorem own_d3_30 : decode prog_10_method_4_code 30 = .ok (.ifCond .ne 7, 3) := by decide +kernel
theorem own_d3_33 : decode prog_10_method_4_code 33 = .ok (.lconst 0, 1) := by decide +kernel
theorem own_d3_34 : decode prog_10_method_4_code 34 = .ok (.goto 16, 3) := by decide +kernel
theorem own_d3_37 : decode prog_10_method_4_code 37 = .ok (.aload_n 0, 1) := by decide +kernel
theorem own_d3_38 : decode prog_10_method_4_code 38 = .ok (.getfield 13, 3) := by decide +kernel
theorem own_d3_41 : decode prog_10_method_4_code 41 = .ok (.ldc2_w 45, 3) := by decide +kernel
theorem own_d3_44 : decode prog_10_method_4_code 44 = .ok (.bipush 64, 2) := by decide +kernel
theorem own_d3_46 : decode prog_10_method_4_code 46 = .ok (.iload_n 2, 1) := by decide +kernel
theorem own_d3_47 : decode prog_10_method_4_code 47 = .ok (.isub, 1) := by decide +kernel
theorem own_d3_48 : decode prog_10_method_4_code 48 = .ok (.lshl, 1) := by decide +kernel
theorem own_d3_49 : decode prog_10_method_4_code 49 = .ok (.land, 1) := by decide +kernel
theorem own_d3_50 : decode prog_10_method_4_code 50 = .ok (.lstore_n 3, 1) := by decide +kernel
theorem own_d3_51 : decode prog_10_method_4_code 51 = .ok (.iload_n 2, 1) := by decide +kernel
theorem own_d3_52 : decode prog_10_method_4_code 52 = .ok (.bipush 64, 2) := by decide +kernel
theorem own_d3_54 : decode prog_10_method_4_code 54 = .ok (.if_icmp .gt 7, 3) := by decide +kernel
theorem own_d3_57 : decode prog_10_method_4_code 57 = .ok (.lconst 0, 1) := by decide +kernel
theorem own_d3_58 : decode prog_10_method_4_code 58 = .ok (.goto 17, 3) := by decide +kernel
theorem own_d3_61 : decode prog_10_method_4_code 61 = .ok (.aload_n 0, 1) := by decide +kernel
theorem own_d3_62 : decode prog_10_method_4_code 62 = .ok (.getfield 17, 3) := by decide +kernel
theorem own_d3_65 : decode prog_10_method_4_code 65 = .ok (.ldc2_w 45, 3) := by decide +kernel
theorem own_d3_68 : decode prog_10_method_4_code 68 = .ok (.sipush 128, 3) := by decide +kernel
theorem own_d3_71 : decode prog_10_method_4_code 71 = .ok (.iload_n 2, 1) := by decide +kernel
theorem own_d3_72 : decode prog_10_method_4_code 72 = .ok (.isub, 1) := by decide +kernel
theorem own_d3_73 : decode prog_10_method_4_code 73 = .ok (.lshl, 1) := by decide +kernel
theorem own_d3_74 : decode prog_10_method_4_code 74 = .ok (.land, 1) := by decide +kernel
theorem own_d3_75 : decode prog_10_method_4_code 75 = .ok (.lstore 5, 2) := by decide +kernel
theorem own_d3_77 : decode prog_10_method_4_code 77 = .ok (.new 8, 3) := by decide +kernel
theorem own_d3_80 : decode prog_10_method_4_code 80 = .ok (.dup, 1) := by decide +kernel
theorem own_d3_81 : decode prog_10_method_4_code 81 = .ok (.aload_n 0, 1) := by decide +kernel
theorem own_d3_82 : decode prog_10_method_4_code 82 = .ok (.getfield 7, 3) := by decide +kernel
theorem own_d3_85 : decode prog_10_method_4_code 85 = .ok (.lload_n 3, 1) := by decide +kernel
theorem own_d3_86 : decode prog_10_method_4_code 86 = .ok (.lload 5, 2) := by decide +kernel
theorem own_d3_88 : decode prog_10_method_4_code 88 = .ok (.invokespecial 42, 3) := by decide +kernel
theorem own_d3_91 : decode prog_10_method_4_code 91 = .ok (.areturn, 1) := by decide +kernel
theorem own_ef3 (m : MethodId) (r0 : Addr) (p1 : Int32) : entryFrame m #[(.ref r0), (.int p1)] 7 = mkF m 0 #[.val (.ref r0), .val (.int p1), .unset, .unset, .unset, .unset, .unset] [] := by first | (simp [entryFrame, mkF, argsToLocals, Value.category]; done) | rfl
theorem own_pd1 : parseMethodDescriptor "(ZJJ)V" = some ⟨[.boolean, .long, .long], none⟩ := by decide +kernel
def own_Q3 (Z : State) (r0 : Addr) (p1 : Int32) (z : Int32) (hi lo : Int64) (h0 : Heap) (n0 : Nat) (v : Option Value) (h : Heap) (L : List Loc) : Prop := ∃ b : Addr, v = some (.ref b) ∧ Fr n0 L ∧ n0 ≤ b ∧ Keep h0 h [] ∧ Exa Z h b "com/example/rulewright/rulewright/IpAddress" ∧ Fld Z h b "com/example/rulewright/rulewright/IpAddress" "v6" "Z" (.int z) ∧ Fld Z h b "com/example/rulewright/rulewright/IpAddress" "high" "J" (.long (own_mh (own_bits z p1) hi)) ∧ Fld Z h b "com/example/rulewright/rulewright/IpAddress" "low" "J" (.long (own_ml (own_bits z p1) lo))
set_option maxRecDepth 65536 in
set_option maxHeartbeats 40000000 in
theorem own_rm3 (l : Launch) (Z : State) (a0 : Array Value) (hw : ∀ d ∈ tables_1, d.before a0 Z = true) (ws : List Jvm.Cond) (r0 : Addr) (p1 : Int32) (z : Int32) (hi lo : Int64) (h0 : Heap) (n0 : Nat) (Z0 : n0 ≤ h0.size) (F0 : Fld Z h0 r0 "com/example/rulewright/rulewright/IpAddress" "v6" "Z" (.int z)) (F1 : Fld Z h0 r0 "com/example/rulewright/rulewright/IpAddress" "high" "J" (.long hi)) (F2 : Fld Z h0 r0 "com/example/rulewright/rulewright/IpAddress" "low" "J" (.long lo)) (hz : z &&& 1 = z) :
    MetFree l (⟨"com/example/rulewright/rulewright/IpAddress", "masked", "(I)Lcom/example/rulewright/rulewright/IpAddress;"⟩ : MethodName) (head1 (Jvm.Cond.code (⟨"com/example/rulewright/rulewright/IpAddress", "masked", "(I)Lcom/example/rulewright/rulewright/IpAddress;"⟩ : MethodName) prog_10_method_4_code 7 (some (.object "com/example/rulewright/rulewright/IpAddress")) :: ws) ({ frames := 3, cells := 1, slots := 3, locals := 42 } : Room)) (fun a U => a = #[(.ref r0), (.int p1)] ∧ Z.Warmed39 U.vm ∧ U.heap = h0) (fun _ _ _ _ _ => True) (fun _ U o U' => ∃ v L, o = .returned v ∧ own_Q3 Z r0 p1 z hi lo h0 n0 v U'.heap L ∧ FrameEnd U o U' L ({ frames := 3, cells := 1, slots := 3, locals := 42 } : Room).cells ({ frames := 3, cells := 1, slots := 3, locals := 42 } : Room).slots) := by
  refine MetFree.of_bodySF (plainFor_of_name own_pn1) hisR ?_
  intro p e s m args below meth c s₁ Bd hml0 hP hK
  obtain ⟨rfl, hZ, hh⟩ := hP
  have hx := Bd.exec
  have hby := Bd.bytes
  have hml : c.maxLocals = 7 := hml0
  have hown : s.vm.findClass "com/example/rulewright/rulewright/IpAddress" = some m.cls := findClass_of_methodNamed Bd.named
  have hnm := (name_of_methodNamed Bd.named Bd.method).1
  have X0 : Stand p l e ({ frames := 3, cells := 1, slots := 3, locals := 42 } : Room) s m #[(.ref r0), (.int p1)] below meth c s₁ [] 0 0 := Stand.of_body Bd
  have e0 : s₁.heap = h0 := by rw [← hh, Bd.state]; rfl
  have N0 := Fr.nil n0
  suffices H : own_Ends p e below s ({ frames := 3, cells := 1, slots := 3, locals := 42 } : Room).cells ({ frames := 3, cells := 1, slots := 3, locals := 42 } : Room).slots (own_Q3 Z r0 p1 z hi lo h0 n0) (s₁.setTop (mkF m 0 #[.val (.ref r0), .val (.int p1), .unset, .unset, .unset, .unset, .unset] [])) by
    obtain ⟨s₂, o, h1, h2⟩ := H
    exact ⟨s₂, o, castTop (own_ef3 m r0 p1) h1, h2⟩
  show own_Ends _ _ _ _ _ _ _ (s₁.setTop (mkF m 0 #[.val (.ref r0), .val (.int p1), .unset, .unset, .unset, .unset, .unset] []))
  have Kp0 := Keep.refl h0 []
  refine own_step (fun _ k => XS.aloadN X0.here hx rfl (hb hby own_d3_0) rfl rfl k) ?_
  show own_Ends _ _ _ _ _ _ _ (s₁.setTop (mkF m 1 #[.val (.ref r0), .val (.int p1), .unset, .unset, .unset, .unset, .unset] [(.ref r0)]))
  obtain ⟨T6, X6, e6, st6⟩ := getF X0 hx hZ hown (host := "") (Or.inl (hw _ (List.mem_of_getElem? (i := 16) rfl))) Via.refl e0 F0 (g := (mkF m 1 #[.val (.ref r0), .val (.int p1), .unset, .unset, .unset, .unset, .unset] [(.ref r0)])) rfl rfl (hb hby own_d3_1)
  refine own_step (fun _ k => st6 _ k) ?_
  show own_Ends _ _ _ _ _ _ _ (T6.setTop (mkF m 4 #[.val (.ref r0), .val (.int p1), .unset, .unset, .unset, .unset, .unset] [(.int z)]))
  have J16_7 : ∀ (bits : Int32) (hbl : bits = own_bits z p1), own_Ends p e below s ({ frames := 3, cells := 1, slots := 3, locals := 42 } : Room).cells ({ frames := 3, cells := 1, slots := 3, locals := 42 } : Room).slots (own_Q3 Z r0 p1 z hi lo h0 n0) (T6.setTop (mkF m 16 #[.val (.ref r0), .val (.int p1), .val (.int bits), .unset, .unset, .unset, .unset] [])) := by
    intro bits hbl
    show own_Ends _ _ _ _ _ _ _ (T6.setTop (mkF m 16 #[.val (.ref r0), .val (.int p1), .val (.int bits), .unset, .unset, .unset, .unset] []))
    refine own_step (fun _ k => XS.iloadN X6.here hx rfl (hb hby own_d3_16) rfl k) ?_
    show own_Ends _ _ _ _ _ _ _ (T6.setTop (mkF m 17 #[.val (.ref r0), .val (.int p1), .val (.int bits), .unset, .unset, .unset, .unset] [(.int bits)]))
    refine own_step (fun _ k => XS.bipush X6.here hx rfl (hb hby own_d3_17) k) ?_
    show own_Ends _ _ _ _ _ _ _ (T6.setTop (mkF m 19 #[.val (.ref r0), .val (.int p1), .val (.int bits), .unset, .unset, .unset, .unset] [(.int (64 : Int32)), (.int bits)]))
    have J50_8 : ∀ (lJ8 : List Loc) (NJ8 : Fr n0 lJ8) (TJ8 : State) (XJ8 : Stand p l e ({ frames := 3, cells := 1, slots := 3, locals := 42 } : Room) s m #[(.ref r0), (.int p1)] below meth c TJ8 lJ8 0 0) (eJ8 : TJ8.heap = h0) (mh : Int64) (hemh : mh = own_mh bits hi), own_Ends p e below s ({ frames := 3, cells := 1, slots := 3, locals := 42 } : Room).cells ({ frames := 3, cells := 1, slots := 3, locals := 42 } : Room).slots (own_Q3 Z r0 p1 z hi lo h0 n0) (TJ8.setTop (mkF m 50 #[.val (.ref r0), .val (.int p1), .val (.int bits), .unset, .unset, .unset, .unset] [(.long mh)])) := by
      intro lJ8 NJ8 TJ8 XJ8 eJ8 mh hemh
      show own_Ends _ _ _ _ _ _ _ (TJ8.setTop (mkF m 50 #[.val (.ref r0), .val (.int p1), .val (.int bits), .unset, .unset, .unset, .unset] [(.long mh)]))
      refine own_step (fun _ k => XS.lstoreN XJ8.here hx rfl (hb hby own_d3_50) rfl (l' := #[.val (.ref r0), .val (.int p1), .val (.int bits), .val (.long mh), .second, .unset, .unset]) rfl k) ?_
      show own_Ends _ _ _ _ _ _ _ (TJ8.setTop (mkF m 51 #[.val (.ref r0), .val (.int p1), .val (.int bits), .val (.long mh), .second, .unset, .unset] []))
      refine own_step (fun _ k => XS.iloadN XJ8.here hx rfl (hb hby own_d3_51) rfl k) ?_
      show own_Ends _ _ _ _ _ _ _ (TJ8.setTop (mkF m 52 #[.val (.ref r0), .val (.int p1), .val (.int bits), .val (.long mh), .second, .unset, .unset] [(.int bits)]))
      refine own_step (fun _ k => XS.bipush XJ8.here hx rfl (hb hby own_d3_52) k) ?_
      show own_Ends _ _ _ _ _ _ _ (TJ8.setTop (mkF m 54 #[.val (.ref r0), .val (.int p1), .val (.int bits), .val (.long mh), .second, .unset, .unset] [(.int (64 : Int32)), (.int bits)]))
      have J75_11 : ∀ (lJ11 : List Loc) (NJ11 : Fr n0 lJ11) (TJ11 : State) (XJ11 : Stand p l e ({ frames := 3, cells := 1, slots := 3, locals := 42 } : Room) s m #[(.ref r0), (.int p1)] below meth c TJ11 lJ11 0 0) (eJ11 : TJ11.heap = h0) (ml : Int64) (heml : ml = own_ml bits lo), own_Ends p e below s ({ frames := 3, cells := 1, slots := 3, locals := 42 } : Room).cells ({ frames := 3, cells := 1, slots := 3, locals := 42 } : Room).slots (own_Q3 Z r0 p1 z hi lo h0 n0) (TJ11.setTop (mkF m 75 #[.val (.ref r0), .val (.int p1), .val (.int bits), .val (.long mh), .second, .unset, .unset] [(.long ml)])) := by
        intro lJ11 NJ11 TJ11 XJ11 eJ11 ml heml
        show own_Ends _ _ _ _ _ _ _ (TJ11.setTop (mkF m 75 #[.val (.ref r0), .val (.int p1), .val (.int bits), .val (.long mh), .second, .unset, .unset] [(.long ml)]))
        refine own_step (fun _ k => XS.lstore XJ11.here hx rfl (hb hby own_d3_75) rfl (l' := #[.val (.ref r0), .val (.int p1), .val (.int bits), .val (.long mh), .second, .val (.long ml), .second]) rfl k) ?_
        show own_Ends _ _ _ _ _ _ _ (TJ11.setTop (mkF m 77 #[.val (.ref r0), .val (.int p1), .val (.int bits), .val (.long mh), .second, .val (.long ml), .second] []))
        obtain ⟨T13, h13, X13, e13, E13, A13, D13, -, st13⟩ := newO XJ11 hx hZ hown (hw _ (List.mem_of_getElem? (i := 28) rfl)) (hw _ (List.mem_of_getElem? (i := 3) rfl)) (hw _ (List.mem_of_getElem? (i := 4) rfl)) eJ11 (g := (mkF m 77 #[.val (.ref r0), .val (.int p1), .val (.int bits), .val (.long mh), .second, .val (.long ml), .second] [])) rfl (hb hby own_d3_77) (by decide) (by decide)
        obtain ⟨b13, g13⟩ : ∃ z, z = h0.size := ⟨_, rfl⟩
        rw [← g13] at A13 D13 st13
        have gn13 : n0 ≤ b13 := Nat.le_trans Z0 (Nat.le_of_eq g13.symm)
        have bo13 : h0.size ≤ b13 := Nat.le_trans Kp0.1 (Nat.le_of_eq g13.symm)
        have ne13_r0 : r0 ≠ b13 := Nat.ne_of_lt (Nat.lt_of_lt_of_le F0.lt (Nat.le_of_eq g13.symm))
        have F13_r0_v6 := Fld.ext E13 F0
        have F13_r0_high := Fld.ext E13 F1
        have F13_r0_low := Fld.ext E13 F2
        have Z13 := Nat.le_trans Z0 E13.1
        have Kp13 := Kp0.ext E13
        have F13_b13_v6 : Fld Z h13 b13 "com/example/rulewright/rulewright/IpAddress" "v6" "Z" (.int (0 : Int32)) := D13 (Or.inr (hw _ (List.mem_of_getElem? (i := 17) rfl))) (ty := .boolean) (by decide)
        have F13_b13_high : Fld Z h13 b13 "com/example/rulewright/rulewright/IpAddress" "high" "J" (.long (0 : Int64)) := D13 (Or.inr (hw _ (List.mem_of_getElem? (i := 19) rfl))) (ty := .long) (by decide)
        have F13_b13_low : Fld Z h13 b13 "com/example/rulewright/rulewright/IpAddress" "low" "J" (.long (0 : Int64)) := D13 (Or.inr (hw _ (List.mem_of_getElem? (i := 21) rfl))) (ty := .long) (by decide)
        refine own_step (fun _ k => st13 _ k) ?_
        show own_Ends _ _ _ _ _ _ _ (T13.setTop (mkF m 80 #[.val (.ref r0), .val (.int p1), .val (.int bits), .val (.long mh), .second, .val (.long ml), .second] [(.ref b13)]))
        refine own_step (fun _ k => XS.dup X13.here hx rfl (hb hby own_d3_80) rfl rfl k) ?_
        show own_Ends _ _ _ _ _ _ _ (T13.setTop (mkF m 81 #[.val (.ref r0), .val (.int p1), .val (.int bits), .val (.long mh), .second, .val (.long ml), .second] [(.ref b13), (.ref b13)]))
        refine own_step (fun _ k => XS.aloadN X13.here hx rfl (hb hby own_d3_81) rfl rfl k) ?_
        show own_Ends _ _ _ _ _ _ _ (T13.setTop (mkF m 82 #[.val (.ref r0), .val (.int p1), .val (.int bits), .val (.long mh), .second, .val (.long ml), .second] [(.ref r0), (.ref b13), (.ref b13)]))
        obtain ⟨T14, X14, e14, st14⟩ := getF X13 hx hZ hown (host := "") (Or.inl (hw _ (List.mem_of_getElem? (i := 16) rfl))) Via.refl e13 F13_r0_v6 (g := (mkF m 82 #[.val (.ref r0), .val (.int p1), .val (.int bits), .val (.long mh), .second, .val (.long ml), .second] [(.ref r0), (.ref b13), (.ref b13)])) rfl rfl (hb hby own_d3_82)
        refine own_step (fun _ k => st14 _ k) ?_
        show own_Ends _ _ _ _ _ _ _ (T14.setTop (mkF m 85 #[.val (.ref r0), .val (.int p1), .val (.int bits), .val (.long mh), .second, .val (.long ml), .second] [(.int z), (.ref b13), (.ref b13)]))
        refine own_step (fun _ k => XS.lloadN X14.here hx rfl (hb hby own_d3_85) rfl k) ?_
        show own_Ends _ _ _ _ _ _ _ (T14.setTop (mkF m 86 #[.val (.ref r0), .val (.int p1), .val (.int bits), .val (.long mh), .second, .val (.long ml), .second] [(.long mh), (.int z), (.ref b13), (.ref b13)]))
        refine own_step (fun _ k => XS.lload X14.here hx rfl (hb hby own_d3_86) rfl k) ?_
        show own_Ends _ _ _ _ _ _ _ (T14.setTop (mkF m 88 #[.val (.ref r0), .val (.int p1), .val (.int bits), .val (.long mh), .second, .val (.long ml), .second] [(.long ml), (.long mh), (.int z), (.ref b13), (.ref b13)]))
        obtain ⟨_, _, ⟨T15, L15, k15, n15⟩, -, X15, ⟨Lc15, hQ15, l15, y15, z15⟩, st15⟩ := X14.specialBack hx (y := (⟨"com/example/rulewright/rulewright/IpAddress", "<init>", "(ZJJ)V"⟩ : MethodName)) rfl hown (mvT hZ (hw _ (List.mem_of_getElem? (i := 29) rfl))) (mvT hZ (hw _ (List.mem_of_getElem? (i := 6) rfl))) (mvT hZ (hw _ (List.mem_of_getElem? (i := 7) rfl))) (by decide) (backOf (W := 1) (own_rm2 l Z a0 hw [] b13 z mh ml  h13 n0 Z13 F13_b13_v6 F13_b13_high F13_b13_low A13 gn13 hz) hZ (hw _ (List.mem_of_getElem? (i := 7) rfl)) (hw _ (List.mem_of_getElem? (i := 4) rfl)) (by decide) (by decide)) (g := (mkF m 88 #[.val (.ref r0), .val (.int p1), .val (.int bits), .val (.long mh), .second, .val (.long ml), .second] [(.long ml), (.long mh), (.int z), (.ref b13), (.ref b13)])) rfl (by rw [hml]; rfl) (Steps.refl _) (a := b13) (argsL := [(.int z), (.long mh), (.long ml)]) (rest := [(.ref b13)]) (lenOf own_pd1 rfl) rfl (by show 2 * 0 + _ ≤ _; exact Nat.le_of_eq rfl) (hb hby own_d3_88) (fun _ _ => ⟨rfl, e14, (by decide : 1 + 0 ≤ _), (by decide : 3 + 0 ≤ _)⟩)
        dsimp only [Pt.U, Pt.locs, Pt.cells, Pt.slots] at X15 l15 y15 z15 st15 hQ15
        subst l15 y15 z15
        obtain ⟨rfl, Nq15, K15, A15, G0_15, G1_15, G2_15⟩ := hQ15
        have N15 := Fr.app NJ11 Nq15
        refine own_step (fun _ k => st15.trans k) ?_
        show own_Ends _ _ _ _ _ _ _ (T15.setTop (mkF m 91 #[.val (.ref r0), .val (.int p1), .val (.int bits), .val (.long mh), .second, .val (.long ml), .second] [(.ref b13)]))
        have Z15 := Nat.le_trans Z13 K15.1
        have Kp15 := Kp13.trans K15 ((allS (Or.inr bo13) all0))
        subst hemh heml hbl
        refine own_ret X15 (BodyLoose.notSynchronized Bd) (v := (some (.ref b13))) (fun h => by rw [Bd.returns] at h; cases h) ?_ (by decide) (by decide) (fun fs hr => X15.areturnOut hx rfl Bd.returns rfl (hb hby own_d3_91) hr)
        show own_Q3 Z r0 p1 z hi lo h0 n0 (some (.ref b13)) T15.heap _
        skip
        exact ⟨_, rfl, N15, gn13, Kp15, A15, G0_15, G1_15, G2_15⟩
      by_cases h4 : (64 : Int32) < bits
      · refine own_step (fun _ k => XS.icmpYes XJ8.here hx rfl (pc0 := 54) (pc' := 61) rfl (hb hby own_d3_54) rfl (tlt h4).2.2.1 (by decide) (by decide) k) ?_
        show own_Ends _ _ _ _ _ _ _ (TJ8.setTop (mkF m 61 #[.val (.ref r0), .val (.int p1), .val (.int bits), .val (.long mh), .second, .unset, .unset] []))
        refine own_step (fun _ k => XS.aloadN XJ8.here hx rfl (hb hby own_d3_61) rfl rfl k) ?_
        show own_Ends _ _ _ _ _ _ _ (TJ8.setTop (mkF m 62 #[.val (.ref r0), .val (.int p1), .val (.int bits), .val (.long mh), .second, .unset, .unset] [(.ref r0)]))
        obtain ⟨T12, X12, e12, st12⟩ := getF XJ8 hx hZ hown (host := "") (Or.inl (hw _ (List.mem_of_getElem? (i := 20) rfl))) Via.refl eJ8 F2 (g := (mkF m 62 #[.val (.ref r0), .val (.int p1), .val (.int bits), .val (.long mh), .second, .unset, .unset] [(.ref r0)])) rfl rfl (hb hby own_d3_62)
        refine own_step (fun _ k => st12 _ k) ?_
        show own_Ends _ _ _ _ _ _ _ (T12.setTop (mkF m 65 #[.val (.ref r0), .val (.int p1), .val (.int bits), .val (.long mh), .second, .unset, .unset] [(.long lo)]))
        refine own_step (fun _ k => X12.ldc2Long hx hown (mvT hZ (hw _ (List.mem_of_getElem? (i := 27) rfl))) (g := (mkF m 65 #[.val (.ref r0), .val (.int p1), .val (.int bits), .val (.long mh), .second, .unset, .unset] [(.long lo)])) rfl (hb hby own_d3_65) _ k) ?_
        show own_Ends _ _ _ _ _ _ _ (T12.setTop (mkF m 68 #[.val (.ref r0), .val (.int p1), .val (.int bits), .val (.long mh), .second, .unset, .unset] [(.long (-1 : Int64)), (.long lo)]))
        refine own_step (fun _ k => XS.sipush X12.here hx rfl (hb hby own_d3_68) k) ?_
        show own_Ends _ _ _ _ _ _ _ (T12.setTop (mkF m 71 #[.val (.ref r0), .val (.int p1), .val (.int bits), .val (.long mh), .second, .unset, .unset] [(.int (128 : Int32)), (.long (-1 : Int64)), (.long lo)]))
        refine own_step (fun _ k => XS.iloadN X12.here hx rfl (hb hby own_d3_71) rfl k) ?_
        show own_Ends _ _ _ _ _ _ _ (T12.setTop (mkF m 72 #[.val (.ref r0), .val (.int p1), .val (.int bits), .val (.long mh), .second, .unset, .unset] [(.int bits), (.int (128 : Int32)), (.long (-1 : Int64)), (.long lo)]))
        refine own_step (fun _ k => XS.isub X12.here hx rfl (hb hby own_d3_72) rfl k) ?_
        show own_Ends _ _ _ _ _ _ _ (T12.setTop (mkF m 73 #[.val (.ref r0), .val (.int p1), .val (.int bits), .val (.long mh), .second, .unset, .unset] [(.int ((128 : Int32) - bits)), (.long (-1 : Int64)), (.long lo)]))
        refine own_step (fun _ k => XT.lshl X12.here hx rfl (hb hby own_d3_73) rfl k) ?_
        show own_Ends _ _ _ _ _ _ _ (T12.setTop (mkF m 74 #[.val (.ref r0), .val (.int p1), .val (.int bits), .val (.long mh), .second, .unset, .unset] [(.long ((-1 : Int64) <<< ((((128 : Int32) - bits)).toInt64 &&& 63))), (.long lo)]))
        show own_Ends _ _ _ _ _ _ _ (T12.setTop (mkF m 74 #[.val (.ref r0), .val (.int p1), .val (.int bits), .val (.long mh), .second, .unset, .unset] [(.long (own_sl (-1 : Int64) ((128 : Int32) - bits))), (.long lo)]))
        refine own_step (fun _ k => XS.land X12.here hx rfl (hb hby own_d3_74) rfl k) ?_
        show own_Ends _ _ _ _ _ _ _ (T12.setTop (mkF m 75 #[.val (.ref r0), .val (.int p1), .val (.int bits), .val (.long mh), .second, .unset, .unset] [(.long (lo &&& (own_sl (-1 : Int64) ((128 : Int32) - bits))))]))
        exact J75_11 _ NJ8 _ X12 e12 _ (by simp [own_ml, h4])
      · refine own_step (fun _ k => XS.icmpNo XJ8.here hx rfl (hb hby own_d3_54) rfl (flt h4).2.2.1 k) ?_
        show own_Ends _ _ _ _ _ _ _ (TJ8.setTop (mkF m 57 #[.val (.ref r0), .val (.int p1), .val (.int bits), .val (.long mh), .second, .unset, .unset] []))
        refine own_step (fun _ k => XS.lconst XJ8.here hx rfl (hb hby own_d3_57) k) ?_
        show own_Ends _ _ _ _ _ _ _ (TJ8.setTop (mkF m 58 #[.val (.ref r0), .val (.int p1), .val (.int bits), .val (.long mh), .second, .unset, .unset] [(.long (0 : Int64))]))
        refine own_step (fun _ k => XS.goto XJ8.here hx rfl (pc0 := 58) (pc' := 75) rfl (hb hby own_d3_58) (by decide) (by decide) k) ?_
        show own_Ends _ _ _ _ _ _ _ (TJ8.setTop (mkF m 75 #[.val (.ref r0), .val (.int p1), .val (.int bits), .val (.long mh), .second, .unset, .unset] [(.long (0 : Int64))]))
        exact J75_11 _ NJ8 _ XJ8 eJ8 _ (by simp [own_ml, h4])
    by_cases h2 : bits < (64 : Int32)
    · refine own_step (fun _ k => XS.icmpYes X6.here hx rfl (pc0 := 19) (pc' := 29) rfl (hb hby own_d3_19) rfl (tlt h2).1 (by decide) (by decide) k) ?_
      show own_Ends _ _ _ _ _ _ _ (T6.setTop (mkF m 29 #[.val (.ref r0), .val (.int p1), .val (.int bits), .unset, .unset, .unset, .unset] []))
      refine own_step (fun _ k => XS.iloadN X6.here hx rfl (hb hby own_d3_29) rfl k) ?_
      show own_Ends _ _ _ _ _ _ _ (T6.setTop (mkF m 30 #[.val (.ref r0), .val (.int p1), .val (.int bits), .unset, .unset, .unset, .unset] [(.int bits)]))
      by_cases h3 : bits = (0 : Int32)
      · refine own_step (fun _ k => XS.ifNo X6.here hx rfl (hb hby own_d3_30) rfl ((if0 _ _).trans (teq h3).2) k) ?_
        show own_Ends _ _ _ _ _ _ _ (T6.setTop (mkF m 33 #[.val (.ref r0), .val (.int p1), .val (.int bits), .unset, .unset, .unset, .unset] []))
        refine own_step (fun _ k => XS.lconst X6.here hx rfl (hb hby own_d3_33) k) ?_
        show own_Ends _ _ _ _ _ _ _ (T6.setTop (mkF m 34 #[.val (.ref r0), .val (.int p1), .val (.int bits), .unset, .unset, .unset, .unset] [(.long (0 : Int64))]))
        refine own_step (fun _ k => XS.goto X6.here hx rfl (pc0 := 34) (pc' := 50) rfl (hb hby own_d3_34) (by decide) (by decide) k) ?_
        show own_Ends _ _ _ _ _ _ _ (T6.setTop (mkF m 50 #[.val (.ref r0), .val (.int p1), .val (.int bits), .unset, .unset, .unset, .unset] [(.long (0 : Int64))]))
        exact J50_8 _ N0 _ X6 e6 _ (by simp [own_mh, h2, h3])
      · refine own_step (fun _ k => XS.ifYes X6.here hx rfl (pc0 := 30) (pc' := 37) rfl (hb hby own_d3_30) rfl ((if0 _ _).trans (feq h3).2) (by decide) (by decide) k) ?_
        show own_Ends _ _ _ _ _ _ _ (T6.setTop (mkF m 37 #[.val (.ref r0), .val (.int p1), .val (.int bits), .unset, .unset, .unset, .unset] []))
        refine own_step (fun _ k => XS.aloadN X6.here hx rfl (hb hby own_d3_37) rfl rfl k) ?_
        show own_Ends _ _ _ _ _ _ _ (T6.setTop (mkF m 38 #[.val (.ref r0), .val (.int p1), .val (.int bits), .unset, .unset, .unset, .unset] [(.ref r0)]))
        obtain ⟨T10, X10, e10, st10⟩ := getF X6 hx hZ hown (host := "") (Or.inl (hw _ (List.mem_of_getElem? (i := 18) rfl))) Via.refl e6 F1 (g := (mkF m 38 #[.val (.ref r0), .val (.int p1), .val (.int bits), .unset, .unset, .unset, .unset] [(.ref r0)])) rfl rfl (hb hby own_d3_38)
        refine own_step (fun _ k => st10 _ k) ?_
        show own_Ends _ _ _ _ _ _ _ (T10.setTop (mkF m 41 #[.val (.ref r0), .val (.int p1), .val (.int bits), .unset, .unset, .unset, .unset] [(.long hi)]))
        refine own_step (fun _ k => X10.ldc2Long hx hown (mvT hZ (hw _ (List.mem_of_getElem? (i := 27) rfl))) (g := (mkF m 41 #[.val (.ref r0), .val (.int p1), .val (.int bits), .unset, .unset, .unset, .unset] [(.long hi)])) rfl (hb hby own_d3_41) _ k) ?_
        show own_Ends _ _ _ _ _ _ _ (T10.setTop (mkF m 44 #[.val (.ref r0), .val (.int p1), .val (.int bits), .unset, .unset, .unset, .unset] [(.long (-1 : Int64)), (.long hi)]))
        refine own_step (fun _ k => XS.bipush X10.here hx rfl (hb hby own_d3_44) k) ?_
        show own_Ends _ _ _ _ _ _ _ (T10.setTop (mkF m 46 #[.val (.ref r0), .val (.int p1), .val (.int bits), .unset, .unset, .unset, .unset] [(.int (64 : Int32)), (.long (-1 : Int64)), (.long hi)]))
        refine own_step (fun _ k => XS.iloadN X10.here hx rfl (hb hby own_d3_46) rfl k) ?_
        show own_Ends _ _ _ _ _ _ _ (T10.setTop (mkF m 47 #[.val (.ref r0), .val (.int p1), .val (.int bits), .unset, .unset, .unset, .unset] [(.int bits), (.int (64 : Int32)), (.long (-1 : Int64)), (.long hi)]))
        refine own_step (fun _ k => XS.isub X10.here hx rfl (hb hby own_d3_47) rfl k) ?_
        show own_Ends _ _ _ _ _ _ _ (T10.setTop (mkF m 48 #[.val (.ref r0), .val (.int p1), .val (.int bits), .unset, .unset, .unset, .unset] [(.int ((64 : Int32) - bits)), (.long (-1 : Int64)), (.long hi)]))
        refine own_step (fun _ k => XT.lshl X10.here hx rfl (hb hby own_d3_48) rfl k) ?_
        show own_Ends _ _ _ _ _ _ _ (T10.setTop (mkF m 49 #[.val (.ref r0), .val (.int p1), .val (.int bits), .unset, .unset, .unset, .unset] [(.long ((-1 : Int64) <<< ((((64 : Int32) - bits)).toInt64 &&& 63))), (.long hi)]))
        show own_Ends _ _ _ _ _ _ _ (T10.setTop (mkF m 49 #[.val (.ref r0), .val (.int p1), .val (.int bits), .unset, .unset, .unset, .unset] [(.long (own_sl (-1 : Int64) ((64 : Int32) - bits))), (.long hi)]))
        refine own_step (fun _ k => XS.land X10.here hx rfl (hb hby own_d3_49) rfl k) ?_
        show own_Ends _ _ _ _ _ _ _ (T10.setTop (mkF m 50 #[.val (.ref r0), .val (.int p1), .val (.int bits), .unset, .unset, .unset, .unset] [(.long (hi &&& (own_sl (-1 : Int64) ((64 : Int32) - bits))))]))
        exact J50_8 _ N0 _ X10 e10 _ (by simp [own_mh, h2, h3])
    · refine own_step (fun _ k => XS.icmpNo X6.here hx rfl (hb hby own_d3_19) rfl (flt h2).1 k) ?_
      show own_Ends _ _ _ _ _ _ _ (T6.setTop (mkF m 22 #[.val (.ref r0), .val (.int p1), .val (.int bits), .unset, .unset, .unset, .unset] []))
      refine own_step (fun _ k => XS.aloadN X6.here hx rfl (hb hby own_d3_22) rfl rfl k) ?_
      show own_Ends _ _ _ _ _ _ _ (T6.setTop (mkF m 23 #[.val (.ref r0), .val (.int p1), .val (.int bits), .unset, .unset, .unset, .unset] [(.ref r0)]))
      obtain ⟨T9, X9, e9, st9⟩ := getF X6 hx hZ hown (host := "") (Or.inl (hw _ (List.mem_of_getElem? (i := 18) rfl))) Via.refl e6 F1 (g := (mkF m 23 #[.val (.ref r0), .val (.int p1), .val (.int bits), .unset, .unset, .unset, .unset] [(.ref r0)])) rfl rfl (hb hby own_d3_23)
      refine own_step (fun _ k => st9 _ k) ?_
      show own_Ends _ _ _ _ _ _ _ (T9.setTop (mkF m 26 #[.val (.ref r0), .val (.int p1), .val (.int bits), .unset, .unset, .unset, .unset] [(.long hi)]))
      refine own_step (fun _ k => XS.goto X9.here hx rfl (pc0 := 26) (pc' := 50) rfl (hb hby own_d3_26) (by decide) (by decide) k) ?_
      show own_Ends _ _ _ _ _ _ _ (T9.setTop (mkF m 50 #[.val (.ref r0), .val (.int p1), .val (.int bits), .unset, .unset, .unset, .unset] [(.long hi)]))
      exact J50_8 _ N0 _ X9 e9 _ (by simp [own_mh, h2])
  by_cases h1 : z = (0 : Int32)
  · refine own_step (fun _ k => XS.ifYes X6.here hx rfl (pc0 := 4) (pc' := 11) rfl (hb hby own_d3_4) rfl ((if0 _ _).trans (teq h1).1) (by decide) (by decide) k) ?_
    show own_Ends _ _ _ _ _ _ _ (T6.setTop (mkF m 11 #[.val (.ref r0), .val (.int p1), .unset, .unset, .unset, .unset, .unset] []))
    refine own_step (fun _ k => XS.bipush X6.here hx rfl (hb hby own_d3_11) k) ?_
    show own_Ends _ _ _ _ _ _ _ (T6.setTop (mkF m 13 #[.val (.ref r0), .val (.int p1), .unset, .unset, .unset, .unset, .unset] [(.int (96 : Int32))]))
    refine own_step (fun _ k => XS.iloadN X6.here hx rfl (hb hby own_d3_13) rfl k) ?_
    show own_Ends _ _ _ _ _ _ _ (T6.setTop (mkF m 14 #[.val (.ref r0), .val (.int p1), .unset, .unset, .unset, .unset, .unset] [(.int p1), (.int (96 : Int32))]))
    refine own_step (fun _ k => XS.iadd X6.here hx rfl (hb hby own_d3_14) rfl k) ?_
    show own_Ends _ _ _ _ _ _ _ (T6.setTop (mkF m 15 #[.val (.ref r0), .val (.int p1), .unset, .unset, .unset, .unset, .unset] [(.int ((96 : Int32) + p1))]))
    refine own_step (fun _ k => XS.istoreN X6.here hx rfl (hb hby own_d3_15) rfl (l' := #[.val (.ref r0), .val (.int p1), .val (.int ((96 : Int32) + p1)), .unset, .unset, .unset, .unset]) rfl k) ?_
    show own_Ends _ _ _ _ _ _ _ (T6.setTop (mkF m 16 #[.val (.ref r0), .val (.int p1), .val (.int ((96 : Int32) + p1)), .unset, .unset, .unset, .unset] []))
    exact J16_7 _ (by simp [own_bits, h1])
  · refine own_step (fun _ k => XS.ifNo X6.here hx rfl (hb hby own_d3_4) rfl ((if0 _ _).trans (feq h1).1) k) ?_
    show own_Ends _ _ _ _ _ _ _ (T6.setTop (mkF m 7 #[.val (.ref r0), .val (.int p1), .unset, .unset, .unset, .unset, .unset] []))
    refine own_step (fun _ k => XS.iloadN X6.here hx rfl (hb hby own_d3_7) rfl k) ?_
    show own_Ends _ _ _ _ _ _ _ (T6.setTop (mkF m 8 #[.val (.ref r0), .val (.int p1), .unset, .unset, .unset, .unset, .unset] [(.int p1)]))
    refine own_step (fun _ k => XS.goto X6.here hx rfl (pc0 := 8) (pc' := 15) rfl (hb hby own_d3_8) (by decide) (by decide) k) ?_
    show own_Ends _ _ _ _ _ _ _ (T6.setTop (mkF m 15 #[.val (.ref r0), .val (.int p1), .unset, .unset, .unset, .unset, .unset] [(.int p1)]))
    refine own_step (fun _ k => XS.istoreN X6.here hx rfl (hb hby own_d3_15) rfl (l' := #[.val (.ref r0), .val (.int p1), .val (.int p1), .unset, .unset, .unset, .unset]) rfl k) ?_
    show own_Ends _ _ _ _ _ _ _ (T6.setTop (mkF m 16 #[.val (.ref r0), .val (.int p1), .val (.int p1), .unset, .unset, .unset, .unset] []))
    exact J16_7 _ (by simp [own_bits, h1])
theorem own_d4_0 : decode method_2_code 0 = .ok (.iload_n 2, 1) := by decide +kernel
theorem own_d4_1 : decode method_2_code 1 = .ok (.ifCond .ne 5, 3) := by decide +kernel
theorem own_d4_4 : decode method_2_code 4 = .ok (.lconst 0, 1) := by decide +kernel
theorem own_d4_5 : decode method_2_code 5 = .ok (.lreturn, 1) := by decide +kernel
theorem own_d4_6 : decode method_2_code 6 = .ok (.lload_n 0, 1) := by decide +kernel
theorem own_d4_7 : decode method_2_code 7 = .ok (.bipush 64, 2) := by decide +kernel
theorem own_d4_9 : decode method_2_code 9 = .ok (.iload_n 2, 1) := by decide +kernel
theorem own_d4_10 : decode method_2_code 10 = .ok (.isub, 1) := by decide +kernel
theorem own_d4_11 : decode method_2_code 11 = .ok (.lushr, 1) := by decide +kernel
theorem own_d4_12 : decode method_2_code 12 = .ok (.bipush 64, 2) := by decide +kernel
theorem own_d4_14 : decode method_2_code 14 = .ok (.iload_n 2, 1) := by decide +kernel
theorem own_d4_15 : decode method_2_code 15 = .ok (.isub, 1) := by decide +kernel
theorem own_d4_16 : decode method_2_code 16 = .ok (.lshl, 1) := by decide +kernel
theorem own_d4_17 : decode method_2_code 17 = .ok (.lreturn, 1) := by decide +kernel
theorem own_pn2 : plainName "com/example/rulewright/rulewright/IpAddressMaskedPinLaw" = true := by first | (simp [plainName, overriddenIn]; done) | decide +kernel
theorem own_ef4 (m : MethodId) (q0 : Int64) (p1 : Int32) : entryFrame m #[(.long q0), (.int p1)] 3 = mkF m 0 #[.val (.long q0), .second, .val (.int p1)] [] := by first | (simp [entryFrame, mkF, argsToLocals, Value.category]; done) | rfl
def own_Q4 (Z : State) (q0 : Int64) (p1 : Int32)  (h0 : Heap) (n0 : Nat) (v : Option Value) (h : Heap) (L : List Loc) : Prop := v = some (.long (own_top q0 p1)) ∧ Fr n0 L ∧ h = h0
set_option maxRecDepth 65536 in
set_option maxHeartbeats 40000000 in
theorem own_rm4 (l : Launch) (Z : State) (a0 : Array Value) (hw : ∀ d ∈ tables_1, d.before a0 Z = true) (ws : List Jvm.Cond) (q0 : Int64) (p1 : Int32)  (h0 : Heap) (n0 : Nat) (Z0 : n0 ≤ h0.size)  :
    MetFree l (⟨"com/example/rulewright/rulewright/IpAddressMaskedPinLaw", "top", "(JI)J"⟩ : MethodName) (head1 (Jvm.Cond.code (⟨"com/example/rulewright/rulewright/IpAddressMaskedPinLaw", "top", "(JI)J"⟩ : MethodName) method_2_code 3 (some .long) :: ws) ({ frames := 0, cells := 0, slots := 0, locals := 0 } : Room)) (fun a U => a = #[(.long q0), (.int p1)] ∧ Z.Warmed39 U.vm ∧ U.heap = h0) (fun _ _ _ _ _ => True) (fun _ U o U' => ∃ v L, o = .returned v ∧ own_Q4 Z q0 p1  h0 n0 v U'.heap L ∧ FrameEnd U o U' L ({ frames := 0, cells := 0, slots := 0, locals := 0 } : Room).cells ({ frames := 0, cells := 0, slots := 0, locals := 0 } : Room).slots) := by
  refine MetFree.of_bodySF (plainFor_of_name own_pn2) hisR ?_
  intro p e s m args below meth c s₁ Bd hml0 hP hK
  obtain ⟨rfl, hZ, hh⟩ := hP
  have hx := Bd.exec
  have hby := Bd.bytes
  have hml : c.maxLocals = 3 := hml0
  have hown : s.vm.findClass "com/example/rulewright/rulewright/IpAddressMaskedPinLaw" = some m.cls := findClass_of_methodNamed Bd.named
  have hnm := (name_of_methodNamed Bd.named Bd.method).1
  have X0 : Stand p l e ({ frames := 0, cells := 0, slots := 0, locals := 0 } : Room) s m #[(.long q0), (.int p1)] below meth c s₁ [] 0 0 := Stand.of_body Bd
  have e0 : s₁.heap = h0 := by rw [← hh, Bd.state]; rfl
  have N0 := Fr.nil n0
  suffices H : own_Ends p e below s ({ frames := 0, cells := 0, slots := 0, locals := 0 } : Room).cells ({ frames := 0, cells := 0, slots := 0, locals := 0 } : Room).slots (own_Q4 Z q0 p1  h0 n0) (s₁.setTop (mkF m 0 #[.val (.long q0), .second, .val (.int p1)] [])) by
    obtain ⟨s₂, o, h1, h2⟩ := H
    exact ⟨s₂, o, castTop (own_ef4 m q0 p1) h1, h2⟩
  show own_Ends _ _ _ _ _ _ _ (s₁.setTop (mkF m 0 #[.val (.long q0), .second, .val (.int p1)] []))
  refine own_step (fun _ k => XS.iloadN X0.here hx rfl (hb hby own_d4_0) rfl k) ?_
  show own_Ends _ _ _ _ _ _ _ (s₁.setTop (mkF m 1 #[.val (.long q0), .second, .val (.int p1)] [(.int p1)]))
  by_cases h1 : p1 = (0 : Int32)
  · refine own_step (fun _ k => XS.ifNo X0.here hx rfl (hb hby own_d4_1) rfl ((if0 _ _).trans (teq h1).2) k) ?_
    show own_Ends _ _ _ _ _ _ _ (s₁.setTop (mkF m 4 #[.val (.long q0), .second, .val (.int p1)] []))
    refine own_step (fun _ k => XS.lconst X0.here hx rfl (hb hby own_d4_4) k) ?_
    show own_Ends _ _ _ _ _ _ _ (s₁.setTop (mkF m 5 #[.val (.long q0), .second, .val (.int p1)] [(.long (0 : Int64))]))
    refine own_ret X0 (BodyLoose.notSynchronized Bd) (v := (some (.long (0 : Int64)))) (fun h => by rw [Bd.returns] at h; cases h) ?_ (by decide) (by decide) (fun fs hr => X0.lreturnOut hx Bd.returns (hb hby own_d4_5) hr)
    show own_Q4 Z q0 p1  h0 n0 (some (.long (0 : Int64))) s₁.heap _
    rw [e0]
    exact ⟨by simp [own_top, h1], N0, rfl⟩
  · refine own_step (fun _ k => XS.ifYes X0.here hx rfl (pc0 := 1) (pc' := 6) rfl (hb hby own_d4_1) rfl ((if0 _ _).trans (feq h1).2) (by decide) (by decide) k) ?_
    show own_Ends _ _ _ _ _ _ _ (s₁.setTop (mkF m 6 #[.val (.long q0), .second, .val (.int p1)] []))
    refine own_step (fun _ k => XS.lloadN X0.here hx rfl (hb hby own_d4_6) rfl k) ?_
    show own_Ends _ _ _ _ _ _ _ (s₁.setTop (mkF m 7 #[.val (.long q0), .second, .val (.int p1)] [(.long q0)]))
    refine own_step (fun _ k => XS.bipush X0.here hx rfl (hb hby own_d4_7) k) ?_
    show own_Ends _ _ _ _ _ _ _ (s₁.setTop (mkF m 9 #[.val (.long q0), .second, .val (.int p1)] [(.int (64 : Int32)), (.long q0)]))
    refine own_step (fun _ k => XS.iloadN X0.here hx rfl (hb hby own_d4_9) rfl k) ?_
    show own_Ends _ _ _ _ _ _ _ (s₁.setTop (mkF m 10 #[.val (.long q0), .second, .val (.int p1)] [(.int p1), (.int (64 : Int32)), (.long q0)]))
    refine own_step (fun _ k => XS.isub X0.here hx rfl (hb hby own_d4_10) rfl k) ?_
    show own_Ends _ _ _ _ _ _ _ (s₁.setTop (mkF m 11 #[.val (.long q0), .second, .val (.int p1)] [(.int ((64 : Int32) - p1)), (.long q0)]))
    refine own_step (fun _ k => XT.lushr X0.here hx rfl (hb hby own_d4_11) rfl k) ?_
    show own_Ends _ _ _ _ _ _ _ (s₁.setTop (mkF m 12 #[.val (.long q0), .second, .val (.int p1)] [(.long (XT.ushrL q0 ((64 : Int32) - p1)))]))
    refine own_step (fun _ k => XS.bipush X0.here hx rfl (hb hby own_d4_12) k) ?_
    show own_Ends _ _ _ _ _ _ _ (s₁.setTop (mkF m 14 #[.val (.long q0), .second, .val (.int p1)] [(.int (64 : Int32)), (.long (XT.ushrL q0 ((64 : Int32) - p1)))]))
    refine own_step (fun _ k => XS.iloadN X0.here hx rfl (hb hby own_d4_14) rfl k) ?_
    show own_Ends _ _ _ _ _ _ _ (s₁.setTop (mkF m 15 #[.val (.long q0), .second, .val (.int p1)] [(.int p1), (.int (64 : Int32)), (.long (XT.ushrL q0 ((64 : Int32) - p1)))]))
    refine own_step (fun _ k => XS.isub X0.here hx rfl (hb hby own_d4_15) rfl k) ?_
    show own_Ends _ _ _ _ _ _ _ (s₁.setTop (mkF m 16 #[.val (.long q0), .second, .val (.int p1)] [(.int ((64 : Int32) - p1)), (.long (XT.ushrL q0 ((64 : Int32) - p1)))]))
    refine own_step (fun _ k => XT.lshl X0.here hx rfl (hb hby own_d4_16) rfl k) ?_
    show own_Ends _ _ _ _ _ _ _ (s₁.setTop (mkF m 17 #[.val (.long q0), .second, .val (.int p1)] [(.long ((XT.ushrL q0 ((64 : Int32) - p1)) <<< ((((64 : Int32) - p1)).toInt64 &&& 63)))]))
    show own_Ends _ _ _ _ _ _ _ (s₁.setTop (mkF m 17 #[.val (.long q0), .second, .val (.int p1)] [(.long (own_sl (XT.ushrL q0 ((64 : Int32) - p1)) ((64 : Int32) - p1)))]))
    refine own_ret X0 (BodyLoose.notSynchronized Bd) (v := (some (.long (own_sl (XT.ushrL q0 ((64 : Int32) - p1)) ((64 : Int32) - p1))))) (fun h => by rw [Bd.returns] at h; cases h) ?_ (by decide) (by decide) (fun fs hr => X0.lreturnOut hx Bd.returns (hb hby own_d4_17) hr)
    show own_Q4 Z q0 p1  h0 n0 (some (.long (own_sl (XT.ushrL q0 ((64 : Int32) - p1)) ((64 : Int32) - p1)))) s₁.heap _
    rw [e0]
    exact ⟨by simp [own_top, h1], N0, rfl⟩
theorem own_d5_0 : decode prog_10_method_14_code 0 = .ok (.aload_n 0, 1) := by decide +kernel
theorem own_d5_1 : decode prog_10_method_14_code 1 = .ok (.getfield 7, 3) := by decide +kernel
theorem own_d5_4 : decode prog_10_method_14_code 4 = .ok (.ireturn, 1) := by decide +kernel
theorem own_ef5 (m : MethodId) (r0 : Addr) : entryFrame m #[(.ref r0)] 1 = mkF m 0 #[.val (.ref r0)] [] := by first | (simp [entryFrame, mkF, argsToLocals, Value.category]; done) | rfl
def own_Q5 (Z : State) (r0 : Addr) (w : Int32) (h0 : Heap) (n0 : Nat) (v : Option Value) (h : Heap) (L : List Loc) : Prop := v = some (.int w) ∧ Fr n0 L ∧ h = h0
set_option maxRecDepth 65536 in
set_option maxHeartbeats 40000000 in
theorem own_rm5 (l : Launch) (Z : State) (a0 : Array Value) (hw : ∀ d ∈ tables_1, d.before a0 Z = true) (ws : List Jvm.Cond) (r0 : Addr) (w : Int32) (h0 : Heap) (n0 : Nat) (Z0 : n0 ≤ h0.size) (F0 : Fld Z h0 r0 "com/example/rulewright/rulewright/IpAddress" "v6" "Z" (.int w)) (hz : w &&& 1 = w) :
    MetFree l (⟨"com/example/rulewright/rulewright/IpAddress", "v6", "()Z"⟩ : MethodName) (head1 (Jvm.Cond.code (⟨"com/example/rulewright/rulewright/IpAddress", "v6", "()Z"⟩ : MethodName) prog_10_method_14_code 1 (some .boolean) :: ws) ({ frames := 0, cells := 0, slots := 0, locals := 0 } : Room)) (fun a U => a = #[(.ref r0)] ∧ Z.Warmed39 U.vm ∧ U.heap = h0) (fun _ _ _ _ _ => True) (fun _ U o U' => ∃ v L, o = .returned v ∧ own_Q5 Z r0 w h0 n0 v U'.heap L ∧ FrameEnd U o U' L ({ frames := 0, cells := 0, slots := 0, locals := 0 } : Room).cells ({ frames := 0, cells := 0, slots := 0, locals := 0 } : Room).slots) := by
  refine MetFree.of_bodySF (plainFor_of_name own_pn1) hisR ?_
  intro p e s m args below meth c s₁ Bd hml0 hP hK
  obtain ⟨rfl, hZ, hh⟩ := hP
  have hx := Bd.exec
  have hby := Bd.bytes
  have hml : c.maxLocals = 1 := hml0
  have hown : s.vm.findClass "com/example/rulewright/rulewright/IpAddress" = some m.cls := findClass_of_methodNamed Bd.named
  have hnm := (name_of_methodNamed Bd.named Bd.method).1
  have X0 : Stand p l e ({ frames := 0, cells := 0, slots := 0, locals := 0 } : Room) s m #[(.ref r0)] below meth c s₁ [] 0 0 := Stand.of_body Bd
  have e0 : s₁.heap = h0 := by rw [← hh, Bd.state]; rfl
  have N0 := Fr.nil n0
  suffices H : own_Ends p e below s ({ frames := 0, cells := 0, slots := 0, locals := 0 } : Room).cells ({ frames := 0, cells := 0, slots := 0, locals := 0 } : Room).slots (own_Q5 Z r0 w h0 n0) (s₁.setTop (mkF m 0 #[.val (.ref r0)] [])) by
    obtain ⟨s₂, o, h1, h2⟩ := H
    exact ⟨s₂, o, castTop (own_ef5 m r0) h1, h2⟩
  show own_Ends _ _ _ _ _ _ _ (s₁.setTop (mkF m 0 #[.val (.ref r0)] []))
  refine own_step (fun _ k => XS.aloadN X0.here hx rfl (hb hby own_d5_0) rfl rfl k) ?_
  show own_Ends _ _ _ _ _ _ _ (s₁.setTop (mkF m 1 #[.val (.ref r0)] [(.ref r0)]))
  obtain ⟨T16, X16, e16, st16⟩ := getF X0 hx hZ hown (host := "") (Or.inl (hw _ (List.mem_of_getElem? (i := 16) rfl))) Via.refl e0 F0 (g := (mkF m 1 #[.val (.ref r0)] [(.ref r0)])) rfl rfl (hb hby own_d5_1)
  refine own_step (fun _ k => st16 _ k) ?_
  show own_Ends _ _ _ _ _ _ _ (T16.setTop (mkF m 4 #[.val (.ref r0)] [(.int w)]))
  refine own_ret X16 (BodyLoose.notSynchronized Bd) (v := (some (.int w))) (fun h => by rw [Bd.returns] at h; cases h) ?_ (by decide) (by decide) (fun fs hr => X16.ireturnOut hx Bd.returns (congrArg Value.int hz) (by simp) (hb hby own_d5_4) hr)
  show own_Q5 Z r0 w h0 n0 (some (.int w)) T16.heap _
  rw [e16]
  exact ⟨rfl, N0, rfl⟩
theorem own_d6_0 : decode prog_10_method_15_code 0 = .ok (.aload_n 0, 1) := by decide +kernel
theorem own_d6_1 : decode prog_10_method_15_code 1 = .ok (.getfield 13, 3) := by decide +kernel
theorem own_d6_4 : decode prog_10_method_15_code 4 = .ok (.lreturn, 1) := by decide +kernel
theorem own_ef6 (m : MethodId) (r0 : Addr) : entryFrame m #[(.ref r0)] 1 = mkF m 0 #[.val (.ref r0)] [] := by first | (simp [entryFrame, mkF, argsToLocals, Value.category]; done) | rfl
def own_Q6 (Z : State) (r0 : Addr) (w : Int64) (h0 : Heap) (n0 : Nat) (v : Option Value) (h : Heap) (L : List Loc) : Prop := v = some (.long w) ∧ Fr n0 L ∧ h = h0
set_option maxRecDepth 65536 in
set_option maxHeartbeats 40000000 in
theorem own_rm6 (l : Launch) (Z : State) (a0 : Array Value) (hw : ∀ d ∈ tables_1, d.before a0 Z = true) (ws : List Jvm.Cond) (r0 : Addr) (w : Int64) (h0 : Heap) (n0 : Nat) (Z0 : n0 ≤ h0.size) (F0 : Fld Z h0 r0 "com/example/rulewright/rulewright/IpAddress" "high" "J" (.long w)) :
    MetFree l (⟨"com/example/rulewright/rulewright/IpAddress", "high", "()J"⟩ : MethodName) (head1 (Jvm.Cond.code (⟨"com/example/rulewright/rulewright/IpAddress", "high", "()J"⟩ : MethodName) prog_10_method_15_code 1 (some .long) :: ws) ({ frames := 0, cells := 0, slots := 0, locals := 0 } : Room)) (fun a U => a = #[(.ref r0)] ∧ Z.Warmed39 U.vm ∧ U.heap = h0) (fun _ _ _ _ _ => True) (fun _ U o U' => ∃ v L, o = .returned v ∧ own_Q6 Z r0 w h0 n0 v U'.heap L ∧ FrameEnd U o U' L ({ frames := 0, cells := 0, slots := 0, locals := 0 } : Room).cells ({ frames := 0, cells := 0, slots := 0, locals := 0 } : Room).slots) := by
  refine MetFree.of_bodySF (plainFor_of_name own_pn1) hisR ?_
  intro p e s m args below meth c s₁ Bd hml0 hP hK
  obtain ⟨rfl, hZ, hh⟩ := hP
  have hx := Bd.exec
  have hby := Bd.bytes
  have hml : c.maxLocals = 1 := hml0
  have hown : s.vm.findClass "com/example/rulewright/rulewright/IpAddress" = some m.cls := findClass_of_methodNamed Bd.named
  have hnm := (name_of_methodNamed Bd.named Bd.method).1
  have X0 : Stand p l e ({ frames := 0, cells := 0, slots := 0, locals := 0 } : Room) s m #[(.ref r0)] below meth c s₁ [] 0 0 := Stand.of_body Bd
  have e0 : s₁.heap = h0 := by rw [← hh, Bd.state]; rfl
  have N0 := Fr.nil n0
  suffices H : own_Ends p e below s ({ frames := 0, cells := 0, slots := 0, locals := 0 } : Room).cells ({ frames := 0, cells := 0, slots := 0, locals := 0 } : Room).slots (own_Q6 Z r0 w h0 n0) (s₁.setTop (mkF m 0 #[.val (.ref r0)] [])) by
    obtain ⟨s₂, o, h1, h2⟩ := H
    exact ⟨s₂, o, castTop (own_ef6 m r0) h1, h2⟩
  show own_Ends _ _ _ _ _ _ _ (s₁.setTop (mkF m 0 #[.val (.ref r0)] []))
  refine own_step (fun _ k => XS.aloadN X0.here hx rfl (hb hby own_d6_0) rfl rfl k) ?_
  show own_Ends _ _ _ _ _ _ _ (s₁.setTop (mkF m 1 #[.val (.ref r0)] [(.ref r0)]))
  obtain ⟨T17, X17, e17, st17⟩ := getF X0 hx hZ hown (host := "") (Or.inl (hw _ (List.mem_of_getElem? (i := 18) rfl))) Via.refl e0 F0 (g := (mkF m 1 #[.val (.ref r0)] [(.ref r0)])) rfl rfl (hb hby own_d6_1)
  refine own_step (fun _ k => st17 _ k) ?_
  show own_Ends _ _ _ _ _ _ _ (T17.setTop (mkF m 4 #[.val (.ref r0)] [(.long w)]))
  refine own_ret X17 (BodyLoose.notSynchronized Bd) (v := (some (.long w))) (fun h => by rw [Bd.returns] at h; cases h) ?_ (by decide) (by decide) (fun fs hr => X17.lreturnOut hx Bd.returns (hb hby own_d6_4) hr)
  show own_Q6 Z r0 w h0 n0 (some (.long w)) T17.heap _
  rw [e17]
  exact ⟨rfl, N0, rfl⟩
theorem own_d7_0 : decode prog_10_method_16_code 0 = .ok (.aload_n 0, 1) := by decide +kernel
theorem own_d7_1 : decode prog_10_method_16_code 1 = .ok (.getfield 17, 3) := by decide +kernel
theorem own_d7_4 : decode prog_10_method_16_code 4 = .ok (.lreturn, 1) := by decide +kernel
theorem own_ef7 (m : MethodId) (r0 : Addr) : entryFrame m #[(.ref r0)] 1 = mkF m 0 #[.val (.ref r0)] [] := by first | (simp [entryFrame, mkF, argsToLocals, Value.category]; done) | rfl
def own_Q7 (Z : State) (r0 : Addr) (w : Int64) (h0 : Heap) (n0 : Nat) (v : Option Value) (h : Heap) (L : List Loc) : Prop := v = some (.long w) ∧ Fr n0 L ∧ h = h0
set_option maxRecDepth 65536 in
set_option maxHeartbeats 40000000 in
theorem own_rm7 (l : Launch) (Z : State) (a0 : Array Value) (hw : ∀ d ∈ tables_1, d.before a0 Z = true) (ws : List Jvm.Cond) (r0 : Addr) (w : Int64) (h0 : Heap) (n0 : Nat) (Z0 : n0 ≤ h0.size) (F0 : Fld Z h0 r0 "com/example/rulewright/rulewright/IpAddress" "low" "J" (.long w)) :
    MetFree l (⟨"com/example/rulewright/rulewright/IpAddress", "low", "()J"⟩ : MethodName) (head1 (Jvm.Cond.code (⟨"com/example/rulewright/rulewright/IpAddress", "low", "()J"⟩ : MethodName) prog_10_method_16_code 1 (some .long) :: ws) ({ frames := 0, cells := 0, slots := 0, locals := 0 } : Room)) (fun a U => a = #[(.ref r0)] ∧ Z.Warmed39 U.vm ∧ U.heap = h0) (fun _ _ _ _ _ => True) (fun _ U o U' => ∃ v L, o = .returned v ∧ own_Q7 Z r0 w h0 n0 v U'.heap L ∧ FrameEnd U o U' L ({ frames := 0, cells := 0, slots := 0, locals := 0 } : Room).cells ({ frames := 0, cells := 0, slots := 0, locals := 0 } : Room).slots) := by
  refine MetFree.of_bodySF (plainFor_of_name own_pn1) hisR ?_
  intro p e s m args below meth c s₁ Bd hml0 hP hK
  obtain ⟨rfl, hZ, hh⟩ := hP
  have hx := Bd.exec
  have hby := Bd.bytes
  have hml : c.maxLocals = 1 := hml0
  have hown : s.vm.findClass "com/example/rulewright/rulewright/IpAddress" = some m.cls := findClass_of_methodNamed Bd.named
  have hnm := (name_of_methodNamed Bd.named Bd.method).1
  have X0 : Stand p l e ({ frames := 0, cells := 0, slots := 0, locals := 0 } : Room) s m #[(.ref r0)] below meth c s₁ [] 0 0 := Stand.of_body Bd
  have e0 : s₁.heap = h0 := by rw [← hh, Bd.state]; rfl
  have N0 := Fr.nil n0
  suffices H : own_Ends p e below s ({ frames := 0, cells := 0, slots := 0, locals := 0 } : Room).cells ({ frames := 0, cells := 0, slots := 0, locals := 0 } : Room).slots (own_Q7 Z r0 w h0 n0) (s₁.setTop (mkF m 0 #[.val (.ref r0)] [])) by
    obtain ⟨s₂, o, h1, h2⟩ := H
    exact ⟨s₂, o, castTop (own_ef7 m r0) h1, h2⟩
  show own_Ends _ _ _ _ _ _ _ (s₁.setTop (mkF m 0 #[.val (.ref r0)] []))
  refine own_step (fun _ k => XS.aloadN X0.here hx rfl (hb hby own_d7_0) rfl rfl k) ?_
  show own_Ends _ _ _ _ _ _ _ (s₁.setTop (mkF m 1 #[.val (.ref r0)] [(.ref r0)]))
  obtain ⟨T18, X18, e18, st18⟩ := getF X0 hx hZ hown (host := "") (Or.inl (hw _ (List.mem_of_getElem? (i := 20) rfl))) Via.refl e0 F0 (g := (mkF m 1 #[.val (.ref r0)] [(.ref r0)])) rfl rfl (hb hby own_d7_1)
  refine own_step (fun _ k => st18 _ k) ?_
  show own_Ends _ _ _ _ _ _ _ (T18.setTop (mkF m 4 #[.val (.ref r0)] [(.long w)]))
  refine own_ret X18 (BodyLoose.notSynchronized Bd) (v := (some (.long w))) (fun h => by rw [Bd.returns] at h; cases h) ?_ (by decide) (by decide) (fun fs hr => X18.lreturnOut hx Bd.returns (hb hby own_d7_4) hr)
  show own_Q7 Z r0 w h0 n0 (some (.long w)) T18.heap _
  rw [e18]
  exact ⟨rfl, N0, rfl⟩
theorem own_d8_0 : decode jdk_29_method_69_code 0 = .ok (.iload_n 0, 1) := by decide +kernel
theorem own_d8_1 : decode jdk_29_method_69_code 1 = .ok (.iload_n 1, 1) := by decide +kernel
theorem own_d8_2 : decode jdk_29_method_69_code 2 = .ok (.if_icmp .gt 7, 3) := by decide +kernel
theorem own_d8_5 : decode jdk_29_method_69_code 5 = .ok (.iload_n 0, 1) := by decide +kernel
theorem own_d8_6 : decode jdk_29_method_69_code 6 = .ok (.goto 4, 3) := by decide +kernel
theorem own_d8_9 : decode jdk_29_method_69_code 9 = .ok (.iload_n 1, 1) := by decide +kernel
theorem own_d8_10 : decode jdk_29_method_69_code 10 = .ok (.ireturn, 1) := by decide +kernel
theorem own_ef8 (m : MethodId) (p0 : Int32) (p1 : Int32) : entryFrame m #[(.int p0), (.int p1)] 2 = mkF m 0 #[.val (.int p0), .val (.int p1)] [] := by first | (simp [entryFrame, mkF, argsToLocals, Value.category]; done) | rfl
def own_Q8 (Z : State) (p0 : Int32) (p1 : Int32)  (h0 : Heap) (n0 : Nat) (v : Option Value) (h : Heap) (L : List Loc) : Prop := v = some (.int (own_min p0 p1)) ∧ Fr n0 L ∧ h = h0
set_option maxRecDepth 65536 in
set_option maxHeartbeats 40000000 in
theorem own_rm8 (l : Launch) (Z : State) (a0 : Array Value) (hw : ∀ d ∈ tables_1, d.before a0 Z = true) (ws : List Jvm.Cond) (p0 : Int32) (p1 : Int32)  (h0 : Heap) (n0 : Nat) (Z0 : n0 ≤ h0.size)  :
    MetFree l (⟨"java/lang/Math", "min", "(II)I"⟩ : MethodName) (head1 (Jvm.Cond.code (⟨"java/lang/Math", "min", "(II)I"⟩ : MethodName) jdk_29_method_69_code 2 (some .int) :: ws) ({ frames := 0, cells := 0, slots := 0, locals := 0 } : Room)) (fun a U => a = #[(.int p0), (.int p1)] ∧ Z.Warmed39 U.vm ∧ U.heap = h0) (fun _ _ _ _ _ => True) (fun _ U o U' => ∃ v L, o = .returned v ∧ own_Q8 Z p0 p1  h0 n0 v U'.heap L ∧ FrameEnd U o U' L ({ frames := 0, cells := 0, slots := 0, locals := 0 } : Room).cells ({ frames := 0, cells := 0, slots := 0, locals := 0 } : Room).slots) := by
  refine MetFree.of_bodySF (Jvm.Free.JP.mathPlain rfl (by decide +kernel)) hisR ?_
  intro p e s m args below meth c s₁ Bd hml0 hP hK
  obtain ⟨rfl, hZ, hh⟩ := hP
  have hx := Bd.exec
  have hby := Bd.bytes
  have hml : c.maxLocals = 2 := hml0
  have hown : s.vm.findClass "java/lang/Math" = some m.cls := findClass_of_methodNamed Bd.named
  have hnm := (name_of_methodNamed Bd.named Bd.method).1
  have X0 : Stand p l e ({ frames := 0, cells := 0, slots := 0, locals := 0 } : Room) s m #[(.int p0), (.int p1)] below meth c s₁ [] 0 0 := Stand.of_body Bd
  have e0 : s₁.heap = h0 := by rw [← hh, Bd.state]; rfl
  have N0 := Fr.nil n0
  suffices H : own_Ends p e below s ({ frames := 0, cells := 0, slots := 0, locals := 0 } : Room).cells ({ frames := 0, cells := 0, slots := 0, locals := 0 } : Room).slots (own_Q8 Z p0 p1  h0 n0) (s₁.setTop (mkF m 0 #[.val (.int p0), .val (.int p1)] [])) by
    obtain ⟨s₂, o, h1, h2⟩ := H
    exact ⟨s₂, o, castTop (own_ef8 m p0 p1) h1, h2⟩
  show own_Ends _ _ _ _ _ _ _ (s₁.setTop (mkF m 0 #[.val (.int p0), .val (.int p1)] []))
  refine own_step (fun _ k => XS.iloadN X0.here hx rfl (hb hby own_d8_0) rfl k) ?_
  show own_Ends _ _ _ _ _ _ _ (s₁.setTop (mkF m 1 #[.val (.int p0), .val (.int p1)] [(.int p0)]))
  refine own_step (fun _ k => XS.iloadN X0.here hx rfl (hb hby own_d8_1) rfl k) ?_
  show own_Ends _ _ _ _ _ _ _ (s₁.setTop (mkF m 2 #[.val (.int p0), .val (.int p1)] [(.int p1), (.int p0)]))
  by_cases h1 : p1 < p0
  · refine own_step (fun _ k => XS.icmpYes X0.here hx rfl (pc0 := 2) (pc' := 9) rfl (hb hby own_d8_2) rfl (tlt h1).2.2.1 (by decide) (by decide) k) ?_
    show own_Ends _ _ _ _ _ _ _ (s₁.setTop (mkF m 9 #[.val (.int p0), .val (.int p1)] []))
    refine own_step (fun _ k => XS.iloadN X0.here hx rfl (hb hby own_d8_9) rfl k) ?_
    show own_Ends _ _ _ _ _ _ _ (s₁.setTop (mkF m 10 #[.val (.int p0), .val (.int p1)] [(.int p1)]))
    refine own_ret X0 (BodyLoose.notSynchronized Bd) (v := (some (.int p1))) (fun h => by rw [Bd.returns] at h; cases h) ?_ (by decide) (by decide) (fun fs hr => X0.ireturnOut hx Bd.returns rfl (by simp) (hb hby own_d8_10) hr)
    show own_Q8 Z p0 p1  h0 n0 (some (.int p1)) s₁.heap _
    rw [e0]
    exact ⟨by simp [own_min, h1], N0, rfl⟩
  · refine own_step (fun _ k => XS.icmpNo X0.here hx rfl (hb hby own_d8_2) rfl (flt h1).2.2.1 k) ?_
    show own_Ends _ _ _ _ _ _ _ (s₁.setTop (mkF m 5 #[.val (.int p0), .val (.int p1)] []))
    refine own_step (fun _ k => XS.iloadN X0.here hx rfl (hb hby own_d8_5) rfl k) ?_
    show own_Ends _ _ _ _ _ _ _ (s₁.setTop (mkF m 6 #[.val (.int p0), .val (.int p1)] [(.int p0)]))
    refine own_step (fun _ k => XS.goto X0.here hx rfl (pc0 := 6) (pc' := 10) rfl (hb hby own_d8_6) (by decide) (by decide) k) ?_
    show own_Ends _ _ _ _ _ _ _ (s₁.setTop (mkF m 10 #[.val (.int p0), .val (.int p1)] [(.int p0)]))
    refine own_ret X0 (BodyLoose.notSynchronized Bd) (v := (some (.int p0))) (fun h => by rw [Bd.returns] at h; cases h) ?_ (by decide) (by decide) (fun fs hr => X0.ireturnOut hx Bd.returns rfl (by simp) (hb hby own_d8_10) hr)
    show own_Q8 Z p0 p1  h0 n0 (some (.int p0)) s₁.heap _
    rw [e0]
    exact ⟨by simp [own_min, h1], N0, rfl⟩
theorem own_d9_0 : decode jdk_29_method_65_code 0 = .ok (.iload_n 0, 1) := by decide +kernel
theorem own_d9_1 : decode jdk_29_method_65_code 1 = .ok (.iload_n 1, 1) := by decide +kernel
theorem own_d9_2 : decode jdk_29_method_65_code 2 = .ok (.if_icmp .lt 7, 3) := by decide +kernel
theorem own_d9_5 : decode jdk_29_method_65_code 5 = .ok (.iload_n 0, 1) := by decide +kernel
theorem own_d9_6 : decode jdk_29_method_65_code 6 = .ok (.goto 4, 3) := by decide +kernel
theorem own_d9_9 : decode jdk_29_method_65_code 9 = .ok (.iload_n 1, 1) := by decide +kernel
theorem own_d9_10 : decode jdk_29_method_65_code 10 = .ok (.ireturn, 1) := by decide +kernel
theorem own_ef9 (m : MethodId) (p0 : Int32) (p1 : Int32) : entryFrame m #[(.int p0), (.int p1)] 2 = mkF m 0 #[.val (.int p0), .val (.int p1)] [] := by first | (simp [entryFrame, mkF, argsToLocals, Value.category]; done) | rfl
def own_Q9 (Z : State) (p0 : Int32) (p1 : Int32)  (h0 : Heap) (n0 : Nat) (v : Option Value) (h : Heap) (L : List Loc) : Prop := v = some (.int (own_max p0 p1)) ∧ Fr n0 L ∧ h = h0
set_option maxRecDepth 65536 in
set_option maxHeartbeats 40000000 in
theorem own_rm9 (l : Launch) (Z : State) (a0 : Array Value) (hw : ∀ d ∈ tables_1, d.before a0 Z = true) (ws : List Jvm.Cond) (p0 : Int32) (p1 : Int32)  (h0 : Heap) (n0 : Nat) (Z0 : n0 ≤ h0.size)  :
    MetFree l (⟨"java/lang/Math", "max", "(II)I"⟩ : MethodName) (head1 (Jvm.Cond.code (⟨"java/lang/Math", "max", "(II)I"⟩ : MethodName) jdk_29_method_65_code 2 (some .int) :: ws) ({ frames := 0, cells := 0, slots := 0, locals := 0 } : Room)) (fun a U => a = #[(.int p0), (.int p1)] ∧ Z.Warmed39 U.vm ∧ U.heap = h0) (fun _ _ _ _ _ => True) (fun _ U o U' => ∃ v L, o = .returned v ∧ own_Q9 Z p0 p1  h0 n0 v U'.heap L ∧ FrameEnd U o U' L ({ frames := 0, cells := 0, slots := 0, locals := 0 } : Room).cells ({ frames := 0, cells := 0, slots := 0, locals := 0 } : Room).slots) := by
  refine MetFree.of_bodySF (Jvm.Free.JP.mathPlain rfl (by decide +kernel)) hisR ?_
  intro p e s m args below meth c s₁ Bd hml0 hP hK
  obtain ⟨rfl, hZ, hh⟩ := hP
  have hx := Bd.exec
  have hby := Bd.bytes
  have hml : c.maxLocals = 2 := hml0
  have hown : s.vm.findClass "java/lang/Math" = some m.cls := findClass_of_methodNamed Bd.named
  have hnm := (name_of_methodNamed Bd.named Bd.method).1
  have X0 : Stand p l e ({ frames := 0, cells := 0, slots := 0, locals := 0 } : Room) s m #[(.int p0), (.int p1)] below meth c s₁ [] 0 0 := Stand.of_body Bd
  have e0 : s₁.heap = h0 := by rw [← hh, Bd.state]; rfl
  have N0 := Fr.nil n0
  suffices H : own_Ends p e below s ({ frames := 0, cells := 0, slots := 0, locals := 0 } : Room).cells ({ frames := 0, cells := 0, slots := 0, locals := 0 } : Room).slots (own_Q9 Z p0 p1  h0 n0) (s₁.setTop (mkF m 0 #[.val (.int p0), .val (.int p1)] [])) by
    obtain ⟨s₂, o, h1, h2⟩ := H
    exact ⟨s₂, o, castTop (own_ef9 m p0 p1) h1, h2⟩
  show own_Ends _ _ _ _ _ _ _ (s₁.setTop (mkF m 0 #[.val (.int p0), .val (.int p1)] []))
  refine own_step (fun _ k => XS.iloadN X0.here hx rfl (hb hby own_d9_0) rfl k) ?_
  show own_Ends _ _ _ _ _ _ _ (s₁.setTop (mkF m 1 #[.val (.int p0), .val (.int p1)] [(.int p0)]))
  refine own_step (fun _ k => XS.iloadN X0.here hx rfl (hb hby own_d9_1) rfl k) ?_
  show own_Ends _ _ _ _ _ _ _ (s₁.setTop (mkF m 2 #[.val (.int p0), .val (.int p1)] [(.int p1), (.int p0)]))
  by_cases h1 : p0 < p1
  · refine own_step (fun _ k => XS.icmpYes X0.here hx rfl (pc0 := 2) (pc' := 9) rfl (hb hby own_d9_2) rfl (tlt h1).1 (by decide) (by decide) k) ?_
    show own_Ends _ _ _ _ _ _ _ (s₁.setTop (mkF m 9 #[.val (.int p0), .val (.int p1)] []))
    refine own_step (fun _ k => XS.iloadN X0.here hx rfl (hb hby own_d9_9) rfl k) ?_
    show own_Ends _ _ _ _ _ _ _ (s₁.setTop (mkF m 10 #[.val (.int p0), .val (.int p1)] [(.int p1)]))
    refine own_ret X0 (BodyLoose.notSynchronized Bd) (v := (some (.int p1))) (fun h => by rw [Bd.returns] at h; cases h) ?_ (by decide) (by decide) (fun fs hr => X0.ireturnOut hx Bd.returns rfl (by simp) (hb hby own_d9_10) hr)
    show own_Q9 Z p0 p1  h0 n0 (some (.int p1)) s₁.heap _
    rw [e0]
    exact ⟨by simp [own_max, h1], N0, rfl⟩
  · refine own_step (fun _ k => XS.icmpNo X0.here hx rfl (hb hby own_d9_2) rfl (flt h1).1 k) ?_
    show own_Ends _ _ _ _ _ _ _ (s₁.setTop (mkF m 5 #[.val (.int p0), .val (.int p1)] []))
    refine own_step (fun _ k => XS.iloadN X0.here hx rfl (hb hby own_d9_5) rfl k) ?_
    show own_Ends _ _ _ _ _ _ _ (s₁.setTop (mkF m 6 #[.val (.int p0), .val (.int p1)] [(.int p0)]))
    refine own_step (fun _ k => XS.goto X0.here hx rfl (pc0 := 6) (pc' := 10) rfl (hb hby own_d9_6) (by decide) (by decide) k) ?_
    show own_Ends _ _ _ _ _ _ _ (s₁.setTop (mkF m 10 #[.val (.int p0), .val (.int p1)] [(.int p0)]))
    refine own_ret X0 (BodyLoose.notSynchronized Bd) (v := (some (.int p0))) (fun h => by rw [Bd.returns] at h; cases h) ?_ (by decide) (by decide) (fun fs hr => X0.ireturnOut hx Bd.returns rfl (by simp) (hb hby own_d9_10) hr)
    show own_Q9 Z p0 p1  h0 n0 (some (.int p0)) s₁.heap _
    rw [e0]
    exact ⟨by simp [own_max, h1], N0, rfl⟩
theorem own_ef0 (m : MethodId) (p0 : Int32) (q1 : Int64) (q2 : Int64) (p3 : Int32) : entryFrame m #[(.int p0), (.long q1), (.long q2), (.int p3)] maxLocals = mkF m 0 #[.val (.int p0), .val (.long q1), .second, .val (.long q2), .second, .val (.int p3), .unset, .unset, .unset, .unset, .unset, .unset, .unset, .unset, .unset, .unset, .unset, .unset] [] := by first | (simp [entryFrame, mkF, argsToLocals, Value.category, maxLocals]; done) | rfl
theorem own_pd2 : parseMethodDescriptor "(I)Lcom/example/rulewright/rulewright/IpAddress;" = some ⟨[.int], some (.object "com/example/rulewright/rulewright/IpAddress")⟩ := by decide +kernel
theorem own_pd3 : parseMethodDescriptor "(JI)J" = some ⟨[.long, .int], some .long⟩ := by decide +kernel
theorem own_pd4 : parseMethodDescriptor "()Z" = some ⟨[], some .boolean⟩ := by decide +kernel
theorem own_pd5 : parseMethodDescriptor "()J" = some ⟨[], some .long⟩ := by decide +kernel
theorem own_pd6 : parseMethodDescriptor "(II)I" = some ⟨[.int, .int], some .int⟩ := by decide +kernel
def own_Q0 (Z : State) (p0 : Int32) (q1 : Int64) (q2 : Int64) (p3 : Int32)  (h0 : Heap) (n0 : Nat) (v : Option Value) (h : Heap) (L : List Loc) : Prop := v = some (.int 1) ∧ Fr n0 L
set_option maxRecDepth 65536 in
set_option maxHeartbeats 40000000 in
theorem own_rm0 (l : Launch) (Z : State) (a0 : Array Value) (hw : ∀ d ∈ tables_1, d.before a0 Z = true) (ws : List Jvm.Cond) (p0 : Int32) (q1 : Int64) (q2 : Int64) (p3 : Int32)  (h0 : Heap) (n0 : Nat) (Z0 : n0 ≤ h0.size)  :
    MetFree l x (head1 (Jvm.Cond.code x code maxLocals ret :: ws) room_1) (fun a U => a = #[(.int p0), (.long q1), (.long q2), (.int p3)] ∧ Z.Warmed39 U.vm ∧ U.heap = h0) (fun _ _ _ _ _ => True) (fun _ U o U' => ∃ v L, o = .returned v ∧ own_Q0 Z p0 q1 q2 p3  h0 n0 v U'.heap L ∧ FrameEnd U o U' L 2 6) := by
  refine MetFree.of_bodySF (plainFor_of_name own_pn2) hisR ?_
  intro p e s m args below meth c s₁ Bd hml0 hP hK
  obtain ⟨rfl, hZ, hh⟩ := hP
  have hx := Bd.exec
  have hby := Bd.bytes
  have hml : c.maxLocals = 18 := hml0
  have hown : s.vm.findClass "com/example/rulewright/rulewright/IpAddressMaskedPinLaw" = some m.cls := findClass_of_methodNamed Bd.named
  have hnm := (name_of_methodNamed Bd.named Bd.method).1
  have X0 : Stand p l e room_1 s m #[(.int p0), (.long q1), (.long q2), (.int p3)] below meth c s₁ [] 0 0 := Stand.of_body Bd
  have e0 : s₁.heap = h0 := by rw [← hh, Bd.state]; rfl
  have N0 := Fr.nil n0
  suffices H : own_Ends p e below s 2 6 (own_Q0 Z p0 q1 q2 p3  h0 n0) (s₁.setTop (mkF m 0 #[.val (.int p0), .val (.long q1), .second, .val (.long q2), .second, .val (.int p3), .unset, .unset, .unset, .unset, .unset, .unset, .unset, .unset, .unset, .unset, .unset, .unset] [])) by
    obtain ⟨s₂, o, h1, h2⟩ := H
    exact ⟨s₂, o, castTop (own_ef0 m p0 q1 q2 p3) h1, h2⟩
  show own_Ends _ _ _ _ _ _ _ (s₁.setTop (mkF m 0 #[.val (.int p0), .val (.long q1), .second, .val (.long q2), .second, .val (.int p3), .unset, .unset, .unset, .unset, .unset, .unset, .unset, .unset, .unset, .unset, .unset, .unset] []))
  refine own_step (fun _ k => XS.iloadN X0.here hx rfl (hb hby at_0) rfl k) ?_
  show own_Ends _ _ _ _ _ _ _ (s₁.setTop (mkF m 1 #[.val (.int p0), .val (.long q1), .second, .val (.long q2), .second, .val (.int p3), .unset, .unset, .unset, .unset, .unset, .unset, .unset, .unset, .unset, .unset, .unset, .unset] [(.int p0)]))
  refine own_step (fun _ k => XS.iconst X0.here hx rfl (hb hby at_1) k) ?_
  show own_Ends _ _ _ _ _ _ _ (s₁.setTop (mkF m 2 #[.val (.int p0), .val (.long q1), .second, .val (.long q2), .second, .val (.int p3), .unset, .unset, .unset, .unset, .unset, .unset, .unset, .unset, .unset, .unset, .unset, .unset] [(.int (1 : Int32)), (.int p0)]))
  refine own_step (fun _ k => XS.iand X0.here hx rfl (hb hby at_2) rfl k) ?_
  show own_Ends _ _ _ _ _ _ _ (s₁.setTop (mkF m 3 #[.val (.int p0), .val (.long q1), .second, .val (.long q2), .second, .val (.int p3), .unset, .unset, .unset, .unset, .unset, .unset, .unset, .unset, .unset, .unset, .unset, .unset] [(.int (p0 &&& (1 : Int32)))]))
  by_cases h1 : (p0 &&& (1 : Int32)) = (0 : Int32)
  · refine own_step (fun _ k => XS.ifYes X0.here hx rfl (pc0 := 3) (pc' := 10) rfl (hb hby at_3) rfl ((if0 _ _).trans (teq h1).1) (by decide) (by decide) k) ?_
    show own_Ends _ _ _ _ _ _ _ (s₁.setTop (mkF m 10 #[.val (.int p0), .val (.long q1), .second, .val (.long q2), .second, .val (.int p3), .unset, .unset, .unset, .unset, .unset, .unset, .unset, .unset, .unset, .unset, .unset, .unset] []))
    refine own_step (fun _ k => XS.iconst X0.here hx rfl (hb hby at_10) k) ?_
    show own_Ends _ _ _ _ _ _ _ (s₁.setTop (mkF m 11 #[.val (.int p0), .val (.long q1), .second, .val (.long q2), .second, .val (.int p3), .unset, .unset, .unset, .unset, .unset, .unset, .unset, .unset, .unset, .unset, .unset, .unset] [(.int (0 : Int32))]))
    refine own_step (fun _ k => XS.istore X0.here hx rfl (hb hby at_11) rfl (l' := #[.val (.int p0), .val (.long q1), .second, .val (.long q2), .second, .val (.int p3), .val (.int (0 : Int32)), .unset, .unset, .unset, .unset, .unset, .unset, .unset, .unset, .unset, .unset, .unset]) rfl k) ?_
    show own_Ends _ _ _ _ _ _ _ (s₁.setTop (mkF m 13 #[.val (.int p0), .val (.long q1), .second, .val (.long q2), .second, .val (.int p3), .val (.int (0 : Int32)), .unset, .unset, .unset, .unset, .unset, .unset, .unset, .unset, .unset, .unset, .unset] []))
    refine own_step (fun _ k => XS.iload X0.here hx rfl (hb hby at_13) rfl k) ?_
    show own_Ends _ _ _ _ _ _ _ (s₁.setTop (mkF m 15 #[.val (.int p0), .val (.long q1), .second, .val (.long q2), .second, .val (.int p3), .val (.int (0 : Int32)), .unset, .unset, .unset, .unset, .unset, .unset, .unset, .unset, .unset, .unset, .unset] [(.int (0 : Int32))]))
    refine own_step (fun _ k => XS.ifYes X0.here hx rfl (pc0 := 15) (pc' := 38) rfl (hb hby at_15) rfl ((if0 _ _).trans (teq rfl).1) (by decide) (by decide) k) ?_
    show own_Ends _ _ _ _ _ _ _ (s₁.setTop (mkF m 38 #[.val (.int p0), .val (.long q1), .second, .val (.long q2), .second, .val (.int p3), .val (.int (0 : Int32)), .unset, .unset, .unset, .unset, .unset, .unset, .unset, .unset, .unset, .unset, .unset] []))
    refine own_step (fun _ k => XS.lconst X0.here hx rfl (hb hby at_38) k) ?_
    show own_Ends _ _ _ _ _ _ _ (s₁.setTop (mkF m 39 #[.val (.int p0), .val (.long q1), .second, .val (.long q2), .second, .val (.int p3), .val (.int (0 : Int32)), .unset, .unset, .unset, .unset, .unset, .unset, .unset, .unset, .unset, .unset, .unset] [(.long (0 : Int64))]))
    refine own_step (fun _ k => XS.lstore X0.here hx rfl (hb hby at_39) rfl (l' := #[.val (.int p0), .val (.long q1), .second, .val (.long q2), .second, .val (.int p3), .val (.int (0 : Int32)), .val (.long (0 : Int64)), .second, .unset, .unset, .unset, .unset, .unset, .unset, .unset, .unset, .unset]) rfl k) ?_
    show own_Ends _ _ _ _ _ _ _ (s₁.setTop (mkF m 41 #[.val (.int p0), .val (.long q1), .second, .val (.long q2), .second, .val (.int p3), .val (.int (0 : Int32)), .val (.long (0 : Int64)), .second, .unset, .unset, .unset, .unset, .unset, .unset, .unset, .unset, .unset] []))
    refine own_step (fun _ k => XS.lloadN X0.here hx rfl (hb hby at_41) rfl k) ?_
    show own_Ends _ _ _ _ _ _ _ (s₁.setTop (mkF m 42 #[.val (.int p0), .val (.long q1), .second, .val (.long q2), .second, .val (.int p3), .val (.int (0 : Int32)), .val (.long (0 : Int64)), .second, .unset, .unset, .unset, .unset, .unset, .unset, .unset, .unset, .unset] [(.long q2)]))
    refine own_step (fun _ k => X0.ldc2Long hx hown (mvT hZ (hw _ (List.mem_of_getElem? (i := 0) rfl))) (g := (mkF m 42 #[.val (.int p0), .val (.long q1), .second, .val (.long q2), .second, .val (.int p3), .val (.int (0 : Int32)), .val (.long (0 : Int64)), .second, .unset, .unset, .unset, .unset, .unset, .unset, .unset, .unset, .unset] [(.long q2)])) rfl (hb hby at_42) _ k) ?_
    show own_Ends _ _ _ _ _ _ _ (s₁.setTop (mkF m 45 #[.val (.int p0), .val (.long q1), .second, .val (.long q2), .second, .val (.int p3), .val (.int (0 : Int32)), .val (.long (0 : Int64)), .second, .unset, .unset, .unset, .unset, .unset, .unset, .unset, .unset, .unset] [(.long (4294967295 : Int64)), (.long q2)]))
    refine own_step (fun _ k => XS.land X0.here hx rfl (hb hby at_45) rfl k) ?_
    show own_Ends _ _ _ _ _ _ _ (s₁.setTop (mkF m 46 #[.val (.int p0), .val (.long q1), .second, .val (.long q2), .second, .val (.int p3), .val (.int (0 : Int32)), .val (.long (0 : Int64)), .second, .unset, .unset, .unset, .unset, .unset, .unset, .unset, .unset, .unset] [(.long (q2 &&& (4294967295 : Int64)))]))
    refine own_step (fun _ k => XS.lstore X0.here hx rfl (hb hby at_46) rfl (l' := #[.val (.int p0), .val (.long q1), .second, .val (.long q2), .second, .val (.int p3), .val (.int (0 : Int32)), .val (.long (0 : Int64)), .second, .val (.long (q2 &&& (4294967295 : Int64))), .second, .unset, .unset, .unset, .unset, .unset, .unset, .unset]) rfl k) ?_
    show own_Ends _ _ _ _ _ _ _ (s₁.setTop (mkF m 48 #[.val (.int p0), .val (.long q1), .second, .val (.long q2), .second, .val (.int p3), .val (.int (0 : Int32)), .val (.long (0 : Int64)), .second, .val (.long (q2 &&& (4294967295 : Int64))), .second, .unset, .unset, .unset, .unset, .unset, .unset, .unset] []))
    refine own_step (fun _ k => XS.iload X0.here hx rfl (hb hby at_48) rfl k) ?_
    show own_Ends _ _ _ _ _ _ _ (s₁.setTop (mkF m 50 #[.val (.int p0), .val (.long q1), .second, .val (.long q2), .second, .val (.int p3), .val (.int (0 : Int32)), .val (.long (0 : Int64)), .second, .val (.long (q2 &&& (4294967295 : Int64))), .second, .unset, .unset, .unset, .unset, .unset, .unset, .unset] [(.int p3)]))
    refine own_step (fun _ k => X0.ldcInt hx hown (mvT hZ (hw _ (List.mem_of_getElem? (i := 1) rfl))) (g := (mkF m 50 #[.val (.int p0), .val (.long q1), .second, .val (.long q2), .second, .val (.int p3), .val (.int (0 : Int32)), .val (.long (0 : Int64)), .second, .val (.long (q2 &&& (4294967295 : Int64))), .second, .unset, .unset, .unset, .unset, .unset, .unset, .unset] [(.int p3)])) rfl (hb hby at_50) _ k) ?_
    show own_Ends _ _ _ _ _ _ _ (s₁.setTop (mkF m 52 #[.val (.int p0), .val (.long q1), .second, .val (.long q2), .second, .val (.int p3), .val (.int (0 : Int32)), .val (.long (0 : Int64)), .second, .val (.long (q2 &&& (4294967295 : Int64))), .second, .unset, .unset, .unset, .unset, .unset, .unset, .unset] [(.int (2147483647 : Int32)), (.int p3)]))
    refine own_step (fun _ k => XS.iand X0.here hx rfl (hb hby at_52) rfl k) ?_
    show own_Ends _ _ _ _ _ _ _ (s₁.setTop (mkF m 53 #[.val (.int p0), .val (.long q1), .second, .val (.long q2), .second, .val (.int p3), .val (.int (0 : Int32)), .val (.long (0 : Int64)), .second, .val (.long (q2 &&& (4294967295 : Int64))), .second, .unset, .unset, .unset, .unset, .unset, .unset, .unset] [(.int (p3 &&& (2147483647 : Int32)))]))
    refine own_step (fun _ k => XS.bipush X0.here hx rfl (hb hby at_53) k) ?_
    show own_Ends _ _ _ _ _ _ _ (s₁.setTop (mkF m 55 #[.val (.int p0), .val (.long q1), .second, .val (.long q2), .second, .val (.int p3), .val (.int (0 : Int32)), .val (.long (0 : Int64)), .second, .val (.long (q2 &&& (4294967295 : Int64))), .second, .unset, .unset, .unset, .unset, .unset, .unset, .unset] [(.int (33 : Int32)), (.int (p3 &&& (2147483647 : Int32)))]))
    refine own_step (fun _ k => XS.irem X0.here hx rfl (hb hby at_55) rfl (by decide) k) ?_
    show own_Ends _ _ _ _ _ _ _ (s₁.setTop (mkF m 56 #[.val (.int p0), .val (.long q1), .second, .val (.long q2), .second, .val (.int p3), .val (.int (0 : Int32)), .val (.long (0 : Int64)), .second, .val (.long (q2 &&& (4294967295 : Int64))), .second, .unset, .unset, .unset, .unset, .unset, .unset, .unset] [(.int ((p3 &&& (2147483647 : Int32)) - ((p3 &&& (2147483647 : Int32)) / (33 : Int32)) * (33 : Int32)))]))
    obtain ⟨hl0, hl1⟩ := own_lenB p3 (33 : Int32) 33 rfl (by decide)
    generalize ((p3 &&& (2147483647 : Int32)) - ((p3 &&& (2147483647 : Int32)) / (33 : Int32)) * (33 : Int32)) = len at hl0 hl1 ⊢
    refine own_step (fun _ k => XS.istore X0.here hx rfl (hb hby at_56) rfl (l' := #[.val (.int p0), .val (.long q1), .second, .val (.long q2), .second, .val (.int p3), .val (.int (0 : Int32)), .val (.long (0 : Int64)), .second, .val (.long (q2 &&& (4294967295 : Int64))), .second, .val (.int len), .unset, .unset, .unset, .unset, .unset, .unset]) rfl k) ?_
    show own_Ends _ _ _ _ _ _ _ (s₁.setTop (mkF m 58 #[.val (.int p0), .val (.long q1), .second, .val (.long q2), .second, .val (.int p3), .val (.int (0 : Int32)), .val (.long (0 : Int64)), .second, .val (.long (q2 &&& (4294967295 : Int64))), .second, .val (.int len), .unset, .unset, .unset, .unset, .unset, .unset] []))
    obtain ⟨T19, h19, X19, e19, E19, A19, D19, -, st19⟩ := newO X0 hx hZ hown (hw _ (List.mem_of_getElem? (i := 2) rfl)) (hw _ (List.mem_of_getElem? (i := 3) rfl)) (hw _ (List.mem_of_getElem? (i := 4) rfl)) e0 (g := (mkF m 58 #[.val (.int p0), .val (.long q1), .second, .val (.long q2), .second, .val (.int p3), .val (.int (0 : Int32)), .val (.long (0 : Int64)), .second, .val (.long (q2 &&& (4294967295 : Int64))), .second, .val (.int len), .unset, .unset, .unset, .unset, .unset, .unset] [])) rfl (hb hby at_58) (by decide) (by decide)
    obtain ⟨b19, g19⟩ : ∃ z, z = h0.size := ⟨_, rfl⟩
    rw [← g19] at A19 D19 st19
    have gn19 : n0 ≤ b19 := Nat.le_trans Z0 (Nat.le_of_eq g19.symm)
    have Z19 := Nat.le_trans Z0 E19.1
    have F19_b19_v6 : Fld Z h19 b19 "com/example/rulewright/rulewright/IpAddress" "v6" "Z" (.int (0 : Int32)) := D19 (Or.inr (hw _ (List.mem_of_getElem? (i := 17) rfl))) (ty := .boolean) (by decide)
    have F19_b19_high : Fld Z h19 b19 "com/example/rulewright/rulewright/IpAddress" "high" "J" (.long (0 : Int64)) := D19 (Or.inr (hw _ (List.mem_of_getElem? (i := 19) rfl))) (ty := .long) (by decide)
    have F19_b19_low : Fld Z h19 b19 "com/example/rulewright/rulewright/IpAddress" "low" "J" (.long (0 : Int64)) := D19 (Or.inr (hw _ (List.mem_of_getElem? (i := 21) rfl))) (ty := .long) (by decide)
    refine own_step (fun _ k => st19 _ k) ?_
    show own_Ends _ _ _ _ _ _ _ (T19.setTop (mkF m 61 #[.val (.int p0), .val (.long q1), .second, .val (.long q2), .second, .val (.int p3), .val (.int (0 : Int32)), .val (.long (0 : Int64)), .second, .val (.long (q2 &&& (4294967295 : Int64))), .second, .val (.int len), .unset, .unset, .unset, .unset, .unset, .unset] [(.ref b19)]))
    refine own_step (fun _ k => XS.dup X19.here hx rfl (hb hby at_61) rfl rfl k) ?_
    show own_Ends _ _ _ _ _ _ _ (T19.setTop (mkF m 62 #[.val (.int p0), .val (.long q1), .second, .val (.long q2), .second, .val (.int p3), .val (.int (0 : Int32)), .val (.long (0 : Int64)), .second, .val (.long (q2 &&& (4294967295 : Int64))), .second, .val (.int len), .unset, .unset, .unset, .unset, .unset, .unset] [(.ref b19), (.ref b19)]))
    refine own_step (fun _ k => XS.iload X19.here hx rfl (hb hby at_62) rfl k) ?_
    show own_Ends _ _ _ _ _ _ _ (T19.setTop (mkF m 64 #[.val (.int p0), .val (.long q1), .second, .val (.long q2), .second, .val (.int p3), .val (.int (0 : Int32)), .val (.long (0 : Int64)), .second, .val (.long (q2 &&& (4294967295 : Int64))), .second, .val (.int len), .unset, .unset, .unset, .unset, .unset, .unset] [(.int (0 : Int32)), (.ref b19), (.ref b19)]))
    refine own_step (fun _ k => XS.lload X19.here hx rfl (hb hby at_64) rfl k) ?_
    show own_Ends _ _ _ _ _ _ _ (T19.setTop (mkF m 66 #[.val (.int p0), .val (.long q1), .second, .val (.long q2), .second, .val (.int p3), .val (.int (0 : Int32)), .val (.long (0 : Int64)), .second, .val (.long (q2 &&& (4294967295 : Int64))), .second, .val (.int len), .unset, .unset, .unset, .unset, .unset, .unset] [(.long (0 : Int64)), (.int (0 : Int32)), (.ref b19), (.ref b19)]))
    refine own_step (fun _ k => XS.lload X19.here hx rfl (hb hby at_66) rfl k) ?_
    show own_Ends _ _ _ _ _ _ _ (T19.setTop (mkF m 68 #[.val (.int p0), .val (.long q1), .second, .val (.long q2), .second, .val (.int p3), .val (.int (0 : Int32)), .val (.long (0 : Int64)), .second, .val (.long (q2 &&& (4294967295 : Int64))), .second, .val (.int len), .unset, .unset, .unset, .unset, .unset, .unset] [(.long (q2 &&& (4294967295 : Int64))), (.long (0 : Int64)), (.int (0 : Int32)), (.ref b19), (.ref b19)]))
    obtain ⟨_, _, ⟨T20, L20, k20, n20⟩, -, X20, ⟨Lc20, hQ20, l20, y20, z20⟩, st20⟩ := X19.specialBack hx (y := (⟨"com/example/rulewright/rulewright/IpAddress", "<init>", "(ZJJ)V"⟩ : MethodName)) rfl hown (mvT hZ (hw _ (List.mem_of_getElem? (i := 5) rfl))) (mvT hZ (hw _ (List.mem_of_getElem? (i := 6) rfl))) (mvT hZ (hw _ (List.mem_of_getElem? (i := 7) rfl))) (by decide) (backOf (W := 1) (own_rm2 l Z a0 hw [] b19 (0 : Int32) (0 : Int64) (q2 &&& (4294967295 : Int64))  h19 n0 Z19 F19_b19_v6 F19_b19_high F19_b19_low A19 gn19 (by decide)) hZ (hw _ (List.mem_of_getElem? (i := 7) rfl)) (hw _ (List.mem_of_getElem? (i := 4) rfl)) (by decide) (by decide)) (g := (mkF m 68 #[.val (.int p0), .val (.long q1), .second, .val (.long q2), .second, .val (.int p3), .val (.int (0 : Int32)), .val (.long (0 : Int64)), .second, .val (.long (q2 &&& (4294967295 : Int64))), .second, .val (.int len), .unset, .unset, .unset, .unset, .unset, .unset] [(.long (q2 &&& (4294967295 : Int64))), (.long (0 : Int64)), (.int (0 : Int32)), (.ref b19), (.ref b19)])) rfl (by rw [hml]; rfl) (Steps.refl _) (a := b19) (argsL := [(.int (0 : Int32)), (.long (0 : Int64)), (.long (q2 &&& (4294967295 : Int64)))]) (rest := [(.ref b19)]) (lenOf own_pd1 rfl) rfl (by show 2 * 0 + _ ≤ _; exact Nat.le_of_eq rfl) (hb hby at_68) (fun _ _ => ⟨rfl, e19, (by decide : 1 + 0 ≤ _), (by decide : 3 + 0 ≤ _)⟩)
    dsimp only [Pt.U, Pt.locs, Pt.cells, Pt.slots] at X20 l20 y20 z20 st20 hQ20
    subst l20 y20 z20
    obtain ⟨rfl, Nq20, K20, A20, G0_20, G1_20, G2_20⟩ := hQ20
    have N20 := Fr.app N0 Nq20
    refine own_step (fun _ k => st20.trans k) ?_
    show own_Ends _ _ _ _ _ _ _ (T20.setTop (mkF m 71 #[.val (.int p0), .val (.long q1), .second, .val (.long q2), .second, .val (.int p3), .val (.int (0 : Int32)), .val (.long (0 : Int64)), .second, .val (.long (q2 &&& (4294967295 : Int64))), .second, .val (.int len), .unset, .unset, .unset, .unset, .unset, .unset] [(.ref b19)]))
    have Z20 := Nat.le_trans Z19 K20.1
    refine own_step (fun _ k => XS.astore X20.here hx rfl (hb hby at_71) rfl rfl (l' := #[.val (.int p0), .val (.long q1), .second, .val (.long q2), .second, .val (.int p3), .val (.int (0 : Int32)), .val (.long (0 : Int64)), .second, .val (.long (q2 &&& (4294967295 : Int64))), .second, .val (.int len), .val (.ref b19), .unset, .unset, .unset, .unset, .unset]) rfl k) ?_
    show own_Ends _ _ _ _ _ _ _ (T20.setTop (mkF m 73 #[.val (.int p0), .val (.long q1), .second, .val (.long q2), .second, .val (.int p3), .val (.int (0 : Int32)), .val (.long (0 : Int64)), .second, .val (.long (q2 &&& (4294967295 : Int64))), .second, .val (.int len), .val (.ref b19), .unset, .unset, .unset, .unset, .unset] []))
    refine own_step (fun _ k => XS.aload X20.here hx rfl (hb hby at_73) rfl rfl k) ?_
    show own_Ends _ _ _ _ _ _ _ (T20.setTop (mkF m 75 #[.val (.int p0), .val (.long q1), .second, .val (.long q2), .second, .val (.int p3), .val (.int (0 : Int32)), .val (.long (0 : Int64)), .second, .val (.long (q2 &&& (4294967295 : Int64))), .second, .val (.int len), .val (.ref b19), .unset, .unset, .unset, .unset, .unset] [(.ref b19)]))
    refine own_step (fun _ k => XS.iload X20.here hx rfl (hb hby at_75) rfl k) ?_
    show own_Ends _ _ _ _ _ _ _ (T20.setTop (mkF m 77 #[.val (.int p0), .val (.long q1), .second, .val (.long q2), .second, .val (.int p3), .val (.int (0 : Int32)), .val (.long (0 : Int64)), .second, .val (.long (q2 &&& (4294967295 : Int64))), .second, .val (.int len), .val (.ref b19), .unset, .unset, .unset, .unset, .unset] [(.int len), (.ref b19)]))
    obtain ⟨cq21, kq21, qa21, qb21, qc21⟩ := isOf hZ rfl A20
    obtain ⟨_, _, ⟨T21, L21, k21, n21⟩, -, X21, ⟨Lc21, hQ21, l21, y21, z21⟩, st21⟩ := X20.virtualBack hx (y := (⟨"com/example/rulewright/rulewright/IpAddress", "masked", "(I)Lcom/example/rulewright/rulewright/IpAddress;"⟩ : MethodName)) (z := (⟨"com/example/rulewright/rulewright/IpAddress", "masked", "(I)Lcom/example/rulewright/rulewright/IpAddress;"⟩ : MethodName)) hown (mvT hZ (hw _ (List.mem_of_getElem? (i := 22) rfl))) (mvT hZ (hw _ (List.mem_of_getElem? (i := 23) rfl))) (notFace_of_selects (args := #[]) (mvT hZ (hw _ (List.mem_of_getElem? (i := 25) rfl)))) (mvT hZ (hw _ (List.mem_of_getElem? (i := 25) rfl))) (mvT hZ (hw _ (List.mem_of_getElem? (i := 24) rfl))) (by decide) (backOf (W := 0) (own_rm3 l Z a0 hw [] b19 len (0 : Int32) (0 : Int64) (q2 &&& (4294967295 : Int64)) T20.heap n0 Z20 G0_20 G1_20 G2_20 (by decide)) hZ (hw _ (List.mem_of_getElem? (i := 26) rfl)) (hw _ (List.mem_of_getElem? (i := 4) rfl)) (by decide) (by decide)) qa21 qc21 (g := (mkF m 77 #[.val (.int p0), .val (.long q1), .second, .val (.long q2), .second, .val (.int p3), .val (.int (0 : Int32)), .val (.long (0 : Int64)), .second, .val (.long (q2 &&& (4294967295 : Int64))), .second, .val (.int len), .val (.ref b19), .unset, .unset, .unset, .unset, .unset] [(.int len), (.ref b19)])) rfl (by rw [hml]; rfl) (Steps.refl _) (argsL := [(.int len)]) (rest := []) (lenOf own_pd2 rfl) rfl (by show 2 * 0 + _ ≤ _; exact Nat.le_of_eq rfl) (hb hby at_77) (fun _ _ => ⟨rfl, rfl, (by decide : 1 + 1 ≤ _), (by decide : 3 + 3 ≤ _)⟩)
    dsimp only [Pt.U, Pt.locs, Pt.cells, Pt.slots] at X21 l21 y21 z21 st21 hQ21
    subst l21 y21 z21
    obtain ⟨bm21, rfl, Nq21, gb21, K21, A21, G0_21, G1_21, G2_21⟩ := hQ21
    have N21 := Fr.app N20 Nq21
    refine own_step (fun _ k => st21.trans k) ?_
    show own_Ends _ _ _ _ _ _ _ (T21.setTop (mkF m 80 #[.val (.int p0), .val (.long q1), .second, .val (.long q2), .second, .val (.int p3), .val (.int (0 : Int32)), .val (.long (0 : Int64)), .second, .val (.long (q2 &&& (4294967295 : Int64))), .second, .val (.int len), .val (.ref b19), .unset, .unset, .unset, .unset, .unset] [(.ref bm21)]))
    have Z21 := Nat.le_trans Z20 K21.1
    refine own_step (fun _ k => XS.astore X21.here hx rfl (hb hby at_80) rfl rfl (l' := #[.val (.int p0), .val (.long q1), .second, .val (.long q2), .second, .val (.int p3), .val (.int (0 : Int32)), .val (.long (0 : Int64)), .second, .val (.long (q2 &&& (4294967295 : Int64))), .second, .val (.int len), .val (.ref b19), .val (.ref bm21), .unset, .unset, .unset, .unset]) rfl k) ?_
    show own_Ends _ _ _ _ _ _ _ (T21.setTop (mkF m 82 #[.val (.int p0), .val (.long q1), .second, .val (.long q2), .second, .val (.int p3), .val (.int (0 : Int32)), .val (.long (0 : Int64)), .second, .val (.long (q2 &&& (4294967295 : Int64))), .second, .val (.int len), .val (.ref b19), .val (.ref bm21), .unset, .unset, .unset, .unset] []))
    refine own_step (fun _ k => XS.iload X21.here hx rfl (hb hby at_82) rfl k) ?_
    show own_Ends _ _ _ _ _ _ _ (T21.setTop (mkF m 84 #[.val (.int p0), .val (.long q1), .second, .val (.long q2), .second, .val (.int p3), .val (.int (0 : Int32)), .val (.long (0 : Int64)), .second, .val (.long (q2 &&& (4294967295 : Int64))), .second, .val (.int len), .val (.ref b19), .val (.ref bm21), .unset, .unset, .unset, .unset] [(.int (0 : Int32))]))
    refine own_step (fun _ k => XS.ifYes X21.here hx rfl (pc0 := 84) (pc' := 120) rfl (hb hby at_84) rfl ((if0 _ _).trans (teq rfl).1) (by decide) (by decide) k) ?_
    show own_Ends _ _ _ _ _ _ _ (T21.setTop (mkF m 120 #[.val (.int p0), .val (.long q1), .second, .val (.long q2), .second, .val (.int p3), .val (.int (0 : Int32)), .val (.long (0 : Int64)), .second, .val (.long (q2 &&& (4294967295 : Int64))), .second, .val (.int len), .val (.ref b19), .val (.ref bm21), .unset, .unset, .unset, .unset] []))
    refine own_step (fun _ k => XS.lconst X21.here hx rfl (hb hby at_120) k) ?_
    show own_Ends _ _ _ _ _ _ _ (T21.setTop (mkF m 121 #[.val (.int p0), .val (.long q1), .second, .val (.long q2), .second, .val (.int p3), .val (.int (0 : Int32)), .val (.long (0 : Int64)), .second, .val (.long (q2 &&& (4294967295 : Int64))), .second, .val (.int len), .val (.ref b19), .val (.ref bm21), .unset, .unset, .unset, .unset] [(.long (0 : Int64))]))
    refine own_step (fun _ k => XS.lstore X21.here hx rfl (hb hby at_121) rfl (l' := #[.val (.int p0), .val (.long q1), .second, .val (.long q2), .second, .val (.int p3), .val (.int (0 : Int32)), .val (.long (0 : Int64)), .second, .val (.long (q2 &&& (4294967295 : Int64))), .second, .val (.int len), .val (.ref b19), .val (.ref bm21), .val (.long (0 : Int64)), .second, .unset, .unset]) rfl k) ?_
    show own_Ends _ _ _ _ _ _ _ (T21.setTop (mkF m 123 #[.val (.int p0), .val (.long q1), .second, .val (.long q2), .second, .val (.int p3), .val (.int (0 : Int32)), .val (.long (0 : Int64)), .second, .val (.long (q2 &&& (4294967295 : Int64))), .second, .val (.int len), .val (.ref b19), .val (.ref bm21), .val (.long (0 : Int64)), .second, .unset, .unset] []))
    refine own_step (fun _ k => XS.lload X21.here hx rfl (hb hby at_123) rfl k) ?_
    show own_Ends _ _ _ _ _ _ _ (T21.setTop (mkF m 125 #[.val (.int p0), .val (.long q1), .second, .val (.long q2), .second, .val (.int p3), .val (.int (0 : Int32)), .val (.long (0 : Int64)), .second, .val (.long (q2 &&& (4294967295 : Int64))), .second, .val (.int len), .val (.ref b19), .val (.ref bm21), .val (.long (0 : Int64)), .second, .unset, .unset] [(.long (q2 &&& (4294967295 : Int64)))]))
    refine own_step (fun _ k => XS.bipush X21.here hx rfl (hb hby at_125) k) ?_
    show own_Ends _ _ _ _ _ _ _ (T21.setTop (mkF m 127 #[.val (.int p0), .val (.long q1), .second, .val (.long q2), .second, .val (.int p3), .val (.int (0 : Int32)), .val (.long (0 : Int64)), .second, .val (.long (q2 &&& (4294967295 : Int64))), .second, .val (.int len), .val (.ref b19), .val (.ref bm21), .val (.long (0 : Int64)), .second, .unset, .unset] [(.int (32 : Int32)), (.long (q2 &&& (4294967295 : Int64)))]))
    refine own_step (fun _ k => XT.lshl X21.here hx rfl (hb hby at_127) rfl k) ?_
    show own_Ends _ _ _ _ _ _ _ (T21.setTop (mkF m 128 #[.val (.int p0), .val (.long q1), .second, .val (.long q2), .second, .val (.int p3), .val (.int (0 : Int32)), .val (.long (0 : Int64)), .second, .val (.long (q2 &&& (4294967295 : Int64))), .second, .val (.int len), .val (.ref b19), .val (.ref bm21), .val (.long (0 : Int64)), .second, .unset, .unset] [(.long ((q2 &&& (4294967295 : Int64)) <<< (((32 : Int32)).toInt64 &&& 63)))]))
    show own_Ends _ _ _ _ _ _ _ (T21.setTop (mkF m 128 #[.val (.int p0), .val (.long q1), .second, .val (.long q2), .second, .val (.int p3), .val (.int (0 : Int32)), .val (.long (0 : Int64)), .second, .val (.long (q2 &&& (4294967295 : Int64))), .second, .val (.int len), .val (.ref b19), .val (.ref bm21), .val (.long (0 : Int64)), .second, .unset, .unset] [(.long (own_sl (q2 &&& (4294967295 : Int64)) (32 : Int32)))]))
    refine own_step (fun _ k => XS.iload X21.here hx rfl (hb hby at_128) rfl k) ?_
    show own_Ends _ _ _ _ _ _ _ (T21.setTop (mkF m 130 #[.val (.int p0), .val (.long q1), .second, .val (.long q2), .second, .val (.int p3), .val (.int (0 : Int32)), .val (.long (0 : Int64)), .second, .val (.long (q2 &&& (4294967295 : Int64))), .second, .val (.int len), .val (.ref b19), .val (.ref bm21), .val (.long (0 : Int64)), .second, .unset, .unset] [(.int len), (.long (own_sl (q2 &&& (4294967295 : Int64)) (32 : Int32)))]))
    obtain ⟨_, _, ⟨T22, L22, k22, n22⟩, -, X22, ⟨Lc22, hQ22, l22, y22, z22⟩, st22⟩ := Jvm.LawKit.callS X21 hx (y := (⟨"com/example/rulewright/rulewright/IpAddressMaskedPinLaw", "top", "(JI)J"⟩ : MethodName)) hown (mvT hZ (hw _ (List.mem_of_getElem? (i := 30) rfl))) (mvT hZ (hw _ (List.mem_of_getElem? (i := 31) rfl))) (mvT hZ (hw _ (List.mem_of_getElem? (i := 32) rfl))) (mvT hZ (hw _ (List.mem_of_getElem? (i := 33) rfl))) (by decide) (backOf (W := 0) (own_rm4 l Z a0 hw [] (own_sl (q2 &&& (4294967295 : Int64)) (32 : Int32)) len  T21.heap n0 Z21 ) hZ (hw _ (List.mem_of_getElem? (i := 33) rfl)) (hw _ (List.mem_of_getElem? (i := 32) rfl)) (by decide) (by decide)) (g := (mkF m 130 #[.val (.int p0), .val (.long q1), .second, .val (.long q2), .second, .val (.int p3), .val (.int (0 : Int32)), .val (.long (0 : Int64)), .second, .val (.long (q2 &&& (4294967295 : Int64))), .second, .val (.int len), .val (.ref b19), .val (.ref bm21), .val (.long (0 : Int64)), .second, .unset, .unset] [(.int len), (.long (own_sl (q2 &&& (4294967295 : Int64)) (32 : Int32)))])) rfl (by rw [hml]; rfl) (argsL := [(.long (own_sl (q2 &&& (4294967295 : Int64)) (32 : Int32))), (.int len)]) (rest := []) (lenOf own_pd3 rfl) rfl (by show 2 * 0 + _ ≤ _; exact Nat.le_of_eq rfl) (hb hby at_130) (fun _ _ => ⟨rfl, rfl, (by decide : 2 + 0 ≤ _), (by decide : 6 + 0 ≤ _)⟩)
    dsimp only [Pt.U, Pt.locs, Pt.cells, Pt.slots] at X22 l22 y22 z22 st22 hQ22
    subst l22 y22 z22
    obtain ⟨rfl, Nq22, e22⟩ := hQ22
    have N22 := Fr.app N21 Nq22
    refine own_step (fun _ k => st22 _ k) ?_
    show own_Ends _ _ _ _ _ _ _ (T22.setTop (mkF m 133 #[.val (.int p0), .val (.long q1), .second, .val (.long q2), .second, .val (.int p3), .val (.int (0 : Int32)), .val (.long (0 : Int64)), .second, .val (.long (q2 &&& (4294967295 : Int64))), .second, .val (.int len), .val (.ref b19), .val (.ref bm21), .val (.long (0 : Int64)), .second, .unset, .unset] [(.long (own_top (own_sl (q2 &&& (4294967295 : Int64)) (32 : Int32)) len))]))
    refine own_step (fun _ k => XS.bipush X22.here hx rfl (hb hby at_133) k) ?_
    show own_Ends _ _ _ _ _ _ _ (T22.setTop (mkF m 135 #[.val (.int p0), .val (.long q1), .second, .val (.long q2), .second, .val (.int p3), .val (.int (0 : Int32)), .val (.long (0 : Int64)), .second, .val (.long (q2 &&& (4294967295 : Int64))), .second, .val (.int len), .val (.ref b19), .val (.ref bm21), .val (.long (0 : Int64)), .second, .unset, .unset] [(.int (32 : Int32)), (.long (own_top (own_sl (q2 &&& (4294967295 : Int64)) (32 : Int32)) len))]))
    refine own_step (fun _ k => XT.lushr X22.here hx rfl (hb hby at_135) rfl k) ?_
    show own_Ends _ _ _ _ _ _ _ (T22.setTop (mkF m 136 #[.val (.int p0), .val (.long q1), .second, .val (.long q2), .second, .val (.int p3), .val (.int (0 : Int32)), .val (.long (0 : Int64)), .second, .val (.long (q2 &&& (4294967295 : Int64))), .second, .val (.int len), .val (.ref b19), .val (.ref bm21), .val (.long (0 : Int64)), .second, .unset, .unset] [(.long (XT.ushrL (own_top (own_sl (q2 &&& (4294967295 : Int64)) (32 : Int32)) len) (32 : Int32)))]))
    refine own_step (fun _ k => XS.lstore X22.here hx rfl (hb hby at_136) rfl (l' := #[.val (.int p0), .val (.long q1), .second, .val (.long q2), .second, .val (.int p3), .val (.int (0 : Int32)), .val (.long (0 : Int64)), .second, .val (.long (q2 &&& (4294967295 : Int64))), .second, .val (.int len), .val (.ref b19), .val (.ref bm21), .val (.long (0 : Int64)), .second, .val (.long (XT.ushrL (own_top (own_sl (q2 &&& (4294967295 : Int64)) (32 : Int32)) len) (32 : Int32))), .second]) rfl k) ?_
    show own_Ends _ _ _ _ _ _ _ (T22.setTop (mkF m 138 #[.val (.int p0), .val (.long q1), .second, .val (.long q2), .second, .val (.int p3), .val (.int (0 : Int32)), .val (.long (0 : Int64)), .second, .val (.long (q2 &&& (4294967295 : Int64))), .second, .val (.int len), .val (.ref b19), .val (.ref bm21), .val (.long (0 : Int64)), .second, .val (.long (XT.ushrL (own_top (own_sl (q2 &&& (4294967295 : Int64)) (32 : Int32)) len) (32 : Int32))), .second] []))
    refine own_step (fun _ k => XS.aload X22.here hx rfl (hb hby at_138) rfl rfl k) ?_
    show own_Ends _ _ _ _ _ _ _ (T22.setTop (mkF m 140 #[.val (.int p0), .val (.long q1), .second, .val (.long q2), .second, .val (.int p3), .val (.int (0 : Int32)), .val (.long (0 : Int64)), .second, .val (.long (q2 &&& (4294967295 : Int64))), .second, .val (.int len), .val (.ref b19), .val (.ref bm21), .val (.long (0 : Int64)), .second, .val (.long (XT.ushrL (own_top (own_sl (q2 &&& (4294967295 : Int64)) (32 : Int32)) len) (32 : Int32))), .second] [(.ref bm21)]))
    obtain ⟨cq23, kq23, qa23, qb23, qc23⟩ := isOf hZ e22 A21
    obtain ⟨_, _, ⟨T23, L23, k23, n23⟩, -, X23, ⟨Lc23, hQ23, l23, y23, z23⟩, st23⟩ := X22.virtualBack hx (y := (⟨"com/example/rulewright/rulewright/IpAddress", "v6", "()Z"⟩ : MethodName)) (z := (⟨"com/example/rulewright/rulewright/IpAddress", "v6", "()Z"⟩ : MethodName)) hown (mvT hZ (hw _ (List.mem_of_getElem? (i := 34) rfl))) (mvT hZ (hw _ (List.mem_of_getElem? (i := 35) rfl))) (notFace_of_selects (args := #[]) (mvT hZ (hw _ (List.mem_of_getElem? (i := 37) rfl)))) (mvT hZ (hw _ (List.mem_of_getElem? (i := 37) rfl))) (mvT hZ (hw _ (List.mem_of_getElem? (i := 36) rfl))) (by decide) (backOf (W := 0) (own_rm5 l Z a0 hw [] bm21 (0 : Int32) T21.heap n0 Z21 G0_21 (by decide)) hZ (hw _ (List.mem_of_getElem? (i := 38) rfl)) (hw _ (List.mem_of_getElem? (i := 4) rfl)) (by decide) (by decide)) qa23 qc23 (g := (mkF m 140 #[.val (.int p0), .val (.long q1), .second, .val (.long q2), .second, .val (.int p3), .val (.int (0 : Int32)), .val (.long (0 : Int64)), .second, .val (.long (q2 &&& (4294967295 : Int64))), .second, .val (.int len), .val (.ref b19), .val (.ref bm21), .val (.long (0 : Int64)), .second, .val (.long (XT.ushrL (own_top (own_sl (q2 &&& (4294967295 : Int64)) (32 : Int32)) len) (32 : Int32))), .second] [(.ref bm21)])) rfl (by rw [hml]; rfl) (Steps.refl _) (argsL := []) (rest := []) (lenOf own_pd4 rfl) rfl (by show 2 * 0 + _ ≤ _; exact Nat.le_of_eq rfl) (hb hby at_140) (fun _ _ => ⟨rfl, e22, (by decide : 2 + 0 ≤ _), (by decide : 6 + 0 ≤ _)⟩)
    dsimp only [Pt.U, Pt.locs, Pt.cells, Pt.slots] at X23 l23 y23 z23 st23 hQ23
    subst l23 y23 z23
    obtain ⟨rfl, Nq23, e23⟩ := hQ23
    have N23 := Fr.app N22 Nq23
    refine own_step (fun _ k => st23.trans k) ?_
    show own_Ends _ _ _ _ _ _ _ (T23.setTop (mkF m 143 #[.val (.int p0), .val (.long q1), .second, .val (.long q2), .second, .val (.int p3), .val (.int (0 : Int32)), .val (.long (0 : Int64)), .second, .val (.long (q2 &&& (4294967295 : Int64))), .second, .val (.int len), .val (.ref b19), .val (.ref bm21), .val (.long (0 : Int64)), .second, .val (.long (XT.ushrL (own_top (own_sl (q2 &&& (4294967295 : Int64)) (32 : Int32)) len) (32 : Int32))), .second] [(.int (0 : Int32))]))
    refine own_step (fun _ k => XS.iload X23.here hx rfl (hb hby at_143) rfl k) ?_
    show own_Ends _ _ _ _ _ _ _ (T23.setTop (mkF m 145 #[.val (.int p0), .val (.long q1), .second, .val (.long q2), .second, .val (.int p3), .val (.int (0 : Int32)), .val (.long (0 : Int64)), .second, .val (.long (q2 &&& (4294967295 : Int64))), .second, .val (.int len), .val (.ref b19), .val (.ref bm21), .val (.long (0 : Int64)), .second, .val (.long (XT.ushrL (own_top (own_sl (q2 &&& (4294967295 : Int64)) (32 : Int32)) len) (32 : Int32))), .second] [(.int (0 : Int32)), (.int (0 : Int32))]))
    refine own_step (fun _ k => XS.icmpNo X23.here hx rfl (hb hby at_145) rfl (teq rfl).2 k) ?_
    show own_Ends _ _ _ _ _ _ _ (T23.setTop (mkF m 148 #[.val (.int p0), .val (.long q1), .second, .val (.long q2), .second, .val (.int p3), .val (.int (0 : Int32)), .val (.long (0 : Int64)), .second, .val (.long (q2 &&& (4294967295 : Int64))), .second, .val (.int len), .val (.ref b19), .val (.ref bm21), .val (.long (0 : Int64)), .second, .val (.long (XT.ushrL (own_top (own_sl (q2 &&& (4294967295 : Int64)) (32 : Int32)) len) (32 : Int32))), .second] []))
    refine own_step (fun _ k => XS.aload X23.here hx rfl (hb hby at_148) rfl rfl k) ?_
    show own_Ends _ _ _ _ _ _ _ (T23.setTop (mkF m 150 #[.val (.int p0), .val (.long q1), .second, .val (.long q2), .second, .val (.int p3), .val (.int (0 : Int32)), .val (.long (0 : Int64)), .second, .val (.long (q2 &&& (4294967295 : Int64))), .second, .val (.int len), .val (.ref b19), .val (.ref bm21), .val (.long (0 : Int64)), .second, .val (.long (XT.ushrL (own_top (own_sl (q2 &&& (4294967295 : Int64)) (32 : Int32)) len) (32 : Int32))), .second] [(.ref bm21)]))
    obtain ⟨cq24, kq24, qa24, qb24, qc24⟩ := isOf hZ e23 A21
    obtain ⟨_, _, ⟨T24, L24, k24, n24⟩, -, X24, ⟨Lc24, hQ24, l24, y24, z24⟩, st24⟩ := X23.virtualBack hx (y := (⟨"com/example/rulewright/rulewright/IpAddress", "high", "()J"⟩ : MethodName)) (z := (⟨"com/example/rulewright/rulewright/IpAddress", "high", "()J"⟩ : MethodName)) hown (mvT hZ (hw _ (List.mem_of_getElem? (i := 39) rfl))) (mvT hZ (hw _ (List.mem_of_getElem? (i := 40) rfl))) (notFace_of_selects (args := #[]) (mvT hZ (hw _ (List.mem_of_getElem? (i := 42) rfl)))) (mvT hZ (hw _ (List.mem_of_getElem? (i := 42) rfl))) (mvT hZ (hw _ (List.mem_of_getElem? (i := 41) rfl))) (by decide) (backOf (W := 0) (own_rm6 l Z a0 hw [] bm21 (own_mh (own_bits (0 : Int32) len) (0 : Int64)) T21.heap n0 Z21 G1_21) hZ (hw _ (List.mem_of_getElem? (i := 43) rfl)) (hw _ (List.mem_of_getElem? (i := 4) rfl)) (by decide) (by decide)) qa24 qc24 (g := (mkF m 150 #[.val (.int p0), .val (.long q1), .second, .val (.long q2), .second, .val (.int p3), .val (.int (0 : Int32)), .val (.long (0 : Int64)), .second, .val (.long (q2 &&& (4294967295 : Int64))), .second, .val (.int len), .val (.ref b19), .val (.ref bm21), .val (.long (0 : Int64)), .second, .val (.long (XT.ushrL (own_top (own_sl (q2 &&& (4294967295 : Int64)) (32 : Int32)) len) (32 : Int32))), .second] [(.ref bm21)])) rfl (by rw [hml]; rfl) (Steps.refl _) (argsL := []) (rest := []) (lenOf own_pd5 rfl) rfl (by show 2 * 0 + _ ≤ _; exact Nat.le_of_eq rfl) (hb hby at_150) (fun _ _ => ⟨rfl, e23, (by decide : 2 + 0 ≤ _), (by decide : 6 + 0 ≤ _)⟩)
    dsimp only [Pt.U, Pt.locs, Pt.cells, Pt.slots] at X24 l24 y24 z24 st24 hQ24
    subst l24 y24 z24
    obtain ⟨rfl, Nq24, e24⟩ := hQ24
    have N24 := Fr.app N23 Nq24
    refine own_step (fun _ k => st24.trans k) ?_
    show own_Ends _ _ _ _ _ _ _ (T24.setTop (mkF m 153 #[.val (.int p0), .val (.long q1), .second, .val (.long q2), .second, .val (.int p3), .val (.int (0 : Int32)), .val (.long (0 : Int64)), .second, .val (.long (q2 &&& (4294967295 : Int64))), .second, .val (.int len), .val (.ref b19), .val (.ref bm21), .val (.long (0 : Int64)), .second, .val (.long (XT.ushrL (own_top (own_sl (q2 &&& (4294967295 : Int64)) (32 : Int32)) len) (32 : Int32))), .second] [(.long (own_mh (own_bits (0 : Int32) len) (0 : Int64)))]))
    refine own_step (fun _ k => XS.lload X24.here hx rfl (hb hby at_153) rfl k) ?_
    show own_Ends _ _ _ _ _ _ _ (T24.setTop (mkF m 155 #[.val (.int p0), .val (.long q1), .second, .val (.long q2), .second, .val (.int p3), .val (.int (0 : Int32)), .val (.long (0 : Int64)), .second, .val (.long (q2 &&& (4294967295 : Int64))), .second, .val (.int len), .val (.ref b19), .val (.ref bm21), .val (.long (0 : Int64)), .second, .val (.long (XT.ushrL (own_top (own_sl (q2 &&& (4294967295 : Int64)) (32 : Int32)) len) (32 : Int32))), .second] [(.long (0 : Int64)), (.long (own_mh (own_bits (0 : Int32) len) (0 : Int64)))]))
    refine own_step (fun _ k => XS.lcmp X24.here hx rfl (hb hby at_155) rfl k) ?_
    show own_Ends _ _ _ _ _ _ _ (T24.setTop (mkF m 156 #[.val (.int p0), .val (.long q1), .second, .val (.long q2), .second, .val (.int p3), .val (.int (0 : Int32)), .val (.long (0 : Int64)), .second, .val (.long (q2 &&& (4294967295 : Int64))), .second, .val (.int len), .val (.ref b19), .val (.ref bm21), .val (.long (0 : Int64)), .second, .val (.long (XT.ushrL (own_top (own_sl (q2 &&& (4294967295 : Int64)) (32 : Int32)) len) (32 : Int32))), .second] [(.int (lcmpW (own_mh (own_bits (0 : Int32) len) (0 : Int64)) (0 : Int64)))]))
    refine own_step (fun _ k => XS.ifNo X24.here hx rfl (hb hby at_156) rfl ((if0 _ _).trans (teq ((lw_eq _ _).mpr (own_v4h hl0 hl1))).2) k) ?_
    show own_Ends _ _ _ _ _ _ _ (T24.setTop (mkF m 159 #[.val (.int p0), .val (.long q1), .second, .val (.long q2), .second, .val (.int p3), .val (.int (0 : Int32)), .val (.long (0 : Int64)), .second, .val (.long (q2 &&& (4294967295 : Int64))), .second, .val (.int len), .val (.ref b19), .val (.ref bm21), .val (.long (0 : Int64)), .second, .val (.long (XT.ushrL (own_top (own_sl (q2 &&& (4294967295 : Int64)) (32 : Int32)) len) (32 : Int32))), .second] []))
    refine own_step (fun _ k => XS.aload X24.here hx rfl (hb hby at_159) rfl rfl k) ?_
    show own_Ends _ _ _ _ _ _ _ (T24.setTop (mkF m 161 #[.val (.int p0), .val (.long q1), .second, .val (.long q2), .second, .val (.int p3), .val (.int (0 : Int32)), .val (.long (0 : Int64)), .second, .val (.long (q2 &&& (4294967295 : Int64))), .second, .val (.int len), .val (.ref b19), .val (.ref bm21), .val (.long (0 : Int64)), .second, .val (.long (XT.ushrL (own_top (own_sl (q2 &&& (4294967295 : Int64)) (32 : Int32)) len) (32 : Int32))), .second] [(.ref bm21)]))
    obtain ⟨cq25, kq25, qa25, qb25, qc25⟩ := isOf hZ e24 A21
    obtain ⟨_, _, ⟨T25, L25, k25, n25⟩, -, X25, ⟨Lc25, hQ25, l25, y25, z25⟩, st25⟩ := X24.virtualBack hx (y := (⟨"com/example/rulewright/rulewright/IpAddress", "low", "()J"⟩ : MethodName)) (z := (⟨"com/example/rulewright/rulewright/IpAddress", "low", "()J"⟩ : MethodName)) hown (mvT hZ (hw _ (List.mem_of_getElem? (i := 44) rfl))) (mvT hZ (hw _ (List.mem_of_getElem? (i := 45) rfl))) (notFace_of_selects (args := #[]) (mvT hZ (hw _ (List.mem_of_getElem? (i := 47) rfl)))) (mvT hZ (hw _ (List.mem_of_getElem? (i := 47) rfl))) (mvT hZ (hw _ (List.mem_of_getElem? (i := 46) rfl))) (by decide) (backOf (W := 0) (own_rm7 l Z a0 hw [] bm21 (own_ml (own_bits (0 : Int32) len) (q2 &&& (4294967295 : Int64))) T21.heap n0 Z21 G2_21) hZ (hw _ (List.mem_of_getElem? (i := 48) rfl)) (hw _ (List.mem_of_getElem? (i := 4) rfl)) (by decide) (by decide)) qa25 qc25 (g := (mkF m 161 #[.val (.int p0), .val (.long q1), .second, .val (.long q2), .second, .val (.int p3), .val (.int (0 : Int32)), .val (.long (0 : Int64)), .second, .val (.long (q2 &&& (4294967295 : Int64))), .second, .val (.int len), .val (.ref b19), .val (.ref bm21), .val (.long (0 : Int64)), .second, .val (.long (XT.ushrL (own_top (own_sl (q2 &&& (4294967295 : Int64)) (32 : Int32)) len) (32 : Int32))), .second] [(.ref bm21)])) rfl (by rw [hml]; rfl) (Steps.refl _) (argsL := []) (rest := []) (lenOf own_pd5 rfl) rfl (by show 2 * 0 + _ ≤ _; exact Nat.le_of_eq rfl) (hb hby at_161) (fun _ _ => ⟨rfl, e24, (by decide : 2 + 0 ≤ _), (by decide : 6 + 0 ≤ _)⟩)
    dsimp only [Pt.U, Pt.locs, Pt.cells, Pt.slots] at X25 l25 y25 z25 st25 hQ25
    subst l25 y25 z25
    obtain ⟨rfl, Nq25, e25⟩ := hQ25
    have N25 := Fr.app N24 Nq25
    refine own_step (fun _ k => st25.trans k) ?_
    show own_Ends _ _ _ _ _ _ _ (T25.setTop (mkF m 164 #[.val (.int p0), .val (.long q1), .second, .val (.long q2), .second, .val (.int p3), .val (.int (0 : Int32)), .val (.long (0 : Int64)), .second, .val (.long (q2 &&& (4294967295 : Int64))), .second, .val (.int len), .val (.ref b19), .val (.ref bm21), .val (.long (0 : Int64)), .second, .val (.long (XT.ushrL (own_top (own_sl (q2 &&& (4294967295 : Int64)) (32 : Int32)) len) (32 : Int32))), .second] [(.long (own_ml (own_bits (0 : Int32) len) (q2 &&& (4294967295 : Int64))))]))
    refine own_step (fun _ k => XS.lload X25.here hx rfl (hb hby at_164) rfl k) ?_
    show own_Ends _ _ _ _ _ _ _ (T25.setTop (mkF m 166 #[.val (.int p0), .val (.long q1), .second, .val (.long q2), .second, .val (.int p3), .val (.int (0 : Int32)), .val (.long (0 : Int64)), .second, .val (.long (q2 &&& (4294967295 : Int64))), .second, .val (.int len), .val (.ref b19), .val (.ref bm21), .val (.long (0 : Int64)), .second, .val (.long (XT.ushrL (own_top (own_sl (q2 &&& (4294967295 : Int64)) (32 : Int32)) len) (32 : Int32))), .second] [(.long (XT.ushrL (own_top (own_sl (q2 &&& (4294967295 : Int64)) (32 : Int32)) len) (32 : Int32))), (.long (own_ml (own_bits (0 : Int32) len) (q2 &&& (4294967295 : Int64))))]))
    refine own_step (fun _ k => XS.lcmp X25.here hx rfl (hb hby at_166) rfl k) ?_
    show own_Ends _ _ _ _ _ _ _ (T25.setTop (mkF m 167 #[.val (.int p0), .val (.long q1), .second, .val (.long q2), .second, .val (.int p3), .val (.int (0 : Int32)), .val (.long (0 : Int64)), .second, .val (.long (q2 &&& (4294967295 : Int64))), .second, .val (.int len), .val (.ref b19), .val (.ref bm21), .val (.long (0 : Int64)), .second, .val (.long (XT.ushrL (own_top (own_sl (q2 &&& (4294967295 : Int64)) (32 : Int32)) len) (32 : Int32))), .second] [(.int (lcmpW (own_ml (own_bits (0 : Int32) len) (q2 &&& (4294967295 : Int64))) (XT.ushrL (own_top (own_sl (q2 &&& (4294967295 : Int64)) (32 : Int32)) len) (32 : Int32))))]))
    refine own_step (fun _ k => XS.ifNo X25.here hx rfl (hb hby at_167) rfl ((if0 _ _).trans (teq ((lw_eq _ _).mpr (own_v4l hl0 hl1))).2) k) ?_
    show own_Ends _ _ _ _ _ _ _ (T25.setTop (mkF m 170 #[.val (.int p0), .val (.long q1), .second, .val (.long q2), .second, .val (.int p3), .val (.int (0 : Int32)), .val (.long (0 : Int64)), .second, .val (.long (q2 &&& (4294967295 : Int64))), .second, .val (.int len), .val (.ref b19), .val (.ref bm21), .val (.long (0 : Int64)), .second, .val (.long (XT.ushrL (own_top (own_sl (q2 &&& (4294967295 : Int64)) (32 : Int32)) len) (32 : Int32))), .second] []))
    refine own_step (fun _ k => XS.iconst X25.here hx rfl (hb hby at_170) k) ?_
    show own_Ends _ _ _ _ _ _ _ (T25.setTop (mkF m 171 #[.val (.int p0), .val (.long q1), .second, .val (.long q2), .second, .val (.int p3), .val (.int (0 : Int32)), .val (.long (0 : Int64)), .second, .val (.long (q2 &&& (4294967295 : Int64))), .second, .val (.int len), .val (.ref b19), .val (.ref bm21), .val (.long (0 : Int64)), .second, .val (.long (XT.ushrL (own_top (own_sl (q2 &&& (4294967295 : Int64)) (32 : Int32)) len) (32 : Int32))), .second] [(.int (1 : Int32))]))
    refine own_step (fun _ k => XS.goto X25.here hx rfl (pc0 := 171) (pc' := 175) rfl (hb hby at_171) (by decide) (by decide) k) ?_
    show own_Ends _ _ _ _ _ _ _ (T25.setTop (mkF m 175 #[.val (.int p0), .val (.long q1), .second, .val (.long q2), .second, .val (.int p3), .val (.int (0 : Int32)), .val (.long (0 : Int64)), .second, .val (.long (q2 &&& (4294967295 : Int64))), .second, .val (.int len), .val (.ref b19), .val (.ref bm21), .val (.long (0 : Int64)), .second, .val (.long (XT.ushrL (own_top (own_sl (q2 &&& (4294967295 : Int64)) (32 : Int32)) len) (32 : Int32))), .second] [(.int (1 : Int32))]))
    refine own_ret X25 (BodyLoose.notSynchronized Bd) (v := (some (.int (1 : Int32)))) (fun h => by rw [Bd.returns] at h; cases h) ?_ (by decide) (by decide) (fun fs hr => X25.ireturnOut hx Bd.returns rfl (by simp) (hb hby at_175) hr)
    show own_Q0 Z p0 q1 q2 p3  h0 n0 (some (.int (1 : Int32))) T25.heap _
    rw [e25]
    exact ⟨rfl, N25⟩
  · refine own_step (fun _ k => XS.ifNo X0.here hx rfl (hb hby at_3) rfl ((if0 _ _).trans (feq h1).1) k) ?_
    show own_Ends _ _ _ _ _ _ _ (s₁.setTop (mkF m 6 #[.val (.int p0), .val (.long q1), .second, .val (.long q2), .second, .val (.int p3), .unset, .unset, .unset, .unset, .unset, .unset, .unset, .unset, .unset, .unset, .unset, .unset] []))
    refine own_step (fun _ k => XS.iconst X0.here hx rfl (hb hby at_6) k) ?_
    show own_Ends _ _ _ _ _ _ _ (s₁.setTop (mkF m 7 #[.val (.int p0), .val (.long q1), .second, .val (.long q2), .second, .val (.int p3), .unset, .unset, .unset, .unset, .unset, .unset, .unset, .unset, .unset, .unset, .unset, .unset] [(.int (1 : Int32))]))
    refine own_step (fun _ k => XS.goto X0.here hx rfl (pc0 := 7) (pc' := 11) rfl (hb hby at_7) (by decide) (by decide) k) ?_
    show own_Ends _ _ _ _ _ _ _ (s₁.setTop (mkF m 11 #[.val (.int p0), .val (.long q1), .second, .val (.long q2), .second, .val (.int p3), .unset, .unset, .unset, .unset, .unset, .unset, .unset, .unset, .unset, .unset, .unset, .unset] [(.int (1 : Int32))]))
    refine own_step (fun _ k => XS.istore X0.here hx rfl (hb hby at_11) rfl (l' := #[.val (.int p0), .val (.long q1), .second, .val (.long q2), .second, .val (.int p3), .val (.int (1 : Int32)), .unset, .unset, .unset, .unset, .unset, .unset, .unset, .unset, .unset, .unset, .unset]) rfl k) ?_
    show own_Ends _ _ _ _ _ _ _ (s₁.setTop (mkF m 13 #[.val (.int p0), .val (.long q1), .second, .val (.long q2), .second, .val (.int p3), .val (.int (1 : Int32)), .unset, .unset, .unset, .unset, .unset, .unset, .unset, .unset, .unset, .unset, .unset] []))
    refine own_step (fun _ k => XS.iload X0.here hx rfl (hb hby at_13) rfl k) ?_
    show own_Ends _ _ _ _ _ _ _ (s₁.setTop (mkF m 15 #[.val (.int p0), .val (.long q1), .second, .val (.long q2), .second, .val (.int p3), .val (.int (1 : Int32)), .unset, .unset, .unset, .unset, .unset, .unset, .unset, .unset, .unset, .unset, .unset] [(.int (1 : Int32))]))
    refine own_step (fun _ k => XS.ifNo X0.here hx rfl (hb hby at_15) rfl ((if0 _ _).trans (feq (by decide)).1) k) ?_
    show own_Ends _ _ _ _ _ _ _ (s₁.setTop (mkF m 18 #[.val (.int p0), .val (.long q1), .second, .val (.long q2), .second, .val (.int p3), .val (.int (1 : Int32)), .unset, .unset, .unset, .unset, .unset, .unset, .unset, .unset, .unset, .unset, .unset] []))
    refine own_step (fun _ k => XS.lloadN X0.here hx rfl (hb hby at_18) rfl k) ?_
    show own_Ends _ _ _ _ _ _ _ (s₁.setTop (mkF m 19 #[.val (.int p0), .val (.long q1), .second, .val (.long q2), .second, .val (.int p3), .val (.int (1 : Int32)), .unset, .unset, .unset, .unset, .unset, .unset, .unset, .unset, .unset, .unset, .unset] [(.long q1)]))
    refine own_step (fun _ k => XS.lstore X0.here hx rfl (hb hby at_19) rfl (l' := #[.val (.int p0), .val (.long q1), .second, .val (.long q2), .second, .val (.int p3), .val (.int (1 : Int32)), .val (.long q1), .second, .unset, .unset, .unset, .unset, .unset, .unset, .unset, .unset, .unset]) rfl k) ?_
    show own_Ends _ _ _ _ _ _ _ (s₁.setTop (mkF m 21 #[.val (.int p0), .val (.long q1), .second, .val (.long q2), .second, .val (.int p3), .val (.int (1 : Int32)), .val (.long q1), .second, .unset, .unset, .unset, .unset, .unset, .unset, .unset, .unset, .unset] []))
    refine own_step (fun _ k => XS.lloadN X0.here hx rfl (hb hby at_21) rfl k) ?_
    show own_Ends _ _ _ _ _ _ _ (s₁.setTop (mkF m 22 #[.val (.int p0), .val (.long q1), .second, .val (.long q2), .second, .val (.int p3), .val (.int (1 : Int32)), .val (.long q1), .second, .unset, .unset, .unset, .unset, .unset, .unset, .unset, .unset, .unset] [(.long q2)]))
    refine own_step (fun _ k => XS.lstore X0.here hx rfl (hb hby at_22) rfl (l' := #[.val (.int p0), .val (.long q1), .second, .val (.long q2), .second, .val (.int p3), .val (.int (1 : Int32)), .val (.long q1), .second, .val (.long q2), .second, .unset, .unset, .unset, .unset, .unset, .unset, .unset]) rfl k) ?_
    show own_Ends _ _ _ _ _ _ _ (s₁.setTop (mkF m 24 #[.val (.int p0), .val (.long q1), .second, .val (.long q2), .second, .val (.int p3), .val (.int (1 : Int32)), .val (.long q1), .second, .val (.long q2), .second, .unset, .unset, .unset, .unset, .unset, .unset, .unset] []))
    refine own_step (fun _ k => XS.iload X0.here hx rfl (hb hby at_24) rfl k) ?_
    show own_Ends _ _ _ _ _ _ _ (s₁.setTop (mkF m 26 #[.val (.int p0), .val (.long q1), .second, .val (.long q2), .second, .val (.int p3), .val (.int (1 : Int32)), .val (.long q1), .second, .val (.long q2), .second, .unset, .unset, .unset, .unset, .unset, .unset, .unset] [(.int p3)]))
    refine own_step (fun _ k => X0.ldcInt hx hown (mvT hZ (hw _ (List.mem_of_getElem? (i := 1) rfl))) (g := (mkF m 26 #[.val (.int p0), .val (.long q1), .second, .val (.long q2), .second, .val (.int p3), .val (.int (1 : Int32)), .val (.long q1), .second, .val (.long q2), .second, .unset, .unset, .unset, .unset, .unset, .unset, .unset] [(.int p3)])) rfl (hb hby at_26) _ k) ?_
    show own_Ends _ _ _ _ _ _ _ (s₁.setTop (mkF m 28 #[.val (.int p0), .val (.long q1), .second, .val (.long q2), .second, .val (.int p3), .val (.int (1 : Int32)), .val (.long q1), .second, .val (.long q2), .second, .unset, .unset, .unset, .unset, .unset, .unset, .unset] [(.int (2147483647 : Int32)), (.int p3)]))
    refine own_step (fun _ k => XS.iand X0.here hx rfl (hb hby at_28) rfl k) ?_
    show own_Ends _ _ _ _ _ _ _ (s₁.setTop (mkF m 29 #[.val (.int p0), .val (.long q1), .second, .val (.long q2), .second, .val (.int p3), .val (.int (1 : Int32)), .val (.long q1), .second, .val (.long q2), .second, .unset, .unset, .unset, .unset, .unset, .unset, .unset] [(.int (p3 &&& (2147483647 : Int32)))]))
    refine own_step (fun _ k => XS.sipush X0.here hx rfl (hb hby at_29) k) ?_
    show own_Ends _ _ _ _ _ _ _ (s₁.setTop (mkF m 32 #[.val (.int p0), .val (.long q1), .second, .val (.long q2), .second, .val (.int p3), .val (.int (1 : Int32)), .val (.long q1), .second, .val (.long q2), .second, .unset, .unset, .unset, .unset, .unset, .unset, .unset] [(.int (129 : Int32)), (.int (p3 &&& (2147483647 : Int32)))]))
    refine own_step (fun _ k => XS.irem X0.here hx rfl (hb hby at_32) rfl (by decide) k) ?_
    show own_Ends _ _ _ _ _ _ _ (s₁.setTop (mkF m 33 #[.val (.int p0), .val (.long q1), .second, .val (.long q2), .second, .val (.int p3), .val (.int (1 : Int32)), .val (.long q1), .second, .val (.long q2), .second, .unset, .unset, .unset, .unset, .unset, .unset, .unset] [(.int ((p3 &&& (2147483647 : Int32)) - ((p3 &&& (2147483647 : Int32)) / (129 : Int32)) * (129 : Int32)))]))
    obtain ⟨hl0, hl1⟩ := own_lenB p3 (129 : Int32) 129 rfl (by decide)
    generalize ((p3 &&& (2147483647 : Int32)) - ((p3 &&& (2147483647 : Int32)) / (129 : Int32)) * (129 : Int32)) = len at hl0 hl1 ⊢
    refine own_step (fun _ k => XS.istore X0.here hx rfl (hb hby at_33) rfl (l' := #[.val (.int p0), .val (.long q1), .second, .val (.long q2), .second, .val (.int p3), .val (.int (1 : Int32)), .val (.long q1), .second, .val (.long q2), .second, .val (.int len), .unset, .unset, .unset, .unset, .unset, .unset]) rfl k) ?_
    show own_Ends _ _ _ _ _ _ _ (s₁.setTop (mkF m 35 #[.val (.int p0), .val (.long q1), .second, .val (.long q2), .second, .val (.int p3), .val (.int (1 : Int32)), .val (.long q1), .second, .val (.long q2), .second, .val (.int len), .unset, .unset, .unset, .unset, .unset, .unset] []))
    refine own_step (fun _ k => XS.goto X0.here hx rfl (pc0 := 35) (pc' := 58) rfl (hb hby at_35) (by decide) (by decide) k) ?_
    show own_Ends _ _ _ _ _ _ _ (s₁.setTop (mkF m 58 #[.val (.int p0), .val (.long q1), .second, .val (.long q2), .second, .val (.int p3), .val (.int (1 : Int32)), .val (.long q1), .second, .val (.long q2), .second, .val (.int len), .unset, .unset, .unset, .unset, .unset, .unset] []))
    obtain ⟨T26, h26, X26, e26, E26, A26, D26, -, st26⟩ := newO X0 hx hZ hown (hw _ (List.mem_of_getElem? (i := 2) rfl)) (hw _ (List.mem_of_getElem? (i := 3) rfl)) (hw _ (List.mem_of_getElem? (i := 4) rfl)) e0 (g := (mkF m 58 #[.val (.int p0), .val (.long q1), .second, .val (.long q2), .second, .val (.int p3), .val (.int (1 : Int32)), .val (.long q1), .second, .val (.long q2), .second, .val (.int len), .unset, .unset, .unset, .unset, .unset, .unset] [])) rfl (hb hby at_58) (by decide) (by decide)
    obtain ⟨b26, g26⟩ : ∃ z, z = h0.size := ⟨_, rfl⟩
    rw [← g26] at A26 D26 st26
    have gn26 : n0 ≤ b26 := Nat.le_trans Z0 (Nat.le_of_eq g26.symm)
    have Z26 := Nat.le_trans Z0 E26.1
    have F26_b26_v6 : Fld Z h26 b26 "com/example/rulewright/rulewright/IpAddress" "v6" "Z" (.int (0 : Int32)) := D26 (Or.inr (hw _ (List.mem_of_getElem? (i := 17) rfl))) (ty := .boolean) (by decide)
    have F26_b26_high : Fld Z h26 b26 "com/example/rulewright/rulewright/IpAddress" "high" "J" (.long (0 : Int64)) := D26 (Or.inr (hw _ (List.mem_of_getElem? (i := 19) rfl))) (ty := .long) (by decide)
    have F26_b26_low : Fld Z h26 b26 "com/example/rulewright/rulewright/IpAddress" "low" "J" (.long (0 : Int64)) := D26 (Or.inr (hw _ (List.mem_of_getElem? (i := 21) rfl))) (ty := .long) (by decide)
    refine own_step (fun _ k => st26 _ k) ?_
    show own_Ends _ _ _ _ _ _ _ (T26.setTop (mkF m 61 #[.val (.int p0), .val (.long q1), .second, .val (.long q2), .second, .val (.int p3), .val (.int (1 : Int32)), .val (.long q1), .second, .val (.long q2), .second, .val (.int len), .unset, .unset, .unset, .unset, .unset, .unset] [(.ref b26)]))
    refine own_step (fun _ k => XS.dup X26.here hx rfl (hb hby at_61) rfl rfl k) ?_
    show own_Ends _ _ _ _ _ _ _ (T26.setTop (mkF m 62 #[.val (.int p0), .val (.long q1), .second, .val (.long q2), .second, .val (.int p3), .val (.int (1 : Int32)), .val (.long q1), .second, .val (.long q2), .second, .val (.int len), .unset, .unset, .unset, .unset, .unset, .unset] [(.ref b26), (.ref b26)]))
    refine own_step (fun _ k => XS.iload X26.here hx rfl (hb hby at_62) rfl k) ?_
    show own_Ends _ _ _ _ _ _ _ (T26.setTop (mkF m 64 #[.val (.int p0), .val (.long q1), .second, .val (.long q2), .second, .val (.int p3), .val (.int (1 : Int32)), .val (.long q1), .second, .val (.long q2), .second, .val (.int len), .unset, .unset, .unset, .unset, .unset, .unset] [(.int (1 : Int32)), (.ref b26), (.ref b26)]))
    refine own_step (fun _ k => XS.lload X26.here hx rfl (hb hby at_64) rfl k) ?_
    show own_Ends _ _ _ _ _ _ _ (T26.setTop (mkF m 66 #[.val (.int p0), .val (.long q1), .second, .val (.long q2), .second, .val (.int p3), .val (.int (1 : Int32)), .val (.long q1), .second, .val (.long q2), .second, .val (.int len), .unset, .unset, .unset, .unset, .unset, .unset] [(.long q1), (.int (1 : Int32)), (.ref b26), (.ref b26)]))
    refine own_step (fun _ k => XS.lload X26.here hx rfl (hb hby at_66) rfl k) ?_
    show own_Ends _ _ _ _ _ _ _ (T26.setTop (mkF m 68 #[.val (.int p0), .val (.long q1), .second, .val (.long q2), .second, .val (.int p3), .val (.int (1 : Int32)), .val (.long q1), .second, .val (.long q2), .second, .val (.int len), .unset, .unset, .unset, .unset, .unset, .unset] [(.long q2), (.long q1), (.int (1 : Int32)), (.ref b26), (.ref b26)]))
    obtain ⟨_, _, ⟨T27, L27, k27, n27⟩, -, X27, ⟨Lc27, hQ27, l27, y27, z27⟩, st27⟩ := X26.specialBack hx (y := (⟨"com/example/rulewright/rulewright/IpAddress", "<init>", "(ZJJ)V"⟩ : MethodName)) rfl hown (mvT hZ (hw _ (List.mem_of_getElem? (i := 5) rfl))) (mvT hZ (hw _ (List.mem_of_getElem? (i := 6) rfl))) (mvT hZ (hw _ (List.mem_of_getElem? (i := 7) rfl))) (by decide) (backOf (W := 1) (own_rm2 l Z a0 hw [] b26 (1 : Int32) q1 q2  h26 n0 Z26 F26_b26_v6 F26_b26_high F26_b26_low A26 gn26 (by decide)) hZ (hw _ (List.mem_of_getElem? (i := 7) rfl)) (hw _ (List.mem_of_getElem? (i := 4) rfl)) (by decide) (by decide)) (g := (mkF m 68 #[.val (.int p0), .val (.long q1), .second, .val (.long q2), .second, .val (.int p3), .val (.int (1 : Int32)), .val (.long q1), .second, .val (.long q2), .second, .val (.int len), .unset, .unset, .unset, .unset, .unset, .unset] [(.long q2), (.long q1), (.int (1 : Int32)), (.ref b26), (.ref b26)])) rfl (by rw [hml]; rfl) (Steps.refl _) (a := b26) (argsL := [(.int (1 : Int32)), (.long q1), (.long q2)]) (rest := [(.ref b26)]) (lenOf own_pd1 rfl) rfl (by show 2 * 0 + _ ≤ _; exact Nat.le_of_eq rfl) (hb hby at_68) (fun _ _ => ⟨rfl, e26, (by decide : 1 + 0 ≤ _), (by decide : 3 + 0 ≤ _)⟩)
    dsimp only [Pt.U, Pt.locs, Pt.cells, Pt.slots] at X27 l27 y27 z27 st27 hQ27
    subst l27 y27 z27
    obtain ⟨rfl, Nq27, K27, A27, G0_27, G1_27, G2_27⟩ := hQ27
    have N27 := Fr.app N0 Nq27
    refine own_step (fun _ k => st27.trans k) ?_
    show own_Ends _ _ _ _ _ _ _ (T27.setTop (mkF m 71 #[.val (.int p0), .val (.long q1), .second, .val (.long q2), .second, .val (.int p3), .val (.int (1 : Int32)), .val (.long q1), .second, .val (.long q2), .second, .val (.int len), .unset, .unset, .unset, .unset, .unset, .unset] [(.ref b26)]))
    have Z27 := Nat.le_trans Z26 K27.1
    refine own_step (fun _ k => XS.astore X27.here hx rfl (hb hby at_71) rfl rfl (l' := #[.val (.int p0), .val (.long q1), .second, .val (.long q2), .second, .val (.int p3), .val (.int (1 : Int32)), .val (.long q1), .second, .val (.long q2), .second, .val (.int len), .val (.ref b26), .unset, .unset, .unset, .unset, .unset]) rfl k) ?_
    show own_Ends _ _ _ _ _ _ _ (T27.setTop (mkF m 73 #[.val (.int p0), .val (.long q1), .second, .val (.long q2), .second, .val (.int p3), .val (.int (1 : Int32)), .val (.long q1), .second, .val (.long q2), .second, .val (.int len), .val (.ref b26), .unset, .unset, .unset, .unset, .unset] []))
    refine own_step (fun _ k => XS.aload X27.here hx rfl (hb hby at_73) rfl rfl k) ?_
    show own_Ends _ _ _ _ _ _ _ (T27.setTop (mkF m 75 #[.val (.int p0), .val (.long q1), .second, .val (.long q2), .second, .val (.int p3), .val (.int (1 : Int32)), .val (.long q1), .second, .val (.long q2), .second, .val (.int len), .val (.ref b26), .unset, .unset, .unset, .unset, .unset] [(.ref b26)]))
    refine own_step (fun _ k => XS.iload X27.here hx rfl (hb hby at_75) rfl k) ?_
    show own_Ends _ _ _ _ _ _ _ (T27.setTop (mkF m 77 #[.val (.int p0), .val (.long q1), .second, .val (.long q2), .second, .val (.int p3), .val (.int (1 : Int32)), .val (.long q1), .second, .val (.long q2), .second, .val (.int len), .val (.ref b26), .unset, .unset, .unset, .unset, .unset] [(.int len), (.ref b26)]))
    obtain ⟨cq28, kq28, qa28, qb28, qc28⟩ := isOf hZ rfl A27
    obtain ⟨_, _, ⟨T28, L28, k28, n28⟩, -, X28, ⟨Lc28, hQ28, l28, y28, z28⟩, st28⟩ := X27.virtualBack hx (y := (⟨"com/example/rulewright/rulewright/IpAddress", "masked", "(I)Lcom/example/rulewright/rulewright/IpAddress;"⟩ : MethodName)) (z := (⟨"com/example/rulewright/rulewright/IpAddress", "masked", "(I)Lcom/example/rulewright/rulewright/IpAddress;"⟩ : MethodName)) hown (mvT hZ (hw _ (List.mem_of_getElem? (i := 22) rfl))) (mvT hZ (hw _ (List.mem_of_getElem? (i := 23) rfl))) (notFace_of_selects (args := #[]) (mvT hZ (hw _ (List.mem_of_getElem? (i := 25) rfl)))) (mvT hZ (hw _ (List.mem_of_getElem? (i := 25) rfl))) (mvT hZ (hw _ (List.mem_of_getElem? (i := 24) rfl))) (by decide) (backOf (W := 0) (own_rm3 l Z a0 hw [] b26 len (1 : Int32) q1 q2 T27.heap n0 Z27 G0_27 G1_27 G2_27 (by decide)) hZ (hw _ (List.mem_of_getElem? (i := 26) rfl)) (hw _ (List.mem_of_getElem? (i := 4) rfl)) (by decide) (by decide)) qa28 qc28 (g := (mkF m 77 #[.val (.int p0), .val (.long q1), .second, .val (.long q2), .second, .val (.int p3), .val (.int (1 : Int32)), .val (.long q1), .second, .val (.long q2), .second, .val (.int len), .val (.ref b26), .unset, .unset, .unset, .unset, .unset] [(.int len), (.ref b26)])) rfl (by rw [hml]; rfl) (Steps.refl _) (argsL := [(.int len)]) (rest := []) (lenOf own_pd2 rfl) rfl (by show 2 * 0 + _ ≤ _; exact Nat.le_of_eq rfl) (hb hby at_77) (fun _ _ => ⟨rfl, rfl, (by decide : 1 + 1 ≤ _), (by decide : 3 + 3 ≤ _)⟩)
    dsimp only [Pt.U, Pt.locs, Pt.cells, Pt.slots] at X28 l28 y28 z28 st28 hQ28
    subst l28 y28 z28
    obtain ⟨bm28, rfl, Nq28, gb28, K28, A28, G0_28, G1_28, G2_28⟩ := hQ28
    have N28 := Fr.app N27 Nq28
    refine own_step (fun _ k => st28.trans k) ?_
    show own_Ends _ _ _ _ _ _ _ (T28.setTop (mkF m 80 #[.val (.int p0), .val (.long q1), .second, .val (.long q2), .second, .val (.int p3), .val (.int (1 : Int32)), .val (.long q1), .second, .val (.long q2), .second, .val (.int len), .val (.ref b26), .unset, .unset, .unset, .unset, .unset] [(.ref bm28)]))
    have Z28 := Nat.le_trans Z27 K28.1
    refine own_step (fun _ k => XS.astore X28.here hx rfl (hb hby at_80) rfl rfl (l' := #[.val (.int p0), .val (.long q1), .second, .val (.long q2), .second, .val (.int p3), .val (.int (1 : Int32)), .val (.long q1), .second, .val (.long q2), .second, .val (.int len), .val (.ref b26), .val (.ref bm28), .unset, .unset, .unset, .unset]) rfl k) ?_
    show own_Ends _ _ _ _ _ _ _ (T28.setTop (mkF m 82 #[.val (.int p0), .val (.long q1), .second, .val (.long q2), .second, .val (.int p3), .val (.int (1 : Int32)), .val (.long q1), .second, .val (.long q2), .second, .val (.int len), .val (.ref b26), .val (.ref bm28), .unset, .unset, .unset, .unset] []))
    refine own_step (fun _ k => XS.iload X28.here hx rfl (hb hby at_82) rfl k) ?_
    show own_Ends _ _ _ _ _ _ _ (T28.setTop (mkF m 84 #[.val (.int p0), .val (.long q1), .second, .val (.long q2), .second, .val (.int p3), .val (.int (1 : Int32)), .val (.long q1), .second, .val (.long q2), .second, .val (.int len), .val (.ref b26), .val (.ref bm28), .unset, .unset, .unset, .unset] [(.int (1 : Int32))]))
    refine own_step (fun _ k => XS.ifNo X28.here hx rfl (hb hby at_84) rfl ((if0 _ _).trans (feq (by decide)).1) k) ?_
    show own_Ends _ _ _ _ _ _ _ (T28.setTop (mkF m 87 #[.val (.int p0), .val (.long q1), .second, .val (.long q2), .second, .val (.int p3), .val (.int (1 : Int32)), .val (.long q1), .second, .val (.long q2), .second, .val (.int len), .val (.ref b26), .val (.ref bm28), .unset, .unset, .unset, .unset] []))
    refine own_step (fun _ k => XS.lload X28.here hx rfl (hb hby at_87) rfl k) ?_
    show own_Ends _ _ _ _ _ _ _ (T28.setTop (mkF m 89 #[.val (.int p0), .val (.long q1), .second, .val (.long q2), .second, .val (.int p3), .val (.int (1 : Int32)), .val (.long q1), .second, .val (.long q2), .second, .val (.int len), .val (.ref b26), .val (.ref bm28), .unset, .unset, .unset, .unset] [(.long q1)]))
    refine own_step (fun _ k => XS.iload X28.here hx rfl (hb hby at_89) rfl k) ?_
    show own_Ends _ _ _ _ _ _ _ (T28.setTop (mkF m 91 #[.val (.int p0), .val (.long q1), .second, .val (.long q2), .second, .val (.int p3), .val (.int (1 : Int32)), .val (.long q1), .second, .val (.long q2), .second, .val (.int len), .val (.ref b26), .val (.ref bm28), .unset, .unset, .unset, .unset] [(.int len), (.long q1)]))
    refine own_step (fun _ k => XS.bipush X28.here hx rfl (hb hby at_91) k) ?_
    show own_Ends _ _ _ _ _ _ _ (T28.setTop (mkF m 93 #[.val (.int p0), .val (.long q1), .second, .val (.long q2), .second, .val (.int p3), .val (.int (1 : Int32)), .val (.long q1), .second, .val (.long q2), .second, .val (.int len), .val (.ref b26), .val (.ref bm28), .unset, .unset, .unset, .unset] [(.int (64 : Int32)), (.int len), (.long q1)]))
    obtain ⟨_, _, ⟨T29, L29, k29, n29⟩, -, X29, ⟨Lc29, hQ29, l29, y29, z29⟩, st29⟩ := Jvm.LawKit.callS X28 hx (y := (⟨"java/lang/Math", "min", "(II)I"⟩ : MethodName)) hown (mvT hZ (hw _ (List.mem_of_getElem? (i := 49) rfl))) (mvT hZ (hw _ (List.mem_of_getElem? (i := 50) rfl))) (mvT hZ (hw _ (List.mem_of_getElem? (i := 51) rfl))) (mvT hZ (hw _ (List.mem_of_getElem? (i := 52) rfl))) (by decide) (backOf (W := 2) (own_rm8 l Z a0 hw [] len (64 : Int32)  T28.heap n0 Z28 ) hZ (hw _ (List.mem_of_getElem? (i := 52) rfl)) (hw _ (List.mem_of_getElem? (i := 51) rfl)) (by decide) (by decide)) (g := (mkF m 93 #[.val (.int p0), .val (.long q1), .second, .val (.long q2), .second, .val (.int p3), .val (.int (1 : Int32)), .val (.long q1), .second, .val (.long q2), .second, .val (.int len), .val (.ref b26), .val (.ref bm28), .unset, .unset, .unset, .unset] [(.int (64 : Int32)), (.int len), (.long q1)])) rfl (by rw [hml]; rfl) (argsL := [(.int len), (.int (64 : Int32))]) (rest := [(.long q1)]) (lenOf own_pd6 rfl) rfl (by show 2 * 0 + _ ≤ _; exact Nat.le_of_eq rfl) (hb hby at_93) (fun _ _ => ⟨rfl, rfl, (by decide : 2 + 0 ≤ _), (by decide : 6 + 0 ≤ _)⟩)
    dsimp only [Pt.U, Pt.locs, Pt.cells, Pt.slots] at X29 l29 y29 z29 st29 hQ29
    subst l29 y29 z29
    obtain ⟨rfl, Nq29, e29⟩ := hQ29
    have N29 := Fr.app N28 Nq29
    refine own_step (fun _ k => st29 _ k) ?_
    show own_Ends _ _ _ _ _ _ _ (T29.setTop (mkF m 96 #[.val (.int p0), .val (.long q1), .second, .val (.long q2), .second, .val (.int p3), .val (.int (1 : Int32)), .val (.long q1), .second, .val (.long q2), .second, .val (.int len), .val (.ref b26), .val (.ref bm28), .unset, .unset, .unset, .unset] [(.int (own_min len (64 : Int32))), (.long q1)]))
    obtain ⟨_, _, ⟨T30, L30, k30, n30⟩, -, X30, ⟨Lc30, hQ30, l30, y30, z30⟩, st30⟩ := Jvm.LawKit.callS X29 hx (y := (⟨"com/example/rulewright/rulewright/IpAddressMaskedPinLaw", "top", "(JI)J"⟩ : MethodName)) hown (mvT hZ (hw _ (List.mem_of_getElem? (i := 30) rfl))) (mvT hZ (hw _ (List.mem_of_getElem? (i := 31) rfl))) (mvT hZ (hw _ (List.mem_of_getElem? (i := 32) rfl))) (mvT hZ (hw _ (List.mem_of_getElem? (i := 33) rfl))) (by decide) (backOf (W := 0) (own_rm4 l Z a0 hw [] q1 (own_min len (64 : Int32))  T28.heap n0 Z28 ) hZ (hw _ (List.mem_of_getElem? (i := 33) rfl)) (hw _ (List.mem_of_getElem? (i := 32) rfl)) (by decide) (by decide)) (g := (mkF m 96 #[.val (.int p0), .val (.long q1), .second, .val (.long q2), .second, .val (.int p3), .val (.int (1 : Int32)), .val (.long q1), .second, .val (.long q2), .second, .val (.int len), .val (.ref b26), .val (.ref bm28), .unset, .unset, .unset, .unset] [(.int (own_min len (64 : Int32))), (.long q1)])) rfl (by rw [hml]; rfl) (argsL := [(.long q1), (.int (own_min len (64 : Int32)))]) (rest := []) (lenOf own_pd3 rfl) rfl (by show 2 * 0 + _ ≤ _; exact Nat.le_of_eq rfl) (hb hby at_96) (fun _ _ => ⟨rfl, e29, (by decide : 2 + 0 ≤ _), (by decide : 6 + 0 ≤ _)⟩)
    dsimp only [Pt.U, Pt.locs, Pt.cells, Pt.slots] at X30 l30 y30 z30 st30 hQ30
    subst l30 y30 z30
    obtain ⟨rfl, Nq30, e30⟩ := hQ30
    have N30 := Fr.app N29 Nq30
    refine own_step (fun _ k => st30 _ k) ?_
    show own_Ends _ _ _ _ _ _ _ (T30.setTop (mkF m 99 #[.val (.int p0), .val (.long q1), .second, .val (.long q2), .second, .val (.int p3), .val (.int (1 : Int32)), .val (.long q1), .second, .val (.long q2), .second, .val (.int len), .val (.ref b26), .val (.ref bm28), .unset, .unset, .unset, .unset] [(.long (own_top q1 (own_min len (64 : Int32))))]))
    refine own_step (fun _ k => XS.lstore X30.here hx rfl (hb hby at_99) rfl (l' := #[.val (.int p0), .val (.long q1), .second, .val (.long q2), .second, .val (.int p3), .val (.int (1 : Int32)), .val (.long q1), .second, .val (.long q2), .second, .val (.int len), .val (.ref b26), .val (.ref bm28), .val (.long (own_top q1 (own_min len (64 : Int32)))), .second, .unset, .unset]) rfl k) ?_
    show own_Ends _ _ _ _ _ _ _ (T30.setTop (mkF m 101 #[.val (.int p0), .val (.long q1), .second, .val (.long q2), .second, .val (.int p3), .val (.int (1 : Int32)), .val (.long q1), .second, .val (.long q2), .second, .val (.int len), .val (.ref b26), .val (.ref bm28), .val (.long (own_top q1 (own_min len (64 : Int32)))), .second, .unset, .unset] []))
    refine own_step (fun _ k => XS.lload X30.here hx rfl (hb hby at_101) rfl k) ?_
    show own_Ends _ _ _ _ _ _ _ (T30.setTop (mkF m 103 #[.val (.int p0), .val (.long q1), .second, .val (.long q2), .second, .val (.int p3), .val (.int (1 : Int32)), .val (.long q1), .second, .val (.long q2), .second, .val (.int len), .val (.ref b26), .val (.ref bm28), .val (.long (own_top q1 (own_min len (64 : Int32)))), .second, .unset, .unset] [(.long q2)]))
    refine own_step (fun _ k => XS.iload X30.here hx rfl (hb hby at_103) rfl k) ?_
    show own_Ends _ _ _ _ _ _ _ (T30.setTop (mkF m 105 #[.val (.int p0), .val (.long q1), .second, .val (.long q2), .second, .val (.int p3), .val (.int (1 : Int32)), .val (.long q1), .second, .val (.long q2), .second, .val (.int len), .val (.ref b26), .val (.ref bm28), .val (.long (own_top q1 (own_min len (64 : Int32)))), .second, .unset, .unset] [(.int len), (.long q2)]))
    refine own_step (fun _ k => XS.bipush X30.here hx rfl (hb hby at_105) k) ?_
    show own_Ends _ _ _ _ _ _ _ (T30.setTop (mkF m 107 #[.val (.int p0), .val (.long q1), .second, .val (.long q2), .second, .val (.int p3), .val (.int (1 : Int32)), .val (.long q1), .second, .val (.long q2), .second, .val (.int len), .val (.ref b26), .val (.ref bm28), .val (.long (own_top q1 (own_min len (64 : Int32)))), .second, .unset, .unset] [(.int (64 : Int32)), (.int len), (.long q2)]))
    refine own_step (fun _ k => XS.isub X30.here hx rfl (hb hby at_107) rfl k) ?_
    show own_Ends _ _ _ _ _ _ _ (T30.setTop (mkF m 108 #[.val (.int p0), .val (.long q1), .second, .val (.long q2), .second, .val (.int p3), .val (.int (1 : Int32)), .val (.long q1), .second, .val (.long q2), .second, .val (.int len), .val (.ref b26), .val (.ref bm28), .val (.long (own_top q1 (own_min len (64 : Int32)))), .second, .unset, .unset] [(.int (len - (64 : Int32))), (.long q2)]))
    refine own_step (fun _ k => XS.iconst X30.here hx rfl (hb hby at_108) k) ?_
    show own_Ends _ _ _ _ _ _ _ (T30.setTop (mkF m 109 #[.val (.int p0), .val (.long q1), .second, .val (.long q2), .second, .val (.int p3), .val (.int (1 : Int32)), .val (.long q1), .second, .val (.long q2), .second, .val (.int len), .val (.ref b26), .val (.ref bm28), .val (.long (own_top q1 (own_min len (64 : Int32)))), .second, .unset, .unset] [(.int (0 : Int32)), (.int (len - (64 : Int32))), (.long q2)]))
    obtain ⟨_, _, ⟨T31, L31, k31, n31⟩, -, X31, ⟨Lc31, hQ31, l31, y31, z31⟩, st31⟩ := Jvm.LawKit.callS X30 hx (y := (⟨"java/lang/Math", "max", "(II)I"⟩ : MethodName)) hown (mvT hZ (hw _ (List.mem_of_getElem? (i := 53) rfl))) (mvT hZ (hw _ (List.mem_of_getElem? (i := 54) rfl))) (mvT hZ (hw _ (List.mem_of_getElem? (i := 51) rfl))) (mvT hZ (hw _ (List.mem_of_getElem? (i := 55) rfl))) (by decide) (backOf (W := 2) (own_rm9 l Z a0 hw [] (len - (64 : Int32)) (0 : Int32)  T28.heap n0 Z28 ) hZ (hw _ (List.mem_of_getElem? (i := 55) rfl)) (hw _ (List.mem_of_getElem? (i := 51) rfl)) (by decide) (by decide)) (g := (mkF m 109 #[.val (.int p0), .val (.long q1), .second, .val (.long q2), .second, .val (.int p3), .val (.int (1 : Int32)), .val (.long q1), .second, .val (.long q2), .second, .val (.int len), .val (.ref b26), .val (.ref bm28), .val (.long (own_top q1 (own_min len (64 : Int32)))), .second, .unset, .unset] [(.int (0 : Int32)), (.int (len - (64 : Int32))), (.long q2)])) rfl (by rw [hml]; rfl) (argsL := [(.int (len - (64 : Int32))), (.int (0 : Int32))]) (rest := [(.long q2)]) (lenOf own_pd6 rfl) rfl (by show 2 * 0 + _ ≤ _; exact Nat.le_of_eq rfl) (hb hby at_109) (fun _ _ => ⟨rfl, e30, (by decide : 2 + 0 ≤ _), (by decide : 6 + 0 ≤ _)⟩)
    dsimp only [Pt.U, Pt.locs, Pt.cells, Pt.slots] at X31 l31 y31 z31 st31 hQ31
    subst l31 y31 z31
    obtain ⟨rfl, Nq31, e31⟩ := hQ31
    have N31 := Fr.app N30 Nq31
    refine own_step (fun _ k => st31 _ k) ?_
    show own_Ends _ _ _ _ _ _ _ (T31.setTop (mkF m 112 #[.val (.int p0), .val (.long q1), .second, .val (.long q2), .second, .val (.int p3), .val (.int (1 : Int32)), .val (.long q1), .second, .val (.long q2), .second, .val (.int len), .val (.ref b26), .val (.ref bm28), .val (.long (own_top q1 (own_min len (64 : Int32)))), .second, .unset, .unset] [(.int (own_max (len - (64 : Int32)) (0 : Int32))), (.long q2)]))
    obtain ⟨_, _, ⟨T32, L32, k32, n32⟩, -, X32, ⟨Lc32, hQ32, l32, y32, z32⟩, st32⟩ := Jvm.LawKit.callS X31 hx (y := (⟨"com/example/rulewright/rulewright/IpAddressMaskedPinLaw", "top", "(JI)J"⟩ : MethodName)) hown (mvT hZ (hw _ (List.mem_of_getElem? (i := 30) rfl))) (mvT hZ (hw _ (List.mem_of_getElem? (i := 31) rfl))) (mvT hZ (hw _ (List.mem_of_getElem? (i := 32) rfl))) (mvT hZ (hw _ (List.mem_of_getElem? (i := 33) rfl))) (by decide) (backOf (W := 0) (own_rm4 l Z a0 hw [] q2 (own_max (len - (64 : Int32)) (0 : Int32))  T28.heap n0 Z28 ) hZ (hw _ (List.mem_of_getElem? (i := 33) rfl)) (hw _ (List.mem_of_getElem? (i := 32) rfl)) (by decide) (by decide)) (g := (mkF m 112 #[.val (.int p0), .val (.long q1), .second, .val (.long q2), .second, .val (.int p3), .val (.int (1 : Int32)), .val (.long q1), .second, .val (.long q2), .second, .val (.int len), .val (.ref b26), .val (.ref bm28), .val (.long (own_top q1 (own_min len (64 : Int32)))), .second, .unset, .unset] [(.int (own_max (len - (64 : Int32)) (0 : Int32))), (.long q2)])) rfl (by rw [hml]; rfl) (argsL := [(.long q2), (.int (own_max (len - (64 : Int32)) (0 : Int32)))]) (rest := []) (lenOf own_pd3 rfl) rfl (by show 2 * 0 + _ ≤ _; exact Nat.le_of_eq rfl) (hb hby at_112) (fun _ _ => ⟨rfl, e31, (by decide : 2 + 0 ≤ _), (by decide : 6 + 0 ≤ _)⟩)
    dsimp only [Pt.U, Pt.locs, Pt.cells, Pt.slots] at X32 l32 y32 z32 st32 hQ32
    subst l32 y32 z32
    obtain ⟨rfl, Nq32, e32⟩ := hQ32
    have N32 := Fr.app N31 Nq32
    refine own_step (fun _ k => st32 _ k) ?_
    show own_Ends _ _ _ _ _ _ _ (T32.setTop (mkF m 115 #[.val (.int p0), .val (.long q1), .second, .val (.long q2), .second, .val (.int p3), .val (.int (1 : Int32)), .val (.long q1), .second, .val (.long q2), .second, .val (.int len), .val (.ref b26), .val (.ref bm28), .val (.long (own_top q1 (own_min len (64 : Int32)))), .second, .unset, .unset] [(.long (own_top q2 (own_max (len - (64 : Int32)) (0 : Int32))))]))
    refine own_step (fun _ k => XS.lstore X32.here hx rfl (hb hby at_115) rfl (l' := #[.val (.int p0), .val (.long q1), .second, .val (.long q2), .second, .val (.int p3), .val (.int (1 : Int32)), .val (.long q1), .second, .val (.long q2), .second, .val (.int len), .val (.ref b26), .val (.ref bm28), .val (.long (own_top q1 (own_min len (64 : Int32)))), .second, .val (.long (own_top q2 (own_max (len - (64 : Int32)) (0 : Int32)))), .second]) rfl k) ?_
    show own_Ends _ _ _ _ _ _ _ (T32.setTop (mkF m 117 #[.val (.int p0), .val (.long q1), .second, .val (.long q2), .second, .val (.int p3), .val (.int (1 : Int32)), .val (.long q1), .second, .val (.long q2), .second, .val (.int len), .val (.ref b26), .val (.ref bm28), .val (.long (own_top q1 (own_min len (64 : Int32)))), .second, .val (.long (own_top q2 (own_max (len - (64 : Int32)) (0 : Int32)))), .second] []))
    refine own_step (fun _ k => XS.goto X32.here hx rfl (pc0 := 117) (pc' := 138) rfl (hb hby at_117) (by decide) (by decide) k) ?_
    show own_Ends _ _ _ _ _ _ _ (T32.setTop (mkF m 138 #[.val (.int p0), .val (.long q1), .second, .val (.long q2), .second, .val (.int p3), .val (.int (1 : Int32)), .val (.long q1), .second, .val (.long q2), .second, .val (.int len), .val (.ref b26), .val (.ref bm28), .val (.long (own_top q1 (own_min len (64 : Int32)))), .second, .val (.long (own_top q2 (own_max (len - (64 : Int32)) (0 : Int32)))), .second] []))
    refine own_step (fun _ k => XS.aload X32.here hx rfl (hb hby at_138) rfl rfl k) ?_
    show own_Ends _ _ _ _ _ _ _ (T32.setTop (mkF m 140 #[.val (.int p0), .val (.long q1), .second, .val (.long q2), .second, .val (.int p3), .val (.int (1 : Int32)), .val (.long q1), .second, .val (.long q2), .second, .val (.int len), .val (.ref b26), .val (.ref bm28), .val (.long (own_top q1 (own_min len (64 : Int32)))), .second, .val (.long (own_top q2 (own_max (len - (64 : Int32)) (0 : Int32)))), .second] [(.ref bm28)]))
    obtain ⟨cq33, kq33, qa33, qb33, qc33⟩ := isOf hZ e32 A28
    obtain ⟨_, _, ⟨T33, L33, k33, n33⟩, -, X33, ⟨Lc33, hQ33, l33, y33, z33⟩, st33⟩ := X32.virtualBack hx (y := (⟨"com/example/rulewright/rulewright/IpAddress", "v6", "()Z"⟩ : MethodName)) (z := (⟨"com/example/rulewright/rulewright/IpAddress", "v6", "()Z"⟩ : MethodName)) hown (mvT hZ (hw _ (List.mem_of_getElem? (i := 34) rfl))) (mvT hZ (hw _ (List.mem_of_getElem? (i := 35) rfl))) (notFace_of_selects (args := #[]) (mvT hZ (hw _ (List.mem_of_getElem? (i := 37) rfl)))) (mvT hZ (hw _ (List.mem_of_getElem? (i := 37) rfl))) (mvT hZ (hw _ (List.mem_of_getElem? (i := 36) rfl))) (by decide) (backOf (W := 0) (own_rm5 l Z a0 hw [] bm28 (1 : Int32) T28.heap n0 Z28 G0_28 (by decide)) hZ (hw _ (List.mem_of_getElem? (i := 38) rfl)) (hw _ (List.mem_of_getElem? (i := 4) rfl)) (by decide) (by decide)) qa33 qc33 (g := (mkF m 140 #[.val (.int p0), .val (.long q1), .second, .val (.long q2), .second, .val (.int p3), .val (.int (1 : Int32)), .val (.long q1), .second, .val (.long q2), .second, .val (.int len), .val (.ref b26), .val (.ref bm28), .val (.long (own_top q1 (own_min len (64 : Int32)))), .second, .val (.long (own_top q2 (own_max (len - (64 : Int32)) (0 : Int32)))), .second] [(.ref bm28)])) rfl (by rw [hml]; rfl) (Steps.refl _) (argsL := []) (rest := []) (lenOf own_pd4 rfl) rfl (by show 2 * 0 + _ ≤ _; exact Nat.le_of_eq rfl) (hb hby at_140) (fun _ _ => ⟨rfl, e32, (by decide : 2 + 0 ≤ _), (by decide : 6 + 0 ≤ _)⟩)
    dsimp only [Pt.U, Pt.locs, Pt.cells, Pt.slots] at X33 l33 y33 z33 st33 hQ33
    subst l33 y33 z33
    obtain ⟨rfl, Nq33, e33⟩ := hQ33
    have N33 := Fr.app N32 Nq33
    refine own_step (fun _ k => st33.trans k) ?_
    show own_Ends _ _ _ _ _ _ _ (T33.setTop (mkF m 143 #[.val (.int p0), .val (.long q1), .second, .val (.long q2), .second, .val (.int p3), .val (.int (1 : Int32)), .val (.long q1), .second, .val (.long q2), .second, .val (.int len), .val (.ref b26), .val (.ref bm28), .val (.long (own_top q1 (own_min len (64 : Int32)))), .second, .val (.long (own_top q2 (own_max (len - (64 : Int32)) (0 : Int32)))), .second] [(.int (1 : Int32))]))
    refine own_step (fun _ k => XS.iload X33.here hx rfl (hb hby at_143) rfl k) ?_
    show own_Ends _ _ _ _ _ _ _ (T33.setTop (mkF m 145 #[.val (.int p0), .val (.long q1), .second, .val (.long q2), .second, .val (.int p3), .val (.int (1 : Int32)), .val (.long q1), .second, .val (.long q2), .second, .val (.int len), .val (.ref b26), .val (.ref bm28), .val (.long (own_top q1 (own_min len (64 : Int32)))), .second, .val (.long (own_top q2 (own_max (len - (64 : Int32)) (0 : Int32)))), .second] [(.int (1 : Int32)), (.int (1 : Int32))]))
    refine own_step (fun _ k => XS.icmpNo X33.here hx rfl (hb hby at_145) rfl (teq rfl).2 k) ?_
    show own_Ends _ _ _ _ _ _ _ (T33.setTop (mkF m 148 #[.val (.int p0), .val (.long q1), .second, .val (.long q2), .second, .val (.int p3), .val (.int (1 : Int32)), .val (.long q1), .second, .val (.long q2), .second, .val (.int len), .val (.ref b26), .val (.ref bm28), .val (.long (own_top q1 (own_min len (64 : Int32)))), .second, .val (.long (own_top q2 (own_max (len - (64 : Int32)) (0 : Int32)))), .second] []))
    refine own_step (fun _ k => XS.aload X33.here hx rfl (hb hby at_148) rfl rfl k) ?_
    show own_Ends _ _ _ _ _ _ _ (T33.setTop (mkF m 150 #[.val (.int p0), .val (.long q1), .second, .val (.long q2), .second, .val (.int p3), .val (.int (1 : Int32)), .val (.long q1), .second, .val (.long q2), .second, .val (.int len), .val (.ref b26), .val (.ref bm28), .val (.long (own_top q1 (own_min len (64 : Int32)))), .second, .val (.long (own_top q2 (own_max (len - (64 : Int32)) (0 : Int32)))), .second] [(.ref bm28)]))
    obtain ⟨cq34, kq34, qa34, qb34, qc34⟩ := isOf hZ e33 A28
    obtain ⟨_, _, ⟨T34, L34, k34, n34⟩, -, X34, ⟨Lc34, hQ34, l34, y34, z34⟩, st34⟩ := X33.virtualBack hx (y := (⟨"com/example/rulewright/rulewright/IpAddress", "high", "()J"⟩ : MethodName)) (z := (⟨"com/example/rulewright/rulewright/IpAddress", "high", "()J"⟩ : MethodName)) hown (mvT hZ (hw _ (List.mem_of_getElem? (i := 39) rfl))) (mvT hZ (hw _ (List.mem_of_getElem? (i := 40) rfl))) (notFace_of_selects (args := #[]) (mvT hZ (hw _ (List.mem_of_getElem? (i := 42) rfl)))) (mvT hZ (hw _ (List.mem_of_getElem? (i := 42) rfl))) (mvT hZ (hw _ (List.mem_of_getElem? (i := 41) rfl))) (by decide) (backOf (W := 0) (own_rm6 l Z a0 hw [] bm28 (own_mh (own_bits (1 : Int32) len) q1) T28.heap n0 Z28 G1_28) hZ (hw _ (List.mem_of_getElem? (i := 43) rfl)) (hw _ (List.mem_of_getElem? (i := 4) rfl)) (by decide) (by decide)) qa34 qc34 (g := (mkF m 150 #[.val (.int p0), .val (.long q1), .second, .val (.long q2), .second, .val (.int p3), .val (.int (1 : Int32)), .val (.long q1), .second, .val (.long q2), .second, .val (.int len), .val (.ref b26), .val (.ref bm28), .val (.long (own_top q1 (own_min len (64 : Int32)))), .second, .val (.long (own_top q2 (own_max (len - (64 : Int32)) (0 : Int32)))), .second] [(.ref bm28)])) rfl (by rw [hml]; rfl) (Steps.refl _) (argsL := []) (rest := []) (lenOf own_pd5 rfl) rfl (by show 2 * 0 + _ ≤ _; exact Nat.le_of_eq rfl) (hb hby at_150) (fun _ _ => ⟨rfl, e33, (by decide : 2 + 0 ≤ _), (by decide : 6 + 0 ≤ _)⟩)
    dsimp only [Pt.U, Pt.locs, Pt.cells, Pt.slots] at X34 l34 y34 z34 st34 hQ34
    subst l34 y34 z34
    obtain ⟨rfl, Nq34, e34⟩ := hQ34
    have N34 := Fr.app N33 Nq34
    refine own_step (fun _ k => st34.trans k) ?_
    show own_Ends _ _ _ _ _ _ _ (T34.setTop (mkF m 153 #[.val (.int p0), .val (.long q1), .second, .val (.long q2), .second, .val (.int p3), .val (.int (1 : Int32)), .val (.long q1), .second, .val (.long q2), .second, .val (.int len), .val (.ref b26), .val (.ref bm28), .val (.long (own_top q1 (own_min len (64 : Int32)))), .second, .val (.long (own_top q2 (own_max (len - (64 : Int32)) (0 : Int32)))), .second] [(.long (own_mh (own_bits (1 : Int32) len) q1))]))
    refine own_step (fun _ k => XS.lload X34.here hx rfl (hb hby at_153) rfl k) ?_
    show own_Ends _ _ _ _ _ _ _ (T34.setTop (mkF m 155 #[.val (.int p0), .val (.long q1), .second, .val (.long q2), .second, .val (.int p3), .val (.int (1 : Int32)), .val (.long q1), .second, .val (.long q2), .second, .val (.int len), .val (.ref b26), .val (.ref bm28), .val (.long (own_top q1 (own_min len (64 : Int32)))), .second, .val (.long (own_top q2 (own_max (len - (64 : Int32)) (0 : Int32)))), .second] [(.long (own_top q1 (own_min len (64 : Int32)))), (.long (own_mh (own_bits (1 : Int32) len) q1))]))
    refine own_step (fun _ k => XS.lcmp X34.here hx rfl (hb hby at_155) rfl k) ?_
    show own_Ends _ _ _ _ _ _ _ (T34.setTop (mkF m 156 #[.val (.int p0), .val (.long q1), .second, .val (.long q2), .second, .val (.int p3), .val (.int (1 : Int32)), .val (.long q1), .second, .val (.long q2), .second, .val (.int len), .val (.ref b26), .val (.ref bm28), .val (.long (own_top q1 (own_min len (64 : Int32)))), .second, .val (.long (own_top q2 (own_max (len - (64 : Int32)) (0 : Int32)))), .second] [(.int (lcmpW (own_mh (own_bits (1 : Int32) len) q1) (own_top q1 (own_min len (64 : Int32)))))]))
    refine own_step (fun _ k => XS.ifNo X34.here hx rfl (hb hby at_156) rfl ((if0 _ _).trans (teq ((lw_eq _ _).mpr (own_v6h hl0 hl1))).2) k) ?_
    show own_Ends _ _ _ _ _ _ _ (T34.setTop (mkF m 159 #[.val (.int p0), .val (.long q1), .second, .val (.long q2), .second, .val (.int p3), .val (.int (1 : Int32)), .val (.long q1), .second, .val (.long q2), .second, .val (.int len), .val (.ref b26), .val (.ref bm28), .val (.long (own_top q1 (own_min len (64 : Int32)))), .second, .val (.long (own_top q2 (own_max (len - (64 : Int32)) (0 : Int32)))), .second] []))
    refine own_step (fun _ k => XS.aload X34.here hx rfl (hb hby at_159) rfl rfl k) ?_
    show own_Ends _ _ _ _ _ _ _ (T34.setTop (mkF m 161 #[.val (.int p0), .val (.long q1), .second, .val (.long q2), .second, .val (.int p3), .val (.int (1 : Int32)), .val (.long q1), .second, .val (.long q2), .second, .val (.int len), .val (.ref b26), .val (.ref bm28), .val (.long (own_top q1 (own_min len (64 : Int32)))), .second, .val (.long (own_top q2 (own_max (len - (64 : Int32)) (0 : Int32)))), .second] [(.ref bm28)]))
    obtain ⟨cq35, kq35, qa35, qb35, qc35⟩ := isOf hZ e34 A28
    obtain ⟨_, _, ⟨T35, L35, k35, n35⟩, -, X35, ⟨Lc35, hQ35, l35, y35, z35⟩, st35⟩ := X34.virtualBack hx (y := (⟨"com/example/rulewright/rulewright/IpAddress", "low", "()J"⟩ : MethodName)) (z := (⟨"com/example/rulewright/rulewright/IpAddress", "low", "()J"⟩ : MethodName)) hown (mvT hZ (hw _ (List.mem_of_getElem? (i := 44) rfl))) (mvT hZ (hw _ (List.mem_of_getElem? (i := 45) rfl))) (notFace_of_selects (args := #[]) (mvT hZ (hw _ (List.mem_of_getElem? (i := 47) rfl)))) (mvT hZ (hw _ (List.mem_of_getElem? (i := 47) rfl))) (mvT hZ (hw _ (List.mem_of_getElem? (i := 46) rfl))) (by decide) (backOf (W := 0) (own_rm7 l Z a0 hw [] bm28 (own_ml (own_bits (1 : Int32) len) q2) T28.heap n0 Z28 G2_28) hZ (hw _ (List.mem_of_getElem? (i := 48) rfl)) (hw _ (List.mem_of_getElem? (i := 4) rfl)) (by decide) (by decide)) qa35 qc35 (g := (mkF m 161 #[.val (.int p0), .val (.long q1), .second, .val (.long q2), .second, .val (.int p3), .val (.int (1 : Int32)), .val (.long q1), .second, .val (.long q2), .second, .val (.int len), .val (.ref b26), .val (.ref bm28), .val (.long (own_top q1 (own_min len (64 : Int32)))), .second, .val (.long (own_top q2 (own_max (len - (64 : Int32)) (0 : Int32)))), .second] [(.ref bm28)])) rfl (by rw [hml]; rfl) (Steps.refl _) (argsL := []) (rest := []) (lenOf own_pd5 rfl) rfl (by show 2 * 0 + _ ≤ _; exact Nat.le_of_eq rfl) (hb hby at_161) (fun _ _ => ⟨rfl, e34, (by decide : 2 + 0 ≤ _), (by decide : 6 + 0 ≤ _)⟩)
    dsimp only [Pt.U, Pt.locs, Pt.cells, Pt.slots] at X35 l35 y35 z35 st35 hQ35
    subst l35 y35 z35
    obtain ⟨rfl, Nq35, e35⟩ := hQ35
    have N35 := Fr.app N34 Nq35
    refine own_step (fun _ k => st35.trans k) ?_
    show own_Ends _ _ _ _ _ _ _ (T35.setTop (mkF m 164 #[.val (.int p0), .val (.long q1), .second, .val (.long q2), .second, .val (.int p3), .val (.int (1 : Int32)), .val (.long q1), .second, .val (.long q2), .second, .val (.int len), .val (.ref b26), .val (.ref bm28), .val (.long (own_top q1 (own_min len (64 : Int32)))), .second, .val (.long (own_top q2 (own_max (len - (64 : Int32)) (0 : Int32)))), .second] [(.long (own_ml (own_bits (1 : Int32) len) q2))]))
    refine own_step (fun _ k => XS.lload X35.here hx rfl (hb hby at_164) rfl k) ?_
    show own_Ends _ _ _ _ _ _ _ (T35.setTop (mkF m 166 #[.val (.int p0), .val (.long q1), .second, .val (.long q2), .second, .val (.int p3), .val (.int (1 : Int32)), .val (.long q1), .second, .val (.long q2), .second, .val (.int len), .val (.ref b26), .val (.ref bm28), .val (.long (own_top q1 (own_min len (64 : Int32)))), .second, .val (.long (own_top q2 (own_max (len - (64 : Int32)) (0 : Int32)))), .second] [(.long (own_top q2 (own_max (len - (64 : Int32)) (0 : Int32)))), (.long (own_ml (own_bits (1 : Int32) len) q2))]))
    refine own_step (fun _ k => XS.lcmp X35.here hx rfl (hb hby at_166) rfl k) ?_
    show own_Ends _ _ _ _ _ _ _ (T35.setTop (mkF m 167 #[.val (.int p0), .val (.long q1), .second, .val (.long q2), .second, .val (.int p3), .val (.int (1 : Int32)), .val (.long q1), .second, .val (.long q2), .second, .val (.int len), .val (.ref b26), .val (.ref bm28), .val (.long (own_top q1 (own_min len (64 : Int32)))), .second, .val (.long (own_top q2 (own_max (len - (64 : Int32)) (0 : Int32)))), .second] [(.int (lcmpW (own_ml (own_bits (1 : Int32) len) q2) (own_top q2 (own_max (len - (64 : Int32)) (0 : Int32)))))]))
    refine own_step (fun _ k => XS.ifNo X35.here hx rfl (hb hby at_167) rfl ((if0 _ _).trans (teq ((lw_eq _ _).mpr (own_v6l hl0 hl1))).2) k) ?_
    show own_Ends _ _ _ _ _ _ _ (T35.setTop (mkF m 170 #[.val (.int p0), .val (.long q1), .second, .val (.long q2), .second, .val (.int p3), .val (.int (1 : Int32)), .val (.long q1), .second, .val (.long q2), .second, .val (.int len), .val (.ref b26), .val (.ref bm28), .val (.long (own_top q1 (own_min len (64 : Int32)))), .second, .val (.long (own_top q2 (own_max (len - (64 : Int32)) (0 : Int32)))), .second] []))
    refine own_step (fun _ k => XS.iconst X35.here hx rfl (hb hby at_170) k) ?_
    show own_Ends _ _ _ _ _ _ _ (T35.setTop (mkF m 171 #[.val (.int p0), .val (.long q1), .second, .val (.long q2), .second, .val (.int p3), .val (.int (1 : Int32)), .val (.long q1), .second, .val (.long q2), .second, .val (.int len), .val (.ref b26), .val (.ref bm28), .val (.long (own_top q1 (own_min len (64 : Int32)))), .second, .val (.long (own_top q2 (own_max (len - (64 : Int32)) (0 : Int32)))), .second] [(.int (1 : Int32))]))
    refine own_step (fun _ k => XS.goto X35.here hx rfl (pc0 := 171) (pc' := 175) rfl (hb hby at_171) (by decide) (by decide) k) ?_
    show own_Ends _ _ _ _ _ _ _ (T35.setTop (mkF m 175 #[.val (.int p0), .val (.long q1), .second, .val (.long q2), .second, .val (.int p3), .val (.int (1 : Int32)), .val (.long q1), .second, .val (.long q2), .second, .val (.int len), .val (.ref b26), .val (.ref bm28), .val (.long (own_top q1 (own_min len (64 : Int32)))), .second, .val (.long (own_top q2 (own_max (len - (64 : Int32)) (0 : Int32)))), .second] [(.int (1 : Int32))]))
    refine own_ret X35 (BodyLoose.notSynchronized Bd) (v := (some (.int (1 : Int32)))) (fun h => by rw [Bd.returns] at h; cases h) ?_ (by decide) (by decide) (fun fs hr => X35.ireturnOut hx Bd.returns rfl (by simp) (hb hby at_175) hr)
    show own_Q0 Z p0 q1 q2 p3  h0 n0 (some (.int (1 : Int32))) T35.heap _
    rw [e35]
    exact ⟨rfl, N35⟩
set_option maxRecDepth 65536 in
set_option maxHeartbeats 40000000 in
theorem comes_1 {Post : Tables → Env → Array Value → State → Outcome → State → Prop} (hpost : ∀ tb e args s v u, (limb_1_1.after args s (.returned v) u = true ∧ limb_1_2.after args s (.returned v) u = true ∧ True) → FrameEnd s (.returned v) u (Jvm.fieldLocs frame_1_writes args s ++ Jvm.arrayLocs frame_1_arrays args s ++ Jvm.staticLocs frame_1_statics s) 16 128 → Post tb e args s (.returned v) u) :
    ArmFor flags0 classFile x code maxLocals ret World_1 tables_1 room_1 Calls_1 rest_1 Pre_1 Post := by
  intro l hfl _ _ p e ha hc hk s m args below hf hA hF happ hP
  obtain ⟨hcalls, hrest, hpre⟩ := hP
  obtain ⟨-, -, -, hnamed, -, -, -, hat⟩ := (Spec.applies_iff hf).mp happ
  obtain ⟨hg, hn⟩ := and_e (Cond.before_iff.mp (show (Jvm.Cond.and given_1 narrow_1).before args s = true from hpre))
  obtain ⟨g0, hg⟩ := and_e hg
  obtain ⟨ga0, hg⟩ := and_e hg
  obtain ⟨ga1, hg⟩ := and_e hg
  obtain ⟨ga2, hg⟩ := and_e hg
  obtain ⟨w0, w1, w2, w3, rfl⟩ : ∃ w0 w1 w2 w3 : Value, args = #[w0, w1, w2, w3] := by
    have hs : args.size = 4 := by simpa [Cond.value, given_1] using g0
    obtain ⟨L⟩ := args
    match L, hs with
    | [w0, w1, w2, w3], _ => exact ⟨w0, w1, w2, w3, rfl⟩
  have hw := fun d (hd : d ∈ tables_1) => atoms_spec (ws := Jvm.Cond.code x code maxLocals ret :: tables_1) hat d (List.mem_cons_of_mem _ hd)
  obtain ⟨i0, ei0⟩ := is_v ga0
  obtain rfl : w0 = (.int i0) := Option.some.inj ei0
  obtain ⟨i1, ei1⟩ := isL_v ga1
  obtain rfl : w1 = (.long i1) := Option.some.inj ei1
  obtain ⟨i2, ei2⟩ := isL_v ga2
  obtain rfl : w2 = (.long i2) := Option.some.inj ei2
  obtain ⟨i3, ei3⟩ := is_v hg
  obtain rfl : w3 = (.int i3) := Option.some.inj ei3
  obtain ⟨n, o, h1, h2, h3, _, L, rfl, ⟨rfl, N⟩, hq⟩ := own_rm0 l s _ hw tables_1 i0 i1 i2 i3 s.heap s.heap.size (Nat.le_refl _)  p e ha hc hk s m _ below hf ((Spec.applies_iff_loose hf).mp happ).1 ⟨rfl, State.Warmed39.refl s, rfl⟩ trivial
  refine ⟨n, _, h1, h2, h3, hpost _ _ _ _ _ _ ⟨Cond.after_iff.mpr rfl, Cond.after_iff.mpr (eq_i res_at (Term.int_eval (1)) rfl), trivial⟩ ⟨hq.1, hq.2.1, (hq.2.2.sift fun y hy => Or.inr (N y hy)).mono (by decide) (by decide)⟩⟩
theorem main_1_1 : Claimed_1_1 := comes_1 fun _ _ _ _ _ _ h hF => ⟨h.1, hF⟩
theorem main_1_2 : Claimed_1_2 := comes_1 fun _ _ _ _ _ _ h hF => ⟨h.2.1, hF⟩
end Jvm.Pilot.@@N@@
namespace Jvm.Pilot.@@N@@
open Jvm Jvm.ClassFile Sem Op Lib Jvm.Free Jvm.Stand Jvm.Pilot.@@N@@.Jvm.D
/-! MADE BY PROGRAM (witnessworld.py) out of the Statement's table words and the real class files: 11 classes; the members and pool entries that the words name. The judged class is class 1, her method 2. -/
namespace start1
open Jvm.ClassFile
def u (s : String) : CpInfo := .utf8 (stringToUtf16 s)
/-- a pool by its gaps: so many unusable entries, then the entry; so many at the end -/
def gap : Nat → List CpInfo → List CpInfo
  | 0, r => r
  | n + 1, r => .unusable :: gap n r
def poolList (es : List (Nat × CpInfo)) (last : Nat) : List CpInfo := es.foldr (fun e r => gap e.1 (e.2 :: r)) (gap last [])
def pool (es : List (Nat × CpInfo)) (last : Nat) : Array CpInfo := ⟨poolList es last⟩
def fileOf (pool : Array CpInfo) (this : Nat) (attrs : Array Attribute := #[]) (ms : Array MethodInfo := #[]) (fl : Nat := 33) (sup : Nat := 0) (ifs : Array Nat := #[]) (fds : Array FieldInfo := #[]) : ClassFile where
  minorVersion := 0
  majorVersion := 65
  constantPool := pool
  accessFlags := fl
  thisClass := this
  superClass := sup
  interfaces := ifs
  fields := fds
  methods := ms
  attributes := attrs
def plain (name : String) (sup : Option ClassId) : Class where
  name := name
  kind := .ordinary
  loader := none
  accessFlags := 33
  super := sup
  interfaces := #[]
  cf := none
  fields := #[]
  methods := #[]
  instanceTypes := #[]
  staticTypes := #[]
  resolved := #[]
  callSites := []
  init := .initialized
  statics := none
  mirror := none

def pool0 : Array CpInfo := pool [(5, u "<init>"), (0, u "()V"), (1, .class_ 10), (1, u "java/lang/Object")] 113

def k0c0 : Code := { maxStack := 0, maxLocals := 1, code := object_method_1_code, exceptionTable := #[], attributes := #[] }
def k0m0 : Method := { name := "<init>", desc := "()V", sig := { parameters := [], returnType := none }, accessFlags := 1, code := some k0c0 }
/-- java/lang/Object -/
def k0 : Class := { plain "java/lang/Object" none with
  accessFlags := 33
  interfaces := #[]
  cf := some (fileOf pool0 8 #[] #[{ accessFlags := 1, nameIndex := 5, descriptorIndex := 6, attributes := #[] }] 33 0 #[] #[])
  fields := #[]
  methods := #[k0m0]
  instanceTypes := #[]
  staticTypes := #[]
  resolved := Array.replicate 124 none
  statics := none }

def pool1 : Array CpInfo := pool [(2, .class_ 4), (1, u "java/lang/Object"), (0, u "<init>"), (0, u "()V"), (0, .integer 2147483647), (0, .long 4294967295), (1, .class_ 11), (0, u "com/example/rulewright/rulewright/IpAddress"), (0, .methodref 10 13), (0, .nameAndType 5 14), (0, u "(ZJJ)V"), (0, .methodref 10 16), (0, .nameAndType 17 18), (0, u "masked"), (0, u "(I)Lcom/example/rulewright/rulewright/IpAddress;"), (0, .methodref 20 21), (0, .class_ 22), (0, .nameAndType 23 24), (0, u "java/lang/Math"), (0, u "min"), (0, u "(II)I"), (0, .methodref 26 27), (0, .class_ 28), (0, .nameAndType 29 30), (0, u "com/example/rulewright/rulewright/IpAddressMaskedPinLaw"), (0, u "top"), (0, u "(JI)J"), (0, .methodref 20 32), (0, .nameAndType 33 24), (0, u "max"), (0, .methodref 10 35), (0, .nameAndType 36 37), (0, u "v6"), (0, u "()Z"), (0, .methodref 10 39), (0, .nameAndType 40 41), (0, u "high"), (0, u "()J"), (0, .methodref 10 43), (0, .nameAndType 44 41), (0, u "low"), (3, u "law"), (0, u "(IJJI)Z")] 2

def k1m0 : Method := { name := "<init>", desc := "()V", sig := { parameters := [], returnType := none }, accessFlags := 2, code := none }
def k1c1 : Code := { maxStack := 4, maxLocals := 3, code := method_2_code, exceptionTable := #[], attributes := #[] }
def k1m1 : Method := { name := "top", desc := "(JI)J", sig := { parameters := [.long, .int], returnType := some .long }, accessFlags := 10, code := some k1c1 }
def k1c2 : Code := { maxStack := 7, maxLocals := 18, code := code, exceptionTable := #[], attributes := #[] }
def k1m2 : Method := { name := "law", desc := "(IJJI)Z", sig := { parameters := [.int, .long, .long, .int], returnType := some .boolean }, accessFlags := 9, code := some k1c2 }
/-- com/example/rulewright/rulewright/IpAddressMaskedPinLaw -/
def k1 : Class := { plain "com/example/rulewright/rulewright/IpAddressMaskedPinLaw" (some 0) with
  accessFlags := 49
  interfaces := #[]
  cf := some (fileOf pool1 26 #[] #[{ accessFlags := 2, nameIndex := 5, descriptorIndex := 6, attributes := #[] }, { accessFlags := 10, nameIndex := 29, descriptorIndex := 30, attributes := #[] }, { accessFlags := 9, nameIndex := 48, descriptorIndex := 49, attributes := #[] }] 49 2 #[] #[])
  fields := #[]
  methods := #[k1m0, k1m1, k1m2]
  instanceTypes := #[]
  staticTypes := #[]
  resolved := Array.replicate 52 none
  statics := none }

def pool2 : Array CpInfo := pool [(1, .methodref 2 3), (0, .class_ 4), (0, .nameAndType 5 6), (0, u "java/lang/Object"), (0, u "<init>"), (0, u "()V"), (0, .class_ 8), (0, u "java/lang/Record")] 13

def k2c0 : Code := { maxStack := 1, maxLocals := 1, code := jdk_30_method_1_code, exceptionTable := #[], attributes := #[] }
def k2m0 : Method := { name := "<init>", desc := "()V", sig := { parameters := [], returnType := none }, accessFlags := 4, code := some k2c0 }
/-- java/lang/Record -/
def k2 : Class := { plain "java/lang/Record" (some 0) with
  accessFlags := 1057
  interfaces := #[]
  cf := some (fileOf pool2 7 #[] #[{ accessFlags := 4, nameIndex := 5, descriptorIndex := 6, attributes := #[] }] 1057 2 #[] #[])
  fields := #[]
  methods := #[k2m0]
  instanceTypes := #[]
  staticTypes := #[]
  resolved := Array.replicate 22 none
  statics := none }

def pool3 : Array CpInfo := pool [(1, .methodref 2 3), (0, .class_ 4), (0, .nameAndType 5 6), (0, u "java/lang/Record"), (0, u "<init>"), (0, u "()V"), (0, .fieldref 8 9), (0, .class_ 10), (0, .nameAndType 11 12), (0, u "com/example/rulewright/rulewright/IpAddress"), (0, u "v6"), (0, u "Z"), (0, .fieldref 8 14), (0, .nameAndType 15 16), (0, u "high"), (0, u "J"), (0, .fieldref 8 18), (0, .nameAndType 19 16), (0, u "low"), (8, u "LONGEST"), (0, u "I"), (12, .methodref 8 43), (0, .nameAndType 5 44), (0, u "(ZJJ)V"), (0, .long 18446744073709551615), (84, u "V6_GROUPS"), (8, u "masked"), (0, u "(I)Lcom/example/rulewright/rulewright/IpAddress;"), (3, u "()Z"), (0, u "()J")] 31

def k3c0 : Code := { maxStack := 3, maxLocals := 6, code := prog_10_method_1_code, exceptionTable := #[], attributes := #[] }
def k3m0 : Method := { name := "<init>", desc := "(ZJJ)V", sig := { parameters := [.boolean, .long, .long], returnType := none }, accessFlags := 0, code := some k3c0 }
def k3c1 : Code := { maxStack := 7, maxLocals := 7, code := prog_10_method_4_code, exceptionTable := #[], attributes := #[] }
def k3m1 : Method := { name := "masked", desc := "(I)Lcom/example/rulewright/rulewright/IpAddress;", sig := { parameters := [.int], returnType := some (.object "com/example/rulewright/rulewright/IpAddress") }, accessFlags := 0, code := some k3c1 }
def k3c2 : Code := { maxStack := 1, maxLocals := 1, code := prog_10_method_14_code, exceptionTable := #[], attributes := #[] }
def k3m2 : Method := { name := "v6", desc := "()Z", sig := { parameters := [], returnType := some .boolean }, accessFlags := 1, code := some k3c2 }
def k3c3 : Code := { maxStack := 2, maxLocals := 1, code := prog_10_method_15_code, exceptionTable := #[], attributes := #[] }
def k3m3 : Method := { name := "high", desc := "()J", sig := { parameters := [], returnType := some .long }, accessFlags := 1, code := some k3c3 }
def k3c4 : Code := { maxStack := 2, maxLocals := 1, code := prog_10_method_16_code, exceptionTable := #[], attributes := #[] }
def k3m4 : Method := { name := "low", desc := "()J", sig := { parameters := [], returnType := some .long }, accessFlags := 1, code := some k3c4 }
/-- com/example/rulewright/rulewright/IpAddress -/
def k3 : Class := { plain "com/example/rulewright/rulewright/IpAddress" (some 2) with
  accessFlags := 48
  interfaces := #[]
  cf := some (fileOf pool3 8 #[] #[{ accessFlags := 0, nameIndex := 5, descriptorIndex := 44, attributes := #[] }, { accessFlags := 0, nameIndex := 139, descriptorIndex := 140, attributes := #[] }, { accessFlags := 1, nameIndex := 11, descriptorIndex := 144, attributes := #[] }, { accessFlags := 1, nameIndex := 15, descriptorIndex := 145, attributes := #[] }, { accessFlags := 1, nameIndex := 19, descriptorIndex := 145, attributes := #[] }] 48 2 #[] #[{ accessFlags := 18, nameIndex := 11, descriptorIndex := 12, attributes := #[] }, { accessFlags := 18, nameIndex := 15, descriptorIndex := 16, attributes := #[] }, { accessFlags := 18, nameIndex := 19, descriptorIndex := 16, attributes := #[] }, { accessFlags := 26, nameIndex := 28, descriptorIndex := 29, attributes := #[] }, { accessFlags := 26, nameIndex := 130, descriptorIndex := 29, attributes := #[] }])
  fields := #[{ name := "v6", type := .boolean, accessFlags := 18, slot := 0, constantValue := 0 }, { name := "high", type := .long, accessFlags := 18, slot := 1, constantValue := 0 }, { name := "low", type := .long, accessFlags := 18, slot := 2, constantValue := 0 }, { name := "LONGEST", type := .int, accessFlags := 26, slot := 0, constantValue := 0 }, { name := "V6_GROUPS", type := .int, accessFlags := 26, slot := 1, constantValue := 0 }]
  methods := #[k3m0, k3m1, k3m2, k3m3, k3m4]
  instanceTypes := #[.boolean, .long, .long]
  staticTypes := #[.int, .int]
  resolved := Array.replicate 177 none
  statics := none }

def pool4 : Array CpInfo := pool [(1, .class_ 2), (0, u "java/lang/Math"), (1, .class_ 6), (1, u "java/lang/Object"), (0, u "<init>"), (0, u "()V"), (89, .class_ 100), (1, u "java/lang/Math$RandomNumberGeneratorHolder"), (71, u "negativeZeroFloatBits"), (0, u "J"), (2, u "negativeZeroDoubleBits"), (21, u "max"), (2, u "min"), (43, u "$assertionsDisabled"), (0, u "Z"), (88, u "(II)I"), (2, u "twoToTheDoubleScaleDown"), (0, u "D"), (4, u "twoToTheDoubleScaleUp"), (9, u "E"), (3, u "PI"), (2, u "TAU"), (2, u "DEGREES_TO_RADIANS"), (0, u "RADIANS_TO_DEGREES")] 94

def k4m0 : Method := { name := "<init>", desc := "()V", sig := { parameters := [], returnType := none }, accessFlags := 2, code := none }
def k4c1 : Code := { maxStack := 2, maxLocals := 2, code := jdk_29_method_65_code, exceptionTable := #[], attributes := #[] }
def k4m1 : Method := { name := "max", desc := "(II)I", sig := { parameters := [.int, .int], returnType := some .int }, accessFlags := 9, code := some k4c1 }
def k4c2 : Code := { maxStack := 2, maxLocals := 2, code := jdk_29_method_69_code, exceptionTable := #[], attributes := #[] }
def k4m2 : Method := { name := "min", desc := "(II)I", sig := { parameters := [.int, .int], returnType := some .int }, accessFlags := 9, code := some k4c2 }
/-- java/lang/Math -/
def k4 : Class := { plain "java/lang/Math" (some 0) with
  accessFlags := 49
  interfaces := #[]
  cf := some (fileOf pool4 1 #[.nestMembers #[98]] #[{ accessFlags := 2, nameIndex := 7, descriptorIndex := 8, attributes := #[] }, { accessFlags := 9, nameIndex := 198, descriptorIndex := 335, attributes := #[] }, { accessFlags := 9, nameIndex := 201, descriptorIndex := 335, attributes := #[] }] 49 4 #[] #[{ accessFlags := 25, nameIndex := 354, descriptorIndex := 339, attributes := #[] }, { accessFlags := 25, nameIndex := 358, descriptorIndex := 339, attributes := #[] }, { accessFlags := 25, nameIndex := 361, descriptorIndex := 339, attributes := #[] }, { accessFlags := 26, nameIndex := 364, descriptorIndex := 339, attributes := #[] }, { accessFlags := 26, nameIndex := 365, descriptorIndex := 339, attributes := #[] }, { accessFlags := 26, nameIndex := 172, descriptorIndex := 173, attributes := #[] }, { accessFlags := 26, nameIndex := 176, descriptorIndex := 173, attributes := #[] }, { accessFlags := 8, nameIndex := 344, descriptorIndex := 339, attributes := #[] }, { accessFlags := 8, nameIndex := 338, descriptorIndex := 339, attributes := #[] }, { accessFlags := 4120, nameIndex := 245, descriptorIndex := 246, attributes := #[] }])
  fields := #[{ name := "E", type := .double, accessFlags := 25, slot := 0, constantValue := 0 }, { name := "PI", type := .double, accessFlags := 25, slot := 1, constantValue := 0 }, { name := "TAU", type := .double, accessFlags := 25, slot := 2, constantValue := 0 }, { name := "DEGREES_TO_RADIANS", type := .double, accessFlags := 26, slot := 3, constantValue := 0 }, { name := "RADIANS_TO_DEGREES", type := .double, accessFlags := 26, slot := 4, constantValue := 0 }, { name := "negativeZeroFloatBits", type := .long, accessFlags := 26, slot := 5, constantValue := 0 }, { name := "negativeZeroDoubleBits", type := .long, accessFlags := 26, slot := 6, constantValue := 0 }, { name := "twoToTheDoubleScaleUp", type := .double, accessFlags := 8, slot := 7, constantValue := 0 }, { name := "twoToTheDoubleScaleDown", type := .double, accessFlags := 8, slot := 8, constantValue := 0 }, { name := "$assertionsDisabled", type := .boolean, accessFlags := 4120, slot := 9, constantValue := 0 }]
  methods := #[k4m0, k4m1, k4m2]
  instanceTypes := #[]
  staticTypes := #[.double, .double, .double, .double, .double, .long, .long, .double, .double, .boolean]
  resolved := Array.replicate 460 none
  statics := none }

def pool5 : Array CpInfo := pool [(1, u "java/lang/Cloneable"), (0, .class_ 1), (0, u "java/lang/Object"), (0, .class_ 3)] 3

/-- java/lang/Cloneable -/
def k5 : Class := { plain "java/lang/Cloneable" (some 0) with
  accessFlags := 1537
  interfaces := #[]
  cf := some (fileOf pool5 2 #[] #[] 1537 4 #[] #[])
  fields := #[]
  methods := #[]
  instanceTypes := #[]
  staticTypes := #[]
  resolved := Array.replicate 8 none
  statics := none }

def pool6 : Array CpInfo := pool [(1, u "java/io/Serializable"), (0, .class_ 1), (0, u "java/lang/Object"), (0, .class_ 3)] 3

/-- java/io/Serializable -/
def k6 : Class := { plain "java/io/Serializable" (some 0) with
  accessFlags := 1537
  interfaces := #[]
  cf := some (fileOf pool6 2 #[] #[] 1537 4 #[] #[])
  fields := #[]
  methods := #[]
  instanceTypes := #[]
  staticTypes := #[]
  resolved := Array.replicate 8 none
  statics := none }

/-- the primitive byte -/
def k7 : Class := { plain "byte" none with kind := .primitive 'B', accessFlags := 0x411 }
/-- [B -/
def k8 : Class := { plain "[B" (some 0) with kind := .array 7 .byte, interfaces := #[5, 6], accessFlags := 1041 }

/-- the primitive int -/
def k9 : Class := { plain "int" none with kind := .primitive 'I', accessFlags := 0x411 }
/-- [I -/
def k10 : Class := { plain "[I" (some 0) with kind := .array 9 .int, interfaces := #[5, 6], accessFlags := 1041 }

def heap : Heap := #[]
def classes : Array Class := #[k0, k1, k2, k3, k4, k5, k6, k7, k8, k9, k10]
def interned : List (Array UInt16 × Addr) := []
def slotsUsed : Nat := 0
def theMethod : MethodId := ⟨1, 2⟩
def args0 : Array Value := #[.int 5, .long 7, .long 9, .int 3]
def aboutOver (below : List Frame) : State where
  vm := { classes := classes, interned := interned.toArray }
  heap := heap
  slotsUsed := slotsUsed
  threads := #[{ frames := .invoking theMethod args0 :: below }]
def below0 : List Frame := [.native { method := ⟨0, 0⟩, args := #[] }]
def about1 : State := aboutOver below0
def p0 : Program := .bare "" "" ""
def e0 : Env := launch0.env 0 0 0
theorem w_frames : about1.frames = Frame.invoking theMethod args0 :: below0 := rfl
set_option maxRecDepth 65536 in
theorem w_args : argsFit about1.vm theMethod args0 = true := by decide +kernel
set_option maxRecDepth 65536 in
theorem w_heap : heapFits about1 = true := by decide +kernel
set_option maxRecDepth 65536 in
theorem w_runnable : about1.curStatus? = some .runnable := by decide +kernel
set_option maxRecDepth 65536 in
theorem w_alone : about1.alone = true := by decide +kernel
set_option maxRecDepth 65536 in
theorem w_named : about1.methodNamed? x = some theMethod := by decide +kernel
set_option maxRecDepth 65536 in
theorem w_hears : about1.hears theMethod below0 = true := by decide +kernel
set_option maxRecDepth 65536 in
theorem w_ripe : about1.ripe theMethod args0 below0 = true := by decide +kernel
theorem w_running : about1.status = .running := rfl
set_option maxRecDepth 65536 in
theorem w_room : about1.hasRoom e0.platform room_1 = true :=
  launch0.hasRoom_least _ room_1 (by decide +kernel) (by decide +kernel) (by decide +kernel) (by decide +kernel) (by decide +kernel) (by decide +kernel)
theorem allAtoms_all (ts : List Jvm.Cond) (a : Array Jvm.Value) (st : Jvm.State) : (allAtoms ts).before a st = ts.all (fun c => c.before a st) := by
  induction ts with
  | nil => rfl
  | cons c t ih =>
    show (Jvm.Cond.and c (allAtoms t)).before a st = _
    rw [Jvm.Cond.before_and, ih, List.all_cons]
def words1 : List Jvm.Cond := Jvm.Cond.code x code maxLocals ret :: tables_1
/-- a 'code' word, met by the world's own term for the bytes: nothing is compared byte by byte -/
theorem code_word {y : MethodName} {bytes : ByteArray} {mx : Nat} {rt : Option FieldType} {a : Array Value} {s : State} {m : MethodId} {meth : Method} {c : Code} (h1 : s.methodNamed? y = some m) (h2 : s.vm.method? m = some meth) (h3 : meth.code = some c) (h4 : c.code = bytes)
    (h5 : (c.maxLocals == mx && c.exceptionTable.isEmpty && decide (c.maxStack ≤ mostOperands) && decide (meth.sig.returnType = rt) && !meth.locks && decide (parseMethodDescriptor y.desc = some meth.sig)) = true) : (Jvm.Cond.code y bytes mx rt).before a s = true := by
  simp only [Bool.and_eq_true, beq_iff_eq, Bool.not_eq_true', decide_eq_true_eq] at h5
  obtain ⟨⟨⟨⟨⟨g1, g2⟩, g3⟩, g4⟩, g5⟩, g6⟩ := h5
  simp [Cond.before, Cond.holds, Cond.value, h1, h2, h3, h4, g1, g2, g3, g4, g5, g6]
def isCode : Jvm.Cond → Bool
  | .code _ _ _ _ => true
  | _ => false
theorem all_split {L : List Jvm.Cond} {P : Jvm.Cond → Bool} (h1 : L.all (fun c => isCode c || P c) = true) (h2 : ∀ c ∈ L.filter isCode, P c = true) : L.all P = true := by
  refine List.all_eq_true.mpr fun c hc => ?_
  have h := List.all_eq_true.mp h1 c hc
  rcases Bool.eq_false_or_eq_true (isCode c) with hi | hi
  · exact h2 c (List.mem_filter.mpr ⟨hc, hi⟩)
  · simpa [hi] using h
set_option maxRecDepth 65536 in
theorem w_c0 : (Jvm.Cond.code x code maxLocals ret).before args0 about1 = true := code_word (m := ⟨1, 2⟩) (meth := k1m2) (c := k1c2) (by decide +kernel) rfl rfl rfl (by decide +kernel)
set_option maxRecDepth 65536 in
theorem w_c1 : (Jvm.Cond.code ({ cls := "com/example/rulewright/rulewright/IpAddress", name := "<init>", desc := "(ZJJ)V" } : Jvm.MethodName) prog_10_method_1_code (6 : Nat) (Option.none : Option Jvm.ClassFile.FieldType)).before args0 about1 = true := code_word (m := ⟨3, 0⟩) (meth := k3m0) (c := k3c0) (by decide +kernel) rfl rfl rfl (by decide +kernel)
set_option maxRecDepth 65536 in
theorem w_c2 : (Jvm.Cond.code ({ cls := "java/lang/Record", name := "<init>", desc := "()V" } : Jvm.MethodName) jdk_30_method_1_code (1 : Nat) (Option.none : Option Jvm.ClassFile.FieldType)).before args0 about1 = true := code_word (m := ⟨2, 0⟩) (meth := k2m0) (c := k2c0) (by decide +kernel) rfl rfl rfl (by decide +kernel)
set_option maxRecDepth 65536 in
theorem w_c3 : (Jvm.Cond.code ({ cls := "java/lang/Object", name := "<init>", desc := "()V" } : Jvm.MethodName) object_method_1_code (1 : Nat) (Option.none : Option Jvm.ClassFile.FieldType)).before args0 about1 = true := code_word (m := ⟨0, 0⟩) (meth := k0m0) (c := k0c0) (by decide +kernel) rfl rfl rfl (by decide +kernel)
set_option maxRecDepth 65536 in
theorem w_c4 : (Jvm.Cond.code ({ cls := "com/example/rulewright/rulewright/IpAddress", name := "masked", desc := "(I)Lcom/example/rulewright/rulewright/IpAddress;" } : Jvm.MethodName) prog_10_method_4_code (7 : Nat) (Option.some (Jvm.ClassFile.FieldType.object "com/example/rulewright/rulewright/IpAddress"))).before args0 about1 = true := code_word (m := ⟨3, 1⟩) (meth := k3m1) (c := k3c1) (by decide +kernel) rfl rfl rfl (by decide +kernel)
set_option maxRecDepth 65536 in
theorem w_c5 : (Jvm.Cond.code ({ cls := "com/example/rulewright/rulewright/IpAddressMaskedPinLaw", name := "top", desc := "(JI)J" } : Jvm.MethodName) method_2_code (3 : Nat) (Option.some Jvm.ClassFile.FieldType.long)).before args0 about1 = true := code_word (m := ⟨1, 1⟩) (meth := k1m1) (c := k1c1) (by decide +kernel) rfl rfl rfl (by decide +kernel)
set_option maxRecDepth 65536 in
theorem w_c6 : (Jvm.Cond.code ({ cls := "com/example/rulewright/rulewright/IpAddress", name := "v6", desc := "()Z" } : Jvm.MethodName) prog_10_method_14_code (1 : Nat) (Option.some Jvm.ClassFile.FieldType.boolean)).before args0 about1 = true := code_word (m := ⟨3, 2⟩) (meth := k3m2) (c := k3c2) (by decide +kernel) rfl rfl rfl (by decide +kernel)
set_option maxRecDepth 65536 in
theorem w_c7 : (Jvm.Cond.code ({ cls := "com/example/rulewright/rulewright/IpAddress", name := "high", desc := "()J" } : Jvm.MethodName) prog_10_method_15_code (1 : Nat) (Option.some Jvm.ClassFile.FieldType.long)).before args0 about1 = true := code_word (m := ⟨3, 3⟩) (meth := k3m3) (c := k3c3) (by decide +kernel) rfl rfl rfl (by decide +kernel)
set_option maxRecDepth 65536 in
theorem w_c8 : (Jvm.Cond.code ({ cls := "com/example/rulewright/rulewright/IpAddress", name := "low", desc := "()J" } : Jvm.MethodName) prog_10_method_16_code (1 : Nat) (Option.some Jvm.ClassFile.FieldType.long)).before args0 about1 = true := code_word (m := ⟨3, 4⟩) (meth := k3m4) (c := k3c4) (by decide +kernel) rfl rfl rfl (by decide +kernel)
set_option maxRecDepth 65536 in
theorem w_c9 : (Jvm.Cond.code ({ cls := "java/lang/Math", name := "min", desc := "(II)I" } : Jvm.MethodName) jdk_29_method_69_code (2 : Nat) (Option.some Jvm.ClassFile.FieldType.int)).before args0 about1 = true := code_word (m := ⟨4, 2⟩) (meth := k4m2) (c := k4c2) (by decide +kernel) rfl rfl rfl (by decide +kernel)
set_option maxRecDepth 65536 in
theorem w_c10 : (Jvm.Cond.code ({ cls := "java/lang/Math", name := "max", desc := "(II)I" } : Jvm.MethodName) jdk_29_method_65_code (2 : Nat) (Option.some Jvm.ClassFile.FieldType.int)).before args0 about1 = true := code_word (m := ⟨4, 1⟩) (meth := k4m1) (c := k4c1) (by decide +kernel) rfl rfl rfl (by decide +kernel)
def codes1 : List Jvm.Cond := [Jvm.Cond.code x code maxLocals ret, Jvm.Cond.code ({ cls := "com/example/rulewright/rulewright/IpAddress", name := "<init>", desc := "(ZJJ)V" } : Jvm.MethodName) prog_10_method_1_code (6 : Nat) (Option.none : Option Jvm.ClassFile.FieldType), Jvm.Cond.code ({ cls := "java/lang/Record", name := "<init>", desc := "()V" } : Jvm.MethodName) jdk_30_method_1_code (1 : Nat) (Option.none : Option Jvm.ClassFile.FieldType), Jvm.Cond.code ({ cls := "java/lang/Object", name := "<init>", desc := "()V" } : Jvm.MethodName) object_method_1_code (1 : Nat) (Option.none : Option Jvm.ClassFile.FieldType), Jvm.Cond.code ({ cls := "com/example/rulewright/rulewright/IpAddress", name := "masked", desc := "(I)Lcom/example/rulewright/rulewright/IpAddress;" } : Jvm.MethodName) prog_10_method_4_code (7 : Nat) (Option.some (Jvm.ClassFile.FieldType.object "com/example/rulewright/rulewright/IpAddress")), Jvm.Cond.code ({ cls := "com/example/rulewright/rulewright/IpAddressMaskedPinLaw", name := "top", desc := "(JI)J" } : Jvm.MethodName) method_2_code (3 : Nat) (Option.some Jvm.ClassFile.FieldType.long), Jvm.Cond.code ({ cls := "com/example/rulewright/rulewright/IpAddress", name := "v6", desc := "()Z" } : Jvm.MethodName) prog_10_method_14_code (1 : Nat) (Option.some Jvm.ClassFile.FieldType.boolean), Jvm.Cond.code ({ cls := "com/example/rulewright/rulewright/IpAddress", name := "high", desc := "()J" } : Jvm.MethodName) prog_10_method_15_code (1 : Nat) (Option.some Jvm.ClassFile.FieldType.long), Jvm.Cond.code ({ cls := "com/example/rulewright/rulewright/IpAddress", name := "low", desc := "()J" } : Jvm.MethodName) prog_10_method_16_code (1 : Nat) (Option.some Jvm.ClassFile.FieldType.long), Jvm.Cond.code ({ cls := "java/lang/Math", name := "min", desc := "(II)I" } : Jvm.MethodName) jdk_29_method_69_code (2 : Nat) (Option.some Jvm.ClassFile.FieldType.int), Jvm.Cond.code ({ cls := "java/lang/Math", name := "max", desc := "(II)I" } : Jvm.MethodName) jdk_29_method_65_code (2 : Nat) (Option.some Jvm.ClassFile.FieldType.int)]
set_option maxRecDepth 65536 in
theorem codes_eq : words1.filter isCode = codes1 := rfl
theorem w_codes : ∀ c ∈ words1.filter isCode, c.before args0 about1 = true := by
  rw [codes_eq]
  intro c hc
  simp only [codes1, List.mem_cons, List.not_mem_nil, or_false] at hc
  rcases hc with rfl | rfl | rfl | rfl | rfl | rfl | rfl | rfl | rfl | rfl | rfl
  · exact w_c0
  · exact w_c1
  · exact w_c2
  · exact w_c3
  · exact w_c4
  · exact w_c5
  · exact w_c6
  · exact w_c7
  · exact w_c8
  · exact w_c9
  · exact w_c10
set_option maxRecDepth 65536 in
theorem w_t1 : (words1.take 24).all (fun c => isCode c || c.before args0 about1) = true := by decide +kernel
set_option maxRecDepth 65536 in
theorem w_t2 : ((words1.drop 24).take 24).all (fun c => isCode c || c.before args0 about1) = true := by decide +kernel
set_option maxRecDepth 65536 in
theorem w_t3 : ((words1.drop 24).drop 24).all (fun c => isCode c || c.before args0 about1) = true := by decide +kernel
theorem w_tables : (allAtoms (Jvm.Cond.code x code maxLocals ret :: tables_1)).before args0 about1 = true := by
  rw [allAtoms_all]
  show words1.all (fun c => c.before args0 about1) = true
  refine all_split ?_ w_codes
  rw [← List.take_append_drop 24 words1, List.all_append, w_t1, ← List.take_append_drop 24 (words1.drop 24), List.all_append, w_t2, w_t3]
  rfl
set_option maxRecDepth 65536 in
theorem w_case : (Jvm.Cond.and given_1 narrow_1).before args0 about1 = true := by decide +kernel
theorem w_applies : (headSpec (Jvm.Cond.code x code maxLocals ret :: tables_1) room_1).applies x e0.platform about1 = true :=
  (Spec.applies_iff w_frames).mpr ⟨w_running, w_runnable, w_alone, w_named, w_hears, w_ripe, w_room, w_tables⟩
theorem atStart : AtStart classFile x code maxLocals ret World_1 tables_1 room_1 Calls_1 rest_1 Pre_1 launch0 p0 e0 about1 theMethod args0 below0 :=
  ⟨lists_1, trivial, launch0.admits_env _ _ _, launch0.least_env, fairChoices_fair.cas, fairChoices_fair.clock, w_frames, w_args, w_heap, w_applies, trivial, trivial, w_case⟩
end start1
theorem witness_1 : WitnessClaimed_1 := ⟨start1.p0, start1.e0, start1.about1, start1.theMethod, start1.args0, start1.below0, start1.atStart⟩
end Jvm.Pilot.@@N@@
