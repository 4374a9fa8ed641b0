import JvmDerived
import JvmDerived.Pilot.@@N@@Statement
import JvmDerived.Pilot.@@N@@Code
set_option linter.unusedVariables false
set_option linter.unusedSimpArgs false
namespace Jvm.RoadKit
open Sem ClassFile Op Lib Jvm.Stand Jvm.Free Jvm.LawKit
section New
variable {p : Program} {l : Launch} {e : Env} {R : Room} {s : State} {m : MethodId} {args : Array Value} {below : List Frame} {meth : Method} {c : Code} {T : State} {locs : List Loc} {cells slots : Nat}
theorem retI (X : Stand p l e R s m args below meth c T locs cells slots) (hx : p.tables.exec = Jvm.exec) {pc : Nat} {Ls : Array Slot} {z : Int32} {rest : List Value} (hret : meth.sig.returnType = some .int) (hd : decode c.code pc = .ok (.ireturn, 1)) {fs : List Frame}
    (hl : ∀ (f : JFrame) (acts : List Action), f.method = m → f.locked = none → f.entered = [] → (doReturn e (T.setTop f) acts (some (.int z))).1 = T.setFrames fs) : Steps p.tables e below (T.setTop (mkF m pc Ls (.int z :: rest))) (T.setFrames fs) := by
  have hm' : T.vm.method? m = some meth := X.method'
  have hn : narrow .int (.int z) = .int z := rfl
  show Steps p.tables e below (T.setTop { method := m, pc := pc, locals := Ls, stack := _ :: rest, locked := none }) _
  jvm_step X.here [X.here.top, hx, hd, hm', hret, hn]
  first | (intro acts; rw [hl _ acts rfl rfl rfl]) | rw [hl _ _ rfl rfl rfl]
  exact Steps.refl _
end New
/-- the run from S ends, with Post of its end -/
def Go (tb : Tables) (e : Env) (below : List Frame) (Post : Outcome → State → Prop) (S : State) : Prop := ∃ s₂ o, Steps tb e below S s₂ ∧ s₂.status = .running ∧ Ended s₂ below o ∧ Post o s₂
theorem Go.step {tb : Tables} {e : Env} {below : List Frame} {Post : Outcome → State → Prop} {S S' : State} (h : ∀ t, Steps tb e below S' t → Steps tb e below S t) (g : Go tb e below Post S') : Go tb e below Post S := by
  obtain ⟨s₂, o, a, b⟩ := g
  exact ⟨s₂, o, h _ a, b⟩
theorem at_of {c : Cell} {vs : List Value} {d v : Value} {j : Int32} (H : Has c vs d) (hin : ¬ (j < 0 ∨ c.slots.size ≤ j.toNatClampNeg)) (e : vs.getD j.toNatClampNeg d = v) : c.slots[j.toNatClampNeg]? = some v := by
  have q : j.toNatClampNeg < c.slots.size := Nat.lt_of_not_le (fun h => hin (Or.inr h))
  rw [H _ q, e]
end Jvm.RoadKit
namespace Jvm.Pilot.@@N@@
open Jvm Jvm.ClassFile Sem Op Lib Jvm.Free Jvm.Stand Jvm.LawKit Jvm.RoadKit Bundle Jvm.Pilot.@@N@@.Jvm.D
open Jvm.FP.Core in
theorem own_u {n : Int32} : ∃ sg cc qq, val64 (i2d n) = .fin sg cc qq ∧ b64.qmin ≤ qq ∧ Jvm.FP.Core.inUnits cc qq b64.qmin = n.toInt.natAbs * 2 ^ 1074 := by
  have hs : Small53 n.toInt64 := by
    unfold Small53; rw [Int32.toInt_toInt64]; have := n.toInt_lt; have := n.le_toInt; omega
  obtain ⟨cc, qq, h⟩ := l2d_shape n.toInt64
  have hz := DInt_zval (l2d_whole hs)
  rw [h, Int32.toInt_toInt64] at hz
  have hf : Jvm.FP.Core.fits b64 (val64 (l2d n.toInt64)) := decode_fits good_b64 _
  rw [h] at hf
  refine ⟨_, cc, qq, by rw [i2d_l2d]; exact h, hf.2.1, ?_⟩
  have h1 : (one64 : Nat) = 2 ^ 1074 := by decide +kernel
  have h2 := congrArg Int.natAbs hz
  rw [Int.natAbs_mul, h1] at h2
  have h3 : (zval b64 (.fin (decide (n.toInt < 0)) cc qq)).natAbs = Jvm.FP.Core.inUnits cc qq b64.qmin := by
    show (signed (decide (n.toInt < 0)) (Jvm.FP.Core.inUnits cc qq b64.qmin)).natAbs = _
    cases decide (n.toInt < 0)
    · exact Int.natAbs_natCast _
    · exact (Int.natAbs_neg _).trans (Int.natAbs_natCast _)
  rw [← h3, h2]; rfl
open Jvm.FP.Core in
theorem own_v20 : val64 4697254411347427328 = .fin false (2 ^ 52) (-32) := by decide +kernel
open Jvm.FP.Core in
theorem own_div {n : Int32} : ∃ sg cc qq, decode b64 (ddiv (i2d n) 4697254411347427328).toNat = roundRatio b64 sg cc (2 ^ 52) (qq + 32) ∧ b64.qmin ≤ qq ∧ Jvm.FP.Core.inUnits cc (qq + 32) b64.qmin = n.toInt.natAbs * 2 ^ 1074 * 2 ^ 32 := by
  obtain ⟨sg, cc, qq, h, hq, hu⟩ := own_u (n := n)
  refine ⟨sg, cc, qq, ?_, hq, ?_⟩
  · show val64 (ddiv (i2d n) 4697254411347427328) = _
    rw [val64_ddiv, h, own_v20]
    rw [show quotient b64 (.fin sg cc qq) (.fin false (2 ^ 52) (-32)) = roundRatio b64 (sg != false) cc (2 ^ 52) (qq - -32) by simp only [quotient]; exact if_neg (by decide)]
    rw [Bool.bne_false, Int.sub_neg]
  · rw [← hu]
    unfold Jvm.FP.Core.inUnits
    rw [show (qq + 32 - b64.qmin).toNat = (qq - b64.qmin).toNat + 32 by omega, Nat.pow_add, Nat.mul_assoc]
open Jvm.FP.Core in
theorem own_le {n : Int32} {K B : Nat} (hB : unitsOf b64 B = K * 2 ^ 1074) (h : n.toInt.natAbs ≤ K * 1048576) : (FP.ddiv (FP.i2d n) 4697254411347427328).toNat % 9223372036854775808 ≤ B := by
  obtain ⟨sg, cc, qq, h1, hq, hu⟩ := own_div (n := n)
  have := mag_le good_b64 (m := B) (e0 := b64.qmin) h1 (by decide) (Int.le_refl _) (by omega) (by
    rw [hu, hB, Int.sub_self, Int.toNat_zero, Nat.pow_zero, Nat.mul_one]
    calc n.toInt.natAbs * 2 ^ 1074 * 2 ^ 32 ≤ K * 1048576 * 2 ^ 1074 * 2 ^ 32 := Nat.mul_le_mul_right _ (Nat.mul_le_mul_right _ h)
      _ = K * 2 ^ 1074 * 2 ^ 52 := by rw [show (2 ^ 52 : Nat) = 1048576 * 2 ^ 32 by decide]; generalize (2 ^ 1074 : Nat) = P; generalize (2 ^ 32 : Nat) = P2; ac_rfl)
  rw [mag_toNat64] at this; exact this
open Jvm.FP.Core in
theorem own_ge {n : Int32} (h : n ≠ 0) : (FP.ddiv (FP.i2d n) 4697254411347427328).toNat % 9223372036854775808 ≠ 0 := by
  obtain ⟨sg, cc, qq, h1, hq, hu⟩ := own_div (n := n)
  have hn : 1 ≤ n.toInt.natAbs := by
    have : n.toInt ≠ 0 := fun q => h (Int32.toInt_inj.mp q)
    omega
  have := mag_ge good_b64 (m := 1) (e0 := b64.qmin) h1 (by decide) (Int.le_refl _) (by omega) (by decide +kernel) (by
    rw [hu, Int.sub_self, Int.toNat_zero, Nat.pow_zero, Nat.mul_one]
    have h2 : unitsOf b64 1 = 1 := by decide +kernel
    rw [h2]
    calc 1 * 2 ^ 52 ≤ 1 * 2 ^ 1074 * 2 ^ 32 := by decide +kernel
      _ ≤ n.toInt.natAbs * 2 ^ 1074 * 2 ^ 32 := Nat.mul_le_mul_right _ (Nat.mul_le_mul_right _ hn))
  rw [mag_toNat64] at this
  intro q
  have q' : (ddiv (i2d n) 4697254411347427328).toNat % 2 ^ 63 = 0 := q
  omega
theorem own_z0 : (FP.ddiv (FP.i2d 0) 4697254411347427328).toNat % 9223372036854775808 = 0 := by decide +kernel
theorem own_neg (x : UInt64) : (FP.dneg x).toNat % 9223372036854775808 = x.toNat % 9223372036854775808 := by
  show (x ^^^ 0x8000000000000000).toNat % 2 ^ 63 = x.toNat % 2 ^ 63
  rw [UInt64.toNat_xor]
  apply Nat.eq_of_testBit_eq; intro i
  simp only [Nat.testBit_mod_two_pow, Nat.testBit_xor]
  by_cases q : i < 63
  · have : (0x8000000000000000 : UInt64).toNat.testBit i = false := by
      show (2 ^ 63 : Nat).testBit i = false
      rw [Nat.testBit_two_pow]; simp; omega
    rw [this]; simp
  · simp [q]
theorem own_b90 : Jvm.FP.Core.unitsOf Jvm.FP.Core.b64 4636033603912859648 = 90 * 2 ^ 1074 := by decide +kernel
theorem own_b180 : Jvm.FP.Core.unitsOf Jvm.FP.Core.b64 4640537203540230144 = 180 * 2 ^ 1074 := by decide +kernel
theorem own_nn {x : UInt64} (h : x.toNat % 9223372036854775808 ≤ 4640537203540230144) : Jvm.Free.Fl.NoNaN64 x := by
  rw [Jvm.Free.Fl.noNaN64_no]
  exact (Jvm.FP.Core.notNaN_iff x).mpr ((Jvm.FP.Core.ne_nan x).mpr (by have : (2:Nat)^63 = 9223372036854775808 := by decide
                                                                       omega))
open Jvm.FP.Core in
theorem own_abs {x K : UInt64} (h : x.toNat % 9223372036854775808 ≤ K.toNat) (hK : K.toNat ≤ 4640537203540230144) : ¬ (0 : Int32) < cmpValue (FP.dcmp (x &&& 0x7fffffffffffffff) K) .g := by
  have n1 : val64 x ≠ .nan := (notNaN_iff x).mp (Jvm.Free.Fl.noNaN64_no.mp (own_nn (Nat.le_trans h hK)))
  have n2 : val64 K ≠ .nan := (notNaN_iff K).mp (Jvm.Free.Fl.noNaN64_no.mp (own_nn (by omega)))
  rw [show FP.dcmp (x &&& 0x7fffffffffffffff) K = _ from dcmp_key (mask_ne_nan n1) n2, mask_key]
  have k2 : dkey K = (K.toNat : Int) := by unfold dkey; rw [if_neg (by omega)]
  rw [k2]
  have h' : ((x.toNat % 2 ^ 63 : Nat) : Int) ≤ (K.toNat : Int) := by exact_mod_cast h
  generalize ((x.toNat % 2 ^ 63 : Nat) : Int) = u at *
  generalize (K.toNat : Int) = v at *
  rw [compare_ite]
  by_cases q : u < v
  · simp [q, cmpValue]
  · have : u = v := by omega
    subst this; simp [cmpValue]
open Jvm.FP.Core in
theorem own_cz {x : UInt64} (hn : Jvm.Free.Fl.NoNaN64 x) : cmpValue (FP.dcmp x 0) .l = 0 ↔ x.toNat % 9223372036854775808 = 0 := by
  have n1 : val64 x ≠ .nan := (notNaN_iff x).mp (Jvm.Free.Fl.noNaN64_no.mp hn)
  have n2 : val64 0 ≠ .nan := by decide +kernel
  rw [show FP.dcmp x 0 = _ from dcmp_key n1 n2]
  have k2 : dkey 0 = 0 := by decide +kernel
  have k1 : dkey x = 0 ↔ x.toNat % 9223372036854775808 = 0 := by
    have := x.toNat_lt; unfold dkey; split <;> omega
  rw [k2, ← k1, compare_ite]
  by_cases q : dkey x < 0
  · have : ¬ dkey x = 0 := by omega
    simp [q, cmpValue, this]
  · by_cases q2 : dkey x = 0
    · simp [q2, cmpValue]
    · simp [q, q2, cmpValue]
theorem own_rem {a k : Int32} {K : Nat} (hk : k.toInt = K + 1) : (a % k).toInt.natAbs ≤ K := by
  rw [Int32.toInt_mod, hk, Int.natAbs_tmod]
  have := Nat.mod_lt a.toInt.natAbs (show 0 < ((K : Int) + 1).natAbs by omega)
  omega
def own_zz (x1 y1 : UInt64) : Int32 := if cmpValue (FP.dcmp x1 (0 : UInt64)) .l = (0 : Int32) ∧ cmpValue (FP.dcmp y1 (0 : UInt64)) .l = (0 : Int32) then 1 else 0
theorem own_zz_eq {x1 y1 : UInt64} {n1 n2 : Int32} (hu : x1.toNat % 9223372036854775808 ≤ 4636033603912859648 ∧ (x1.toNat % 9223372036854775808 = 0 ↔ n1 = 0)) (hv : y1.toNat % 9223372036854775808 ≤ 4640537203540230144 ∧ (y1.toNat % 9223372036854775808 = 0 ↔ n2 = 0)) : own_zz x1 y1 = if n1 = 0 ∧ n2 = 0 then 1 else 0 := by
  unfold own_zz
  simp only [own_cz (own_nn (Nat.le_trans hu.1 (by decide))), own_cz (own_nn hv.1), hu.2, hv.2]
theorem own_all {n : Int32} {K B : Nat} (hB : Jvm.FP.Core.unitsOf Jvm.FP.Core.b64 B = K * 2 ^ 1074) (h : n.toInt.natAbs ≤ K * 1048576) : (FP.ddiv (FP.i2d n) (4697254411347427328 : UInt64)).toNat % 9223372036854775808 ≤ B ∧ ((FP.ddiv (FP.i2d n) (4697254411347427328 : UInt64)).toNat % 9223372036854775808 = 0 ↔ n = 0) := by
  refine ⟨own_le hB h, fun q => ?_, fun q => ?_⟩
  · exact Classical.byContradiction fun r => own_ge r q
  · subst q; exact own_z0
theorem own_alln {x : UInt64} {n : Int32} {B : Nat} (h : x.toNat % 9223372036854775808 ≤ B ∧ (x.toNat % 9223372036854775808 = 0 ↔ n = 0)) : (FP.dneg x).toNat % 9223372036854775808 ≤ B ∧ ((FP.dneg x).toNat % 9223372036854775808 = 0 ↔ n = 0) := by rw [own_neg]; exact h
theorem own_dn {n : Int32} {K : Nat} (hK : K ≤ 180) (h : n.toInt.natAbs ≤ K * 1048576) : Jvm.Free.Fl.NoNaN64 (FP.ddiv (FP.i2d n) (4697254411347427328 : UInt64)) := own_nn (own_le own_b180 (Nat.le_trans h (Nat.mul_le_mul_right _ hK)))
theorem pd_0 : parseMethodDescriptor "(D)D" = some ⟨[.double], some .double⟩ := by decide +kernel
theorem pn_0 : plainName "com/example/inchworm/inchworm/photos/GeoPosition" = true := by first | (simp [plainName, overriddenIn]; done) | decide +kernel
theorem d3_0 : decode prog_50_method_2_code 0 = .ok (.dload_n 0, 1) := by decide +kernel
theorem d3_1 : decode prog_50_method_2_code 1 = .ok (.invokestatic 29, 3) := by decide +kernel
theorem d3_4 : decode prog_50_method_2_code 4 = .ok (.ldc2_w 35, 3) := by decide +kernel
theorem d3_7 : decode prog_50_method_2_code 7 = .ok (.dcmp .g, 1) := by decide +kernel
theorem d3_8 : decode prog_50_method_2_code 8 = .ok (.ifCond .gt 18, 3) := by decide +kernel
theorem d3_11 : decode prog_50_method_2_code 11 = .ok (.dload_n 2, 1) := by decide +kernel
theorem d3_12 : decode prog_50_method_2_code 12 = .ok (.invokestatic 29, 3) := by decide +kernel
theorem d3_15 : decode prog_50_method_2_code 15 = .ok (.ldc2_w 37, 3) := by decide +kernel
theorem d3_18 : decode prog_50_method_2_code 18 = .ok (.dcmp .g, 1) := by decide +kernel
theorem d3_19 : decode prog_50_method_2_code 19 = .ok (.ifCond .gt 7, 3) := by decide +kernel
theorem d3_22 : decode prog_50_method_2_code 22 = .ok (.iconst 1, 1) := by decide +kernel
theorem d3_23 : decode prog_50_method_2_code 23 = .ok (.goto 4, 3) := by decide +kernel
theorem d3_27 : decode prog_50_method_2_code 27 = .ok (.ireturn, 1) := by decide +kernel
theorem ef_rm3 (m : MethodId) (x1 : UInt64) (y1 : UInt64) : entryFrame m #[(.double x1), (.double y1)] 4 = mkF m 0 #[.val (.double x1), .second, .val (.double y1), .second] [] := by first | (simp [entryFrame, mkF, argsToLocals, Value.category]; done) | rfl
def Qrm3 (Z : State) (x1 : UInt64) (y1 : UInt64) (h0 : Heap) (n0 : Nat) (v : Option Value) (h : Heap) (L : List Loc) : Prop := v = some (.int (1 : Int32)) ∧ Fr n0 L ∧ h = h0
set_option maxRecDepth 65536 in
set_option maxHeartbeats 40000000 in
theorem rm3 (l : Launch) (Z : State) (a0 : Array Value) (hw : ∀ d ∈ tables_1, d.before a0 Z = true) (ws : List Jvm.Cond) (x1 : UInt64) (y1 : UInt64) (h0 : Heap) (n0 : Nat) (Z0 : n0 ≤ h0.size) (hu : x1.toNat % 9223372036854775808 ≤ (4636033603912859648 : UInt64).toNat) (hv : y1.toNat % 9223372036854775808 ≤ (4640537203540230144 : UInt64).toNat) :
    MetFree l (⟨"com/example/inchworm/inchworm/photos/GeoPosition", "isOnEarth", "(DD)Z"⟩ : MethodName) (head1 (Jvm.Cond.code (⟨"com/example/inchworm/inchworm/photos/GeoPosition", "isOnEarth", "(DD)Z"⟩ : MethodName) prog_50_method_2_code 4 (some .boolean) :: ws) ({ frames := 1, cells := 0, slots := 0, locals := 13 } : Room)) (fun a U => a = #[(.double x1), (.double y1)] ∧ Z.Warmed39 U.vm ∧ U.heap = h0) (fun _ _ _ _ _ => True) (fun _ U o U' => ∃ v L, o = .returned v ∧ Qrm3 Z x1 y1 h0 n0 v U'.heap L ∧ FrameEnd U o U' L ({ frames := 1, cells := 0, slots := 0, locals := 13 } : Room).cells ({ frames := 1, cells := 0, slots := 0, locals := 13 } : Room).slots) := by
  refine MetFree.of_bodySF (plainFor_of_name pn_0) hisR ?_
  intro p e s m args below meth c s₁ Bd hml0 hP hK
  obtain ⟨rfl, hZ, hh⟩ := hP
  have hx := Bd.exec
  have hby := Bd.bytes
  have hml : c.maxLocals = 4 := hml0
  have hown : s.vm.findClass "com/example/inchworm/inchworm/photos/GeoPosition" = some m.cls := findClass_of_methodNamed Bd.named
  have hnm := (name_of_methodNamed Bd.named Bd.method).1
  have X0 : Stand p l e ({ frames := 1, cells := 0, slots := 0, locals := 13 } : Room) s m #[(.double x1), (.double y1)] below meth c s₁ [] 0 0 := Stand.of_body Bd
  have e0 : s₁.heap = h0 := by rw [← hh, Bd.state]; rfl
  have N0 := Fr.nil n0
  show Go p.tables e below (fun o U' => ∃ v L, o = .returned v ∧ Qrm3 Z x1 y1 h0 n0 v U'.heap L ∧ FrameEnd s o U' L ({ frames := 1, cells := 0, slots := 0, locals := 13 } : Room).cells ({ frames := 1, cells := 0, slots := 0, locals := 13 } : Room).slots) _
  refine Go.step (fun t kt => castTop (ef_rm3 m x1 y1) kt) ?_
  show Go p.tables e below _ (s₁.setTop (mkF m 0 #[.val (.double x1), .second, .val (.double y1), .second] []))
  refine Go.step (fun _ kt => XS.dloadN X0.here hx rfl (hb hby d3_0) rfl kt) ?_
  show Go p.tables e below _ (s₁.setTop (mkF m 1 #[.val (.double x1), .second, .val (.double y1), .second] [(.double x1)]))
  obtain ⟨T101, X101, e101, st101⟩ := natS X0 hx hZ (y := Jvm.Free.Fl.Abs.absDN) hown (hw _ (List.mem_of_getElem? (i := 15) rfl)) (hw _ (List.mem_of_getElem? (i := 16) rfl)) (hw _ (List.mem_of_getElem? (i := 17) rfl)) (by0 := Jvm.Free.Fl.Abs.absDCode) (ml := 2) (rt := some .double) (hw _ (List.mem_of_getElem? (i := 18) rfl)) (by decide) e0 (W := 0) (F := fun a' => a' = #[.double x1] ∧ Jvm.Free.Fl.NoNaN64 x1) (val := .double (x1 &&& 0x7fffffffffffffff)) (val' := .double (x1 &&& 0x7fffffffffffffff)) (fun c4 => Jvm.Free.Fl.Abs.absD_pays x1 c4 (by decide) (by decide)) (g := (mkF m 1 #[.val (.double x1), .second, .val (.double y1), .second] [(.double x1)])) rfl (by rw [hml]; rfl) (argsL := [(.double x1)]) (rest := []) (lenOf pd_0 rfl) rfl (by show 2 * 0 + _ ≤ _; exact Nat.le_of_eq rfl) (hb hby d3_1) (by decide) (by decide) ⟨rfl, (own_nn (Nat.le_trans hu (by decide)))⟩ rfl
  refine Go.step st101 ?_
  show Go p.tables e below _ (T101.setTop (mkF m 4 #[.val (.double x1), .second, .val (.double y1), .second] [(.double (x1 &&& 0x7fffffffffffffff))]))
  refine Go.step (X101.ldc2DoubleC hx hown (mvT hZ (hw _ (List.mem_of_getElem? (i := 19) rfl))) (g := (mkF m 4 #[.val (.double x1), .second, .val (.double y1), .second] [(.double (x1 &&& 0x7fffffffffffffff))])) rfl (hb hby d3_4)) ?_
  show Go p.tables e below _ (T101.setTop (mkF m 7 #[.val (.double x1), .second, .val (.double y1), .second] [(.double (4636033603912859648 : UInt64)), (.double (x1 &&& 0x7fffffffffffffff))]))
  refine Go.step (fun _ kt => XS.dcmpS X101.here hx rfl (hb hby d3_7) rfl rfl (XS.ifNo X101.here hx rfl (hb hby d3_8) rfl ((if0 _ _).trans (flt (own_abs hu (by decide))).2.2.1) (XS.dloadN X101.here hx rfl (hb hby d3_11) rfl kt))) ?_
  show Go p.tables e below _ (T101.setTop (mkF m 12 #[.val (.double x1), .second, .val (.double y1), .second] [(.double y1)]))
  obtain ⟨T102, X102, e102, st102⟩ := natS X101 hx hZ (y := Jvm.Free.Fl.Abs.absDN) hown (hw _ (List.mem_of_getElem? (i := 15) rfl)) (hw _ (List.mem_of_getElem? (i := 16) rfl)) (hw _ (List.mem_of_getElem? (i := 17) rfl)) (by0 := Jvm.Free.Fl.Abs.absDCode) (ml := 2) (rt := some .double) (hw _ (List.mem_of_getElem? (i := 18) rfl)) (by decide) e101 (W := 0) (F := fun a' => a' = #[.double y1] ∧ Jvm.Free.Fl.NoNaN64 y1) (val := .double (y1 &&& 0x7fffffffffffffff)) (val' := .double (y1 &&& 0x7fffffffffffffff)) (fun c4 => Jvm.Free.Fl.Abs.absD_pays y1 c4 (by decide) (by decide)) (g := (mkF m 12 #[.val (.double x1), .second, .val (.double y1), .second] [(.double y1)])) rfl (by rw [hml]; rfl) (argsL := [(.double y1)]) (rest := []) (lenOf pd_0 rfl) rfl (by show 2 * 0 + _ ≤ _; exact Nat.le_of_eq rfl) (hb hby d3_12) (by decide) (by decide) ⟨rfl, (own_nn hv)⟩ rfl
  refine Go.step st102 ?_
  show Go p.tables e below _ (T102.setTop (mkF m 15 #[.val (.double x1), .second, .val (.double y1), .second] [(.double (y1 &&& 0x7fffffffffffffff))]))
  refine Go.step (X102.ldc2DoubleC hx hown (mvT hZ (hw _ (List.mem_of_getElem? (i := 20) rfl))) (g := (mkF m 15 #[.val (.double x1), .second, .val (.double y1), .second] [(.double (y1 &&& 0x7fffffffffffffff))])) rfl (hb hby d3_15)) ?_
  show Go p.tables e below _ (T102.setTop (mkF m 18 #[.val (.double x1), .second, .val (.double y1), .second] [(.double (4640537203540230144 : UInt64)), (.double (y1 &&& 0x7fffffffffffffff))]))
  refine Go.step (fun _ kt => XS.dcmpS X102.here hx rfl (hb hby d3_18) rfl rfl (XS.ifNo X102.here hx rfl (hb hby d3_19) rfl ((if0 _ _).trans (flt (own_abs hv (by decide))).2.2.1) (XS.iconst X102.here hx rfl (hb hby d3_22) (XS.goto X102.here hx rfl (pc0 := 23) (pc' := 27) rfl (hb hby d3_23) (by decide) (by decide) kt)))) ?_
  show Go p.tables e below _ (T102.setTop (mkF m 27 #[.val (.double x1), .second, .val (.double y1), .second] [(.int (1 : Int32))]))
  obtain ⟨fs, hr, hrun, hended, hW, hsame⟩ := X102.leave (v := some (.int (1 : Int32))) (fun h => by rw [Bd.returns] at h; cases h)
  refine ⟨_, _, retN X102 hx (t := .boolean) Bd.returns (by simp) (hb hby d3_27) hr, hrun, hended, _, _, rfl, ?_, ⟨_, rfl⟩, hW, hsame.mono (by decide) (by decide)⟩
  show Qrm3 Z x1 y1 h0 n0 _ T102.heap _
  rw [e102]
  refine ⟨?_, N0, rfl⟩
  rfl
theorem pd_1 : parseMethodDescriptor "(DD)Z" = some ⟨[.double, .double], some .boolean⟩ := by decide +kernel
theorem d1_0 : decode prog_50_method_1_code 0 = .ok (.aload_n 0, 1) := by decide +kernel
theorem d1_1 : decode prog_50_method_1_code 1 = .ok (.invokespecial 1, 3) := by decide +kernel
theorem d1_4 : decode prog_50_method_1_code 4 = .ok (.dload_n 1, 1) := by decide +kernel
theorem d1_5 : decode prog_50_method_1_code 5 = .ok (.dload_n 3, 1) := by decide +kernel
theorem d1_6 : decode prog_50_method_1_code 6 = .ok (.invokestatic 7, 3) := by decide +kernel
theorem d1_9 : decode prog_50_method_1_code 9 = .ok (.ifCond .ne 18, 3) := by decide +kernel
theorem d1_27 : decode prog_50_method_1_code 27 = .ok (.aload_n 0, 1) := by decide +kernel
theorem d1_28 : decode prog_50_method_1_code 28 = .ok (.dload_n 1, 1) := by decide +kernel
theorem d1_29 : decode prog_50_method_1_code 29 = .ok (.putfield 22, 3) := by decide +kernel
theorem d1_32 : decode prog_50_method_1_code 32 = .ok (.aload_n 0, 1) := by decide +kernel
theorem d1_33 : decode prog_50_method_1_code 33 = .ok (.dload_n 3, 1) := by decide +kernel
theorem d1_34 : decode prog_50_method_1_code 34 = .ok (.putfield 26, 3) := by decide +kernel
theorem d1_37 : decode prog_50_method_1_code 37 = .ok (.return_, 1) := by decide +kernel
theorem ef_rm1 (m : MethodId) (a1 : Addr) (x1 : UInt64) (y1 : UInt64) (w1 : Value) (w2 : Value) : entryFrame m #[(.ref a1), (.double x1), (.double y1)] 5 = mkF m 0 #[.val (.ref a1), .val (.double x1), .second, .val (.double y1), .second] [] := by first | (simp [entryFrame, mkF, argsToLocals, Value.category]; done) | rfl
def Qrm1 (Z : State) (a1 : Addr) (x1 : UInt64) (y1 : UInt64) (w1 : Value) (w2 : Value) (h0 : Heap) (n0 : Nat) (v : Option Value) (h : Heap) (L : List Loc) : Prop := v = none ∧ Fr n0 L ∧ Keep h0 h [a1] ∧ Exa Z h a1 "com/example/inchworm/inchworm/photos/GeoPosition" ∧ Fld Z h a1 "com/example/inchworm/inchworm/photos/GeoPosition" "latitude" "D" (.double x1) ∧ Fld Z h a1 "com/example/inchworm/inchworm/photos/GeoPosition" "longitude" "D" (.double y1)
set_option maxRecDepth 65536 in
set_option maxHeartbeats 40000000 in
theorem rm1 (l : Launch) (Z : State) (a0 : Array Value) (hw : ∀ d ∈ tables_1, d.before a0 Z = true) (ws : List Jvm.Cond) (a1 : Addr) (x1 : UInt64) (y1 : UInt64) (w1 : Value) (w2 : Value) (h0 : Heap) (n0 : Nat) (Z0 : n0 ≤ h0.size) (E1 : Exa Z h0 a1 "com/example/inchworm/inchworm/photos/GeoPosition") (F1 : Fld Z h0 a1 "com/example/inchworm/inchworm/photos/GeoPosition" "latitude" "D" w1) (F2 : Fld Z h0 a1 "com/example/inchworm/inchworm/photos/GeoPosition" "longitude" "D" w2) (g_a1 : n0 ≤ a1) (hu : x1.toNat % 9223372036854775808 ≤ (4636033603912859648 : UInt64).toNat) (hv : y1.toNat % 9223372036854775808 ≤ (4640537203540230144 : UInt64).toNat) :
    MetFree l (⟨"com/example/inchworm/inchworm/photos/GeoPosition", "<init>", "(DD)V"⟩ : MethodName) (head1 (Jvm.Cond.code (⟨"com/example/inchworm/inchworm/photos/GeoPosition", "<init>", "(DD)V"⟩ : MethodName) prog_50_method_1_code 5 none :: ws) ({ frames := 2, cells := 0, slots := 0, locals := 28 } : Room)) (fun a U => a = #[(.ref a1), (.double x1), (.double y1)] ∧ Z.Warmed39 U.vm ∧ U.heap = h0) (fun _ _ _ _ _ => True) (fun _ U o U' => ∃ v L, o = .returned v ∧ Qrm1 Z a1 x1 y1 w1 w2 h0 n0 v U'.heap L ∧ FrameEnd U o U' L ({ frames := 2, cells := 0, slots := 0, locals := 28 } : Room).cells ({ frames := 2, cells := 0, slots := 0, locals := 28 } : Room).slots) := by
  refine MetFree.of_bodySF (plainFor_of_name pn_0) hisR ?_
  intro p e s m args below meth c s₁ Bd hml0 hP hK
  obtain ⟨rfl, hZ, hh⟩ := hP
  have hx := Bd.exec
  have hby := Bd.bytes
  have hml : c.maxLocals = 5 := hml0
  have hown : s.vm.findClass "com/example/inchworm/inchworm/photos/GeoPosition" = some m.cls := findClass_of_methodNamed Bd.named
  have hnm := (name_of_methodNamed Bd.named Bd.method).1
  have X0 : Stand p l e ({ frames := 2, cells := 0, slots := 0, locals := 28 } : Room) s m #[(.ref a1), (.double x1), (.double y1)] below meth c s₁ [] 0 0 := Stand.of_body Bd
  have e0 : s₁.heap = h0 := by rw [← hh, Bd.state]; rfl
  have N0 := Fr.nil n0
  show Go p.tables e below (fun o U' => ∃ v L, o = .returned v ∧ Qrm1 Z a1 x1 y1 w1 w2 h0 n0 v U'.heap L ∧ FrameEnd s o U' L ({ frames := 2, cells := 0, slots := 0, locals := 28 } : Room).cells ({ frames := 2, cells := 0, slots := 0, locals := 28 } : Room).slots) _
  refine Go.step (fun t kt => castTop (ef_rm1 m a1 x1 y1 w1 w2) kt) ?_
  show Go p.tables e below _ (s₁.setTop (mkF m 0 #[.val (.ref a1), .val (.double x1), .second, .val (.double y1), .second] []))
  have K101 : Keep h0 h0 [a1] := (Keep.refl h0 [a1])
  refine Go.step (fun _ kt => XS.aloadN X0.here hx rfl (hb hby d1_0) rfl rfl kt) ?_
  show Go p.tables e below _ (s₁.setTop (mkF m 1 #[.val (.ref a1), .val (.double x1), .second, .val (.double y1), .second] [(.ref a1)]))
  obtain ⟨T102, X102, e102, st102⟩ := initO X0 hx hZ hown (hw _ (List.mem_of_getElem? (i := 9) rfl)) (hw _ (List.mem_of_getElem? (i := 10) rfl)) (hw _ (List.mem_of_getElem? (i := 11) rfl)) e0 (g := (mkF m 1 #[.val (.ref a1), .val (.double x1), .second, .val (.double y1), .second] [(.ref a1)])) rfl (by rw [hml]; rfl) rfl (hb hby d1_1) (by decide) (W := 0) (by show 2 * 0 + _ ≤ _; exact Nat.le_of_eq rfl) (by decide)
  refine Go.step st102 ?_
  show Go p.tables e below _ (T102.setTop (mkF m 4 #[.val (.ref a1), .val (.double x1), .second, .val (.double y1), .second] []))
  refine Go.step (fun _ kt => XS.dloadN X102.here hx rfl (hb hby d1_4) rfl (XS.dloadN X102.here hx rfl (hb hby d1_5) rfl kt)) ?_
  show Go p.tables e below _ (T102.setTop (mkF m 6 #[.val (.ref a1), .val (.double x1), .second, .val (.double y1), .second] [(.double y1), (.double x1)]))
  obtain ⟨_, _, ⟨T103, L103, k103, n103⟩, -, X103, ⟨Lc103, hQ103, l103, y103, z103⟩, st103⟩ := Jvm.LawKit.callS X102 hx (y := (⟨"com/example/inchworm/inchworm/photos/GeoPosition", "isOnEarth", "(DD)Z"⟩ : MethodName)) hown (mvT hZ (hw _ (List.mem_of_getElem? (i := 12) rfl))) (mvT hZ (hw _ (List.mem_of_getElem? (i := 13) rfl))) (mvT hZ (hw _ (List.mem_of_getElem? (i := 5) rfl))) (mvT hZ (hw _ (List.mem_of_getElem? (i := 14) rfl))) (by decide) (backOf (W := 0) (rm3 l Z a0 hw [] x1 y1  h0 n0 Z0  hu hv) hZ (hw _ (List.mem_of_getElem? (i := 14) rfl)) (hw _ (List.mem_of_getElem? (i := 5) rfl)) (by decide) (by decide)) (g := (mkF m 6 #[.val (.ref a1), .val (.double x1), .second, .val (.double y1), .second] [(.double y1), (.double x1)])) rfl (by rw [hml]; rfl) (argsL := [(.double x1), (.double y1)]) (rest := []) (lenOf pd_1 rfl) rfl (by show 2 * 0 + _ ≤ _; exact Nat.le_of_eq rfl) (hb hby d1_6) (fun _ _ => ⟨rfl, e102, (by decide : 0 + 0 ≤ _), (by decide : 0 + 0 ≤ _)⟩)
  dsimp only [Pt.U, Pt.locs, Pt.cells, Pt.slots] at X103 l103 y103 z103 st103 hQ103
  subst l103 y103 z103
  obtain ⟨rfl, N103q, eh103⟩ := hQ103
  have N103 := Fr.app N0 N103q
  refine Go.step st103 ?_
  show Go p.tables e below _ (T103.setTop (mkF m 9 #[.val (.ref a1), .val (.double x1), .second, .val (.double y1), .second] [(.int (1 : Int32))]))
  refine Go.step (fun _ kt => XS.ifYes X103.here hx rfl (pc0 := 9) (pc' := 27) rfl (hb hby d1_9) rfl ((if0 _ _).trans (feq (by decide : ¬ ((1 : Int32) = (0 : Int32)))).2) (by decide) (by decide) (XS.aloadN X103.here hx rfl (hb hby d1_27) rfl rfl (XS.dloadN X103.here hx rfl (hb hby d1_28) rfl kt))) ?_
  show Go p.tables e below _ (T103.setTop (mkF m 29 #[.val (.ref a1), .val (.double x1), .second, .val (.double y1), .second] [(.double x1), (.ref a1)]))
  obtain ⟨T104, h104, X104, e104, W104, st104⟩ := putF X103 hx hZ hown (host := "") (Or.inl (hw _ (List.mem_of_getElem? (i := 21) rfl))) Via.refl eh103 F1 E1 (Or.inr ⟨(hw _ (List.mem_of_getElem? (i := 22) rfl)), rfl, hnm⟩) (hw _ (List.mem_of_getElem? (i := 4) rfl)) (ty := .double) (by decide) rfl rfl (g := (mkF m 29 #[.val (.ref a1), .val (.double x1), .second, .val (.double y1), .second] [(.double x1), (.ref a1)])) rfl rfl (hb hby d1_29)
  refine Go.step st104 ?_
  have N104 := Fr.snoc X104 N103 g_a1
  have F105 : Exa Z h104 a1 "com/example/inchworm/inchworm/photos/GeoPosition" := (E1.wr W104)
  have F106 : Fld Z h104 a1 "com/example/inchworm/inchworm/photos/GeoPosition" "latitude" "D" (.double x1) := (F1.same W104)
  have F107 : Fld Z h104 a1 "com/example/inchworm/inchworm/photos/GeoPosition" "longitude" "D" w2 := (F2.other W104 (Or.inr (slot_ne (Or.inr (hw _ (List.mem_of_getElem? (i := 24) rfl))) (Or.inr (hw _ (List.mem_of_getElem? (i := 22) rfl))) (by decide) (t := .double) (t' := .double) (by decide) (by decide))))
  have Z108 : n0 ≤ h104.size := (Nat.le_trans Z0 (Nat.le_of_eq W104.size.symm))
  have K109 : Keep h0 h104 [a1] := (K101.wr W104 (Or.inl (List.mem_of_getElem? (i := 0) rfl)))
  show Go p.tables e below _ (T104.setTop (mkF m 32 #[.val (.ref a1), .val (.double x1), .second, .val (.double y1), .second] []))
  refine Go.step (fun _ kt => XS.aloadN X104.here hx rfl (hb hby d1_32) rfl rfl (XS.dloadN X104.here hx rfl (hb hby d1_33) rfl kt)) ?_
  show Go p.tables e below _ (T104.setTop (mkF m 34 #[.val (.ref a1), .val (.double x1), .second, .val (.double y1), .second] [(.double y1), (.ref a1)]))
  obtain ⟨T110, h110, X110, e110, W110, st110⟩ := putF X104 hx hZ hown (host := "") (Or.inl (hw _ (List.mem_of_getElem? (i := 23) rfl))) Via.refl e104 F107 F105 (Or.inr ⟨(hw _ (List.mem_of_getElem? (i := 24) rfl)), rfl, hnm⟩) (hw _ (List.mem_of_getElem? (i := 4) rfl)) (ty := .double) (by decide) rfl rfl (g := (mkF m 34 #[.val (.ref a1), .val (.double x1), .second, .val (.double y1), .second] [(.double y1), (.ref a1)])) rfl rfl (hb hby d1_34)
  refine Go.step st110 ?_
  have N110 := Fr.snoc X110 N104 g_a1
  have F111 : Exa Z h110 a1 "com/example/inchworm/inchworm/photos/GeoPosition" := (F105.wr W110)
  have F112 : Fld Z h110 a1 "com/example/inchworm/inchworm/photos/GeoPosition" "latitude" "D" (.double x1) := (F106.other W110 (Or.inr (slot_ne (Or.inr (hw _ (List.mem_of_getElem? (i := 22) rfl))) (Or.inr (hw _ (List.mem_of_getElem? (i := 24) rfl))) (by decide) (t := .double) (t' := .double) (by decide) (by decide))))
  have F113 : Fld Z h110 a1 "com/example/inchworm/inchworm/photos/GeoPosition" "longitude" "D" (.double y1) := (F107.same W110)
  have Z114 : n0 ≤ h110.size := (Nat.le_trans Z108 (Nat.le_of_eq W110.size.symm))
  have K115 : Keep h0 h110 [a1] := (K109.wr W110 (Or.inl (List.mem_of_getElem? (i := 0) rfl)))
  show Go p.tables e below _ (T110.setTop (mkF m 37 #[.val (.ref a1), .val (.double x1), .second, .val (.double y1), .second] []))
  obtain ⟨fs, hr, hrun, hended, hW, hsame⟩ := X110.leave (v := none) (fun _ => rfl)
  refine ⟨_, _, X110.returnOut hx Bd.returns (hb hby d1_37) hr, hrun, hended, _, _, rfl, ?_, ⟨_, rfl⟩, hW, hsame.mono (by decide) (by decide)⟩
  show Qrm1 Z a1 x1 y1 w1 w2 h0 n0 _ T110.heap _
  rw [e110]
  refine ⟨?_, N110, K115, F111, F112, F113⟩
  rfl
theorem d5_0 : decode prog_50_method_5_code 0 = .ok (.aload_n 0, 1) := by decide +kernel
theorem d5_1 : decode prog_50_method_5_code 1 = .ok (.getfield 22, 3) := by decide +kernel
theorem d5_4 : decode prog_50_method_5_code 4 = .ok (.dconst 0, 1) := by decide +kernel
theorem d5_5 : decode prog_50_method_5_code 5 = .ok (.dcmp .l, 1) := by decide +kernel
theorem d5_6 : decode prog_50_method_5_code 6 = .ok (.ifCond .ne 16, 3) := by decide +kernel
theorem d5_9 : decode prog_50_method_5_code 9 = .ok (.aload_n 0, 1) := by decide +kernel
theorem d5_10 : decode prog_50_method_5_code 10 = .ok (.getfield 26, 3) := by decide +kernel
theorem d5_13 : decode prog_50_method_5_code 13 = .ok (.dconst 0, 1) := by decide +kernel
theorem d5_14 : decode prog_50_method_5_code 14 = .ok (.dcmp .l, 1) := by decide +kernel
theorem d5_15 : decode prog_50_method_5_code 15 = .ok (.ifCond .ne 7, 3) := by decide +kernel
theorem d5_18 : decode prog_50_method_5_code 18 = .ok (.iconst 1, 1) := by decide +kernel
theorem d5_19 : decode prog_50_method_5_code 19 = .ok (.goto 4, 3) := by decide +kernel
theorem d5_22 : decode prog_50_method_5_code 22 = .ok (.iconst 0, 1) := by decide +kernel
theorem d5_23 : decode prog_50_method_5_code 23 = .ok (.ireturn, 1) := by decide +kernel
theorem ef_rm5 (m : MethodId) (a1 : Addr) (x1 : UInt64) (y1 : UInt64) : entryFrame m #[(.ref a1)] 1 = mkF m 0 #[.val (.ref a1)] [] := by first | (simp [entryFrame, mkF, argsToLocals, Value.category]; done) | rfl
def Qrm5 (Z : State) (a1 : Addr) (x1 : UInt64) (y1 : UInt64) (h0 : Heap) (n0 : Nat) (v : Option Value) (h : Heap) (L : List Loc) : Prop := v = some (.int (own_zz x1 y1)) ∧ Fr n0 L ∧ h = h0
set_option maxRecDepth 65536 in
set_option maxHeartbeats 40000000 in
theorem rm5 (l : Launch) (Z : State) (a0 : Array Value) (hw : ∀ d ∈ tables_1, d.before a0 Z = true) (ws : List Jvm.Cond) (a1 : Addr) (x1 : UInt64) (y1 : UInt64) (h0 : Heap) (n0 : Nat) (Z0 : n0 ≤ h0.size) (F1 : Fld Z h0 a1 "com/example/inchworm/inchworm/photos/GeoPosition" "latitude" "D" (.double x1)) (F2 : Fld Z h0 a1 "com/example/inchworm/inchworm/photos/GeoPosition" "longitude" "D" (.double y1)) :
    MetFree l (⟨"com/example/inchworm/inchworm/photos/GeoPosition", "isZero", "()Z"⟩ : MethodName) (head1 (Jvm.Cond.code (⟨"com/example/inchworm/inchworm/photos/GeoPosition", "isZero", "()Z"⟩ : MethodName) prog_50_method_5_code 1 (some .boolean) :: ws) ({ frames := 0, cells := 0, slots := 0, locals := 0 } : Room)) (fun a U => a = #[(.ref a1)] ∧ Z.Warmed39 U.vm ∧ U.heap = h0) (fun _ _ _ _ _ => True) (fun _ U o U' => ∃ v L, o = .returned v ∧ Qrm5 Z a1 x1 y1 h0 n0 v U'.heap L ∧ FrameEnd U o U' L ({ frames := 0, cells := 0, slots := 0, locals := 0 } : Room).cells ({ frames := 0, cells := 0, slots := 0, locals := 0 } : Room).slots) := by
  refine MetFree.of_bodySF (plainFor_of_name pn_0) hisR ?_
  intro p e s m args below meth c s₁ Bd hml0 hP hK
  obtain ⟨rfl, hZ, hh⟩ := hP
  have hx := Bd.exec
  have hby := Bd.bytes
  have hml : c.maxLocals = 1 := hml0
  have hown : s.vm.findClass "com/example/inchworm/inchworm/photos/GeoPosition" = some m.cls := findClass_of_methodNamed Bd.named
  have hnm := (name_of_methodNamed Bd.named Bd.method).1
  have X0 : Stand p l e ({ frames := 0, cells := 0, slots := 0, locals := 0 } : Room) s m #[(.ref a1)] below meth c s₁ [] 0 0 := Stand.of_body Bd
  have e0 : s₁.heap = h0 := by rw [← hh, Bd.state]; rfl
  have N0 := Fr.nil n0
  show Go p.tables e below (fun o U' => ∃ v L, o = .returned v ∧ Qrm5 Z a1 x1 y1 h0 n0 v U'.heap L ∧ FrameEnd s o U' L ({ frames := 0, cells := 0, slots := 0, locals := 0 } : Room).cells ({ frames := 0, cells := 0, slots := 0, locals := 0 } : Room).slots) _
  refine Go.step (fun t kt => castTop (ef_rm5 m a1 x1 y1) kt) ?_
  show Go p.tables e below _ (s₁.setTop (mkF m 0 #[.val (.ref a1)] []))
  refine Go.step (fun _ kt => XS.aloadN X0.here hx rfl (hb hby d5_0) rfl rfl kt) ?_
  show Go p.tables e below _ (s₁.setTop (mkF m 1 #[.val (.ref a1)] [(.ref a1)]))
  obtain ⟨T101, X101, e101, st101⟩ := getF X0 hx hZ hown (host := "") (Or.inl (hw _ (List.mem_of_getElem? (i := 21) rfl))) Via.refl e0 F1 (g := (mkF m 1 #[.val (.ref a1)] [(.ref a1)])) rfl rfl (hb hby d5_1)
  refine Go.step st101 ?_
  show Go p.tables e below _ (T101.setTop (mkF m 4 #[.val (.ref a1)] [(.double x1)]))
  refine Go.step (fun _ kt => XS.dconst0 X101.here hx rfl (v := 0) (hb hby d5_4) rfl (XS.dcmpS X101.here hx rfl (hb hby d5_5) rfl rfl kt)) ?_
  show Go p.tables e below _ (T101.setTop (mkF m 6 #[.val (.ref a1)] [(.int (cmpValue (FP.dcmp x1 (0 : UInt64)) .l))]))
  by_cases hc6_102 : (cmpValue (FP.dcmp x1 (0 : UInt64)) .l) = (0 : Int32)
  · refine Go.step (fun _ kt => XS.ifNo X101.here hx rfl (hb hby d5_6) rfl ((if0 _ _).trans (teq hc6_102).2) (XS.aloadN X101.here hx rfl (hb hby d5_9) rfl rfl kt)) ?_
    show Go p.tables e below _ (T101.setTop (mkF m 10 #[.val (.ref a1)] [(.ref a1)]))
    obtain ⟨T103, X103, e103, st103⟩ := getF X101 hx hZ hown (host := "") (Or.inl (hw _ (List.mem_of_getElem? (i := 23) rfl))) Via.refl e101 F2 (g := (mkF m 10 #[.val (.ref a1)] [(.ref a1)])) rfl rfl (hb hby d5_10)
    refine Go.step st103 ?_
    show Go p.tables e below _ (T103.setTop (mkF m 13 #[.val (.ref a1)] [(.double y1)]))
    refine Go.step (fun _ kt => XS.dconst0 X103.here hx rfl (v := 0) (hb hby d5_13) rfl (XS.dcmpS X103.here hx rfl (hb hby d5_14) rfl rfl kt)) ?_
    show Go p.tables e below _ (T103.setTop (mkF m 15 #[.val (.ref a1)] [(.int (cmpValue (FP.dcmp y1 (0 : UInt64)) .l))]))
    by_cases hc15_104 : (cmpValue (FP.dcmp y1 (0 : UInt64)) .l) = (0 : Int32)
    · refine Go.step (fun _ kt => XS.ifNo X103.here hx rfl (hb hby d5_15) rfl ((if0 _ _).trans (teq hc15_104).2) (XS.iconst X103.here hx rfl (hb hby d5_18) (XS.goto X103.here hx rfl (pc0 := 19) (pc' := 23) rfl (hb hby d5_19) (by decide) (by decide) kt))) ?_
      show Go p.tables e below _ (T103.setTop (mkF m 23 #[.val (.ref a1)] [(.int (1 : Int32))]))
      obtain ⟨fs, hr, hrun, hended, hW, hsame⟩ := X103.leave (v := some (.int (1 : Int32))) (fun h => by rw [Bd.returns] at h; cases h)
      refine ⟨_, _, retN X103 hx (t := .boolean) Bd.returns (by simp) (hb hby d5_23) hr, hrun, hended, _, _, rfl, ?_, ⟨_, rfl⟩, hW, hsame.mono (by decide) (by decide)⟩
      show Qrm5 Z a1 x1 y1 h0 n0 _ T103.heap _
      rw [e103]
      refine ⟨?_, N0, rfl⟩
      have q : own_zz x1 y1 = (1 : Int32) := by simp only [own_zz]; simp [hc6_102, hc15_104]
      rw [q]
    · refine Go.step (fun _ kt => XS.ifYes X103.here hx rfl (pc0 := 15) (pc' := 22) rfl (hb hby d5_15) rfl ((if0 _ _).trans (feq hc15_104).2) (by decide) (by decide) (XS.iconst X103.here hx rfl (hb hby d5_22) kt)) ?_
      show Go p.tables e below _ (T103.setTop (mkF m 23 #[.val (.ref a1)] [(.int (0 : Int32))]))
      obtain ⟨fs, hr, hrun, hended, hW, hsame⟩ := X103.leave (v := some (.int (0 : Int32))) (fun h => by rw [Bd.returns] at h; cases h)
      refine ⟨_, _, retN X103 hx (t := .boolean) Bd.returns (by simp) (hb hby d5_23) hr, hrun, hended, _, _, rfl, ?_, ⟨_, rfl⟩, hW, hsame.mono (by decide) (by decide)⟩
      show Qrm5 Z a1 x1 y1 h0 n0 _ T103.heap _
      rw [e103]
      refine ⟨?_, N0, rfl⟩
      have q : own_zz x1 y1 = (0 : Int32) := by simp only [own_zz]; simp [hc6_102, hc15_104]
      rw [q]
  · refine Go.step (fun _ kt => XS.ifYes X101.here hx rfl (pc0 := 6) (pc' := 22) rfl (hb hby d5_6) rfl ((if0 _ _).trans (feq hc6_102).2) (by decide) (by decide) (XS.iconst X101.here hx rfl (hb hby d5_22) kt)) ?_
    show Go p.tables e below _ (T101.setTop (mkF m 23 #[.val (.ref a1)] [(.int (0 : Int32))]))
    obtain ⟨fs, hr, hrun, hended, hW, hsame⟩ := X101.leave (v := some (.int (0 : Int32))) (fun h => by rw [Bd.returns] at h; cases h)
    refine ⟨_, _, retN X101 hx (t := .boolean) Bd.returns (by simp) (hb hby d5_23) hr, hrun, hended, _, _, rfl, ?_, ⟨_, rfl⟩, hW, hsame.mono (by decide) (by decide)⟩
    show Qrm5 Z a1 x1 y1 h0 n0 _ T101.heap _
    rw [e101]
    refine ⟨?_, N0, rfl⟩
    have q : own_zz x1 y1 = (0 : Int32) := by simp only [own_zz]; simp [hc6_102]
    rw [q]
theorem pd_2 : parseMethodDescriptor "(DD)V" = some ⟨[.double, .double], none⟩ := by decide +kernel
theorem pd_3 : parseMethodDescriptor "()Z" = some ⟨[], some .boolean⟩ := by decide +kernel
theorem pn_1 : plainName "com/example/inchworm/inchworm/photos/GeoPositionIsZeroPinLaw" = true := by first | (simp [plainName, overriddenIn]; done) | decide +kernel
theorem ef_rm0 (m : MethodId) (p1 : Int32) (p2 : Int32) (p3 : Int32) : entryFrame m #[(.int p1), (.int p2), (.int p3)] maxLocals = mkF m 0 #[.val (.int p1), .val (.int p2), .val (.int p3), .unset, .unset, .unset, .unset, .unset, .unset, .unset, .unset] [] := by first | (simp [entryFrame, mkF, argsToLocals, Value.category, maxLocals]; done) | rfl
def Qrm0 (Z : State) (p1 : Int32) (p2 : Int32) (p3 : Int32) (h0 : Heap) (n0 : Nat) (v : Option Value) (h : Heap) (L : List Loc) : Prop := v = some (.int 1) ∧ Fr n0 L
set_option maxRecDepth 65536 in
set_option maxHeartbeats 40000000 in
theorem rm0 (l : Launch) (Z : State) (a0 : Array Value) (hw : ∀ d ∈ tables_1, d.before a0 Z = true) (ws : List Jvm.Cond) (p1 : Int32) (p2 : Int32) (p3 : Int32) (h0 : Heap) (n0 : Nat) (Z0 : n0 ≤ h0.size) :
    MetFree l x (head1 (Jvm.Cond.code x code maxLocals ret :: ws) room_1) (fun a U => a = #[(.int p1), (.int p2), (.int p3)] ∧ Z.Warmed39 U.vm ∧ U.heap = h0) (fun _ _ _ _ _ => True) (fun _ U o U' => ∃ v L, o = .returned v ∧ Qrm0 Z p1 p2 p3 h0 n0 v U'.heap L ∧ FrameEnd U o U' L room_1.cells room_1.slots) := by
  refine MetFree.of_bodySF (plainFor_of_name pn_1) hisR ?_
  intro p e s m args below meth c s₁ Bd hml0 hP hK
  obtain ⟨rfl, hZ, hh⟩ := hP
  have hx := Bd.exec
  have hby := Bd.bytes
  have hml : c.maxLocals = 11 := hml0
  have hown : s.vm.findClass "com/example/inchworm/inchworm/photos/GeoPositionIsZeroPinLaw" = some m.cls := findClass_of_methodNamed Bd.named
  have hnm := (name_of_methodNamed Bd.named Bd.method).1
  have X0 : Stand p l e room_1 s m #[(.int p1), (.int p2), (.int p3)] below meth c s₁ [] 0 0 := Stand.of_body Bd
  have e0 : s₁.heap = h0 := by rw [← hh, Bd.state]; rfl
  have N0 := Fr.nil n0
  show Go p.tables e below (fun o U' => ∃ v L, o = .returned v ∧ Qrm0 Z p1 p2 p3 h0 n0 v U'.heap L ∧ FrameEnd s o U' L room_1.cells room_1.slots) _
  refine Go.step (fun t kt => castTop (ef_rm0 m p1 p2 p3) kt) ?_
  show Go p.tables e below _ (s₁.setTop (mkF m 0 #[.val (.int p1), .val (.int p2), .val (.int p3), .unset, .unset, .unset, .unset, .unset, .unset, .unset, .unset] []))
  refine Go.step (fun _ kt => XS.iloadN X0.here hx rfl (hb hby at_0) rfl kt) ?_
  show Go p.tables e below _ (s₁.setTop (mkF m 1 #[.val (.int p1), .val (.int p2), .val (.int p3), .unset, .unset, .unset, .unset, .unset, .unset, .unset, .unset] [(.int p1)]))
  refine Go.step (X0.ldcInt hx hown (mvT hZ (hw _ (List.mem_of_getElem? (i := 0) rfl))) (g := (mkF m 1 #[.val (.int p1), .val (.int p2), .val (.int p3), .unset, .unset, .unset, .unset, .unset, .unset, .unset, .unset] [(.int p1)])) rfl (hb hby at_1)) ?_
  show Go p.tables e below _ (s₁.setTop (mkF m 3 #[.val (.int p1), .val (.int p2), .val (.int p3), .unset, .unset, .unset, .unset, .unset, .unset, .unset, .unset] [(.int (94371841 : Int32)), (.int p1)]))
  refine Go.step (fun _ kt => iremM (g := (mkF m 3 #[.val (.int p1), .val (.int p2), .val (.int p3), .unset, .unset, .unset, .unset, .unset, .unset, .unset, .unset] [(.int (94371841 : Int32)), (.int p1)])) X0 hx rfl (hb hby at_3) rfl (by decide) kt) ?_
  show Go p.tables e below _ (s₁.setTop (mkF m 4 #[.val (.int p1), .val (.int p2), .val (.int p3), .unset, .unset, .unset, .unset, .unset, .unset, .unset, .unset] [(.int (p1 % (94371841 : Int32)))]))
  refine Go.step (fun _ kt => XS.istoreN X0.here hx rfl (hb hby at_4) rfl (l' := #[.val (.int p1), .val (.int p2), .val (.int p3), .val (.int (p1 % (94371841 : Int32))), .unset, .unset, .unset, .unset, .unset, .unset, .unset]) rfl (XS.iloadN X0.here hx rfl (hb hby at_5) rfl kt)) ?_
  show Go p.tables e below _ (s₁.setTop (mkF m 6 #[.val (.int p1), .val (.int p2), .val (.int p3), .val (.int (p1 % (94371841 : Int32))), .unset, .unset, .unset, .unset, .unset, .unset, .unset] [(.int p2)]))
  refine Go.step (X0.ldcInt hx hown (mvT hZ (hw _ (List.mem_of_getElem? (i := 1) rfl))) (g := (mkF m 6 #[.val (.int p1), .val (.int p2), .val (.int p3), .val (.int (p1 % (94371841 : Int32))), .unset, .unset, .unset, .unset, .unset, .unset, .unset] [(.int p2)])) rfl (hb hby at_6)) ?_
  show Go p.tables e below _ (s₁.setTop (mkF m 8 #[.val (.int p1), .val (.int p2), .val (.int p3), .val (.int (p1 % (94371841 : Int32))), .unset, .unset, .unset, .unset, .unset, .unset, .unset] [(.int (188743681 : Int32)), (.int p2)]))
  refine Go.step (fun _ kt => iremM (g := (mkF m 8 #[.val (.int p1), .val (.int p2), .val (.int p3), .val (.int (p1 % (94371841 : Int32))), .unset, .unset, .unset, .unset, .unset, .unset, .unset] [(.int (188743681 : Int32)), (.int p2)])) X0 hx rfl (hb hby at_8) rfl (by decide) kt) ?_
  show Go p.tables e below _ (s₁.setTop (mkF m 9 #[.val (.int p1), .val (.int p2), .val (.int p3), .val (.int (p1 % (94371841 : Int32))), .unset, .unset, .unset, .unset, .unset, .unset, .unset] [(.int (p2 % (188743681 : Int32)))]))
  refine Go.step (fun _ kt => XS.istore X0.here hx rfl (hb hby at_9) rfl (l' := #[.val (.int p1), .val (.int p2), .val (.int p3), .val (.int (p1 % (94371841 : Int32))), .val (.int (p2 % (188743681 : Int32))), .unset, .unset, .unset, .unset, .unset, .unset]) rfl kt) ?_
  show Go p.tables e below _ (s₁.setTop (mkF m 11 #[.val (.int p1), .val (.int p2), .val (.int p3), .val (.int (p1 % (94371841 : Int32))), .val (.int (p2 % (188743681 : Int32))), .unset, .unset, .unset, .unset, .unset, .unset] []))
  have J28 : ∀ (n1 : Int32) (n2 : Int32) (hn1 : n1.toInt.natAbs ≤ 90 * 1048576) (hn2 : n2.toInt.natAbs ≤ 180 * 1048576), Go p.tables e below (fun o U' => ∃ v L, o = .returned v ∧ Qrm0 Z p1 p2 p3 h0 n0 v U'.heap L ∧ FrameEnd s o U' L room_1.cells room_1.slots) (s₁.setTop (mkF m 28 #[.val (.int p1), .val (.int p2), .val (.int p3), .val (.int n1), .val (.int n2), .unset, .unset, .unset, .unset, .unset, .unset] [])) := by
    intro n1 n2 hn1 hn2
    show Go p.tables e below _ (s₁.setTop (mkF m 28 #[.val (.int p1), .val (.int p2), .val (.int p3), .val (.int n1), .val (.int n2), .unset, .unset, .unset, .unset, .unset, .unset] []))
    refine Go.step (fun _ kt => XS.iloadN X0.here hx rfl (hb hby at_28) rfl (XS.i2dS X0.here hx rfl (hb hby at_29) rfl rfl kt)) ?_
    show Go p.tables e below _ (s₁.setTop (mkF m 30 #[.val (.int p1), .val (.int p2), .val (.int p3), .val (.int n1), .val (.int n2), .unset, .unset, .unset, .unset, .unset, .unset] [(.double (FP.i2d n1))]))
    refine Go.step (X0.ldc2DoubleC hx hown (mvT hZ (hw _ (List.mem_of_getElem? (i := 2) rfl))) (g := (mkF m 30 #[.val (.int p1), .val (.int p2), .val (.int p3), .val (.int n1), .val (.int n2), .unset, .unset, .unset, .unset, .unset, .unset] [(.double (FP.i2d n1))])) rfl (hb hby at_30)) ?_
    show Go p.tables e below _ (s₁.setTop (mkF m 33 #[.val (.int p1), .val (.int p2), .val (.int p3), .val (.int n1), .val (.int n2), .unset, .unset, .unset, .unset, .unset, .unset] [(.double (4697254411347427328 : UInt64)), (.double (FP.i2d n1))]))
    refine Go.step (fun _ kt => XS.ddivS X0.here hx rfl (hb hby at_33) rfl (own_dn (K := 90) (by decide) hn1) rfl (XS.dstore X0.here hx rfl (hb hby at_34) rfl (l' := #[.val (.int p1), .val (.int p2), .val (.int p3), .val (.int n1), .val (.int n2), .val (.double (FP.ddiv (FP.i2d n1) (4697254411347427328 : UInt64))), .second, .unset, .unset, .unset, .unset]) rfl (XS.iload X0.here hx rfl (hb hby at_36) rfl (XS.i2dS X0.here hx rfl (hb hby at_38) rfl rfl kt)))) ?_
    show Go p.tables e below _ (s₁.setTop (mkF m 39 #[.val (.int p1), .val (.int p2), .val (.int p3), .val (.int n1), .val (.int n2), .val (.double (FP.ddiv (FP.i2d n1) (4697254411347427328 : UInt64))), .second, .unset, .unset, .unset, .unset] [(.double (FP.i2d n2))]))
    refine Go.step (X0.ldc2DoubleC hx hown (mvT hZ (hw _ (List.mem_of_getElem? (i := 2) rfl))) (g := (mkF m 39 #[.val (.int p1), .val (.int p2), .val (.int p3), .val (.int n1), .val (.int n2), .val (.double (FP.ddiv (FP.i2d n1) (4697254411347427328 : UInt64))), .second, .unset, .unset, .unset, .unset] [(.double (FP.i2d n2))])) rfl (hb hby at_39)) ?_
    show Go p.tables e below _ (s₁.setTop (mkF m 42 #[.val (.int p1), .val (.int p2), .val (.int p3), .val (.int n1), .val (.int n2), .val (.double (FP.ddiv (FP.i2d n1) (4697254411347427328 : UInt64))), .second, .unset, .unset, .unset, .unset] [(.double (4697254411347427328 : UInt64)), (.double (FP.i2d n2))]))
    refine Go.step (fun _ kt => XS.ddivS X0.here hx rfl (hb hby at_42) rfl (own_dn (K := 180) (by decide) hn2) rfl (XS.dstore X0.here hx rfl (hb hby at_43) rfl (l' := #[.val (.int p1), .val (.int p2), .val (.int p3), .val (.int n1), .val (.int n2), .val (.double (FP.ddiv (FP.i2d n1) (4697254411347427328 : UInt64))), .second, .val (.double (FP.ddiv (FP.i2d n2) (4697254411347427328 : UInt64))), .second, .unset, .unset]) rfl kt)) ?_
    show Go p.tables e below _ (s₁.setTop (mkF m 45 #[.val (.int p1), .val (.int p2), .val (.int p3), .val (.int n1), .val (.int n2), .val (.double (FP.ddiv (FP.i2d n1) (4697254411347427328 : UInt64))), .second, .val (.double (FP.ddiv (FP.i2d n2) (4697254411347427328 : UInt64))), .second, .unset, .unset] []))
    have J68 : ∀ (x1 : UInt64) (y1 : UInt64) (hu : x1.toNat % 9223372036854775808 ≤ (4636033603912859648 : UInt64).toNat ∧ (x1.toNat % 9223372036854775808 = 0 ↔ n1 = 0)) (hv : y1.toNat % 9223372036854775808 ≤ (4640537203540230144 : UInt64).toNat ∧ (y1.toNat % 9223372036854775808 = 0 ↔ n2 = 0)), Go p.tables e below (fun o U' => ∃ v L, o = .returned v ∧ Qrm0 Z p1 p2 p3 h0 n0 v U'.heap L ∧ FrameEnd s o U' L room_1.cells room_1.slots) (s₁.setTop (mkF m 68 #[.val (.int p1), .val (.int p2), .val (.int p3), .val (.int n1), .val (.int n2), .val (.double x1), .second, .val (.double y1), .second, .unset, .unset] [])) := by
      intro x1 y1 hu hv
      show Go p.tables e below _ (s₁.setTop (mkF m 68 #[.val (.int p1), .val (.int p2), .val (.int p3), .val (.int n1), .val (.int n2), .val (.double x1), .second, .val (.double y1), .second, .unset, .unset] []))
      obtain ⟨T101, h101, X101, e101, E101, A101, D101, -, st101⟩ := newO X0 hx hZ hown (hw _ (List.mem_of_getElem? (i := 3) rfl)) (hw _ (List.mem_of_getElem? (i := 4) rfl)) (hw _ (List.mem_of_getElem? (i := 5) rfl)) e0 (g := (mkF m 68 #[.val (.int p1), .val (.int p2), .val (.int p3), .val (.int n1), .val (.int n2), .val (.double x1), .second, .val (.double y1), .second, .unset, .unset] [])) rfl (hb hby at_68) (by decide) (by decide)
      obtain ⟨b101, g101⟩ : ∃ z, z = h0.size := ⟨_, rfl⟩
      rw [← g101] at A101 D101 st101
      refine Go.step st101 ?_
      have g_b101 : n0 ≤ b101 := Nat.le_trans Z0 (Nat.le_of_eq g101.symm)
      have Z102 : n0 ≤ h101.size := (Nat.le_trans Z0 E101.1)
      have F103 : Fld Z h101 b101 "com/example/inchworm/inchworm/photos/GeoPosition" "latitude" "D" (.double (0 : UInt64)) := D101 (Or.inr (hw _ (List.mem_of_getElem? (i := 22) rfl))) (ty := .double) (by decide)
      have F104 : Fld Z h101 b101 "com/example/inchworm/inchworm/photos/GeoPosition" "longitude" "D" (.double (0 : UInt64)) := D101 (Or.inr (hw _ (List.mem_of_getElem? (i := 24) rfl))) (ty := .double) (by decide)
      show Go p.tables e below _ (T101.setTop (mkF m 71 #[.val (.int p1), .val (.int p2), .val (.int p3), .val (.int n1), .val (.int n2), .val (.double x1), .second, .val (.double y1), .second, .unset, .unset] [(.ref b101)]))
      refine Go.step (fun _ kt => XS.dup X101.here hx rfl (hb hby at_71) rfl rfl (XS.dload X101.here hx rfl (hb hby at_72) rfl (XS.dload X101.here hx rfl (hb hby at_74) rfl kt))) ?_
      show Go p.tables e below _ (T101.setTop (mkF m 76 #[.val (.int p1), .val (.int p2), .val (.int p3), .val (.int n1), .val (.int n2), .val (.double x1), .second, .val (.double y1), .second, .unset, .unset] [(.double y1), (.double x1), (.ref b101), (.ref b101)]))
      obtain ⟨_, _, ⟨T105, L105, k105, n105⟩, -, X105, ⟨Lc105, hQ105, l105, y105, z105⟩, st105⟩ := X101.specialBack hx (y := (⟨"com/example/inchworm/inchworm/photos/GeoPosition", "<init>", "(DD)V"⟩ : MethodName)) rfl hown (mvT hZ (hw _ (List.mem_of_getElem? (i := 6) rfl))) (mvT hZ (hw _ (List.mem_of_getElem? (i := 7) rfl))) (mvT hZ (hw _ (List.mem_of_getElem? (i := 8) rfl))) (by decide) (backOf (W := 1) (rm1 l Z a0 hw [] b101 x1 y1 (.double (0 : UInt64)) (.double (0 : UInt64)) h101 n0 Z102 A101 F103 F104 g_b101 hu.1 hv.1) hZ (hw _ (List.mem_of_getElem? (i := 8) rfl)) (hw _ (List.mem_of_getElem? (i := 5) rfl)) (by decide) (by decide)) (g := (mkF m 76 #[.val (.int p1), .val (.int p2), .val (.int p3), .val (.int n1), .val (.int n2), .val (.double x1), .second, .val (.double y1), .second, .unset, .unset] [(.double y1), (.double x1), (.ref b101), (.ref b101)])) rfl (by rw [hml]; rfl) (Steps.refl _) (a := b101) (argsL := [(.double x1), (.double y1)]) (rest := [(.ref b101)]) (lenOf pd_2 rfl) rfl (by show 2 * 0 + _ ≤ _; exact Nat.le_of_eq rfl) (hb hby at_76) (fun _ _ => ⟨rfl, e101, (by decide : 1 + 0 ≤ _), (by decide : 2 + 0 ≤ _)⟩)
      dsimp only [Pt.U, Pt.locs, Pt.cells, Pt.slots] at X105 l105 y105 z105 st105 hQ105
      subst l105 y105 z105
      obtain ⟨rfl, N105q, Kq105, P106, P107, P108⟩ := hQ105
      have F109 : Exa Z T105.heap b101 "com/example/inchworm/inchworm/photos/GeoPosition" := (A101.keep Kq105)
      have Z110 : n0 ≤ T105.heap.size := (Nat.le_trans Z102 Kq105.1)
      have N105 := Fr.app N0 N105q
      refine Go.step (fun _ kt => st105.trans kt) ?_
      show Go p.tables e below _ (T105.setTop (mkF m 79 #[.val (.int p1), .val (.int p2), .val (.int p3), .val (.int n1), .val (.int n2), .val (.double x1), .second, .val (.double y1), .second, .unset, .unset] [(.ref b101)]))
      refine Go.step (fun _ kt => XS.astore X105.here hx rfl (hb hby at_79) rfl rfl (l' := #[.val (.int p1), .val (.int p2), .val (.int p3), .val (.int n1), .val (.int n2), .val (.double x1), .second, .val (.double y1), .second, .val (.ref b101), .unset]) rfl (XS.iloadN X105.here hx rfl (hb hby at_81) rfl kt)) ?_
      show Go p.tables e below _ (T105.setTop (mkF m 82 #[.val (.int p1), .val (.int p2), .val (.int p3), .val (.int n1), .val (.int n2), .val (.double x1), .second, .val (.double y1), .second, .val (.ref b101), .unset] [(.int n1)]))
      by_cases hc82_111 : n1 = (0 : Int32)
      · refine Go.step (fun _ kt => XS.ifNo X105.here hx rfl (hb hby at_82) rfl ((if0 _ _).trans (teq hc82_111).2) (XS.iload X105.here hx rfl (hb hby at_85) rfl kt)) ?_
        show Go p.tables e below _ (T105.setTop (mkF m 87 #[.val (.int p1), .val (.int p2), .val (.int p3), .val (.int n1), .val (.int n2), .val (.double x1), .second, .val (.double y1), .second, .val (.ref b101), .unset] [(.int n2)]))
        by_cases hc87_112 : n2 = (0 : Int32)
        · refine Go.step (fun _ kt => XS.ifNo X105.here hx rfl (hb hby at_87) rfl ((if0 _ _).trans (teq hc87_112).2) (XS.iconst X105.here hx rfl (hb hby at_90) (XS.goto X105.here hx rfl (pc0 := 91) (pc' := 95) rfl (hb hby at_91) (by decide) (by decide) (XS.istore X105.here hx rfl (hb hby at_95) rfl (l' := #[.val (.int p1), .val (.int p2), .val (.int p3), .val (.int n1), .val (.int n2), .val (.double x1), .second, .val (.double y1), .second, .val (.ref b101), .val (.int (1 : Int32))]) rfl (XS.aload X105.here hx rfl (hb hby at_97) rfl rfl kt))))) ?_
          show Go p.tables e below _ (T105.setTop (mkF m 99 #[.val (.int p1), .val (.int p2), .val (.int p3), .val (.int n1), .val (.int n2), .val (.double x1), .second, .val (.double y1), .second, .val (.ref b101), .val (.int (1 : Int32))] [(.ref b101)]))
          obtain ⟨cq113, kq113, q113a, q113b, q113c⟩ := isOf hZ rfl P106
          obtain ⟨_, _, ⟨T113, L113, k113, n113⟩, -, X113, ⟨Lc113, hQ113, l113, y113, z113⟩, st113⟩ := X105.virtualBack hx (y := (⟨"com/example/inchworm/inchworm/photos/GeoPosition", "isZero", "()Z"⟩ : MethodName)) (z := (⟨"com/example/inchworm/inchworm/photos/GeoPosition", "isZero", "()Z"⟩ : MethodName)) hown (mvT hZ (hw _ (List.mem_of_getElem? (i := 25) rfl))) (mvT hZ (hw _ (List.mem_of_getElem? (i := 26) rfl))) (notFace_of_selects (args := #[]) (mvT hZ (hw _ (List.mem_of_getElem? (i := 28) rfl)))) (mvT hZ (hw _ (List.mem_of_getElem? (i := 28) rfl))) (mvT hZ (hw _ (List.mem_of_getElem? (i := 27) rfl))) (by decide) (backOf (W := 0) (rm5 l Z a0 hw [] b101 x1 y1 T105.heap n0 Z110 P107 P108 ) hZ (hw _ (List.mem_of_getElem? (i := 29) rfl)) (hw _ (List.mem_of_getElem? (i := 5) rfl)) (by decide) (by decide)) q113a q113c (g := (mkF m 99 #[.val (.int p1), .val (.int p2), .val (.int p3), .val (.int n1), .val (.int n2), .val (.double x1), .second, .val (.double y1), .second, .val (.ref b101), .val (.int (1 : Int32))] [(.ref b101)])) rfl (by rw [hml]; rfl) (Steps.refl _) (argsL := []) (rest := []) (lenOf pd_3 rfl) rfl (by show 2 * 0 + _ ≤ _; exact Nat.le_of_eq rfl) (hb hby at_99) (fun _ _ => ⟨rfl, rfl, (by decide : 1 + 0 ≤ _), (by decide : 2 + 0 ≤ _)⟩)
          dsimp only [Pt.U, Pt.locs, Pt.cells, Pt.slots] at X113 l113 y113 z113 st113 hQ113
          subst l113 y113 z113
          obtain ⟨rfl, N113q, eh113⟩ := hQ113
          have N113 := Fr.app N105 N113q
          refine Go.step (fun _ kt => st113.trans kt) ?_
          show Go p.tables e below _ (T113.setTop (mkF m 102 #[.val (.int p1), .val (.int p2), .val (.int p3), .val (.int n1), .val (.int n2), .val (.double x1), .second, .val (.double y1), .second, .val (.ref b101), .val (.int (1 : Int32))] [(.int (own_zz x1 y1))]))
          refine Go.step (fun _ kt => XS.iload X113.here hx rfl (hb hby at_102) rfl (XS.icmpNo X113.here hx rfl (hb hby at_104) rfl (teq (by rw [own_zz_eq hu hv]; simp [hc82_111, hc87_112])).2 (XS.iconst X113.here hx rfl (hb hby at_107) (XS.goto X113.here hx rfl (pc0 := 108) (pc' := 112) rfl (hb hby at_108) (by decide) (by decide) kt)))) ?_
          show Go p.tables e below _ (T113.setTop (mkF m 112 #[.val (.int p1), .val (.int p2), .val (.int p3), .val (.int n1), .val (.int n2), .val (.double x1), .second, .val (.double y1), .second, .val (.ref b101), .val (.int (1 : Int32))] [(.int (1 : Int32))]))
          obtain ⟨fs, hr, hrun, hended, hW, hsame⟩ := X113.leave (v := some (.int (1 : Int32))) (fun h => by rw [Bd.returns] at h; cases h)
          refine ⟨_, _, retN X113 hx (t := .boolean) Bd.returns (by simp) (hb hby at_112) hr, hrun, hended, _, _, rfl, ?_, ⟨_, rfl⟩, hW, hsame.mono (by decide) (by decide)⟩
          show Qrm0 Z p1 p2 p3 h0 n0 _ T113.heap _
          rw [eh113]
          exact ⟨rfl, N113⟩
        · refine Go.step (fun _ kt => XS.ifYes X105.here hx rfl (pc0 := 87) (pc' := 94) rfl (hb hby at_87) rfl ((if0 _ _).trans (feq hc87_112).2) (by decide) (by decide) (XS.iconst X105.here hx rfl (hb hby at_94) (XS.istore X105.here hx rfl (hb hby at_95) rfl (l' := #[.val (.int p1), .val (.int p2), .val (.int p3), .val (.int n1), .val (.int n2), .val (.double x1), .second, .val (.double y1), .second, .val (.ref b101), .val (.int (0 : Int32))]) rfl (XS.aload X105.here hx rfl (hb hby at_97) rfl rfl kt)))) ?_
          show Go p.tables e below _ (T105.setTop (mkF m 99 #[.val (.int p1), .val (.int p2), .val (.int p3), .val (.int n1), .val (.int n2), .val (.double x1), .second, .val (.double y1), .second, .val (.ref b101), .val (.int (0 : Int32))] [(.ref b101)]))
          obtain ⟨cq114, kq114, q114a, q114b, q114c⟩ := isOf hZ rfl P106
          obtain ⟨_, _, ⟨T114, L114, k114, n114⟩, -, X114, ⟨Lc114, hQ114, l114, y114, z114⟩, st114⟩ := X105.virtualBack hx (y := (⟨"com/example/inchworm/inchworm/photos/GeoPosition", "isZero", "()Z"⟩ : MethodName)) (z := (⟨"com/example/inchworm/inchworm/photos/GeoPosition", "isZero", "()Z"⟩ : MethodName)) hown (mvT hZ (hw _ (List.mem_of_getElem? (i := 25) rfl))) (mvT hZ (hw _ (List.mem_of_getElem? (i := 26) rfl))) (notFace_of_selects (args := #[]) (mvT hZ (hw _ (List.mem_of_getElem? (i := 28) rfl)))) (mvT hZ (hw _ (List.mem_of_getElem? (i := 28) rfl))) (mvT hZ (hw _ (List.mem_of_getElem? (i := 27) rfl))) (by decide) (backOf (W := 0) (rm5 l Z a0 hw [] b101 x1 y1 T105.heap n0 Z110 P107 P108 ) hZ (hw _ (List.mem_of_getElem? (i := 29) rfl)) (hw _ (List.mem_of_getElem? (i := 5) rfl)) (by decide) (by decide)) q114a q114c (g := (mkF m 99 #[.val (.int p1), .val (.int p2), .val (.int p3), .val (.int n1), .val (.int n2), .val (.double x1), .second, .val (.double y1), .second, .val (.ref b101), .val (.int (0 : Int32))] [(.ref b101)])) rfl (by rw [hml]; rfl) (Steps.refl _) (argsL := []) (rest := []) (lenOf pd_3 rfl) rfl (by show 2 * 0 + _ ≤ _; exact Nat.le_of_eq rfl) (hb hby at_99) (fun _ _ => ⟨rfl, rfl, (by decide : 1 + 0 ≤ _), (by decide : 2 + 0 ≤ _)⟩)
          dsimp only [Pt.U, Pt.locs, Pt.cells, Pt.slots] at X114 l114 y114 z114 st114 hQ114
          subst l114 y114 z114
          obtain ⟨rfl, N114q, eh114⟩ := hQ114
          have N114 := Fr.app N105 N114q
          refine Go.step (fun _ kt => st114.trans kt) ?_
          show Go p.tables e below _ (T114.setTop (mkF m 102 #[.val (.int p1), .val (.int p2), .val (.int p3), .val (.int n1), .val (.int n2), .val (.double x1), .second, .val (.double y1), .second, .val (.ref b101), .val (.int (0 : Int32))] [(.int (own_zz x1 y1))]))
          refine Go.step (fun _ kt => XS.iload X114.here hx rfl (hb hby at_102) rfl (XS.icmpNo X114.here hx rfl (hb hby at_104) rfl (teq (by rw [own_zz_eq hu hv]; simp [hc82_111, hc87_112])).2 (XS.iconst X114.here hx rfl (hb hby at_107) (XS.goto X114.here hx rfl (pc0 := 108) (pc' := 112) rfl (hb hby at_108) (by decide) (by decide) kt)))) ?_
          show Go p.tables e below _ (T114.setTop (mkF m 112 #[.val (.int p1), .val (.int p2), .val (.int p3), .val (.int n1), .val (.int n2), .val (.double x1), .second, .val (.double y1), .second, .val (.ref b101), .val (.int (0 : Int32))] [(.int (1 : Int32))]))
          obtain ⟨fs, hr, hrun, hended, hW, hsame⟩ := X114.leave (v := some (.int (1 : Int32))) (fun h => by rw [Bd.returns] at h; cases h)
          refine ⟨_, _, retN X114 hx (t := .boolean) Bd.returns (by simp) (hb hby at_112) hr, hrun, hended, _, _, rfl, ?_, ⟨_, rfl⟩, hW, hsame.mono (by decide) (by decide)⟩
          show Qrm0 Z p1 p2 p3 h0 n0 _ T114.heap _
          rw [eh114]
          exact ⟨rfl, N114⟩
      · refine Go.step (fun _ kt => XS.ifYes X105.here hx rfl (pc0 := 82) (pc' := 94) rfl (hb hby at_82) rfl ((if0 _ _).trans (feq hc82_111).2) (by decide) (by decide) (XS.iconst X105.here hx rfl (hb hby at_94) (XS.istore X105.here hx rfl (hb hby at_95) rfl (l' := #[.val (.int p1), .val (.int p2), .val (.int p3), .val (.int n1), .val (.int n2), .val (.double x1), .second, .val (.double y1), .second, .val (.ref b101), .val (.int (0 : Int32))]) rfl (XS.aload X105.here hx rfl (hb hby at_97) rfl rfl kt)))) ?_
        show Go p.tables e below _ (T105.setTop (mkF m 99 #[.val (.int p1), .val (.int p2), .val (.int p3), .val (.int n1), .val (.int n2), .val (.double x1), .second, .val (.double y1), .second, .val (.ref b101), .val (.int (0 : Int32))] [(.ref b101)]))
        obtain ⟨cq115, kq115, q115a, q115b, q115c⟩ := isOf hZ rfl P106
        obtain ⟨_, _, ⟨T115, L115, k115, n115⟩, -, X115, ⟨Lc115, hQ115, l115, y115, z115⟩, st115⟩ := X105.virtualBack hx (y := (⟨"com/example/inchworm/inchworm/photos/GeoPosition", "isZero", "()Z"⟩ : MethodName)) (z := (⟨"com/example/inchworm/inchworm/photos/GeoPosition", "isZero", "()Z"⟩ : MethodName)) hown (mvT hZ (hw _ (List.mem_of_getElem? (i := 25) rfl))) (mvT hZ (hw _ (List.mem_of_getElem? (i := 26) rfl))) (notFace_of_selects (args := #[]) (mvT hZ (hw _ (List.mem_of_getElem? (i := 28) rfl)))) (mvT hZ (hw _ (List.mem_of_getElem? (i := 28) rfl))) (mvT hZ (hw _ (List.mem_of_getElem? (i := 27) rfl))) (by decide) (backOf (W := 0) (rm5 l Z a0 hw [] b101 x1 y1 T105.heap n0 Z110 P107 P108 ) hZ (hw _ (List.mem_of_getElem? (i := 29) rfl)) (hw _ (List.mem_of_getElem? (i := 5) rfl)) (by decide) (by decide)) q115a q115c (g := (mkF m 99 #[.val (.int p1), .val (.int p2), .val (.int p3), .val (.int n1), .val (.int n2), .val (.double x1), .second, .val (.double y1), .second, .val (.ref b101), .val (.int (0 : Int32))] [(.ref b101)])) rfl (by rw [hml]; rfl) (Steps.refl _) (argsL := []) (rest := []) (lenOf pd_3 rfl) rfl (by show 2 * 0 + _ ≤ _; exact Nat.le_of_eq rfl) (hb hby at_99) (fun _ _ => ⟨rfl, rfl, (by decide : 1 + 0 ≤ _), (by decide : 2 + 0 ≤ _)⟩)
        dsimp only [Pt.U, Pt.locs, Pt.cells, Pt.slots] at X115 l115 y115 z115 st115 hQ115
        subst l115 y115 z115
        obtain ⟨rfl, N115q, eh115⟩ := hQ115
        have N115 := Fr.app N105 N115q
        refine Go.step (fun _ kt => st115.trans kt) ?_
        show Go p.tables e below _ (T115.setTop (mkF m 102 #[.val (.int p1), .val (.int p2), .val (.int p3), .val (.int n1), .val (.int n2), .val (.double x1), .second, .val (.double y1), .second, .val (.ref b101), .val (.int (0 : Int32))] [(.int (own_zz x1 y1))]))
        refine Go.step (fun _ kt => XS.iload X115.here hx rfl (hb hby at_102) rfl (XS.icmpNo X115.here hx rfl (hb hby at_104) rfl (teq (by rw [own_zz_eq hu hv]; simp [hc82_111])).2 (XS.iconst X115.here hx rfl (hb hby at_107) (XS.goto X115.here hx rfl (pc0 := 108) (pc' := 112) rfl (hb hby at_108) (by decide) (by decide) kt)))) ?_
        show Go p.tables e below _ (T115.setTop (mkF m 112 #[.val (.int p1), .val (.int p2), .val (.int p3), .val (.int n1), .val (.int n2), .val (.double x1), .second, .val (.double y1), .second, .val (.ref b101), .val (.int (0 : Int32))] [(.int (1 : Int32))]))
        obtain ⟨fs, hr, hrun, hended, hW, hsame⟩ := X115.leave (v := some (.int (1 : Int32))) (fun h => by rw [Bd.returns] at h; cases h)
        refine ⟨_, _, retN X115 hx (t := .boolean) Bd.returns (by simp) (hb hby at_112) hr, hrun, hended, _, _, rfl, ?_, ⟨_, rfl⟩, hW, hsame.mono (by decide) (by decide)⟩
        show Qrm0 Z p1 p2 p3 h0 n0 _ T115.heap _
        rw [eh115]
        exact ⟨rfl, N115⟩
    refine Go.step (fun _ kt => XS.iloadN X0.here hx rfl (hb hby at_45) rfl (XS.iconst X0.here hx rfl (hb hby at_46) (XS.iand X0.here hx rfl (hb hby at_47) rfl kt))) ?_
    show Go p.tables e below _ (s₁.setTop (mkF m 48 #[.val (.int p1), .val (.int p2), .val (.int p3), .val (.int n1), .val (.int n2), .val (.double (FP.ddiv (FP.i2d n1) (4697254411347427328 : UInt64))), .second, .val (.double (FP.ddiv (FP.i2d n2) (4697254411347427328 : UInt64))), .second, .unset, .unset] [(.int (p3 &&& (1 : Int32)))]))
    by_cases hc48_116 : (p3 &&& (1 : Int32)) = (0 : Int32)
    · refine Go.step (fun _ kt => XS.ifYes X0.here hx rfl (pc0 := 48) (pc' := 56) rfl (hb hby at_48) rfl ((if0 _ _).trans (teq hc48_116).1) (by decide) (by decide) (XS.iloadN X0.here hx rfl (hb hby at_56) rfl (XS.bipush X0.here hx rfl (hb hby at_57) (XS.iand X0.here hx rfl (hb hby at_59) rfl kt)))) ?_
      show Go p.tables e below _ (s₁.setTop (mkF m 60 #[.val (.int p1), .val (.int p2), .val (.int p3), .val (.int n1), .val (.int n2), .val (.double (FP.ddiv (FP.i2d n1) (4697254411347427328 : UInt64))), .second, .val (.double (FP.ddiv (FP.i2d n2) (4697254411347427328 : UInt64))), .second, .unset, .unset] [(.int (p3 &&& (8 : Int32)))]))
      by_cases hc60_117 : (p3 &&& (8 : Int32)) = (0 : Int32)
      · refine Go.step (fun _ kt => XS.ifYes X0.here hx rfl (pc0 := 60) (pc' := 68) rfl (hb hby at_60) rfl ((if0 _ _).trans (teq hc60_117).1) (by decide) (by decide) kt) ?_
        show Go p.tables e below _ (s₁.setTop (mkF m 68 #[.val (.int p1), .val (.int p2), .val (.int p3), .val (.int n1), .val (.int n2), .val (.double (FP.ddiv (FP.i2d n1) (4697254411347427328 : UInt64))), .second, .val (.double (FP.ddiv (FP.i2d n2) (4697254411347427328 : UInt64))), .second, .unset, .unset] []))
        exact J68 _ _ (own_all own_b90 hn1) (own_all own_b180 hn2)
      · refine Go.step (fun _ kt => XS.ifNo X0.here hx rfl (hb hby at_60) rfl ((if0 _ _).trans (feq hc60_117).1) (XS.dload X0.here hx rfl (hb hby at_63) rfl (XS.dnegS X0.here hx rfl (hb hby at_65) rfl rfl (XS.dstore X0.here hx rfl (hb hby at_66) rfl (l' := #[.val (.int p1), .val (.int p2), .val (.int p3), .val (.int n1), .val (.int n2), .val (.double (FP.ddiv (FP.i2d n1) (4697254411347427328 : UInt64))), .second, .val (.double (FP.dneg (FP.ddiv (FP.i2d n2) (4697254411347427328 : UInt64)))), .second, .unset, .unset]) rfl kt)))) ?_
        show Go p.tables e below _ (s₁.setTop (mkF m 68 #[.val (.int p1), .val (.int p2), .val (.int p3), .val (.int n1), .val (.int n2), .val (.double (FP.ddiv (FP.i2d n1) (4697254411347427328 : UInt64))), .second, .val (.double (FP.dneg (FP.ddiv (FP.i2d n2) (4697254411347427328 : UInt64)))), .second, .unset, .unset] []))
        exact J68 _ _ (own_all own_b90 hn1) (own_alln (own_all own_b180 hn2))
    · refine Go.step (fun _ kt => XS.ifNo X0.here hx rfl (hb hby at_48) rfl ((if0 _ _).trans (feq hc48_116).1) (XS.dload X0.here hx rfl (hb hby at_51) rfl (XS.dnegS X0.here hx rfl (hb hby at_53) rfl rfl (XS.dstore X0.here hx rfl (hb hby at_54) rfl (l' := #[.val (.int p1), .val (.int p2), .val (.int p3), .val (.int n1), .val (.int n2), .val (.double (FP.dneg (FP.ddiv (FP.i2d n1) (4697254411347427328 : UInt64)))), .second, .val (.double (FP.ddiv (FP.i2d n2) (4697254411347427328 : UInt64))), .second, .unset, .unset]) rfl (XS.iloadN X0.here hx rfl (hb hby at_56) rfl (XS.bipush X0.here hx rfl (hb hby at_57) (XS.iand X0.here hx rfl (hb hby at_59) rfl kt))))))) ?_
      show Go p.tables e below _ (s₁.setTop (mkF m 60 #[.val (.int p1), .val (.int p2), .val (.int p3), .val (.int n1), .val (.int n2), .val (.double (FP.dneg (FP.ddiv (FP.i2d n1) (4697254411347427328 : UInt64)))), .second, .val (.double (FP.ddiv (FP.i2d n2) (4697254411347427328 : UInt64))), .second, .unset, .unset] [(.int (p3 &&& (8 : Int32)))]))
      by_cases hc60_118 : (p3 &&& (8 : Int32)) = (0 : Int32)
      · refine Go.step (fun _ kt => XS.ifYes X0.here hx rfl (pc0 := 60) (pc' := 68) rfl (hb hby at_60) rfl ((if0 _ _).trans (teq hc60_118).1) (by decide) (by decide) kt) ?_
        show Go p.tables e below _ (s₁.setTop (mkF m 68 #[.val (.int p1), .val (.int p2), .val (.int p3), .val (.int n1), .val (.int n2), .val (.double (FP.dneg (FP.ddiv (FP.i2d n1) (4697254411347427328 : UInt64)))), .second, .val (.double (FP.ddiv (FP.i2d n2) (4697254411347427328 : UInt64))), .second, .unset, .unset] []))
        exact J68 _ _ (own_alln (own_all own_b90 hn1)) (own_all own_b180 hn2)
      · refine Go.step (fun _ kt => XS.ifNo X0.here hx rfl (hb hby at_60) rfl ((if0 _ _).trans (feq hc60_118).1) (XS.dload X0.here hx rfl (hb hby at_63) rfl (XS.dnegS X0.here hx rfl (hb hby at_65) rfl rfl (XS.dstore X0.here hx rfl (hb hby at_66) rfl (l' := #[.val (.int p1), .val (.int p2), .val (.int p3), .val (.int n1), .val (.int n2), .val (.double (FP.dneg (FP.ddiv (FP.i2d n1) (4697254411347427328 : UInt64)))), .second, .val (.double (FP.dneg (FP.ddiv (FP.i2d n2) (4697254411347427328 : UInt64)))), .second, .unset, .unset]) rfl kt)))) ?_
        show Go p.tables e below _ (s₁.setTop (mkF m 68 #[.val (.int p1), .val (.int p2), .val (.int p3), .val (.int n1), .val (.int n2), .val (.double (FP.dneg (FP.ddiv (FP.i2d n1) (4697254411347427328 : UInt64)))), .second, .val (.double (FP.dneg (FP.ddiv (FP.i2d n2) (4697254411347427328 : UInt64)))), .second, .unset, .unset] []))
        exact J68 _ _ (own_alln (own_all own_b90 hn1)) (own_alln (own_all own_b180 hn2))
  refine Go.step (fun _ kt => XS.iloadN X0.here hx rfl (hb hby at_11) rfl (XS.iconst X0.here hx rfl (hb hby at_12) (XS.iand X0.here hx rfl (hb hby at_13) rfl kt))) ?_
  show Go p.tables e below _ (s₁.setTop (mkF m 14 #[.val (.int p1), .val (.int p2), .val (.int p3), .val (.int (p1 % (94371841 : Int32))), .val (.int (p2 % (188743681 : Int32))), .unset, .unset, .unset, .unset, .unset, .unset] [(.int (p3 &&& (2 : Int32)))]))
  by_cases hc14_119 : (p3 &&& (2 : Int32)) = (0 : Int32)
  · refine Go.step (fun _ kt => XS.ifYes X0.here hx rfl (pc0 := 14) (pc' := 19) rfl (hb hby at_14) rfl ((if0 _ _).trans (teq hc14_119).1) (by decide) (by decide) (XS.iloadN X0.here hx rfl (hb hby at_19) rfl (XS.iconst X0.here hx rfl (hb hby at_20) (XS.iand X0.here hx rfl (hb hby at_21) rfl kt)))) ?_
    show Go p.tables e below _ (s₁.setTop (mkF m 22 #[.val (.int p1), .val (.int p2), .val (.int p3), .val (.int (p1 % (94371841 : Int32))), .val (.int (p2 % (188743681 : Int32))), .unset, .unset, .unset, .unset, .unset, .unset] [(.int (p3 &&& (4 : Int32)))]))
    by_cases hc22_120 : (p3 &&& (4 : Int32)) = (0 : Int32)
    · refine Go.step (fun _ kt => XS.ifYes X0.here hx rfl (pc0 := 22) (pc' := 28) rfl (hb hby at_22) rfl ((if0 _ _).trans (teq hc22_120).1) (by decide) (by decide) kt) ?_
      show Go p.tables e below _ (s₁.setTop (mkF m 28 #[.val (.int p1), .val (.int p2), .val (.int p3), .val (.int (p1 % (94371841 : Int32))), .val (.int (p2 % (188743681 : Int32))), .unset, .unset, .unset, .unset, .unset, .unset] []))
      exact J28 _ _ (own_rem (K := 90 * 1048576) (by decide)) (own_rem (K := 180 * 1048576) (by decide))
    · refine Go.step (fun _ kt => XS.ifNo X0.here hx rfl (hb hby at_22) rfl ((if0 _ _).trans (feq hc22_120).1) (XS.iconst X0.here hx rfl (hb hby at_25) (XS.istore X0.here hx rfl (hb hby at_26) rfl (l' := #[.val (.int p1), .val (.int p2), .val (.int p3), .val (.int (p1 % (94371841 : Int32))), .val (.int (0 : Int32)), .unset, .unset, .unset, .unset, .unset, .unset]) rfl kt))) ?_
      show Go p.tables e below _ (s₁.setTop (mkF m 28 #[.val (.int p1), .val (.int p2), .val (.int p3), .val (.int (p1 % (94371841 : Int32))), .val (.int (0 : Int32)), .unset, .unset, .unset, .unset, .unset, .unset] []))
      exact J28 _ _ (own_rem (K := 90 * 1048576) (by decide)) (by decide)
  · refine Go.step (fun _ kt => XS.ifNo X0.here hx rfl (hb hby at_14) rfl ((if0 _ _).trans (feq hc14_119).1) (XS.iconst X0.here hx rfl (hb hby at_17) (XS.istoreN X0.here hx rfl (hb hby at_18) rfl (l' := #[.val (.int p1), .val (.int p2), .val (.int p3), .val (.int (0 : Int32)), .val (.int (p2 % (188743681 : Int32))), .unset, .unset, .unset, .unset, .unset, .unset]) rfl (XS.iloadN X0.here hx rfl (hb hby at_19) rfl (XS.iconst X0.here hx rfl (hb hby at_20) (XS.iand X0.here hx rfl (hb hby at_21) rfl kt)))))) ?_
    show Go p.tables e below _ (s₁.setTop (mkF m 22 #[.val (.int p1), .val (.int p2), .val (.int p3), .val (.int (0 : Int32)), .val (.int (p2 % (188743681 : Int32))), .unset, .unset, .unset, .unset, .unset, .unset] [(.int (p3 &&& (4 : Int32)))]))
    by_cases hc22_121 : (p3 &&& (4 : Int32)) = (0 : Int32)
    · refine Go.step (fun _ kt => XS.ifYes X0.here hx rfl (pc0 := 22) (pc' := 28) rfl (hb hby at_22) rfl ((if0 _ _).trans (teq hc22_121).1) (by decide) (by decide) kt) ?_
      show Go p.tables e below _ (s₁.setTop (mkF m 28 #[.val (.int p1), .val (.int p2), .val (.int p3), .val (.int (0 : Int32)), .val (.int (p2 % (188743681 : Int32))), .unset, .unset, .unset, .unset, .unset, .unset] []))
      exact J28 _ _ (by decide) (own_rem (K := 180 * 1048576) (by decide))
    · refine Go.step (fun _ kt => XS.ifNo X0.here hx rfl (hb hby at_22) rfl ((if0 _ _).trans (feq hc22_121).1) (XS.iconst X0.here hx rfl (hb hby at_25) (XS.istore X0.here hx rfl (hb hby at_26) rfl (l' := #[.val (.int p1), .val (.int p2), .val (.int p3), .val (.int (0 : Int32)), .val (.int (0 : Int32)), .unset, .unset, .unset, .unset, .unset, .unset]) rfl kt))) ?_
      show Go p.tables e below _ (s₁.setTop (mkF m 28 #[.val (.int p1), .val (.int p2), .val (.int p3), .val (.int (0 : Int32)), .val (.int (0 : Int32)), .unset, .unset, .unset, .unset, .unset, .unset] []))
      exact J28 _ _ (by decide) (by decide)
set_option maxRecDepth 65536 in
set_option maxHeartbeats 40000000 in
theorem comes_1 {Post : Tables → Env → Array Value → State → Outcome → State → Prop} (hpost : ∀ tb e args s v u, (limb_1_1.after args s (.returned v) u = true ∧ limb_1_2.after args s (.returned v) u = true ∧ True) → FrameEnd s (.returned v) u (Jvm.fieldLocs frame_1_writes args s ++ Jvm.arrayLocs frame_1_arrays args s ++ Jvm.staticLocs frame_1_statics s) 16 128 → Post tb e args s (.returned v) u) :
    ArmFor flags0 classFile x code maxLocals ret World_1 tables_1 room_1 Calls_1 rest_1 Pre_1 Post := by
  intro l hfl _ _ p e ha hc hk s m args below hf hA hF happ hP
  obtain ⟨hcalls, hrest, hpre⟩ := hP
  obtain ⟨-, -, -, hnamed, -, -, -, hat⟩ := (Spec.applies_iff hf).mp happ
  obtain ⟨hg, hn⟩ := and_e (Cond.before_iff.mp (show (Jvm.Cond.and given_1 narrow_1).before args s = true from hpre))
  obtain ⟨hcount, hg1⟩ := and_e hg
  obtain ⟨ga0, hg2⟩ := and_e hg1
  obtain ⟨ga1, hg3⟩ := and_e hg2
  have ga2 := hg3
  obtain ⟨w0, w1, w2, rfl⟩ : ∃ w0 w1 w2 : Value, args = #[w0, w1, w2] := by
    have hs : args.size = 3 := by simpa [Cond.value, given_1] using hcount
    obtain ⟨L⟩ := args
    match L, hs with
    | [w0, w1, w2], _ => exact ⟨w0, w1, w2, rfl⟩
  have hw := fun d (hd : d ∈ tables_1) => atoms_spec (ws := Jvm.Cond.code x code maxLocals ret :: tables_1) hat d (List.mem_cons_of_mem _ hd)
  have hfit : Fit s := fun {y c} hc i hi => by
    obtain ⟨ha, rfl⟩ := Array.getElem?_eq_some_iff.mp hc
    have q := List.all_eq_true.mp ((Array.all_eq_true_iff_forall_mem.mp hF) _ (Array.getElem_mem ha)) i (List.mem_range.mpr hi)
    simpa [Array.getElem?_eq_getElem hi] using q
  obtain ⟨i0, ei0⟩ := is_v ga0
  obtain rfl : w0 = (.int i0) := Option.some.inj ei0
  obtain ⟨i1, ei1⟩ := is_v ga1
  obtain rfl : w1 = (.int i1) := Option.some.inj ei1
  obtain ⟨i2, ei2⟩ := is_v ga2
  obtain rfl : w2 = (.int i2) := Option.some.inj ei2
  obtain ⟨n, o, h1, h2, h3, _, L, rfl, ⟨rfl, N⟩, hq⟩ := rm0 l s _ hw tables_1 i0 i1 i2 s.heap s.heap.size (Nat.le_refl _) p e ha hc hk s m _ below hf ((Spec.applies_iff_loose hf).mp happ).1 ⟨rfl, State.Warmed39.refl s, rfl⟩ trivial
  refine ⟨n, _, h1, h2, h3, hpost _ _ _ _ _ _ ⟨Cond.after_iff.mpr rfl, Cond.after_iff.mpr (eq_i res_at (Term.int_eval (1)) rfl), trivial⟩ ⟨hq.1, hq.2.1, (hq.2.2.sift fun y hy => Or.inr (N y hy)).mono (by decide) (by decide)⟩⟩
theorem main_1_1 : Claimed_1_1 := comes_1 fun _ _ _ _ _ _ h hF => ⟨h.1, hF⟩
theorem main_1_2 : Claimed_1_2 := comes_1 fun _ _ _ _ _ _ h hF => ⟨h.2.1, hF⟩
end Jvm.Pilot.@@N@@
namespace Jvm.Pilot.@@N@@
open Jvm Jvm.ClassFile Sem Op Lib Jvm.Free Jvm.Stand Jvm.Pilot.@@N@@.Jvm.D
/-! MADE BY PROGRAM (witnessworld.py) out of the Statement's table words and the real class files: 10 classes; the members and pool entries that the words name. The judged class is class 1, her method 1. -/
namespace start1
open Jvm.ClassFile
def u (s : String) : CpInfo := .utf8 (stringToUtf16 s)
/-- a pool by its gaps: so many unusable entries, then the entry; so many at the end -/
def gap : Nat → List CpInfo → List CpInfo
  | 0, r => r
  | n + 1, r => .unusable :: gap n r
def poolList (es : List (Nat × CpInfo)) (last : Nat) : List CpInfo := es.foldr (fun e r => gap e.1 (e.2 :: r)) (gap last [])
def pool (es : List (Nat × CpInfo)) (last : Nat) : Array CpInfo := ⟨poolList es last⟩
def fileOf (pool : Array CpInfo) (this : Nat) (attrs : Array Attribute := #[]) (ms : Array MethodInfo := #[]) (fl : Nat := 33) (sup : Nat := 0) (ifs : Array Nat := #[]) (fds : Array FieldInfo := #[]) : ClassFile where
  minorVersion := 0
  majorVersion := 65
  constantPool := pool
  accessFlags := fl
  thisClass := this
  superClass := sup
  interfaces := ifs
  fields := fds
  methods := ms
  attributes := attrs
def plain (name : String) (sup : Option ClassId) : Class where
  name := name
  kind := .ordinary
  loader := none
  accessFlags := 33
  super := sup
  interfaces := #[]
  cf := none
  fields := #[]
  methods := #[]
  instanceTypes := #[]
  staticTypes := #[]
  resolved := #[]
  callSites := []
  init := .initialized
  statics := none
  mirror := none

def pool0 : Array CpInfo := pool [(5, u "<init>"), (0, u "()V"), (1, .class_ 10), (1, u "java/lang/Object")] 113

def k0c0 : Code := { maxStack := 0, maxLocals := 1, code := object_method_1_code, exceptionTable := #[], attributes := #[] }
def k0m0 : Method := { name := "<init>", desc := "()V", sig := { parameters := [], returnType := none }, accessFlags := 1, code := some k0c0 }
/-- java/lang/Object -/
def k0 : Class := { plain "java/lang/Object" none with
  accessFlags := 33
  interfaces := #[]
  cf := some (fileOf pool0 8 #[] #[{ accessFlags := 1, nameIndex := 5, descriptorIndex := 6, attributes := #[] }] 33 0 #[] #[])
  fields := #[]
  methods := #[k0m0]
  instanceTypes := #[]
  staticTypes := #[]
  resolved := Array.replicate 124 none
  statics := none }

def pool1 : Array CpInfo := pool [(2, .class_ 4), (1, u "java/lang/Object"), (0, u "<init>"), (0, u "()V"), (0, .integer 94371841), (0, .integer 188743681), (0, .double 4697254411347427328), (1, .class_ 12), (0, u "com/example/inchworm/inchworm/photos/GeoPosition"), (0, .methodref 11 14), (0, .nameAndType 5 15), (0, u "(DD)V"), (0, .methodref 11 17), (0, .nameAndType 18 19), (0, u "isZero"), (0, u "()Z"), (0, .class_ 21), (0, u "com/example/inchworm/inchworm/photos/GeoPositionIsZeroPinLaw"), (2, u "law"), (0, u "(III)Z")] 3

def k1m0 : Method := { name := "<init>", desc := "()V", sig := { parameters := [], returnType := none }, accessFlags := 1, code := none }
def k1c1 : Code := { maxStack := 6, maxLocals := 11, code := code, exceptionTable := #[], attributes := #[] }
def k1m1 : Method := { name := "law", desc := "(III)Z", sig := { parameters := [.int, .int, .int], returnType := some .boolean }, accessFlags := 9, code := some k1c1 }
/-- com/example/inchworm/inchworm/photos/GeoPositionIsZeroPinLaw -/
def k1 : Class := { plain "com/example/inchworm/inchworm/photos/GeoPositionIsZeroPinLaw" (some 0) with
  accessFlags := 49
  interfaces := #[]
  cf := some (fileOf pool1 20 #[] #[{ accessFlags := 1, nameIndex := 5, descriptorIndex := 6, attributes := #[] }, { accessFlags := 9, nameIndex := 24, descriptorIndex := 25, attributes := #[] }] 49 2 #[] #[])
  fields := #[]
  methods := #[k1m0, k1m1]
  instanceTypes := #[]
  staticTypes := #[]
  resolved := Array.replicate 29 none
  statics := none }

def pool2 : Array CpInfo := pool [(1, .methodref 2 3), (0, .class_ 4), (0, .nameAndType 5 6), (0, u "java/lang/Object"), (0, u "<init>"), (0, u "()V"), (0, .methodref 8 9), (0, .class_ 10), (0, .nameAndType 11 12), (0, u "com/example/inchworm/inchworm/photos/GeoPosition"), (0, u "isOnEarth"), (0, u "(DD)Z"), (9, .fieldref 8 23), (0, .nameAndType 24 25), (0, u "latitude"), (0, u "D"), (0, .fieldref 8 27), (0, .nameAndType 28 25), (0, u "longitude"), (0, .methodref 30 31), (0, .class_ 32), (0, .nameAndType 33 34), (0, u "java/lang/Math"), (0, u "abs"), (0, u "(D)D"), (0, .double 4636033603912859648), (1, .double 4640537203540230144), (17, u "(DD)V"), (4, u "isZero"), (0, u "()Z")] 20

def k2c0 : Code := { maxStack := 6, maxLocals := 5, code := prog_50_method_1_code, exceptionTable := #[], attributes := #[] }
def k2m0 : Method := { name := "<init>", desc := "(DD)V", sig := { parameters := [.double, .double], returnType := none }, accessFlags := 1, code := some k2c0 }
def k2c1 : Code := { maxStack := 4, maxLocals := 4, code := prog_50_method_2_code, exceptionTable := #[], attributes := #[] }
def k2m1 : Method := { name := "isOnEarth", desc := "(DD)Z", sig := { parameters := [.double, .double], returnType := some .boolean }, accessFlags := 9, code := some k2c1 }
def k2c2 : Code := { maxStack := 4, maxLocals := 1, code := prog_50_method_5_code, exceptionTable := #[], attributes := #[] }
def k2m2 : Method := { name := "isZero", desc := "()Z", sig := { parameters := [], returnType := some .boolean }, accessFlags := 1, code := some k2c2 }
/-- com/example/inchworm/inchworm/photos/GeoPosition -/
def k2 : Class := { plain "com/example/inchworm/inchworm/photos/GeoPosition" (some 0) with
  accessFlags := 33
  interfaces := #[]
  cf := some (fileOf pool2 8 #[] #[{ accessFlags := 1, nameIndex := 5, descriptorIndex := 55, attributes := #[] }, { accessFlags := 9, nameIndex := 11, descriptorIndex := 12, attributes := #[] }, { accessFlags := 1, nameIndex := 60, descriptorIndex := 61, attributes := #[] }] 33 2 #[] #[{ accessFlags := 18, nameIndex := 24, descriptorIndex := 25, attributes := #[] }, { accessFlags := 18, nameIndex := 28, descriptorIndex := 25, attributes := #[] }])
  fields := #[{ name := "latitude", type := .double, accessFlags := 18, slot := 0, constantValue := 0 }, { name := "longitude", type := .double, accessFlags := 18, slot := 1, constantValue := 0 }]
  methods := #[k2m0, k2m1, k2m2]
  instanceTypes := #[.double, .double]
  staticTypes := #[]
  resolved := Array.replicate 82 none
  statics := none }

def pool3 : Array CpInfo := pool [(1, .class_ 2), (0, u "java/lang/Math"), (1, .class_ 6), (1, u "java/lang/Object"), (0, u "<init>"), (0, u "()V"), (5, u "(D)D"), (83, .class_ 100), (1, u "java/lang/Math$RandomNumberGeneratorHolder"), (23, u "abs"), (47, u "negativeZeroFloatBits"), (0, u "J"), (2, u "negativeZeroDoubleBits"), (68, u "$assertionsDisabled"), (0, u "Z"), (91, u "twoToTheDoubleScaleDown"), (0, u "D"), (4, u "twoToTheDoubleScaleUp"), (9, u "E"), (3, u "PI"), (2, u "TAU"), (2, u "DEGREES_TO_RADIANS"), (0, u "RADIANS_TO_DEGREES")] 94

def k3m0 : Method := { name := "<init>", desc := "()V", sig := { parameters := [], returnType := none }, accessFlags := 2, code := none }
def k3c1 : Code := { maxStack := 4, maxLocals := 2, code := jdk_29_method_64_code, exceptionTable := #[], attributes := #[] }
def k3m1 : Method := { name := "abs", desc := "(D)D", sig := { parameters := [.double], returnType := some .double }, accessFlags := 9, code := some k3c1 }
/-- java/lang/Math -/
def k3 : Class := { plain "java/lang/Math" (some 0) with
  accessFlags := 49
  interfaces := #[]
  cf := some (fileOf pool3 1 #[.nestMembers #[98]] #[{ accessFlags := 2, nameIndex := 7, descriptorIndex := 8, attributes := #[] }, { accessFlags := 9, nameIndex := 124, descriptorIndex := 14, attributes := #[] }] 49 4 #[] #[{ accessFlags := 25, nameIndex := 354, descriptorIndex := 339, attributes := #[] }, { accessFlags := 25, nameIndex := 358, descriptorIndex := 339, attributes := #[] }, { accessFlags := 25, nameIndex := 361, descriptorIndex := 339, attributes := #[] }, { accessFlags := 26, nameIndex := 364, descriptorIndex := 339, attributes := #[] }, { accessFlags := 26, nameIndex := 365, descriptorIndex := 339, attributes := #[] }, { accessFlags := 26, nameIndex := 172, descriptorIndex := 173, attributes := #[] }, { accessFlags := 26, nameIndex := 176, descriptorIndex := 173, attributes := #[] }, { accessFlags := 8, nameIndex := 344, descriptorIndex := 339, attributes := #[] }, { accessFlags := 8, nameIndex := 338, descriptorIndex := 339, attributes := #[] }, { accessFlags := 4120, nameIndex := 245, descriptorIndex := 246, attributes := #[] }])
  fields := #[{ name := "E", type := .double, accessFlags := 25, slot := 0, constantValue := 0 }, { name := "PI", type := .double, accessFlags := 25, slot := 1, constantValue := 0 }, { name := "TAU", type := .double, accessFlags := 25, slot := 2, constantValue := 0 }, { name := "DEGREES_TO_RADIANS", type := .double, accessFlags := 26, slot := 3, constantValue := 0 }, { name := "RADIANS_TO_DEGREES", type := .double, accessFlags := 26, slot := 4, constantValue := 0 }, { name := "negativeZeroFloatBits", type := .long, accessFlags := 26, slot := 5, constantValue := 0 }, { name := "negativeZeroDoubleBits", type := .long, accessFlags := 26, slot := 6, constantValue := 0 }, { name := "twoToTheDoubleScaleUp", type := .double, accessFlags := 8, slot := 7, constantValue := 0 }, { name := "twoToTheDoubleScaleDown", type := .double, accessFlags := 8, slot := 8, constantValue := 0 }, { name := "$assertionsDisabled", type := .boolean, accessFlags := 4120, slot := 9, constantValue := 0 }]
  methods := #[k3m0, k3m1]
  instanceTypes := #[]
  staticTypes := #[.double, .double, .double, .double, .double, .long, .long, .double, .double, .boolean]
  resolved := Array.replicate 460 none
  statics := none }

def pool4 : Array CpInfo := pool [(1, u "java/lang/Cloneable"), (0, .class_ 1), (0, u "java/lang/Object"), (0, .class_ 3)] 3

/-- java/lang/Cloneable -/
def k4 : Class := { plain "java/lang/Cloneable" (some 0) with
  accessFlags := 1537
  interfaces := #[]
  cf := some (fileOf pool4 2 #[] #[] 1537 4 #[] #[])
  fields := #[]
  methods := #[]
  instanceTypes := #[]
  staticTypes := #[]
  resolved := Array.replicate 8 none
  statics := none }

def pool5 : Array CpInfo := pool [(1, u "java/io/Serializable"), (0, .class_ 1), (0, u "java/lang/Object"), (0, .class_ 3)] 3

/-- java/io/Serializable -/
def k5 : Class := { plain "java/io/Serializable" (some 0) with
  accessFlags := 1537
  interfaces := #[]
  cf := some (fileOf pool5 2 #[] #[] 1537 4 #[] #[])
  fields := #[]
  methods := #[]
  instanceTypes := #[]
  staticTypes := #[]
  resolved := Array.replicate 8 none
  statics := none }

/-- the primitive byte -/
def k6 : Class := { plain "byte" none with kind := .primitive 'B', accessFlags := 0x411 }
/-- [B -/
def k7 : Class := { plain "[B" (some 0) with kind := .array 6 .byte, interfaces := #[4, 5], accessFlags := 1041 }

/-- the primitive int -/
def k8 : Class := { plain "int" none with kind := .primitive 'I', accessFlags := 0x411 }
/-- [I -/
def k9 : Class := { plain "[I" (some 0) with kind := .array 8 .int, interfaces := #[4, 5], accessFlags := 1041 }

def heap : Heap := #[]
def classes : Array Class := #[k0, k1, k2, k3, k4, k5, k6, k7, k8, k9]
def interned : List (Array UInt16 × Addr) := []
def slotsUsed : Nat := 0
def theMethod : MethodId := ⟨1, 1⟩
def args0 : Array Value := #[.int 5, .int 9, .int 3]
def aboutOver (below : List Frame) : State where
  vm := { classes := classes, interned := interned.toArray }
  heap := heap
  slotsUsed := slotsUsed
  threads := #[{ frames := .invoking theMethod args0 :: below }]
def below0 : List Frame := [.native { method := ⟨0, 0⟩, args := #[] }]
def about1 : State := aboutOver below0
def p0 : Program := .bare "" "" ""
def e0 : Env := launch0.env 0 0 0
theorem w_frames : about1.frames = Frame.invoking theMethod args0 :: below0 := rfl
set_option maxRecDepth 65536 in
theorem w_args : argsFit about1.vm theMethod args0 = true := by decide +kernel
set_option maxRecDepth 65536 in
theorem w_heap : heapFits about1 = true := by decide +kernel
set_option maxRecDepth 65536 in
theorem w_runnable : about1.curStatus? = some .runnable := by decide +kernel
set_option maxRecDepth 65536 in
theorem w_alone : about1.alone = true := by decide +kernel
set_option maxRecDepth 65536 in
theorem w_named : about1.methodNamed? x = some theMethod := by decide +kernel
set_option maxRecDepth 65536 in
theorem w_hears : about1.hears theMethod below0 = true := by decide +kernel
set_option maxRecDepth 65536 in
theorem w_ripe : about1.ripe theMethod args0 below0 = true := by decide +kernel
theorem w_running : about1.status = .running := rfl
set_option maxRecDepth 65536 in
theorem w_room : about1.hasRoom e0.platform room_1 = true :=
  launch0.hasRoom_least _ room_1 (by decide +kernel) (by decide +kernel) (by decide +kernel) (by decide +kernel) (by decide +kernel) (by decide +kernel)
theorem allAtoms_all (ts : List Jvm.Cond) (a : Array Jvm.Value) (st : Jvm.State) : (allAtoms ts).before a st = ts.all (fun c => c.before a st) := by
  induction ts with
  | nil => rfl
  | cons c t ih =>
    show (Jvm.Cond.and c (allAtoms t)).before a st = _
    rw [Jvm.Cond.before_and, ih, List.all_cons]
def words1 : List Jvm.Cond := Jvm.Cond.code x code maxLocals ret :: tables_1
/-- a 'code' word, met by the world's own term for the bytes: nothing is compared byte by byte -/
theorem code_word {y : MethodName} {bytes : ByteArray} {mx : Nat} {rt : Option FieldType} {a : Array Value} {s : State} {m : MethodId} {meth : Method} {c : Code} (h1 : s.methodNamed? y = some m) (h2 : s.vm.method? m = some meth) (h3 : meth.code = some c) (h4 : c.code = bytes)
    (h5 : (c.maxLocals == mx && c.exceptionTable.isEmpty && decide (c.maxStack ≤ mostOperands) && decide (meth.sig.returnType = rt) && !meth.locks && decide (parseMethodDescriptor y.desc = some meth.sig)) = true) : (Jvm.Cond.code y bytes mx rt).before a s = true := by
  simp only [Bool.and_eq_true, beq_iff_eq, Bool.not_eq_true', decide_eq_true_eq] at h5
  obtain ⟨⟨⟨⟨⟨g1, g2⟩, g3⟩, g4⟩, g5⟩, g6⟩ := h5
  simp [Cond.before, Cond.holds, Cond.value, h1, h2, h3, h4, g1, g2, g3, g4, g5, g6]
def isCode : Jvm.Cond → Bool
  | .code _ _ _ _ => true
  | _ => false
theorem all_split {L : List Jvm.Cond} {P : Jvm.Cond → Bool} (h1 : L.all (fun c => isCode c || P c) = true) (h2 : ∀ c ∈ L.filter isCode, P c = true) : L.all P = true := by
  refine List.all_eq_true.mpr fun c hc => ?_
  have h := List.all_eq_true.mp h1 c hc
  rcases Bool.eq_false_or_eq_true (isCode c) with hi | hi
  · exact h2 c (List.mem_filter.mpr ⟨hc, hi⟩)
  · simpa [hi] using h
set_option maxRecDepth 65536 in
theorem w_c0 : (Jvm.Cond.code x code maxLocals ret).before args0 about1 = true := code_word (m := ⟨1, 1⟩) (meth := k1m1) (c := k1c1) (by decide +kernel) rfl rfl rfl (by decide +kernel)
set_option maxRecDepth 65536 in
theorem w_c1 : (Jvm.Cond.code ({ cls := "com/example/inchworm/inchworm/photos/GeoPosition", name := "<init>", desc := "(DD)V" } : Jvm.MethodName) prog_50_method_1_code (5 : Nat) (Option.none : Option Jvm.ClassFile.FieldType)).before args0 about1 = true := code_word (m := ⟨2, 0⟩) (meth := k2m0) (c := k2c0) (by decide +kernel) rfl rfl rfl (by decide +kernel)
set_option maxRecDepth 65536 in
theorem w_c2 : (Jvm.Cond.code ({ cls := "java/lang/Object", name := "<init>", desc := "()V" } : Jvm.MethodName) object_method_1_code (1 : Nat) (Option.none : Option Jvm.ClassFile.FieldType)).before args0 about1 = true := code_word (m := ⟨0, 0⟩) (meth := k0m0) (c := k0c0) (by decide +kernel) rfl rfl rfl (by decide +kernel)
set_option maxRecDepth 65536 in
theorem w_c3 : (Jvm.Cond.code ({ cls := "com/example/inchworm/inchworm/photos/GeoPosition", name := "isOnEarth", desc := "(DD)Z" } : Jvm.MethodName) prog_50_method_2_code (4 : Nat) (Option.some Jvm.ClassFile.FieldType.boolean)).before args0 about1 = true := code_word (m := ⟨2, 1⟩) (meth := k2m1) (c := k2c1) (by decide +kernel) rfl rfl rfl (by decide +kernel)
set_option maxRecDepth 65536 in
theorem w_c4 : (Jvm.Cond.code ({ cls := "java/lang/Math", name := "abs", desc := "(D)D" } : Jvm.MethodName) jdk_29_method_64_code (2 : Nat) (Option.some Jvm.ClassFile.FieldType.double)).before args0 about1 = true := code_word (m := ⟨3, 1⟩) (meth := k3m1) (c := k3c1) (by decide +kernel) rfl rfl rfl (by decide +kernel)
set_option maxRecDepth 65536 in
theorem w_c5 : (Jvm.Cond.code ({ cls := "com/example/inchworm/inchworm/photos/GeoPosition", name := "isZero", desc := "()Z" } : Jvm.MethodName) prog_50_method_5_code (1 : Nat) (Option.some Jvm.ClassFile.FieldType.boolean)).before args0 about1 = true := code_word (m := ⟨2, 2⟩) (meth := k2m2) (c := k2c2) (by decide +kernel) rfl rfl rfl (by decide +kernel)
def codes1 : List Jvm.Cond := [Jvm.Cond.code x code maxLocals ret, Jvm.Cond.code ({ cls := "com/example/inchworm/inchworm/photos/GeoPosition", name := "<init>", desc := "(DD)V" } : Jvm.MethodName) prog_50_method_1_code (5 : Nat) (Option.none : Option Jvm.ClassFile.FieldType), Jvm.Cond.code ({ cls := "java/lang/Object", name := "<init>", desc := "()V" } : Jvm.MethodName) object_method_1_code (1 : Nat) (Option.none : Option Jvm.ClassFile.FieldType), Jvm.Cond.code ({ cls := "com/example/inchworm/inchworm/photos/GeoPosition", name := "isOnEarth", desc := "(DD)Z" } : Jvm.MethodName) prog_50_method_2_code (4 : Nat) (Option.some Jvm.ClassFile.FieldType.boolean), Jvm.Cond.code ({ cls := "java/lang/Math", name := "abs", desc := "(D)D" } : Jvm.MethodName) jdk_29_method_64_code (2 : Nat) (Option.some Jvm.ClassFile.FieldType.double), Jvm.Cond.code ({ cls := "com/example/inchworm/inchworm/photos/GeoPosition", name := "isZero", desc := "()Z" } : Jvm.MethodName) prog_50_method_5_code (1 : Nat) (Option.some Jvm.ClassFile.FieldType.boolean)]
set_option maxRecDepth 65536 in
theorem codes_eq : words1.filter isCode = codes1 := rfl
theorem w_codes : ∀ c ∈ words1.filter isCode, c.before args0 about1 = true := by
  rw [codes_eq]
  intro c hc
  simp only [codes1, List.mem_cons, List.not_mem_nil, or_false] at hc
  rcases hc with rfl | rfl | rfl | rfl | rfl | rfl
  · exact w_c0
  · exact w_c1
  · exact w_c2
  · exact w_c3
  · exact w_c4
  · exact w_c5
set_option maxRecDepth 65536 in
theorem w_t1 : (words1.take 24).all (fun c => isCode c || c.before args0 about1) = true := by decide +kernel
set_option maxRecDepth 65536 in
theorem w_t2 : (words1.drop 24).all (fun c => isCode c || c.before args0 about1) = true := by decide +kernel
theorem w_tables : (allAtoms (Jvm.Cond.code x code maxLocals ret :: tables_1)).before args0 about1 = true := by
  rw [allAtoms_all]
  show words1.all (fun c => c.before args0 about1) = true
  refine all_split ?_ w_codes
  rw [← List.take_append_drop 24 words1, List.all_append, w_t1, w_t2]
  rfl
set_option maxRecDepth 65536 in
theorem w_case : (Jvm.Cond.and given_1 narrow_1).before args0 about1 = true := by decide +kernel
theorem w_applies : (headSpec (Jvm.Cond.code x code maxLocals ret :: tables_1) room_1).applies x e0.platform about1 = true :=
  (Spec.applies_iff w_frames).mpr ⟨w_running, w_runnable, w_alone, w_named, w_hears, w_ripe, w_room, w_tables⟩
theorem atStart : AtStart classFile x code maxLocals ret World_1 tables_1 room_1 Calls_1 rest_1 Pre_1 launch0 p0 e0 about1 theMethod args0 below0 :=
  ⟨lists_1, trivial, launch0.admits_env _ _ _, launch0.least_env, fairChoices_fair.cas, fairChoices_fair.clock, w_frames, w_args, w_heap, w_applies, trivial, trivial, w_case⟩
end start1
theorem witness_1 : WitnessClaimed_1 := ⟨start1.p0, start1.e0, start1.about1, start1.theMethod, start1.args0, start1.below0, start1.atStart⟩
end Jvm.Pilot.@@N@@
