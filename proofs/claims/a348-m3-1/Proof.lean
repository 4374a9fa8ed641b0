import JvmDerived
import JvmDerived.Pilot.@@N@@Statement
import JvmDerived.Pilot.@@N@@Code
set_option linter.unusedVariables false
set_option linter.unusedSimpArgs false
namespace Jvm.RoadKit
open Sem ClassFile Op Lib Jvm.Stand Jvm.Free Jvm.LawKit
section New
variable {p : Program} {l : Launch} {e : Env} {R : Room} {s : State} {m : MethodId} {args : Array Value} {below : List Frame} {meth : Method} {c : Code} {T : State} {locs : List Loc} {cells slots : Nat}
theorem retI (X : Stand p l e R s m args below meth c T locs cells slots) (hx : p.tables.exec = Jvm.exec) {pc : Nat} {Ls : Array Slot} {z : Int32} {rest : List Value} (hret : meth.sig.returnType = some .int) (hd : decode c.code pc = .ok (.ireturn, 1)) {fs : List Frame}
    (hl : ∀ (f : JFrame) (acts : List Action), f.method = m → f.locked = none → f.entered = [] → (doReturn e (T.setTop f) acts (some (.int z))).1 = T.setFrames fs) : Steps p.tables e below (T.setTop (mkF m pc Ls (.int z :: rest))) (T.setFrames fs) := by
  have hm' : T.vm.method? m = some meth := X.method'
  have hn : narrow .int (.int z) = .int z := rfl
  show Steps p.tables e below (T.setTop { method := m, pc := pc, locals := Ls, stack := _ :: rest, locked := none }) _
  jvm_step X.here [X.here.top, hx, hd, hm', hret, hn]
  first | (intro acts; rw [hl _ acts rfl rfl rfl]) | rw [hl _ _ rfl rfl rfl]
  exact Steps.refl _
end New
/-- the run from S ends, with Post of its end -/
def Go (tb : Tables) (e : Env) (below : List Frame) (Post : Outcome → State → Prop) (S : State) : Prop := ∃ s₂ o, Steps tb e below S s₂ ∧ s₂.status = .running ∧ Ended s₂ below o ∧ Post o s₂
theorem Go.step {tb : Tables} {e : Env} {below : List Frame} {Post : Outcome → State → Prop} {S S' : State} (h : ∀ t, Steps tb e below S' t → Steps tb e below S t) (g : Go tb e below Post S') : Go tb e below Post S := by
  obtain ⟨s₂, o, a, b⟩ := g
  exact ⟨s₂, o, h _ a, b⟩
theorem at_of {c : Cell} {vs : List Value} {d v : Value} {j : Int32} (H : Has c vs d) (hin : ¬ (j < 0 ∨ c.slots.size ≤ j.toNatClampNeg)) (e : vs.getD j.toNatClampNeg d = v) : c.slots[j.toNatClampNeg]? = some v := by
  have q : j.toNatClampNeg < c.slots.size := Nat.lt_of_not_le (fun h => hin (Or.inr h))
  rw [H _ q, e]
end Jvm.RoadKit
namespace Jvm.Pilot.@@N@@
open Jvm Jvm.ClassFile Sem Op Lib Jvm.Free Jvm.Stand Jvm.LawKit Jvm.RoadKit Bundle Jvm.Pilot.@@N@@.Jvm.D
def own_max (p q : Int32) : Int32 := if p < q then q else p
def own_hi (v : Int64) : Int64 := ((v.toUInt64 >>> ((32 : Int32) &&& 0x3f).toInt64.toUInt64).toInt64)
def own_block (v : Int64) (z : Int32) : Int32 := ((((own_hi v * z.toInt64).toUInt64 >>> ((32 : Int32) &&& 0x3f).toInt64.toUInt64).toInt64).toInt32)
theorem own_z (b : Int32) : 1 ≤ (own_max (1 : Int32) (b &&& (2147483647 : Int32))).toInt := by
  have h := c_mask b 2147483647 31 (by decide) (by decide)
  have e1 : (1 : Int32).toInt = 1 := by decide
  unfold own_max
  split
  · rename_i q
    rw [Int32.lt_iff_toInt_lt] at q
    omega
  · omega
theorem own_law (v : Int64) (z : Int32) (hz : 1 ≤ z.toInt) :
    0 ≤ (own_block v z).toInt ∧ (own_block v z).toInt < z.toInt ∧ (own_hi v * z.toInt64).toInt / 4294967296 = (own_block v z).toInt ∧ 0 ≤ (own_hi v * z.toInt64).toInt := by
  have h1 : (own_hi v).toInt = (v.toInt % 18446744073709551616) / (2 ^ 32 : Nat) := c_lushr v 32 32 (by decide) (by decide)
  have h2 := c_lmul (own_hi v) z.toInt64
  rw [c_i2l] at h2
  have rz := rng32 z
  have b1 : 0 ≤ (own_hi v).toInt := by omega
  have b2 : (own_hi v).toInt ≤ 4294967295 := by omega
  have t1 : 0 ≤ (own_hi v).toInt * z.toInt := Int.mul_nonneg b1 (by omega)
  have t2 : (own_hi v).toInt * z.toInt ≤ 4294967295 * z.toInt := Int.mul_le_mul_of_nonneg_right b2 (by omega)
  have rp := rng64 (own_hi v * z.toInt64)
  generalize ht : (own_hi v).toInt * z.toInt = t at *
  have h3 : (own_hi v * z.toInt64).toInt = t := by omega
  have h4 := c_lushr (own_hi v * z.toInt64) 32 32 (by decide) (by decide)
  rw [h3] at h4
  have h5 := c_l2i (((own_hi v * z.toInt64).toUInt64 >>> ((32 : Int32) &&& 0x3f).toInt64.toUInt64).toInt64)
  have h6 := rng32 (own_block v z)
  have h7 : (own_block v z) = ((((own_hi v * z.toInt64).toUInt64 >>> ((32 : Int32) &&& 0x3f).toInt64.toUInt64).toInt64).toInt32) := rfl
  rw [← h7, h4] at h5
  rw [h3]
  omega
theorem own_all (v : Int64) (z r : Int32) (p : Int64) (hz : 1 ≤ z.toInt) (er : r = own_block v z) (ep : p = own_hi v * z.toInt64) :
    (¬ lcmpW r.toInt64 (0 : Int64) < (0 : Int32)) ∧ lcmpW r.toInt64 z.toInt64 < (0 : Int32) ∧ (¬ (0 : Int32) < lcmpW (r.toInt64 <<< ((32 : Int32) &&& 0x3f).toInt64) p) ∧ lcmpW p ((r.toInt64 + (1 : Int64)) <<< ((32 : Int32) &&& 0x3f).toInt64) < (0 : Int32) := by
  have h := own_law v z hz
  rw [← er, ← ep] at h
  rw [lw_lt, lw_lt, lw_gt, lw_lt, Int64.lt_iff_toInt_lt, Int64.lt_iff_toInt_lt, Int64.lt_iff_toInt_lt, Int64.lt_iff_toInt_lt]
  have a1 := c_lshl r.toInt64 32 32 (by decide)
  have a2 := c_lshl (r.toInt64 + (1 : Int64)) 32 32 (by decide)
  have a3 := c_ladd r.toInt64 (1 : Int64)
  have a4 := c_i2l r
  have a5 := c_i2l z
  have a6 := rng32 r
  have a7 := rng32 z
  have a8 := rng64 (r.toInt64 <<< ((32 : Int32) &&& 0x3f).toInt64)
  have a9 := rng64 ((r.toInt64 + (1 : Int64)) <<< ((32 : Int32) &&& 0x3f).toInt64)
  have a10 := rng64 (r.toInt64 + (1 : Int64))
  have a11 := rng64 p
  have e0 : (0 : Int64).toInt = 0 := by decide
  have e1 : (1 : Int64).toInt = 1 := by decide
  omega
theorem d1_0 : decode jdk_29_method_65_code 0 = .ok (.iload_n 0, 1) := by decide +kernel
theorem d1_1 : decode jdk_29_method_65_code 1 = .ok (.iload_n 1, 1) := by decide +kernel
theorem d1_2 : decode jdk_29_method_65_code 2 = .ok (.if_icmp .lt 7, 3) := by decide +kernel
theorem d1_5 : decode jdk_29_method_65_code 5 = .ok (.iload_n 0, 1) := by decide +kernel
theorem d1_6 : decode jdk_29_method_65_code 6 = .ok (.goto 4, 3) := by decide +kernel
theorem d1_9 : decode jdk_29_method_65_code 9 = .ok (.iload_n 1, 1) := by decide +kernel
theorem d1_10 : decode jdk_29_method_65_code 10 = .ok (.ireturn, 1) := by decide +kernel
theorem ef_rm1 (m : MethodId) (p1 : Int32) (p2 : Int32) : entryFrame m #[(.int p1), (.int p2)] 2 = mkF m 0 #[.val (.int p1), .val (.int p2)] [] := by first | (simp [entryFrame, mkF, argsToLocals, Value.category]; done) | rfl
def Qrm1 (Z : State) (p1 : Int32) (p2 : Int32) (h0 : Heap) (n0 : Nat) (v : Option Value) (h : Heap) (L : List Loc) : Prop := v = some (.int (own_max p1 p2)) ∧ Fr n0 L ∧ h = h0
set_option maxRecDepth 65536 in
set_option maxHeartbeats 40000000 in
theorem rm1 (l : Launch) (Z : State) (a0 : Array Value) (hw : ∀ d ∈ tables_1, d.before a0 Z = true) (ws : List Jvm.Cond) (p1 : Int32) (p2 : Int32) (h0 : Heap) (n0 : Nat) (Z0 : n0 ≤ h0.size) :
    MetFree l (⟨"java/lang/Math", "max", "(II)I"⟩ : MethodName) (head1 (Jvm.Cond.code (⟨"java/lang/Math", "max", "(II)I"⟩ : MethodName) jdk_29_method_65_code 2 (some .int) :: ws) ({ frames := 0, cells := 0, slots := 0, locals := 0 } : Room)) (fun a U => a = #[(.int p1), (.int p2)] ∧ Z.Warmed39 U.vm ∧ U.heap = h0) (fun _ _ _ _ _ => True) (fun _ U o U' => ∃ v L, o = .returned v ∧ Qrm1 Z p1 p2 h0 n0 v U'.heap L ∧ FrameEnd U o U' L ({ frames := 0, cells := 0, slots := 0, locals := 0 } : Room).cells ({ frames := 0, cells := 0, slots := 0, locals := 0 } : Room).slots) := by
  refine MetFree.of_bodySF (Jvm.Free.JP.mathPlain rfl (by decide +kernel)) hisR ?_
  intro p e s m args below meth c s₁ Bd hml0 hP hK
  obtain ⟨rfl, hZ, hh⟩ := hP
  have hx := Bd.exec
  have hby := Bd.bytes
  have hml : c.maxLocals = 2 := hml0
  have hown : s.vm.findClass "java/lang/Math" = some m.cls := findClass_of_methodNamed Bd.named
  have hnm := (name_of_methodNamed Bd.named Bd.method).1
  have X0 : Stand p l e ({ frames := 0, cells := 0, slots := 0, locals := 0 } : Room) s m #[(.int p1), (.int p2)] below meth c s₁ [] 0 0 := Stand.of_body Bd
  have e0 : s₁.heap = h0 := by rw [← hh, Bd.state]; rfl
  have N0 := Fr.nil n0
  show Go p.tables e below (fun o U' => ∃ v L, o = .returned v ∧ Qrm1 Z p1 p2 h0 n0 v U'.heap L ∧ FrameEnd s o U' L ({ frames := 0, cells := 0, slots := 0, locals := 0 } : Room).cells ({ frames := 0, cells := 0, slots := 0, locals := 0 } : Room).slots) _
  refine Go.step (fun t k => castTop (ef_rm1 m p1 p2) k) ?_
  show Go p.tables e below _ (s₁.setTop (mkF m 0 #[.val (.int p1), .val (.int p2)] []))
  refine Go.step (fun _ k => XS.iloadN X0.here hx rfl (hb hby d1_0) rfl k) ?_
  show Go p.tables e below _ (s₁.setTop (mkF m 1 #[.val (.int p1), .val (.int p2)] [(.int p1)]))
  refine Go.step (fun _ k => XS.iloadN X0.here hx rfl (hb hby d1_1) rfl k) ?_
  show Go p.tables e below _ (s₁.setTop (mkF m 2 #[.val (.int p1), .val (.int p2)] [(.int p2), (.int p1)]))
  by_cases hc2_1 : p1 < p2
  · refine Go.step (fun _ k => XS.icmpYes X0.here hx rfl (pc0 := 2) (pc' := 9) rfl (hb hby d1_2) rfl (tlt hc2_1).1 (by decide) (by decide) k) ?_
    show Go p.tables e below _ (s₁.setTop (mkF m 9 #[.val (.int p1), .val (.int p2)] []))
    refine Go.step (fun _ k => XS.iloadN X0.here hx rfl (hb hby d1_9) rfl k) ?_
    show Go p.tables e below _ (s₁.setTop (mkF m 10 #[.val (.int p1), .val (.int p2)] [(.int p2)]))
    obtain ⟨fs, hr, hrun, hended, hW, hsame⟩ := X0.leave (v := some (.int p2)) (fun h => by rw [Bd.returns] at h; cases h)
    refine ⟨_, _, retI X0 hx Bd.returns (hb hby d1_10) hr, hrun, hended, _, _, rfl, ?_, ⟨_, rfl⟩, hW, hsame.mono (by decide) (by decide)⟩
    show Qrm1 Z p1 p2 h0 n0 _ s₁.heap _
    rw [e0]
    refine ⟨?_, N0, rfl⟩
    have q : own_max p1 p2 = p2 := by simp only [own_max]; simp [hc2_1]
    rw [q]
  · refine Go.step (fun _ k => XS.icmpNo X0.here hx rfl (hb hby d1_2) rfl (flt hc2_1).1 k) ?_
    show Go p.tables e below _ (s₁.setTop (mkF m 5 #[.val (.int p1), .val (.int p2)] []))
    refine Go.step (fun _ k => XS.iloadN X0.here hx rfl (hb hby d1_5) rfl k) ?_
    show Go p.tables e below _ (s₁.setTop (mkF m 6 #[.val (.int p1), .val (.int p2)] [(.int p1)]))
    refine Go.step (fun _ k => XS.goto X0.here hx rfl (pc0 := 6) (pc' := 10) rfl (hb hby d1_6) (by decide) (by decide) k) ?_
    show Go p.tables e below _ (s₁.setTop (mkF m 10 #[.val (.int p1), .val (.int p2)] [(.int p1)]))
    obtain ⟨fs, hr, hrun, hended, hW, hsame⟩ := X0.leave (v := some (.int p1)) (fun h => by rw [Bd.returns] at h; cases h)
    refine ⟨_, _, retI X0 hx Bd.returns (hb hby d1_10) hr, hrun, hended, _, _, rfl, ?_, ⟨_, rfl⟩, hW, hsame.mono (by decide) (by decide)⟩
    show Qrm1 Z p1 p2 h0 n0 _ s₁.heap _
    rw [e0]
    refine ⟨?_, N0, rfl⟩
    have q : own_max p1 p2 = p1 := by simp only [own_max]; simp [hc2_1]
    rw [q]
theorem pn_0 : plainName "java/lang/Record" = true := by first | (simp [plainName, overriddenIn]; done) | decide +kernel
theorem d3_0 : decode jdk_30_method_1_code 0 = .ok (.aload_n 0, 1) := by decide +kernel
theorem d3_1 : decode jdk_30_method_1_code 1 = .ok (.invokespecial 1, 3) := by decide +kernel
theorem d3_4 : decode jdk_30_method_1_code 4 = .ok (.return_, 1) := by decide +kernel
theorem ef_rm3 (m : MethodId) (a1 : Addr) : entryFrame m #[(.ref a1)] 1 = mkF m 0 #[.val (.ref a1)] [] := by first | (simp [entryFrame, mkF, argsToLocals, Value.category]; done) | rfl
def Qrm3 (Z : State) (a1 : Addr) (h0 : Heap) (n0 : Nat) (v : Option Value) (h : Heap) (L : List Loc) : Prop := v = none ∧ Fr n0 L ∧ h = h0
set_option maxRecDepth 65536 in
set_option maxHeartbeats 40000000 in
theorem rm3 (l : Launch) (Z : State) (a0 : Array Value) (hw : ∀ d ∈ tables_1, d.before a0 Z = true) (ws : List Jvm.Cond) (a1 : Addr) (h0 : Heap) (n0 : Nat) (Z0 : n0 ≤ h0.size) :
    MetFree l (⟨"java/lang/Record", "<init>", "()V"⟩ : MethodName) (head1 (Jvm.Cond.code (⟨"java/lang/Record", "<init>", "()V"⟩ : MethodName) jdk_30_method_1_code 1 none :: ws) ({ frames := 1, cells := 0, slots := 0, locals := 12 } : Room)) (fun a U => a = #[(.ref a1)] ∧ Z.Warmed39 U.vm ∧ U.heap = h0) (fun _ _ _ _ _ => True) (fun _ U o U' => ∃ v L, o = .returned v ∧ Qrm3 Z a1 h0 n0 v U'.heap L ∧ FrameEnd U o U' L ({ frames := 1, cells := 0, slots := 0, locals := 12 } : Room).cells ({ frames := 1, cells := 0, slots := 0, locals := 12 } : Room).slots) := by
  refine MetFree.of_bodySF (plainFor_of_name pn_0) hisR ?_
  intro p e s m args below meth c s₁ Bd hml0 hP hK
  obtain ⟨rfl, hZ, hh⟩ := hP
  have hx := Bd.exec
  have hby := Bd.bytes
  have hml : c.maxLocals = 1 := hml0
  have hown : s.vm.findClass "java/lang/Record" = some m.cls := findClass_of_methodNamed Bd.named
  have hnm := (name_of_methodNamed Bd.named Bd.method).1
  have X0 : Stand p l e ({ frames := 1, cells := 0, slots := 0, locals := 12 } : Room) s m #[(.ref a1)] below meth c s₁ [] 0 0 := Stand.of_body Bd
  have e0 : s₁.heap = h0 := by rw [← hh, Bd.state]; rfl
  have N0 := Fr.nil n0
  show Go p.tables e below (fun o U' => ∃ v L, o = .returned v ∧ Qrm3 Z a1 h0 n0 v U'.heap L ∧ FrameEnd s o U' L ({ frames := 1, cells := 0, slots := 0, locals := 12 } : Room).cells ({ frames := 1, cells := 0, slots := 0, locals := 12 } : Room).slots) _
  refine Go.step (fun t k => castTop (ef_rm3 m a1) k) ?_
  show Go p.tables e below _ (s₁.setTop (mkF m 0 #[.val (.ref a1)] []))
  refine Go.step (fun _ k => XS.aloadN X0.here hx rfl (hb hby d3_0) rfl rfl k) ?_
  show Go p.tables e below _ (s₁.setTop (mkF m 1 #[.val (.ref a1)] [(.ref a1)]))
  obtain ⟨T1, X1, e1, st1⟩ := initO X0 hx hZ hown (hw _ (List.mem_of_getElem? (i := 16) rfl)) (hw _ (List.mem_of_getElem? (i := 17) rfl)) (hw _ (List.mem_of_getElem? (i := 18) rfl)) e0 (g := (mkF m 1 #[.val (.ref a1)] [(.ref a1)])) rfl (by rw [hml]; rfl) rfl (hb hby d3_1) (by decide) (W := 0) (by show 2 * 0 + _ ≤ _; exact Nat.le_of_eq rfl) (by decide)
  refine Go.step st1 ?_
  show Go p.tables e below _ (T1.setTop (mkF m 4 #[.val (.ref a1)] []))
  obtain ⟨fs, hr, hrun, hended, hW, hsame⟩ := X1.leave (v := none) (fun _ => rfl)
  refine ⟨_, _, X1.returnOut hx Bd.returns (hb hby d3_4) hr, hrun, hended, _, _, rfl, ?_, ⟨_, rfl⟩, hW, hsame.mono (by decide) (by decide)⟩
  show Qrm3 Z a1 h0 n0 _ T1.heap _
  rw [e1]
  refine ⟨?_, N0, rfl⟩
  rfl
theorem pd_0 : parseMethodDescriptor "()V" = some ⟨[], none⟩ := by decide +kernel
theorem pn_1 : plainName "com/example/sibyl/sibyl/core/BlockHash" = true := by first | (simp [plainName, overriddenIn]; done) | decide +kernel
theorem d2_0 : decode prog_3_method_1_code 0 = .ok (.aload_n 0, 1) := by decide +kernel
theorem d2_1 : decode prog_3_method_1_code 1 = .ok (.invokespecial 1, 3) := by decide +kernel
theorem d2_4 : decode prog_3_method_1_code 4 = .ok (.aload_n 0, 1) := by decide +kernel
theorem d2_5 : decode prog_3_method_1_code 5 = .ok (.lload_n 1, 1) := by decide +kernel
theorem d2_6 : decode prog_3_method_1_code 6 = .ok (.putfield 7, 3) := by decide +kernel
theorem d2_9 : decode prog_3_method_1_code 9 = .ok (.return_, 1) := by decide +kernel
theorem ef_rm2 (m : MethodId) (a1 : Addr) (q1 : Int64) (u1 : Value) : entryFrame m #[(.ref a1), (.long q1)] 3 = mkF m 0 #[.val (.ref a1), .val (.long q1), .second] [] := by first | (simp [entryFrame, mkF, argsToLocals, Value.category]; done) | rfl
def Qrm2 (Z : State) (a1 : Addr) (q1 : Int64) (u1 : Value) (h0 : Heap) (n0 : Nat) (v : Option Value) (h : Heap) (L : List Loc) : Prop := v = none ∧ Fr n0 L ∧ Keep h0 h [a1] ∧ Exa Z h a1 "com/example/sibyl/sibyl/core/BlockHash" ∧ Fld Z h a1 "com/example/sibyl/sibyl/core/BlockHash" "value" "J" (.long q1)
set_option maxRecDepth 65536 in
set_option maxHeartbeats 40000000 in
theorem rm2 (l : Launch) (Z : State) (a0 : Array Value) (hw : ∀ d ∈ tables_1, d.before a0 Z = true) (ws : List Jvm.Cond) (a1 : Addr) (q1 : Int64) (u1 : Value) (h0 : Heap) (n0 : Nat) (Z0 : n0 ≤ h0.size) (E1 : Exa Z h0 a1 "com/example/sibyl/sibyl/core/BlockHash") (F1 : Fld Z h0 a1 "com/example/sibyl/sibyl/core/BlockHash" "value" "J" u1) (g_a1 : n0 ≤ a1) :
    MetFree l (⟨"com/example/sibyl/sibyl/core/BlockHash", "<init>", "(J)V"⟩ : MethodName) (head1 (Jvm.Cond.code (⟨"com/example/sibyl/sibyl/core/BlockHash", "<init>", "(J)V"⟩ : MethodName) prog_3_method_1_code 3 none :: ws) ({ frames := 2, cells := 0, slots := 0, locals := 24 } : Room)) (fun a U => a = #[(.ref a1), (.long q1)] ∧ Z.Warmed39 U.vm ∧ U.heap = h0) (fun _ _ _ _ _ => True) (fun _ U o U' => ∃ v L, o = .returned v ∧ Qrm2 Z a1 q1 u1 h0 n0 v U'.heap L ∧ FrameEnd U o U' L ({ frames := 2, cells := 0, slots := 0, locals := 24 } : Room).cells ({ frames := 2, cells := 0, slots := 0, locals := 24 } : Room).slots) := by
  refine MetFree.of_bodySF (plainFor_of_name pn_1) hisR ?_
  intro p e s m args below meth c s₁ Bd hml0 hP hK
  obtain ⟨rfl, hZ, hh⟩ := hP
  have hx := Bd.exec
  have hby := Bd.bytes
  have hml : c.maxLocals = 3 := hml0
  have hown : s.vm.findClass "com/example/sibyl/sibyl/core/BlockHash" = some m.cls := findClass_of_methodNamed Bd.named
  have hnm := (name_of_methodNamed Bd.named Bd.method).1
  have X0 : Stand p l e ({ frames := 2, cells := 0, slots := 0, locals := 24 } : Room) s m #[(.ref a1), (.long q1)] below meth c s₁ [] 0 0 := Stand.of_body Bd
  have e0 : s₁.heap = h0 := by rw [← hh, Bd.state]; rfl
  have N0 := Fr.nil n0
  show Go p.tables e below (fun o U' => ∃ v L, o = .returned v ∧ Qrm2 Z a1 q1 u1 h0 n0 v U'.heap L ∧ FrameEnd s o U' L ({ frames := 2, cells := 0, slots := 0, locals := 24 } : Room).cells ({ frames := 2, cells := 0, slots := 0, locals := 24 } : Room).slots) _
  refine Go.step (fun t k => castTop (ef_rm2 m a1 q1 u1) k) ?_
  show Go p.tables e below _ (s₁.setTop (mkF m 0 #[.val (.ref a1), .val (.long q1), .second] []))
  have K1 : Keep h0 h0 [a1] := (Keep.refl h0 [a1])
  refine Go.step (fun _ k => XS.aloadN X0.here hx rfl (hb hby d2_0) rfl rfl k) ?_
  show Go p.tables e below _ (s₁.setTop (mkF m 1 #[.val (.ref a1), .val (.long q1), .second] [(.ref a1)]))
  obtain ⟨_, _, ⟨T2, L2, k2, n2⟩, -, X2, ⟨Lc2, hQ2, l2, y2, z2⟩, st2⟩ := X0.specialBack hx (y := (⟨"java/lang/Record", "<init>", "()V"⟩ : MethodName)) rfl hown (mvT hZ (hw _ (List.mem_of_getElem? (i := 11) rfl))) (mvT hZ (hw _ (List.mem_of_getElem? (i := 12) rfl))) (mvT hZ (hw _ (List.mem_of_getElem? (i := 15) rfl))) (by decide) (backOf (W := 0) (rm3 l Z a0 hw [] a1  h0 n0 Z0  ) hZ (hw _ (List.mem_of_getElem? (i := 15) rfl)) (hw _ (List.mem_of_getElem? (i := 14) rfl)) (by decide) (by decide)) (g := (mkF m 1 #[.val (.ref a1), .val (.long q1), .second] [(.ref a1)])) rfl (by rw [hml]; rfl) (Steps.refl _) (a := a1) (argsL := []) (rest := []) (lenOf pd_0 rfl) rfl (by show 2 * 0 + _ ≤ _; exact Nat.le_of_eq rfl) (hb hby d2_1) (fun _ _ => ⟨rfl, e0, (by decide : 0 + 0 ≤ _), (by decide : 0 + 0 ≤ _)⟩)
  dsimp only [Pt.U, Pt.locs, Pt.cells, Pt.slots] at X2 l2 y2 z2 st2 hQ2
  subst l2 y2 z2
  obtain ⟨rfl, N2q, eh2⟩ := hQ2
  have N2 := Fr.app N0 N2q
  refine Go.step (fun _ k => st2.trans k) ?_
  show Go p.tables e below _ (T2.setTop (mkF m 4 #[.val (.ref a1), .val (.long q1), .second] []))
  refine Go.step (fun _ k => XS.aloadN X2.here hx rfl (hb hby d2_4) rfl rfl k) ?_
  show Go p.tables e below _ (T2.setTop (mkF m 5 #[.val (.ref a1), .val (.long q1), .second] [(.ref a1)]))
  refine Go.step (fun _ k => XS.lloadN X2.here hx rfl (hb hby d2_5) rfl k) ?_
  show Go p.tables e below _ (T2.setTop (mkF m 6 #[.val (.ref a1), .val (.long q1), .second] [(.long q1), (.ref a1)]))
  obtain ⟨T3, h3, X3, e3, W3, st3⟩ := putF X2 hx hZ hown (host := "") (Or.inl (hw _ (List.mem_of_getElem? (i := 19) rfl))) Via.refl eh2 F1 E1 (Or.inr ⟨(hw _ (List.mem_of_getElem? (i := 20) rfl)), rfl, hnm⟩) (hw _ (List.mem_of_getElem? (i := 6) rfl)) (ty := .long) (by decide) rfl rfl (g := (mkF m 6 #[.val (.ref a1), .val (.long q1), .second] [(.long q1), (.ref a1)])) rfl rfl (hb hby d2_6)
  refine Go.step st3 ?_
  have N3 := Fr.snoc X3 N2 g_a1
  have F4 : Exa Z h3 a1 "com/example/sibyl/sibyl/core/BlockHash" := (E1.wr W3)
  have F5 : Fld Z h3 a1 "com/example/sibyl/sibyl/core/BlockHash" "value" "J" (.long q1) := (F1.same W3)
  have Z6 : n0 ≤ h3.size := (Nat.le_trans Z0 (Nat.le_of_eq W3.size.symm))
  have K7 : Keep h0 h3 [a1] := (K1.wr W3 (Or.inl (List.mem_of_getElem? (i := 0) rfl)))
  show Go p.tables e below _ (T3.setTop (mkF m 9 #[.val (.ref a1), .val (.long q1), .second] []))
  obtain ⟨fs, hr, hrun, hended, hW, hsame⟩ := X3.leave (v := none) (fun _ => rfl)
  refine ⟨_, _, X3.returnOut hx Bd.returns (hb hby d2_9) hr, hrun, hended, _, _, rfl, ?_, ⟨_, rfl⟩, hW, hsame.mono (by decide) (by decide)⟩
  show Qrm2 Z a1 q1 u1 h0 n0 _ T3.heap _
  rw [e3]
  refine ⟨?_, N3, K7, F4, F5⟩
  rfl
theorem d5_0 : decode prog_3_method_5_code 0 = .ok (.aload_n 0, 1) := by decide +kernel
theorem d5_1 : decode prog_3_method_5_code 1 = .ok (.getfield 7, 3) := by decide +kernel
theorem d5_4 : decode prog_3_method_5_code 4 = .ok (.bipush 32, 2) := by decide +kernel
theorem d5_6 : decode prog_3_method_5_code 6 = .ok (.lushr, 1) := by decide +kernel
theorem d5_7 : decode prog_3_method_5_code 7 = .ok (.iload_n 1, 1) := by decide +kernel
theorem d5_8 : decode prog_3_method_5_code 8 = .ok (.i2l, 1) := by decide +kernel
theorem d5_9 : decode prog_3_method_5_code 9 = .ok (.lmul, 1) := by decide +kernel
theorem d5_10 : decode prog_3_method_5_code 10 = .ok (.bipush 32, 2) := by decide +kernel
theorem d5_12 : decode prog_3_method_5_code 12 = .ok (.lushr, 1) := by decide +kernel
theorem d5_13 : decode prog_3_method_5_code 13 = .ok (.l2i, 1) := by decide +kernel
theorem d5_14 : decode prog_3_method_5_code 14 = .ok (.ireturn, 1) := by decide +kernel
theorem ef_rm5 (m : MethodId) (a1 : Addr) (p1 : Int32) (val : Int64) : entryFrame m #[(.ref a1), (.int p1)] 2 = mkF m 0 #[.val (.ref a1), .val (.int p1)] [] := by first | (simp [entryFrame, mkF, argsToLocals, Value.category]; done) | rfl
def Qrm5 (Z : State) (a1 : Addr) (p1 : Int32) (val : Int64) (h0 : Heap) (n0 : Nat) (v : Option Value) (h : Heap) (L : List Loc) : Prop := v = some (.int (own_block val p1)) ∧ Fr n0 L ∧ h = h0
set_option maxRecDepth 65536 in
set_option maxHeartbeats 40000000 in
theorem rm5 (l : Launch) (Z : State) (a0 : Array Value) (hw : ∀ d ∈ tables_1, d.before a0 Z = true) (ws : List Jvm.Cond) (a1 : Addr) (p1 : Int32) (val : Int64) (h0 : Heap) (n0 : Nat) (Z0 : n0 ≤ h0.size) (F1 : Fld Z h0 a1 "com/example/sibyl/sibyl/core/BlockHash" "value" "J" (.long val)) :
    MetFree l (⟨"com/example/sibyl/sibyl/core/BlockHash", "block", "(I)I"⟩ : MethodName) (head1 (Jvm.Cond.code (⟨"com/example/sibyl/sibyl/core/BlockHash", "block", "(I)I"⟩ : MethodName) prog_3_method_5_code 2 (some .int) :: ws) ({ frames := 0, cells := 0, slots := 0, locals := 0 } : Room)) (fun a U => a = #[(.ref a1), (.int p1)] ∧ Z.Warmed39 U.vm ∧ U.heap = h0) (fun _ _ _ _ _ => True) (fun _ U o U' => ∃ v L, o = .returned v ∧ Qrm5 Z a1 p1 val h0 n0 v U'.heap L ∧ FrameEnd U o U' L ({ frames := 0, cells := 0, slots := 0, locals := 0 } : Room).cells ({ frames := 0, cells := 0, slots := 0, locals := 0 } : Room).slots) := by
  refine MetFree.of_bodySF (plainFor_of_name pn_1) hisR ?_
  intro p e s m args below meth c s₁ Bd hml0 hP hK
  obtain ⟨rfl, hZ, hh⟩ := hP
  have hx := Bd.exec
  have hby := Bd.bytes
  have hml : c.maxLocals = 2 := hml0
  have hown : s.vm.findClass "com/example/sibyl/sibyl/core/BlockHash" = some m.cls := findClass_of_methodNamed Bd.named
  have hnm := (name_of_methodNamed Bd.named Bd.method).1
  have X0 : Stand p l e ({ frames := 0, cells := 0, slots := 0, locals := 0 } : Room) s m #[(.ref a1), (.int p1)] below meth c s₁ [] 0 0 := Stand.of_body Bd
  have e0 : s₁.heap = h0 := by rw [← hh, Bd.state]; rfl
  have N0 := Fr.nil n0
  show Go p.tables e below (fun o U' => ∃ v L, o = .returned v ∧ Qrm5 Z a1 p1 val h0 n0 v U'.heap L ∧ FrameEnd s o U' L ({ frames := 0, cells := 0, slots := 0, locals := 0 } : Room).cells ({ frames := 0, cells := 0, slots := 0, locals := 0 } : Room).slots) _
  refine Go.step (fun t k => castTop (ef_rm5 m a1 p1 val) k) ?_
  show Go p.tables e below _ (s₁.setTop (mkF m 0 #[.val (.ref a1), .val (.int p1)] []))
  refine Go.step (fun _ k => XS.aloadN X0.here hx rfl (hb hby d5_0) rfl rfl k) ?_
  show Go p.tables e below _ (s₁.setTop (mkF m 1 #[.val (.ref a1), .val (.int p1)] [(.ref a1)]))
  obtain ⟨T1, X1, e1, st1⟩ := getF X0 hx hZ hown (host := "") (Or.inl (hw _ (List.mem_of_getElem? (i := 19) rfl))) Via.refl e0 F1 (g := (mkF m 1 #[.val (.ref a1), .val (.int p1)] [(.ref a1)])) rfl rfl (hb hby d5_1)
  refine Go.step st1 ?_
  show Go p.tables e below _ (T1.setTop (mkF m 4 #[.val (.ref a1), .val (.int p1)] [(.long val)]))
  refine Go.step (fun _ k => XS.bipush X1.here hx rfl (hb hby d5_4) k) ?_
  show Go p.tables e below _ (T1.setTop (mkF m 6 #[.val (.ref a1), .val (.int p1)] [(.int (32 : Int32)), (.long val)]))
  refine Go.step (fun _ k => XS.lushr X1.here hx rfl (hb hby d5_6) rfl k) ?_
  show Go p.tables e below _ (T1.setTop (mkF m 7 #[.val (.ref a1), .val (.int p1)] [(.long ((val.toUInt64 >>> ((32 : Int32) &&& 0x3f).toInt64.toUInt64).toInt64))]))
  refine Go.step (fun _ k => XS.iloadN X1.here hx rfl (hb hby d5_7) rfl k) ?_
  show Go p.tables e below _ (T1.setTop (mkF m 8 #[.val (.ref a1), .val (.int p1)] [(.int p1), (.long ((val.toUInt64 >>> ((32 : Int32) &&& 0x3f).toInt64.toUInt64).toInt64))]))
  refine Go.step (fun _ k => XS.i2l X1.here hx rfl (hb hby d5_8) rfl k) ?_
  show Go p.tables e below _ (T1.setTop (mkF m 9 #[.val (.ref a1), .val (.int p1)] [(.long (p1.toInt64)), (.long ((val.toUInt64 >>> ((32 : Int32) &&& 0x3f).toInt64.toUInt64).toInt64))]))
  refine Go.step (fun _ k => XS.lmul X1.here hx rfl (hb hby d5_9) rfl k) ?_
  show Go p.tables e below _ (T1.setTop (mkF m 10 #[.val (.ref a1), .val (.int p1)] [(.long (((val.toUInt64 >>> ((32 : Int32) &&& 0x3f).toInt64.toUInt64).toInt64) * (p1.toInt64)))]))
  refine Go.step (fun _ k => XS.bipush X1.here hx rfl (hb hby d5_10) k) ?_
  show Go p.tables e below _ (T1.setTop (mkF m 12 #[.val (.ref a1), .val (.int p1)] [(.int (32 : Int32)), (.long (((val.toUInt64 >>> ((32 : Int32) &&& 0x3f).toInt64.toUInt64).toInt64) * (p1.toInt64)))]))
  refine Go.step (fun _ k => XS.lushr X1.here hx rfl (hb hby d5_12) rfl k) ?_
  show Go p.tables e below _ (T1.setTop (mkF m 13 #[.val (.ref a1), .val (.int p1)] [(.long (((((val.toUInt64 >>> ((32 : Int32) &&& 0x3f).toInt64.toUInt64).toInt64) * (p1.toInt64)).toUInt64 >>> ((32 : Int32) &&& 0x3f).toInt64.toUInt64).toInt64))]))
  refine Go.step (fun _ k => XS.l2i X1.here hx rfl (hb hby d5_13) rfl k) ?_
  show Go p.tables e below _ (T1.setTop (mkF m 14 #[.val (.ref a1), .val (.int p1)] [(.int ((((((val.toUInt64 >>> ((32 : Int32) &&& 0x3f).toInt64.toUInt64).toInt64) * (p1.toInt64)).toUInt64 >>> ((32 : Int32) &&& 0x3f).toInt64.toUInt64).toInt64).toInt32))]))
  obtain ⟨fs, hr, hrun, hended, hW, hsame⟩ := X1.leave (v := some (.int ((((((val.toUInt64 >>> ((32 : Int32) &&& 0x3f).toInt64.toUInt64).toInt64) * (p1.toInt64)).toUInt64 >>> ((32 : Int32) &&& 0x3f).toInt64.toUInt64).toInt64).toInt32))) (fun h => by rw [Bd.returns] at h; cases h)
  refine ⟨_, _, retI X1 hx Bd.returns (hb hby d5_14) hr, hrun, hended, _, _, rfl, ?_, ⟨_, rfl⟩, hW, hsame.mono (by decide) (by decide)⟩
  show Qrm5 Z a1 p1 val h0 n0 _ T1.heap _
  rw [e1]
  refine ⟨?_, N0, rfl⟩
  rfl
theorem pd_1 : parseMethodDescriptor "(II)I" = some ⟨[.int, .int], some .int⟩ := by decide +kernel
theorem pd_2 : parseMethodDescriptor "(J)V" = some ⟨[.long], none⟩ := by decide +kernel
theorem pd_3 : parseMethodDescriptor "(I)I" = some ⟨[.int], some .int⟩ := by decide +kernel
theorem pn_2 : plainName "com/example/sibyl/sibyl/core/BlockHashBlockPinLaw" = true := by first | (simp [plainName, overriddenIn]; done) | decide +kernel
theorem ef_rm0 (m : MethodId) (q1 : Int64) (p1 : Int32) : entryFrame m #[(.long q1), (.int p1)] maxLocals = mkF m 0 #[.val (.long q1), .second, .val (.int p1), .unset, .unset, .unset, .unset, .unset, .unset, .unset, .unset, .unset, .unset, .unset, .unset] [] := by first | (simp [entryFrame, mkF, argsToLocals, Value.category, maxLocals]; done) | rfl
def Qrm0 (Z : State) (q1 : Int64) (p1 : Int32) (h0 : Heap) (n0 : Nat) (v : Option Value) (h : Heap) (L : List Loc) : Prop := v = some (.int 1) ∧ Fr n0 L
set_option maxRecDepth 65536 in
set_option maxHeartbeats 40000000 in
theorem rm0 (l : Launch) (Z : State) (a0 : Array Value) (hw : ∀ d ∈ tables_1, d.before a0 Z = true) (ws : List Jvm.Cond) (q1 : Int64) (p1 : Int32) (h0 : Heap) (n0 : Nat) (Z0 : n0 ≤ h0.size) :
    MetFree l x (head1 (Jvm.Cond.code x code maxLocals ret :: ws) room_1) (fun a U => a = #[(.long q1), (.int p1)] ∧ Z.Warmed39 U.vm ∧ U.heap = h0) (fun _ _ _ _ _ => True) (fun _ U o U' => ∃ v L, o = .returned v ∧ Qrm0 Z q1 p1 h0 n0 v U'.heap L ∧ FrameEnd U o U' L room_1.cells room_1.slots) := by
  refine MetFree.of_bodySF (plainFor_of_name pn_2) hisR ?_
  intro p e s m args below meth c s₁ Bd hml0 hP hK
  obtain ⟨rfl, hZ, hh⟩ := hP
  have hx := Bd.exec
  have hby := Bd.bytes
  have hml : c.maxLocals = 15 := hml0
  have hown : s.vm.findClass "com/example/sibyl/sibyl/core/BlockHashBlockPinLaw" = some m.cls := findClass_of_methodNamed Bd.named
  have hnm := (name_of_methodNamed Bd.named Bd.method).1
  have X0 : Stand p l e room_1 s m #[(.long q1), (.int p1)] below meth c s₁ [] 0 0 := Stand.of_body Bd
  have e0 : s₁.heap = h0 := by rw [← hh, Bd.state]; rfl
  have N0 := Fr.nil n0
  show Go p.tables e below (fun o U' => ∃ v L, o = .returned v ∧ Qrm0 Z q1 p1 h0 n0 v U'.heap L ∧ FrameEnd s o U' L room_1.cells room_1.slots) _
  refine Go.step (fun t k => castTop (ef_rm0 m q1 p1) k) ?_
  show Go p.tables e below _ (s₁.setTop (mkF m 0 #[.val (.long q1), .second, .val (.int p1), .unset, .unset, .unset, .unset, .unset, .unset, .unset, .unset, .unset, .unset, .unset, .unset] []))
  refine Go.step (fun _ k => XS.iconst X0.here hx rfl (hb hby at_0) k) ?_
  show Go p.tables e below _ (s₁.setTop (mkF m 1 #[.val (.long q1), .second, .val (.int p1), .unset, .unset, .unset, .unset, .unset, .unset, .unset, .unset, .unset, .unset, .unset, .unset] [(.int (1 : Int32))]))
  refine Go.step (fun _ k => XS.iloadN X0.here hx rfl (hb hby at_1) rfl k) ?_
  show Go p.tables e below _ (s₁.setTop (mkF m 2 #[.val (.long q1), .second, .val (.int p1), .unset, .unset, .unset, .unset, .unset, .unset, .unset, .unset, .unset, .unset, .unset, .unset] [(.int p1), (.int (1 : Int32))]))
  refine Go.step (X0.ldcInt hx hown (mvT hZ (hw _ (List.mem_of_getElem? (i := 0) rfl))) (g := (mkF m 2 #[.val (.long q1), .second, .val (.int p1), .unset, .unset, .unset, .unset, .unset, .unset, .unset, .unset, .unset, .unset, .unset, .unset] [(.int p1), (.int (1 : Int32))])) rfl (hb hby at_2)) ?_
  show Go p.tables e below _ (s₁.setTop (mkF m 4 #[.val (.long q1), .second, .val (.int p1), .unset, .unset, .unset, .unset, .unset, .unset, .unset, .unset, .unset, .unset, .unset, .unset] [(.int (2147483647 : Int32)), (.int p1), (.int (1 : Int32))]))
  refine Go.step (fun _ k => XS.iand X0.here hx rfl (hb hby at_4) rfl k) ?_
  show Go p.tables e below _ (s₁.setTop (mkF m 5 #[.val (.long q1), .second, .val (.int p1), .unset, .unset, .unset, .unset, .unset, .unset, .unset, .unset, .unset, .unset, .unset, .unset] [(.int (p1 &&& (2147483647 : Int32))), (.int (1 : Int32))]))
  obtain ⟨_, _, ⟨T1, L1, k1, n1⟩, -, X1, ⟨Lc1, hQ1, l1, y1, z1⟩, st1⟩ := Jvm.LawKit.callS X0 hx (y := (⟨"java/lang/Math", "max", "(II)I"⟩ : MethodName)) hown (mvT hZ (hw _ (List.mem_of_getElem? (i := 1) rfl))) (mvT hZ (hw _ (List.mem_of_getElem? (i := 2) rfl))) (mvT hZ (hw _ (List.mem_of_getElem? (i := 3) rfl))) (mvT hZ (hw _ (List.mem_of_getElem? (i := 4) rfl))) (by decide) (backOf (W := 0) (rm1 l Z a0 hw [] (1 : Int32) (p1 &&& (2147483647 : Int32))  h0 n0 Z0  ) hZ (hw _ (List.mem_of_getElem? (i := 4) rfl)) (hw _ (List.mem_of_getElem? (i := 3) rfl)) (by decide) (by decide)) (g := (mkF m 5 #[.val (.long q1), .second, .val (.int p1), .unset, .unset, .unset, .unset, .unset, .unset, .unset, .unset, .unset, .unset, .unset, .unset] [(.int (p1 &&& (2147483647 : Int32))), (.int (1 : Int32))])) rfl (by rw [hml]; rfl) (argsL := [(.int (1 : Int32)), (.int (p1 &&& (2147483647 : Int32)))]) (rest := []) (lenOf pd_1 rfl) rfl (by show 2 * 0 + _ ≤ _; exact Nat.le_of_eq rfl) (hb hby at_5) (fun _ _ => ⟨rfl, e0, (by decide : 0 + 0 ≤ _), (by decide : 0 + 0 ≤ _)⟩)
  dsimp only [Pt.U, Pt.locs, Pt.cells, Pt.slots] at X1 l1 y1 z1 st1 hQ1
  subst l1 y1 z1
  obtain ⟨rfl, N1q, eh1⟩ := hQ1
  have N1 := Fr.app N0 N1q
  refine Go.step st1 ?_
  show Go p.tables e below _ (T1.setTop (mkF m 8 #[.val (.long q1), .second, .val (.int p1), .unset, .unset, .unset, .unset, .unset, .unset, .unset, .unset, .unset, .unset, .unset, .unset] [(.int (own_max (1 : Int32) (p1 &&& (2147483647 : Int32))))]))
  obtain ⟨z, e_z⟩ : ∃ nm_, nm_ = (own_max (1 : Int32) (p1 &&& (2147483647 : Int32))) := ⟨_, rfl⟩
  rw [← e_z]
  show Go p.tables e below _ (T1.setTop (mkF m 8 #[.val (.long q1), .second, .val (.int p1), .unset, .unset, .unset, .unset, .unset, .unset, .unset, .unset, .unset, .unset, .unset, .unset] [(.int z)]))
  refine Go.step (fun _ k => XS.istoreN X1.here hx rfl (hb hby at_8) rfl (l' := #[.val (.long q1), .second, .val (.int p1), .val (.int z), .unset, .unset, .unset, .unset, .unset, .unset, .unset, .unset, .unset, .unset, .unset]) rfl k) ?_
  show Go p.tables e below _ (T1.setTop (mkF m 9 #[.val (.long q1), .second, .val (.int p1), .val (.int z), .unset, .unset, .unset, .unset, .unset, .unset, .unset, .unset, .unset, .unset, .unset] []))
  obtain ⟨T2, h2, X2, e2, E2, A2, D2, -, st2⟩ := newO X1 hx hZ hown (hw _ (List.mem_of_getElem? (i := 5) rfl)) (hw _ (List.mem_of_getElem? (i := 6) rfl)) (hw _ (List.mem_of_getElem? (i := 7) rfl)) eh1 (g := (mkF m 9 #[.val (.long q1), .second, .val (.int p1), .val (.int z), .unset, .unset, .unset, .unset, .unset, .unset, .unset, .unset, .unset, .unset, .unset] [])) rfl (hb hby at_9) (by decide) (by decide)
  obtain ⟨b2, g2⟩ : ∃ z, z = h0.size := ⟨_, rfl⟩
  rw [← g2] at A2 D2 st2
  refine Go.step st2 ?_
  have g_b2 : n0 ≤ b2 := Nat.le_trans Z0 (Nat.le_of_eq g2.symm)
  have Z3 : n0 ≤ h2.size := (Nat.le_trans Z0 E2.1)
  have F4 : Fld Z h2 b2 "com/example/sibyl/sibyl/core/BlockHash" "value" "J" (.long (0 : Int64)) := D2 (Or.inr (hw _ (List.mem_of_getElem? (i := 20) rfl))) (ty := .long) (by decide)
  show Go p.tables e below _ (T2.setTop (mkF m 12 #[.val (.long q1), .second, .val (.int p1), .val (.int z), .unset, .unset, .unset, .unset, .unset, .unset, .unset, .unset, .unset, .unset, .unset] [(.ref b2)]))
  refine Go.step (fun _ k => XS.dup X2.here hx rfl (hb hby at_12) rfl rfl k) ?_
  show Go p.tables e below _ (T2.setTop (mkF m 13 #[.val (.long q1), .second, .val (.int p1), .val (.int z), .unset, .unset, .unset, .unset, .unset, .unset, .unset, .unset, .unset, .unset, .unset] [(.ref b2), (.ref b2)]))
  refine Go.step (fun _ k => XS.lloadN X2.here hx rfl (hb hby at_13) rfl k) ?_
  show Go p.tables e below _ (T2.setTop (mkF m 14 #[.val (.long q1), .second, .val (.int p1), .val (.int z), .unset, .unset, .unset, .unset, .unset, .unset, .unset, .unset, .unset, .unset, .unset] [(.long q1), (.ref b2), (.ref b2)]))
  obtain ⟨_, _, ⟨T5, L5, k5, n5⟩, -, X5, ⟨Lc5, hQ5, l5, y5, z5⟩, st5⟩ := X2.specialBack hx (y := (⟨"com/example/sibyl/sibyl/core/BlockHash", "<init>", "(J)V"⟩ : MethodName)) rfl hown (mvT hZ (hw _ (List.mem_of_getElem? (i := 8) rfl))) (mvT hZ (hw _ (List.mem_of_getElem? (i := 9) rfl))) (mvT hZ (hw _ (List.mem_of_getElem? (i := 10) rfl))) (by decide) (backOf (W := 1) (rm2 l Z a0 hw [] b2 q1 (.long (0 : Int64)) h2 n0 Z3 A2 F4 g_b2) hZ (hw _ (List.mem_of_getElem? (i := 10) rfl)) (hw _ (List.mem_of_getElem? (i := 7) rfl)) (by decide) (by decide)) (g := (mkF m 14 #[.val (.long q1), .second, .val (.int p1), .val (.int z), .unset, .unset, .unset, .unset, .unset, .unset, .unset, .unset, .unset, .unset, .unset] [(.long q1), (.ref b2), (.ref b2)])) rfl (by rw [hml]; rfl) (Steps.refl _) (a := b2) (argsL := [(.long q1)]) (rest := [(.ref b2)]) (lenOf pd_2 rfl) rfl (by show 2 * 0 + _ ≤ _; exact Nat.le_of_eq rfl) (hb hby at_14) (fun _ _ => ⟨rfl, e2, (by decide : 1 + 0 ≤ _), (by decide : 1 + 0 ≤ _)⟩)
  dsimp only [Pt.U, Pt.locs, Pt.cells, Pt.slots] at X5 l5 y5 z5 st5 hQ5
  subst l5 y5 z5
  obtain ⟨rfl, N5q, Kq5, P6, P7⟩ := hQ5
  have F8 : Exa Z T5.heap b2 "com/example/sibyl/sibyl/core/BlockHash" := (A2.keep Kq5)
  have Z9 : n0 ≤ T5.heap.size := (Nat.le_trans Z3 Kq5.1)
  have N5 := Fr.app N1 N5q
  refine Go.step (fun _ k => st5.trans k) ?_
  show Go p.tables e below _ (T5.setTop (mkF m 17 #[.val (.long q1), .second, .val (.int p1), .val (.int z), .unset, .unset, .unset, .unset, .unset, .unset, .unset, .unset, .unset, .unset, .unset] [(.ref b2)]))
  refine Go.step (fun _ k => XS.astore X5.here hx rfl (hb hby at_17) rfl rfl (l' := #[.val (.long q1), .second, .val (.int p1), .val (.int z), .val (.ref b2), .unset, .unset, .unset, .unset, .unset, .unset, .unset, .unset, .unset, .unset]) rfl k) ?_
  show Go p.tables e below _ (T5.setTop (mkF m 19 #[.val (.long q1), .second, .val (.int p1), .val (.int z), .val (.ref b2), .unset, .unset, .unset, .unset, .unset, .unset, .unset, .unset, .unset, .unset] []))
  refine Go.step (fun _ k => XS.aload X5.here hx rfl (hb hby at_19) rfl rfl k) ?_
  show Go p.tables e below _ (T5.setTop (mkF m 21 #[.val (.long q1), .second, .val (.int p1), .val (.int z), .val (.ref b2), .unset, .unset, .unset, .unset, .unset, .unset, .unset, .unset, .unset, .unset] [(.ref b2)]))
  refine Go.step (fun _ k => XS.iloadN X5.here hx rfl (hb hby at_21) rfl k) ?_
  show Go p.tables e below _ (T5.setTop (mkF m 22 #[.val (.long q1), .second, .val (.int p1), .val (.int z), .val (.ref b2), .unset, .unset, .unset, .unset, .unset, .unset, .unset, .unset, .unset, .unset] [(.int z), (.ref b2)]))
  obtain ⟨cq10, kq10, q10a, q10b, q10c⟩ := isOf hZ rfl P6
  obtain ⟨_, _, ⟨T10, L10, k10, n10⟩, -, X10, ⟨Lc10, hQ10, l10, y10, z10⟩, st10⟩ := X5.virtualBack hx (y := (⟨"com/example/sibyl/sibyl/core/BlockHash", "block", "(I)I"⟩ : MethodName)) (z := (⟨"com/example/sibyl/sibyl/core/BlockHash", "block", "(I)I"⟩ : MethodName)) hown (mvT hZ (hw _ (List.mem_of_getElem? (i := 21) rfl))) (mvT hZ (hw _ (List.mem_of_getElem? (i := 22) rfl))) (notFace_of_selects (args := #[]) (mvT hZ (hw _ (List.mem_of_getElem? (i := 24) rfl)))) (mvT hZ (hw _ (List.mem_of_getElem? (i := 24) rfl))) (mvT hZ (hw _ (List.mem_of_getElem? (i := 23) rfl))) (by decide) (backOf (W := 0) (rm5 l Z a0 hw [] b2 z q1 T5.heap n0 Z9 P7 ) hZ (hw _ (List.mem_of_getElem? (i := 25) rfl)) (hw _ (List.mem_of_getElem? (i := 7) rfl)) (by decide) (by decide)) q10a q10c (g := (mkF m 22 #[.val (.long q1), .second, .val (.int p1), .val (.int z), .val (.ref b2), .unset, .unset, .unset, .unset, .unset, .unset, .unset, .unset, .unset, .unset] [(.int z), (.ref b2)])) rfl (by rw [hml]; rfl) (Steps.refl _) (argsL := [(.int z)]) (rest := []) (lenOf pd_3 rfl) rfl (by show 2 * 0 + _ ≤ _; exact Nat.le_of_eq rfl) (hb hby at_22) (fun _ _ => ⟨rfl, rfl, (by decide : 1 + 0 ≤ _), (by decide : 1 + 0 ≤ _)⟩)
  dsimp only [Pt.U, Pt.locs, Pt.cells, Pt.slots] at X10 l10 y10 z10 st10 hQ10
  subst l10 y10 z10
  obtain ⟨rfl, N10q, eh10⟩ := hQ10
  have N10 := Fr.app N5 N10q
  refine Go.step (fun _ k => st10.trans k) ?_
  show Go p.tables e below _ (T10.setTop (mkF m 25 #[.val (.long q1), .second, .val (.int p1), .val (.int z), .val (.ref b2), .unset, .unset, .unset, .unset, .unset, .unset, .unset, .unset, .unset, .unset] [(.int (own_block q1 z))]))
  obtain ⟨r, e_r⟩ : ∃ nm_, nm_ = (own_block q1 z) := ⟨_, rfl⟩
  rw [← e_r]
  show Go p.tables e below _ (T10.setTop (mkF m 25 #[.val (.long q1), .second, .val (.int p1), .val (.int z), .val (.ref b2), .unset, .unset, .unset, .unset, .unset, .unset, .unset, .unset, .unset, .unset] [(.int r)]))
  refine Go.step (fun _ k => XS.i2l X10.here hx rfl (hb hby at_25) rfl k) ?_
  show Go p.tables e below _ (T10.setTop (mkF m 26 #[.val (.long q1), .second, .val (.int p1), .val (.int z), .val (.ref b2), .unset, .unset, .unset, .unset, .unset, .unset, .unset, .unset, .unset, .unset] [(.long (r.toInt64))]))
  refine Go.step (fun _ k => XS.lstore X10.here hx rfl (hb hby at_26) rfl (l' := #[.val (.long q1), .second, .val (.int p1), .val (.int z), .val (.ref b2), .val (.long (r.toInt64)), .second, .unset, .unset, .unset, .unset, .unset, .unset, .unset, .unset]) rfl k) ?_
  show Go p.tables e below _ (T10.setTop (mkF m 28 #[.val (.long q1), .second, .val (.int p1), .val (.int z), .val (.ref b2), .val (.long (r.toInt64)), .second, .unset, .unset, .unset, .unset, .unset, .unset, .unset, .unset] []))
  refine Go.step (fun _ k => XS.lloadN X10.here hx rfl (hb hby at_28) rfl k) ?_
  show Go p.tables e below _ (T10.setTop (mkF m 29 #[.val (.long q1), .second, .val (.int p1), .val (.int z), .val (.ref b2), .val (.long (r.toInt64)), .second, .unset, .unset, .unset, .unset, .unset, .unset, .unset, .unset] [(.long q1)]))
  refine Go.step (fun _ k => XS.bipush X10.here hx rfl (hb hby at_29) k) ?_
  show Go p.tables e below _ (T10.setTop (mkF m 31 #[.val (.long q1), .second, .val (.int p1), .val (.int z), .val (.ref b2), .val (.long (r.toInt64)), .second, .unset, .unset, .unset, .unset, .unset, .unset, .unset, .unset] [(.int (32 : Int32)), (.long q1)]))
  refine Go.step (fun _ k => XS.lushr X10.here hx rfl (hb hby at_31) rfl k) ?_
  show Go p.tables e below _ (T10.setTop (mkF m 32 #[.val (.long q1), .second, .val (.int p1), .val (.int z), .val (.ref b2), .val (.long (r.toInt64)), .second, .unset, .unset, .unset, .unset, .unset, .unset, .unset, .unset] [(.long ((q1.toUInt64 >>> ((32 : Int32) &&& 0x3f).toInt64.toUInt64).toInt64))]))
  refine Go.step (fun _ k => XS.lstore X10.here hx rfl (hb hby at_32) rfl (l' := #[.val (.long q1), .second, .val (.int p1), .val (.int z), .val (.ref b2), .val (.long (r.toInt64)), .second, .val (.long ((q1.toUInt64 >>> ((32 : Int32) &&& 0x3f).toInt64.toUInt64).toInt64)), .second, .unset, .unset, .unset, .unset, .unset, .unset]) rfl k) ?_
  show Go p.tables e below _ (T10.setTop (mkF m 34 #[.val (.long q1), .second, .val (.int p1), .val (.int z), .val (.ref b2), .val (.long (r.toInt64)), .second, .val (.long ((q1.toUInt64 >>> ((32 : Int32) &&& 0x3f).toInt64.toUInt64).toInt64)), .second, .unset, .unset, .unset, .unset, .unset, .unset] []))
  refine Go.step (fun _ k => XS.lload X10.here hx rfl (hb hby at_34) rfl k) ?_
  show Go p.tables e below _ (T10.setTop (mkF m 36 #[.val (.long q1), .second, .val (.int p1), .val (.int z), .val (.ref b2), .val (.long (r.toInt64)), .second, .val (.long ((q1.toUInt64 >>> ((32 : Int32) &&& 0x3f).toInt64.toUInt64).toInt64)), .second, .unset, .unset, .unset, .unset, .unset, .unset] [(.long ((q1.toUInt64 >>> ((32 : Int32) &&& 0x3f).toInt64.toUInt64).toInt64))]))
  refine Go.step (fun _ k => XS.iloadN X10.here hx rfl (hb hby at_36) rfl k) ?_
  show Go p.tables e below _ (T10.setTop (mkF m 37 #[.val (.long q1), .second, .val (.int p1), .val (.int z), .val (.ref b2), .val (.long (r.toInt64)), .second, .val (.long ((q1.toUInt64 >>> ((32 : Int32) &&& 0x3f).toInt64.toUInt64).toInt64)), .second, .unset, .unset, .unset, .unset, .unset, .unset] [(.int z), (.long ((q1.toUInt64 >>> ((32 : Int32) &&& 0x3f).toInt64.toUInt64).toInt64))]))
  refine Go.step (fun _ k => XS.i2l X10.here hx rfl (hb hby at_37) rfl k) ?_
  show Go p.tables e below _ (T10.setTop (mkF m 38 #[.val (.long q1), .second, .val (.int p1), .val (.int z), .val (.ref b2), .val (.long (r.toInt64)), .second, .val (.long ((q1.toUInt64 >>> ((32 : Int32) &&& 0x3f).toInt64.toUInt64).toInt64)), .second, .unset, .unset, .unset, .unset, .unset, .unset] [(.long (z.toInt64)), (.long ((q1.toUInt64 >>> ((32 : Int32) &&& 0x3f).toInt64.toUInt64).toInt64))]))
  refine Go.step (fun _ k => XS.lmul X10.here hx rfl (hb hby at_38) rfl k) ?_
  show Go p.tables e below _ (T10.setTop (mkF m 39 #[.val (.long q1), .second, .val (.int p1), .val (.int z), .val (.ref b2), .val (.long (r.toInt64)), .second, .val (.long ((q1.toUInt64 >>> ((32 : Int32) &&& 0x3f).toInt64.toUInt64).toInt64)), .second, .unset, .unset, .unset, .unset, .unset, .unset] [(.long (((q1.toUInt64 >>> ((32 : Int32) &&& 0x3f).toInt64.toUInt64).toInt64) * (z.toInt64)))]))
  obtain ⟨pp, e_pp⟩ : ∃ z', z' = own_hi q1 * z.toInt64 := ⟨_, rfl⟩
  have e_all := own_all q1 z r pp (by rw [e_z]; exact own_z p1) e_r e_pp
  rw [show (((q1.toUInt64 >>> ((32 : Int32) &&& 0x3f).toInt64.toUInt64).toInt64) * (z.toInt64)) = pp from e_pp.symm]
  show Go p.tables e below _ (T10.setTop (mkF m 39 #[.val (.long q1), .second, .val (.int p1), .val (.int z), .val (.ref b2), .val (.long (r.toInt64)), .second, .val (.long ((q1.toUInt64 >>> ((32 : Int32) &&& 0x3f).toInt64.toUInt64).toInt64)), .second, .unset, .unset, .unset, .unset, .unset, .unset] [(.long pp)]))
  refine Go.step (fun _ k => XS.lstore X10.here hx rfl (hb hby at_39) rfl (l' := #[.val (.long q1), .second, .val (.int p1), .val (.int z), .val (.ref b2), .val (.long (r.toInt64)), .second, .val (.long ((q1.toUInt64 >>> ((32 : Int32) &&& 0x3f).toInt64.toUInt64).toInt64)), .second, .val (.long pp), .second, .unset, .unset, .unset, .unset]) rfl k) ?_
  show Go p.tables e below _ (T10.setTop (mkF m 41 #[.val (.long q1), .second, .val (.int p1), .val (.int z), .val (.ref b2), .val (.long (r.toInt64)), .second, .val (.long ((q1.toUInt64 >>> ((32 : Int32) &&& 0x3f).toInt64.toUInt64).toInt64)), .second, .val (.long pp), .second, .unset, .unset, .unset, .unset] []))
  refine Go.step (fun _ k => XS.lload X10.here hx rfl (hb hby at_41) rfl k) ?_
  show Go p.tables e below _ (T10.setTop (mkF m 43 #[.val (.long q1), .second, .val (.int p1), .val (.int z), .val (.ref b2), .val (.long (r.toInt64)), .second, .val (.long ((q1.toUInt64 >>> ((32 : Int32) &&& 0x3f).toInt64.toUInt64).toInt64)), .second, .val (.long pp), .second, .unset, .unset, .unset, .unset] [(.long (r.toInt64))]))
  refine Go.step (fun _ k => XS.lconst X10.here hx rfl (hb hby at_43) k) ?_
  show Go p.tables e below _ (T10.setTop (mkF m 44 #[.val (.long q1), .second, .val (.int p1), .val (.int z), .val (.ref b2), .val (.long (r.toInt64)), .second, .val (.long ((q1.toUInt64 >>> ((32 : Int32) &&& 0x3f).toInt64.toUInt64).toInt64)), .second, .val (.long pp), .second, .unset, .unset, .unset, .unset] [(.long (0 : Int64)), (.long (r.toInt64))]))
  refine Go.step (fun _ k => XS.lcmp X10.here hx rfl (hb hby at_44) rfl k) ?_
  show Go p.tables e below _ (T10.setTop (mkF m 45 #[.val (.long q1), .second, .val (.int p1), .val (.int z), .val (.ref b2), .val (.long (r.toInt64)), .second, .val (.long ((q1.toUInt64 >>> ((32 : Int32) &&& 0x3f).toInt64.toUInt64).toInt64)), .second, .val (.long pp), .second, .unset, .unset, .unset, .unset] [(.int (lcmpW (r.toInt64) (0 : Int64)))]))
  refine Go.step (fun _ k => XS.ifNo X10.here hx rfl (hb hby at_45) rfl ((if0 _ _).trans (flt e_all.1).1) k) ?_
  show Go p.tables e below _ (T10.setTop (mkF m 48 #[.val (.long q1), .second, .val (.int p1), .val (.int z), .val (.ref b2), .val (.long (r.toInt64)), .second, .val (.long ((q1.toUInt64 >>> ((32 : Int32) &&& 0x3f).toInt64.toUInt64).toInt64)), .second, .val (.long pp), .second, .unset, .unset, .unset, .unset] []))
  refine Go.step (fun _ k => XS.lload X10.here hx rfl (hb hby at_48) rfl k) ?_
  show Go p.tables e below _ (T10.setTop (mkF m 50 #[.val (.long q1), .second, .val (.int p1), .val (.int z), .val (.ref b2), .val (.long (r.toInt64)), .second, .val (.long ((q1.toUInt64 >>> ((32 : Int32) &&& 0x3f).toInt64.toUInt64).toInt64)), .second, .val (.long pp), .second, .unset, .unset, .unset, .unset] [(.long (r.toInt64))]))
  refine Go.step (fun _ k => XS.iloadN X10.here hx rfl (hb hby at_50) rfl k) ?_
  show Go p.tables e below _ (T10.setTop (mkF m 51 #[.val (.long q1), .second, .val (.int p1), .val (.int z), .val (.ref b2), .val (.long (r.toInt64)), .second, .val (.long ((q1.toUInt64 >>> ((32 : Int32) &&& 0x3f).toInt64.toUInt64).toInt64)), .second, .val (.long pp), .second, .unset, .unset, .unset, .unset] [(.int z), (.long (r.toInt64))]))
  refine Go.step (fun _ k => XS.i2l X10.here hx rfl (hb hby at_51) rfl k) ?_
  show Go p.tables e below _ (T10.setTop (mkF m 52 #[.val (.long q1), .second, .val (.int p1), .val (.int z), .val (.ref b2), .val (.long (r.toInt64)), .second, .val (.long ((q1.toUInt64 >>> ((32 : Int32) &&& 0x3f).toInt64.toUInt64).toInt64)), .second, .val (.long pp), .second, .unset, .unset, .unset, .unset] [(.long (z.toInt64)), (.long (r.toInt64))]))
  refine Go.step (fun _ k => XS.lcmp X10.here hx rfl (hb hby at_52) rfl k) ?_
  show Go p.tables e below _ (T10.setTop (mkF m 53 #[.val (.long q1), .second, .val (.int p1), .val (.int z), .val (.ref b2), .val (.long (r.toInt64)), .second, .val (.long ((q1.toUInt64 >>> ((32 : Int32) &&& 0x3f).toInt64.toUInt64).toInt64)), .second, .val (.long pp), .second, .unset, .unset, .unset, .unset] [(.int (lcmpW (r.toInt64) (z.toInt64)))]))
  refine Go.step (fun _ k => XS.ifYes X10.here hx rfl (pc0 := 53) (pc' := 58) rfl (hb hby at_53) rfl ((if0 _ _).trans (tlt e_all.2.1).1) (by decide) (by decide) k) ?_
  show Go p.tables e below _ (T10.setTop (mkF m 58 #[.val (.long q1), .second, .val (.int p1), .val (.int z), .val (.ref b2), .val (.long (r.toInt64)), .second, .val (.long ((q1.toUInt64 >>> ((32 : Int32) &&& 0x3f).toInt64.toUInt64).toInt64)), .second, .val (.long pp), .second, .unset, .unset, .unset, .unset] []))
  refine Go.step (fun _ k => XS.lload X10.here hx rfl (hb hby at_58) rfl k) ?_
  show Go p.tables e below _ (T10.setTop (mkF m 60 #[.val (.long q1), .second, .val (.int p1), .val (.int z), .val (.ref b2), .val (.long (r.toInt64)), .second, .val (.long ((q1.toUInt64 >>> ((32 : Int32) &&& 0x3f).toInt64.toUInt64).toInt64)), .second, .val (.long pp), .second, .unset, .unset, .unset, .unset] [(.long (r.toInt64))]))
  refine Go.step (fun _ k => XS.bipush X10.here hx rfl (hb hby at_60) k) ?_
  show Go p.tables e below _ (T10.setTop (mkF m 62 #[.val (.long q1), .second, .val (.int p1), .val (.int z), .val (.ref b2), .val (.long (r.toInt64)), .second, .val (.long ((q1.toUInt64 >>> ((32 : Int32) &&& 0x3f).toInt64.toUInt64).toInt64)), .second, .val (.long pp), .second, .unset, .unset, .unset, .unset] [(.int (32 : Int32)), (.long (r.toInt64))]))
  refine Go.step (fun _ k => XS.lshl X10.here hx rfl (hb hby at_62) rfl k) ?_
  show Go p.tables e below _ (T10.setTop (mkF m 63 #[.val (.long q1), .second, .val (.int p1), .val (.int z), .val (.ref b2), .val (.long (r.toInt64)), .second, .val (.long ((q1.toUInt64 >>> ((32 : Int32) &&& 0x3f).toInt64.toUInt64).toInt64)), .second, .val (.long pp), .second, .unset, .unset, .unset, .unset] [(.long ((r.toInt64) <<< ((32 : Int32) &&& 0x3f).toInt64))]))
  refine Go.step (fun _ k => XS.lstore X10.here hx rfl (hb hby at_63) rfl (l' := #[.val (.long q1), .second, .val (.int p1), .val (.int z), .val (.ref b2), .val (.long (r.toInt64)), .second, .val (.long ((q1.toUInt64 >>> ((32 : Int32) &&& 0x3f).toInt64.toUInt64).toInt64)), .second, .val (.long pp), .second, .val (.long ((r.toInt64) <<< ((32 : Int32) &&& 0x3f).toInt64)), .second, .unset, .unset]) rfl k) ?_
  show Go p.tables e below _ (T10.setTop (mkF m 65 #[.val (.long q1), .second, .val (.int p1), .val (.int z), .val (.ref b2), .val (.long (r.toInt64)), .second, .val (.long ((q1.toUInt64 >>> ((32 : Int32) &&& 0x3f).toInt64.toUInt64).toInt64)), .second, .val (.long pp), .second, .val (.long ((r.toInt64) <<< ((32 : Int32) &&& 0x3f).toInt64)), .second, .unset, .unset] []))
  refine Go.step (fun _ k => XS.lload X10.here hx rfl (hb hby at_65) rfl k) ?_
  show Go p.tables e below _ (T10.setTop (mkF m 67 #[.val (.long q1), .second, .val (.int p1), .val (.int z), .val (.ref b2), .val (.long (r.toInt64)), .second, .val (.long ((q1.toUInt64 >>> ((32 : Int32) &&& 0x3f).toInt64.toUInt64).toInt64)), .second, .val (.long pp), .second, .val (.long ((r.toInt64) <<< ((32 : Int32) &&& 0x3f).toInt64)), .second, .unset, .unset] [(.long (r.toInt64))]))
  refine Go.step (fun _ k => XS.lconst X10.here hx rfl (hb hby at_67) k) ?_
  show Go p.tables e below _ (T10.setTop (mkF m 68 #[.val (.long q1), .second, .val (.int p1), .val (.int z), .val (.ref b2), .val (.long (r.toInt64)), .second, .val (.long ((q1.toUInt64 >>> ((32 : Int32) &&& 0x3f).toInt64.toUInt64).toInt64)), .second, .val (.long pp), .second, .val (.long ((r.toInt64) <<< ((32 : Int32) &&& 0x3f).toInt64)), .second, .unset, .unset] [(.long (1 : Int64)), (.long (r.toInt64))]))
  refine Go.step (fun _ k => XS.ladd X10.here hx rfl (hb hby at_68) rfl k) ?_
  show Go p.tables e below _ (T10.setTop (mkF m 69 #[.val (.long q1), .second, .val (.int p1), .val (.int z), .val (.ref b2), .val (.long (r.toInt64)), .second, .val (.long ((q1.toUInt64 >>> ((32 : Int32) &&& 0x3f).toInt64.toUInt64).toInt64)), .second, .val (.long pp), .second, .val (.long ((r.toInt64) <<< ((32 : Int32) &&& 0x3f).toInt64)), .second, .unset, .unset] [(.long ((r.toInt64) + (1 : Int64)))]))
  refine Go.step (fun _ k => XS.bipush X10.here hx rfl (hb hby at_69) k) ?_
  show Go p.tables e below _ (T10.setTop (mkF m 71 #[.val (.long q1), .second, .val (.int p1), .val (.int z), .val (.ref b2), .val (.long (r.toInt64)), .second, .val (.long ((q1.toUInt64 >>> ((32 : Int32) &&& 0x3f).toInt64.toUInt64).toInt64)), .second, .val (.long pp), .second, .val (.long ((r.toInt64) <<< ((32 : Int32) &&& 0x3f).toInt64)), .second, .unset, .unset] [(.int (32 : Int32)), (.long ((r.toInt64) + (1 : Int64)))]))
  refine Go.step (fun _ k => XS.lshl X10.here hx rfl (hb hby at_71) rfl k) ?_
  show Go p.tables e below _ (T10.setTop (mkF m 72 #[.val (.long q1), .second, .val (.int p1), .val (.int z), .val (.ref b2), .val (.long (r.toInt64)), .second, .val (.long ((q1.toUInt64 >>> ((32 : Int32) &&& 0x3f).toInt64.toUInt64).toInt64)), .second, .val (.long pp), .second, .val (.long ((r.toInt64) <<< ((32 : Int32) &&& 0x3f).toInt64)), .second, .unset, .unset] [(.long (((r.toInt64) + (1 : Int64)) <<< ((32 : Int32) &&& 0x3f).toInt64))]))
  refine Go.step (fun _ k => XS.lstore X10.here hx rfl (hb hby at_72) rfl (l' := #[.val (.long q1), .second, .val (.int p1), .val (.int z), .val (.ref b2), .val (.long (r.toInt64)), .second, .val (.long ((q1.toUInt64 >>> ((32 : Int32) &&& 0x3f).toInt64.toUInt64).toInt64)), .second, .val (.long pp), .second, .val (.long ((r.toInt64) <<< ((32 : Int32) &&& 0x3f).toInt64)), .second, .val (.long (((r.toInt64) + (1 : Int64)) <<< ((32 : Int32) &&& 0x3f).toInt64)), .second]) rfl k) ?_
  show Go p.tables e below _ (T10.setTop (mkF m 74 #[.val (.long q1), .second, .val (.int p1), .val (.int z), .val (.ref b2), .val (.long (r.toInt64)), .second, .val (.long ((q1.toUInt64 >>> ((32 : Int32) &&& 0x3f).toInt64.toUInt64).toInt64)), .second, .val (.long pp), .second, .val (.long ((r.toInt64) <<< ((32 : Int32) &&& 0x3f).toInt64)), .second, .val (.long (((r.toInt64) + (1 : Int64)) <<< ((32 : Int32) &&& 0x3f).toInt64)), .second] []))
  refine Go.step (fun _ k => XS.lload X10.here hx rfl (hb hby at_74) rfl k) ?_
  show Go p.tables e below _ (T10.setTop (mkF m 76 #[.val (.long q1), .second, .val (.int p1), .val (.int z), .val (.ref b2), .val (.long (r.toInt64)), .second, .val (.long ((q1.toUInt64 >>> ((32 : Int32) &&& 0x3f).toInt64.toUInt64).toInt64)), .second, .val (.long pp), .second, .val (.long ((r.toInt64) <<< ((32 : Int32) &&& 0x3f).toInt64)), .second, .val (.long (((r.toInt64) + (1 : Int64)) <<< ((32 : Int32) &&& 0x3f).toInt64)), .second] [(.long ((r.toInt64) <<< ((32 : Int32) &&& 0x3f).toInt64))]))
  refine Go.step (fun _ k => XS.lload X10.here hx rfl (hb hby at_76) rfl k) ?_
  show Go p.tables e below _ (T10.setTop (mkF m 78 #[.val (.long q1), .second, .val (.int p1), .val (.int z), .val (.ref b2), .val (.long (r.toInt64)), .second, .val (.long ((q1.toUInt64 >>> ((32 : Int32) &&& 0x3f).toInt64.toUInt64).toInt64)), .second, .val (.long pp), .second, .val (.long ((r.toInt64) <<< ((32 : Int32) &&& 0x3f).toInt64)), .second, .val (.long (((r.toInt64) + (1 : Int64)) <<< ((32 : Int32) &&& 0x3f).toInt64)), .second] [(.long pp), (.long ((r.toInt64) <<< ((32 : Int32) &&& 0x3f).toInt64))]))
  refine Go.step (fun _ k => XS.lcmp X10.here hx rfl (hb hby at_78) rfl k) ?_
  show Go p.tables e below _ (T10.setTop (mkF m 79 #[.val (.long q1), .second, .val (.int p1), .val (.int z), .val (.ref b2), .val (.long (r.toInt64)), .second, .val (.long ((q1.toUInt64 >>> ((32 : Int32) &&& 0x3f).toInt64.toUInt64).toInt64)), .second, .val (.long pp), .second, .val (.long ((r.toInt64) <<< ((32 : Int32) &&& 0x3f).toInt64)), .second, .val (.long (((r.toInt64) + (1 : Int64)) <<< ((32 : Int32) &&& 0x3f).toInt64)), .second] [(.int (lcmpW ((r.toInt64) <<< ((32 : Int32) &&& 0x3f).toInt64) pp))]))
  refine Go.step (fun _ k => XS.ifNo X10.here hx rfl (hb hby at_79) rfl ((if0 _ _).trans (flt e_all.2.2.1).2.2.1) k) ?_
  show Go p.tables e below _ (T10.setTop (mkF m 82 #[.val (.long q1), .second, .val (.int p1), .val (.int z), .val (.ref b2), .val (.long (r.toInt64)), .second, .val (.long ((q1.toUInt64 >>> ((32 : Int32) &&& 0x3f).toInt64.toUInt64).toInt64)), .second, .val (.long pp), .second, .val (.long ((r.toInt64) <<< ((32 : Int32) &&& 0x3f).toInt64)), .second, .val (.long (((r.toInt64) + (1 : Int64)) <<< ((32 : Int32) &&& 0x3f).toInt64)), .second] []))
  refine Go.step (fun _ k => XS.lload X10.here hx rfl (hb hby at_82) rfl k) ?_
  show Go p.tables e below _ (T10.setTop (mkF m 84 #[.val (.long q1), .second, .val (.int p1), .val (.int z), .val (.ref b2), .val (.long (r.toInt64)), .second, .val (.long ((q1.toUInt64 >>> ((32 : Int32) &&& 0x3f).toInt64.toUInt64).toInt64)), .second, .val (.long pp), .second, .val (.long ((r.toInt64) <<< ((32 : Int32) &&& 0x3f).toInt64)), .second, .val (.long (((r.toInt64) + (1 : Int64)) <<< ((32 : Int32) &&& 0x3f).toInt64)), .second] [(.long pp)]))
  refine Go.step (fun _ k => XS.lload X10.here hx rfl (hb hby at_84) rfl k) ?_
  show Go p.tables e below _ (T10.setTop (mkF m 86 #[.val (.long q1), .second, .val (.int p1), .val (.int z), .val (.ref b2), .val (.long (r.toInt64)), .second, .val (.long ((q1.toUInt64 >>> ((32 : Int32) &&& 0x3f).toInt64.toUInt64).toInt64)), .second, .val (.long pp), .second, .val (.long ((r.toInt64) <<< ((32 : Int32) &&& 0x3f).toInt64)), .second, .val (.long (((r.toInt64) + (1 : Int64)) <<< ((32 : Int32) &&& 0x3f).toInt64)), .second] [(.long (((r.toInt64) + (1 : Int64)) <<< ((32 : Int32) &&& 0x3f).toInt64)), (.long pp)]))
  refine Go.step (fun _ k => XS.lcmp X10.here hx rfl (hb hby at_86) rfl k) ?_
  show Go p.tables e below _ (T10.setTop (mkF m 87 #[.val (.long q1), .second, .val (.int p1), .val (.int z), .val (.ref b2), .val (.long (r.toInt64)), .second, .val (.long ((q1.toUInt64 >>> ((32 : Int32) &&& 0x3f).toInt64.toUInt64).toInt64)), .second, .val (.long pp), .second, .val (.long ((r.toInt64) <<< ((32 : Int32) &&& 0x3f).toInt64)), .second, .val (.long (((r.toInt64) + (1 : Int64)) <<< ((32 : Int32) &&& 0x3f).toInt64)), .second] [(.int (lcmpW pp (((r.toInt64) + (1 : Int64)) <<< ((32 : Int32) &&& 0x3f).toInt64)))]))
  refine Go.step (fun _ k => XS.ifNo X10.here hx rfl (hb hby at_87) rfl ((if0 _ _).trans (tlt e_all.2.2.2).2.1) k) ?_
  show Go p.tables e below _ (T10.setTop (mkF m 90 #[.val (.long q1), .second, .val (.int p1), .val (.int z), .val (.ref b2), .val (.long (r.toInt64)), .second, .val (.long ((q1.toUInt64 >>> ((32 : Int32) &&& 0x3f).toInt64.toUInt64).toInt64)), .second, .val (.long pp), .second, .val (.long ((r.toInt64) <<< ((32 : Int32) &&& 0x3f).toInt64)), .second, .val (.long (((r.toInt64) + (1 : Int64)) <<< ((32 : Int32) &&& 0x3f).toInt64)), .second] []))
  refine Go.step (fun _ k => XS.iconst X10.here hx rfl (hb hby at_90) k) ?_
  show Go p.tables e below _ (T10.setTop (mkF m 91 #[.val (.long q1), .second, .val (.int p1), .val (.int z), .val (.ref b2), .val (.long (r.toInt64)), .second, .val (.long ((q1.toUInt64 >>> ((32 : Int32) &&& 0x3f).toInt64.toUInt64).toInt64)), .second, .val (.long pp), .second, .val (.long ((r.toInt64) <<< ((32 : Int32) &&& 0x3f).toInt64)), .second, .val (.long (((r.toInt64) + (1 : Int64)) <<< ((32 : Int32) &&& 0x3f).toInt64)), .second] [(.int (1 : Int32))]))
  refine Go.step (fun _ k => XS.goto X10.here hx rfl (pc0 := 91) (pc' := 95) rfl (hb hby at_91) (by decide) (by decide) k) ?_
  show Go p.tables e below _ (T10.setTop (mkF m 95 #[.val (.long q1), .second, .val (.int p1), .val (.int z), .val (.ref b2), .val (.long (r.toInt64)), .second, .val (.long ((q1.toUInt64 >>> ((32 : Int32) &&& 0x3f).toInt64.toUInt64).toInt64)), .second, .val (.long pp), .second, .val (.long ((r.toInt64) <<< ((32 : Int32) &&& 0x3f).toInt64)), .second, .val (.long (((r.toInt64) + (1 : Int64)) <<< ((32 : Int32) &&& 0x3f).toInt64)), .second] [(.int (1 : Int32))]))
  obtain ⟨fs, hr, hrun, hended, hW, hsame⟩ := X10.leave (v := some (.int (1 : Int32))) (fun h => by rw [Bd.returns] at h; cases h)
  refine ⟨_, _, retN X10 hx (t := .boolean) Bd.returns (by simp) (hb hby at_95) hr, hrun, hended, _, _, rfl, ?_, ⟨_, rfl⟩, hW, hsame.mono (by decide) (by decide)⟩
  show Qrm0 Z q1 p1 h0 n0 _ T10.heap _
  rw [eh10]
  exact ⟨rfl, N10⟩
set_option maxRecDepth 65536 in
set_option maxHeartbeats 40000000 in
theorem comes_1 {Post : Tables → Env → Array Value → State → Outcome → State → Prop} (hpost : ∀ tb e args s v u, (limb_1_1.after args s (.returned v) u = true ∧ limb_1_2.after args s (.returned v) u = true ∧ True) → FrameEnd s (.returned v) u (Jvm.fieldLocs frame_1_writes args s ++ Jvm.arrayLocs frame_1_arrays args s ++ Jvm.staticLocs frame_1_statics s) 16 128 → Post tb e args s (.returned v) u) :
    ArmFor flags0 classFile x code maxLocals ret World_1 tables_1 room_1 Calls_1 rest_1 Pre_1 Post := by
  intro l hfl _ _ p e ha hc hk s m args below hf hA hF happ hP
  obtain ⟨hcalls, hrest, hpre⟩ := hP
  obtain ⟨-, -, -, hnamed, -, -, -, hat⟩ := (Spec.applies_iff hf).mp happ
  obtain ⟨hg, hn⟩ := and_e (Cond.before_iff.mp (show (Jvm.Cond.and given_1 narrow_1).before args s = true from hpre))
  obtain ⟨hcount, hg1⟩ := and_e hg
  obtain ⟨ga0, hg2⟩ := and_e hg1
  have ga1 := hg2
  obtain ⟨w0, w1, rfl⟩ : ∃ w0 w1 : Value, args = #[w0, w1] := by
    have hs : args.size = 2 := by simpa [Cond.value, given_1] using hcount
    obtain ⟨L⟩ := args
    match L, hs with
    | [w0, w1], _ => exact ⟨w0, w1, rfl⟩
  have hw := fun d (hd : d ∈ tables_1) => atoms_spec (ws := Jvm.Cond.code x code maxLocals ret :: tables_1) hat d (List.mem_cons_of_mem _ hd)
  have hfit : Fit s := fun {y c} hc i hi => by
    obtain ⟨ha, rfl⟩ := Array.getElem?_eq_some_iff.mp hc
    have q := List.all_eq_true.mp ((Array.all_eq_true_iff_forall_mem.mp hF) _ (Array.getElem_mem ha)) i (List.mem_range.mpr hi)
    simpa [Array.getElem?_eq_getElem hi] using q
  obtain ⟨i0, ei0⟩ := isL_v ga0
  obtain rfl : w0 = (.long i0) := Option.some.inj ei0
  obtain ⟨i1, ei1⟩ := is_v ga1
  obtain rfl : w1 = (.int i1) := Option.some.inj ei1
  obtain ⟨n, o, h1, h2, h3, _, L, rfl, ⟨rfl, N⟩, hq⟩ := rm0 l s _ hw tables_1 i0 i1 s.heap s.heap.size (Nat.le_refl _) p e ha hc hk s m _ below hf ((Spec.applies_iff_loose hf).mp happ).1 ⟨rfl, State.Warmed39.refl s, rfl⟩ trivial
  refine ⟨n, _, h1, h2, h3, hpost _ _ _ _ _ _ ⟨Cond.after_iff.mpr rfl, Cond.after_iff.mpr (eq_i res_at (Term.int_eval (1)) rfl), trivial⟩ ⟨hq.1, hq.2.1, (hq.2.2.sift fun y hy => Or.inr (N y hy)).mono (by decide) (by decide)⟩⟩
theorem main_1_1 : Claimed_1_1 := comes_1 fun _ _ _ _ _ _ h hF => ⟨h.1, hF⟩
theorem main_1_2 : Claimed_1_2 := comes_1 fun _ _ _ _ _ _ h hF => ⟨h.2.1, hF⟩
end Jvm.Pilot.@@N@@
namespace Jvm.Pilot.@@N@@
open Jvm Jvm.ClassFile Sem Op Lib Jvm.Free Jvm.Stand Jvm.Pilot.@@N@@.Jvm.D
/-! MADE BY PROGRAM (witnessworld.py) out of the Statement's table words and the real class files: 11 classes; the members and pool entries that the words name. The judged class is class 1, her method 1. -/
namespace start1
open Jvm.ClassFile
def u (s : String) : CpInfo := .utf8 (stringToUtf16 s)
/-- a pool by its gaps: so many unusable entries, then the entry; so many at the end -/
def gap : Nat → List CpInfo → List CpInfo
  | 0, r => r
  | n + 1, r => .unusable :: gap n r
def poolList (es : List (Nat × CpInfo)) (last : Nat) : List CpInfo := es.foldr (fun e r => gap e.1 (e.2 :: r)) (gap last [])
def pool (es : List (Nat × CpInfo)) (last : Nat) : Array CpInfo := ⟨poolList es last⟩
def fileOf (pool : Array CpInfo) (this : Nat) (attrs : Array Attribute := #[]) (ms : Array MethodInfo := #[]) (fl : Nat := 33) (sup : Nat := 0) (ifs : Array Nat := #[]) (fds : Array FieldInfo := #[]) : ClassFile where
  minorVersion := 0
  majorVersion := 65
  constantPool := pool
  accessFlags := fl
  thisClass := this
  superClass := sup
  interfaces := ifs
  fields := fds
  methods := ms
  attributes := attrs
def plain (name : String) (sup : Option ClassId) : Class where
  name := name
  kind := .ordinary
  loader := none
  accessFlags := 33
  super := sup
  interfaces := #[]
  cf := none
  fields := #[]
  methods := #[]
  instanceTypes := #[]
  staticTypes := #[]
  resolved := #[]
  callSites := []
  init := .initialized
  statics := none
  mirror := none

def pool0 : Array CpInfo := pool [(5, u "<init>"), (0, u "()V"), (1, .class_ 10), (1, u "java/lang/Object")] 113

def k0c0 : Code := { maxStack := 0, maxLocals := 1, code := object_method_1_code, exceptionTable := #[], attributes := #[] }
def k0m0 : Method := { name := "<init>", desc := "()V", sig := { parameters := [], returnType := none }, accessFlags := 1, code := some k0c0 }
/-- java/lang/Object -/
def k0 : Class := { plain "java/lang/Object" none with
  accessFlags := 33
  interfaces := #[]
  cf := some (fileOf pool0 8 #[] #[{ accessFlags := 1, nameIndex := 5, descriptorIndex := 6, attributes := #[] }] 33 0 #[] #[])
  fields := #[]
  methods := #[k0m0]
  instanceTypes := #[]
  staticTypes := #[]
  resolved := Array.replicate 124 none
  statics := none }

def pool1 : Array CpInfo := pool [(2, .class_ 4), (1, u "java/lang/Object"), (0, u "<init>"), (0, u "()V"), (0, .integer 2147483647), (0, .methodref 9 10), (0, .class_ 11), (0, .nameAndType 12 13), (0, u "java/lang/Math"), (0, u "max"), (0, u "(II)I"), (0, .class_ 15), (0, u "com/example/sibyl/sibyl/core/BlockHash"), (0, .methodref 14 17), (0, .nameAndType 5 18), (0, u "(J)V"), (0, .methodref 14 20), (0, .nameAndType 21 22), (0, u "block"), (0, u "(I)I"), (0, .class_ 24), (0, u "com/example/sibyl/sibyl/core/BlockHashBlockPinLaw"), (2, u "law"), (0, u "(JI)Z")] 3

def k1m0 : Method := { name := "<init>", desc := "()V", sig := { parameters := [], returnType := none }, accessFlags := 2, code := none }
def k1c1 : Code := { maxStack := 4, maxLocals := 15, code := code, exceptionTable := #[], attributes := #[] }
def k1m1 : Method := { name := "law", desc := "(JI)Z", sig := { parameters := [.long, .int], returnType := some .boolean }, accessFlags := 9, code := some k1c1 }
/-- com/example/sibyl/sibyl/core/BlockHashBlockPinLaw -/
def k1 : Class := { plain "com/example/sibyl/sibyl/core/BlockHashBlockPinLaw" (some 0) with
  accessFlags := 49
  interfaces := #[]
  cf := some (fileOf pool1 23 #[] #[{ accessFlags := 2, nameIndex := 5, descriptorIndex := 6, attributes := #[] }, { accessFlags := 9, nameIndex := 27, descriptorIndex := 28, attributes := #[] }] 49 2 #[] #[])
  fields := #[]
  methods := #[k1m0, k1m1]
  instanceTypes := #[]
  staticTypes := #[]
  resolved := Array.replicate 32 none
  statics := none }

def pool2 : Array CpInfo := pool [(1, .class_ 2), (0, u "java/lang/Math"), (1, .class_ 6), (1, u "java/lang/Object"), (0, u "<init>"), (0, u "()V"), (89, .class_ 100), (1, u "java/lang/Math$RandomNumberGeneratorHolder"), (71, u "negativeZeroFloatBits"), (0, u "J"), (2, u "negativeZeroDoubleBits"), (21, u "max"), (46, u "$assertionsDisabled"), (0, u "Z"), (88, u "(II)I"), (2, u "twoToTheDoubleScaleDown"), (0, u "D"), (4, u "twoToTheDoubleScaleUp"), (9, u "E"), (3, u "PI"), (2, u "TAU"), (2, u "DEGREES_TO_RADIANS"), (0, u "RADIANS_TO_DEGREES")] 94

def k2m0 : Method := { name := "<init>", desc := "()V", sig := { parameters := [], returnType := none }, accessFlags := 2, code := none }
def k2c1 : Code := { maxStack := 2, maxLocals := 2, code := jdk_29_method_65_code, exceptionTable := #[], attributes := #[] }
def k2m1 : Method := { name := "max", desc := "(II)I", sig := { parameters := [.int, .int], returnType := some .int }, accessFlags := 9, code := some k2c1 }
/-- java/lang/Math -/
def k2 : Class := { plain "java/lang/Math" (some 0) with
  accessFlags := 49
  interfaces := #[]
  cf := some (fileOf pool2 1 #[.nestMembers #[98]] #[{ accessFlags := 2, nameIndex := 7, descriptorIndex := 8, attributes := #[] }, { accessFlags := 9, nameIndex := 198, descriptorIndex := 335, attributes := #[] }] 49 4 #[] #[{ accessFlags := 25, nameIndex := 354, descriptorIndex := 339, attributes := #[] }, { accessFlags := 25, nameIndex := 358, descriptorIndex := 339, attributes := #[] }, { accessFlags := 25, nameIndex := 361, descriptorIndex := 339, attributes := #[] }, { accessFlags := 26, nameIndex := 364, descriptorIndex := 339, attributes := #[] }, { accessFlags := 26, nameIndex := 365, descriptorIndex := 339, attributes := #[] }, { accessFlags := 26, nameIndex := 172, descriptorIndex := 173, attributes := #[] }, { accessFlags := 26, nameIndex := 176, descriptorIndex := 173, attributes := #[] }, { accessFlags := 8, nameIndex := 344, descriptorIndex := 339, attributes := #[] }, { accessFlags := 8, nameIndex := 338, descriptorIndex := 339, attributes := #[] }, { accessFlags := 4120, nameIndex := 245, descriptorIndex := 246, attributes := #[] }])
  fields := #[{ name := "E", type := .double, accessFlags := 25, slot := 0, constantValue := 0 }, { name := "PI", type := .double, accessFlags := 25, slot := 1, constantValue := 0 }, { name := "TAU", type := .double, accessFlags := 25, slot := 2, constantValue := 0 }, { name := "DEGREES_TO_RADIANS", type := .double, accessFlags := 26, slot := 3, constantValue := 0 }, { name := "RADIANS_TO_DEGREES", type := .double, accessFlags := 26, slot := 4, constantValue := 0 }, { name := "negativeZeroFloatBits", type := .long, accessFlags := 26, slot := 5, constantValue := 0 }, { name := "negativeZeroDoubleBits", type := .long, accessFlags := 26, slot := 6, constantValue := 0 }, { name := "twoToTheDoubleScaleUp", type := .double, accessFlags := 8, slot := 7, constantValue := 0 }, { name := "twoToTheDoubleScaleDown", type := .double, accessFlags := 8, slot := 8, constantValue := 0 }, { name := "$assertionsDisabled", type := .boolean, accessFlags := 4120, slot := 9, constantValue := 0 }]
  methods := #[k2m0, k2m1]
  instanceTypes := #[]
  staticTypes := #[.double, .double, .double, .double, .double, .long, .long, .double, .double, .boolean]
  resolved := Array.replicate 460 none
  statics := none }

def pool3 : Array CpInfo := pool [(1, .methodref 2 3), (0, .class_ 4), (0, .nameAndType 5 6), (0, u "java/lang/Object"), (0, u "<init>"), (0, u "()V"), (0, .class_ 8), (0, u "java/lang/Record")] 13

def k3c0 : Code := { maxStack := 1, maxLocals := 1, code := jdk_30_method_1_code, exceptionTable := #[], attributes := #[] }
def k3m0 : Method := { name := "<init>", desc := "()V", sig := { parameters := [], returnType := none }, accessFlags := 4, code := some k3c0 }
/-- java/lang/Record -/
def k3 : Class := { plain "java/lang/Record" (some 0) with
  accessFlags := 1057
  interfaces := #[]
  cf := some (fileOf pool3 7 #[] #[{ accessFlags := 4, nameIndex := 5, descriptorIndex := 6, attributes := #[] }] 1057 2 #[] #[])
  fields := #[]
  methods := #[k3m0]
  instanceTypes := #[]
  staticTypes := #[]
  resolved := Array.replicate 22 none
  statics := none }

def pool4 : Array CpInfo := pool [(1, .methodref 2 3), (0, .class_ 4), (0, .nameAndType 5 6), (0, u "java/lang/Record"), (0, u "<init>"), (0, u "()V"), (0, .fieldref 8 9), (0, .class_ 10), (0, .nameAndType 11 12), (0, u "com/example/sibyl/sibyl/core/BlockHash"), (0, u "value"), (0, u "J"), (8, u "(J)V"), (14, u "SALTS"), (0, u "[I"), (20, u "BIT_SHIFT"), (0, u "I"), (7, u "block"), (0, u "(I)I")] 25

def k4c0 : Code := { maxStack := 3, maxLocals := 3, code := prog_3_method_1_code, exceptionTable := #[], attributes := #[] }
def k4m0 : Method := { name := "<init>", desc := "(J)V", sig := { parameters := [.long], returnType := none }, accessFlags := 1, code := some k4c0 }
def k4c1 : Code := { maxStack := 4, maxLocals := 2, code := prog_3_method_5_code, exceptionTable := #[], attributes := #[] }
def k4m1 : Method := { name := "block", desc := "(I)I", sig := { parameters := [.int], returnType := some .int }, accessFlags := 1, code := some k4c1 }
/-- com/example/sibyl/sibyl/core/BlockHash -/
def k4 : Class := { plain "com/example/sibyl/sibyl/core/BlockHash" (some 3) with
  accessFlags := 49
  interfaces := #[]
  cf := some (fileOf pool4 8 #[] #[{ accessFlags := 1, nameIndex := 5, descriptorIndex := 21, attributes := #[] }, { accessFlags := 1, nameIndex := 67, descriptorIndex := 68, attributes := #[] }] 49 2 #[] #[{ accessFlags := 18, nameIndex := 11, descriptorIndex := 12, attributes := #[] }, { accessFlags := 26, nameIndex := 36, descriptorIndex := 37, attributes := #[] }, { accessFlags := 26, nameIndex := 58, descriptorIndex := 59, attributes := #[] }])
  fields := #[{ name := "value", type := .long, accessFlags := 18, slot := 0, constantValue := 0 }, { name := "SALTS", type := (.array .int), accessFlags := 26, slot := 0, constantValue := 0 }, { name := "BIT_SHIFT", type := .int, accessFlags := 26, slot := 1, constantValue := 0 }]
  methods := #[k4m0, k4m1]
  instanceTypes := #[.long]
  staticTypes := #[(.array .int), .int]
  resolved := Array.replicate 94 none
  statics := none }

def pool5 : Array CpInfo := pool [(1, u "java/lang/Cloneable"), (0, .class_ 1), (0, u "java/lang/Object"), (0, .class_ 3)] 3

/-- java/lang/Cloneable -/
def k5 : Class := { plain "java/lang/Cloneable" (some 0) with
  accessFlags := 1537
  interfaces := #[]
  cf := some (fileOf pool5 2 #[] #[] 1537 4 #[] #[])
  fields := #[]
  methods := #[]
  instanceTypes := #[]
  staticTypes := #[]
  resolved := Array.replicate 8 none
  statics := none }

def pool6 : Array CpInfo := pool [(1, u "java/io/Serializable"), (0, .class_ 1), (0, u "java/lang/Object"), (0, .class_ 3)] 3

/-- java/io/Serializable -/
def k6 : Class := { plain "java/io/Serializable" (some 0) with
  accessFlags := 1537
  interfaces := #[]
  cf := some (fileOf pool6 2 #[] #[] 1537 4 #[] #[])
  fields := #[]
  methods := #[]
  instanceTypes := #[]
  staticTypes := #[]
  resolved := Array.replicate 8 none
  statics := none }

/-- the primitive byte -/
def k7 : Class := { plain "byte" none with kind := .primitive 'B', accessFlags := 0x411 }
/-- [B -/
def k8 : Class := { plain "[B" (some 0) with kind := .array 7 .byte, interfaces := #[5, 6], accessFlags := 1041 }

/-- the primitive int -/
def k9 : Class := { plain "int" none with kind := .primitive 'I', accessFlags := 0x411 }
/-- [I -/
def k10 : Class := { plain "[I" (some 0) with kind := .array 9 .int, interfaces := #[5, 6], accessFlags := 1041 }

def heap : Heap := #[]
def classes : Array Class := #[k0, k1, k2, k3, k4, k5, k6, k7, k8, k9, k10]
def interned : List (Array UInt16 × Addr) := []
def slotsUsed : Nat := 0
def theMethod : MethodId := ⟨1, 1⟩
def args0 : Array Value := #[.long 5, .int 9]
def aboutOver (below : List Frame) : State where
  vm := { classes := classes, interned := interned.toArray }
  heap := heap
  slotsUsed := slotsUsed
  threads := #[{ frames := .invoking theMethod args0 :: below }]
def below0 : List Frame := [.native { method := ⟨0, 0⟩, args := #[] }]
def about1 : State := aboutOver below0
def p0 : Program := .bare "" "" ""
def e0 : Env := launch0.env 0 0 0
theorem w_frames : about1.frames = Frame.invoking theMethod args0 :: below0 := rfl
set_option maxRecDepth 65536 in
theorem w_args : argsFit about1.vm theMethod args0 = true := by decide +kernel
set_option maxRecDepth 65536 in
theorem w_heap : heapFits about1 = true := by decide +kernel
set_option maxRecDepth 65536 in
theorem w_runnable : about1.curStatus? = some .runnable := by decide +kernel
set_option maxRecDepth 65536 in
theorem w_alone : about1.alone = true := by decide +kernel
set_option maxRecDepth 65536 in
theorem w_named : about1.methodNamed? x = some theMethod := by decide +kernel
set_option maxRecDepth 65536 in
theorem w_hears : about1.hears theMethod below0 = true := by decide +kernel
set_option maxRecDepth 65536 in
theorem w_ripe : about1.ripe theMethod args0 below0 = true := by decide +kernel
theorem w_running : about1.status = .running := rfl
set_option maxRecDepth 65536 in
theorem w_room : about1.hasRoom e0.platform room_1 = true :=
  launch0.hasRoom_least _ room_1 (by decide +kernel) (by decide +kernel) (by decide +kernel) (by decide +kernel) (by decide +kernel) (by decide +kernel)
theorem allAtoms_all (ts : List Jvm.Cond) (a : Array Jvm.Value) (st : Jvm.State) : (allAtoms ts).before a st = ts.all (fun c => c.before a st) := by
  induction ts with
  | nil => rfl
  | cons c t ih =>
    show (Jvm.Cond.and c (allAtoms t)).before a st = _
    rw [Jvm.Cond.before_and, ih, List.all_cons]
def words1 : List Jvm.Cond := Jvm.Cond.code x code maxLocals ret :: tables_1
/-- a 'code' word, met by the world's own term for the bytes: nothing is compared byte by byte -/
theorem code_word {y : MethodName} {bytes : ByteArray} {mx : Nat} {rt : Option FieldType} {a : Array Value} {s : State} {m : MethodId} {meth : Method} {c : Code} (h1 : s.methodNamed? y = some m) (h2 : s.vm.method? m = some meth) (h3 : meth.code = some c) (h4 : c.code = bytes)
    (h5 : (c.maxLocals == mx && c.exceptionTable.isEmpty && decide (c.maxStack ≤ mostOperands) && decide (meth.sig.returnType = rt) && !meth.locks && decide (parseMethodDescriptor y.desc = some meth.sig)) = true) : (Jvm.Cond.code y bytes mx rt).before a s = true := by
  simp only [Bool.and_eq_true, beq_iff_eq, Bool.not_eq_true', decide_eq_true_eq] at h5
  obtain ⟨⟨⟨⟨⟨g1, g2⟩, g3⟩, g4⟩, g5⟩, g6⟩ := h5
  simp [Cond.before, Cond.holds, Cond.value, h1, h2, h3, h4, g1, g2, g3, g4, g5, g6]
def isCode : Jvm.Cond → Bool
  | .code _ _ _ _ => true
  | _ => false
theorem all_split {L : List Jvm.Cond} {P : Jvm.Cond → Bool} (h1 : L.all (fun c => isCode c || P c) = true) (h2 : ∀ c ∈ L.filter isCode, P c = true) : L.all P = true := by
  refine List.all_eq_true.mpr fun c hc => ?_
  have h := List.all_eq_true.mp h1 c hc
  rcases Bool.eq_false_or_eq_true (isCode c) with hi | hi
  · exact h2 c (List.mem_filter.mpr ⟨hc, hi⟩)
  · simpa [hi] using h
set_option maxRecDepth 65536 in
theorem w_c0 : (Jvm.Cond.code x code maxLocals ret).before args0 about1 = true := code_word (m := ⟨1, 1⟩) (meth := k1m1) (c := k1c1) (by decide +kernel) rfl rfl rfl (by decide +kernel)
set_option maxRecDepth 65536 in
theorem w_c1 : (Jvm.Cond.code ({ cls := "java/lang/Math", name := "max", desc := "(II)I" } : Jvm.MethodName) jdk_29_method_65_code (2 : Nat) (Option.some Jvm.ClassFile.FieldType.int)).before args0 about1 = true := code_word (m := ⟨2, 1⟩) (meth := k2m1) (c := k2c1) (by decide +kernel) rfl rfl rfl (by decide +kernel)
set_option maxRecDepth 65536 in
theorem w_c2 : (Jvm.Cond.code ({ cls := "com/example/sibyl/sibyl/core/BlockHash", name := "<init>", desc := "(J)V" } : Jvm.MethodName) prog_3_method_1_code (3 : Nat) (Option.none : Option Jvm.ClassFile.FieldType)).before args0 about1 = true := code_word (m := ⟨4, 0⟩) (meth := k4m0) (c := k4c0) (by decide +kernel) rfl rfl rfl (by decide +kernel)
set_option maxRecDepth 65536 in
theorem w_c3 : (Jvm.Cond.code ({ cls := "java/lang/Record", name := "<init>", desc := "()V" } : Jvm.MethodName) jdk_30_method_1_code (1 : Nat) (Option.none : Option Jvm.ClassFile.FieldType)).before args0 about1 = true := code_word (m := ⟨3, 0⟩) (meth := k3m0) (c := k3c0) (by decide +kernel) rfl rfl rfl (by decide +kernel)
set_option maxRecDepth 65536 in
theorem w_c4 : (Jvm.Cond.code ({ cls := "java/lang/Object", name := "<init>", desc := "()V" } : Jvm.MethodName) object_method_1_code (1 : Nat) (Option.none : Option Jvm.ClassFile.FieldType)).before args0 about1 = true := code_word (m := ⟨0, 0⟩) (meth := k0m0) (c := k0c0) (by decide +kernel) rfl rfl rfl (by decide +kernel)
set_option maxRecDepth 65536 in
theorem w_c5 : (Jvm.Cond.code ({ cls := "com/example/sibyl/sibyl/core/BlockHash", name := "block", desc := "(I)I" } : Jvm.MethodName) prog_3_method_5_code (2 : Nat) (Option.some Jvm.ClassFile.FieldType.int)).before args0 about1 = true := code_word (m := ⟨4, 1⟩) (meth := k4m1) (c := k4c1) (by decide +kernel) rfl rfl rfl (by decide +kernel)
def codes1 : List Jvm.Cond := [Jvm.Cond.code x code maxLocals ret, Jvm.Cond.code ({ cls := "java/lang/Math", name := "max", desc := "(II)I" } : Jvm.MethodName) jdk_29_method_65_code (2 : Nat) (Option.some Jvm.ClassFile.FieldType.int), Jvm.Cond.code ({ cls := "com/example/sibyl/sibyl/core/BlockHash", name := "<init>", desc := "(J)V" } : Jvm.MethodName) prog_3_method_1_code (3 : Nat) (Option.none : Option Jvm.ClassFile.FieldType), Jvm.Cond.code ({ cls := "java/lang/Record", name := "<init>", desc := "()V" } : Jvm.MethodName) jdk_30_method_1_code (1 : Nat) (Option.none : Option Jvm.ClassFile.FieldType), Jvm.Cond.code ({ cls := "java/lang/Object", name := "<init>", desc := "()V" } : Jvm.MethodName) object_method_1_code (1 : Nat) (Option.none : Option Jvm.ClassFile.FieldType), Jvm.Cond.code ({ cls := "com/example/sibyl/sibyl/core/BlockHash", name := "block", desc := "(I)I" } : Jvm.MethodName) prog_3_method_5_code (2 : Nat) (Option.some Jvm.ClassFile.FieldType.int)]
set_option maxRecDepth 65536 in
theorem codes_eq : words1.filter isCode = codes1 := rfl
theorem w_codes : ∀ c ∈ words1.filter isCode, c.before args0 about1 = true := by
  rw [codes_eq]
  intro c hc
  simp only [codes1, List.mem_cons, List.not_mem_nil, or_false] at hc
  rcases hc with rfl | rfl | rfl | rfl | rfl | rfl
  · exact w_c0
  · exact w_c1
  · exact w_c2
  · exact w_c3
  · exact w_c4
  · exact w_c5
set_option maxRecDepth 65536 in
theorem w_t1 : (words1.take 24).all (fun c => isCode c || c.before args0 about1) = true := by decide +kernel
set_option maxRecDepth 65536 in
theorem w_t2 : (words1.drop 24).all (fun c => isCode c || c.before args0 about1) = true := by decide +kernel
theorem w_tables : (allAtoms (Jvm.Cond.code x code maxLocals ret :: tables_1)).before args0 about1 = true := by
  rw [allAtoms_all]
  show words1.all (fun c => c.before args0 about1) = true
  refine all_split ?_ w_codes
  rw [← List.take_append_drop 24 words1, List.all_append, w_t1, w_t2]
  rfl
set_option maxRecDepth 65536 in
theorem w_case : (Jvm.Cond.and given_1 narrow_1).before args0 about1 = true := by decide +kernel
theorem w_applies : (headSpec (Jvm.Cond.code x code maxLocals ret :: tables_1) room_1).applies x e0.platform about1 = true :=
  (Spec.applies_iff w_frames).mpr ⟨w_running, w_runnable, w_alone, w_named, w_hears, w_ripe, w_room, w_tables⟩
theorem atStart : AtStart classFile x code maxLocals ret World_1 tables_1 room_1 Calls_1 rest_1 Pre_1 launch0 p0 e0 about1 theMethod args0 below0 :=
  ⟨lists_1, trivial, launch0.admits_env _ _ _, launch0.least_env, fairChoices_fair.cas, fairChoices_fair.clock, w_frames, w_args, w_heap, w_applies, trivial, trivial, w_case⟩
end start1
theorem witness_1 : WitnessClaimed_1 := ⟨start1.p0, start1.e0, start1.about1, start1.theMethod, start1.args0, start1.below0, start1.atStart⟩
end Jvm.Pilot.@@N@@
