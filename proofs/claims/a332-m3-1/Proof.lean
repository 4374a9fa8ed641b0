import JvmDerived
import JvmDerived.Pilot.@@N@@Statement
import JvmDerived.Pilot.@@N@@Code
set_option linter.unusedVariables false
set_option linter.unusedSimpArgs false
namespace Jvm.RoadKit
open Sem ClassFile Op Lib Jvm.Stand Jvm.Free Jvm.LawKit
section New
variable {p : Program} {l : Launch} {e : Env} {R : Room} {s : State} {m : MethodId} {args : Array Value} {below : List Frame} {meth : Method} {c : Code} {T : State} {locs : List Loc} {cells slots : Nat}
theorem retI (X : Stand p l e R s m args below meth c T locs cells slots) (hx : p.tables.exec = Jvm.exec) {pc : Nat} {Ls : Array Slot} {z : Int32} {rest : List Value} (hret : meth.sig.returnType = some .int) (hd : decode c.code pc = .ok (.ireturn, 1)) {fs : List Frame}
    (hl : ∀ (f : JFrame) (acts : List Action), f.method = m → f.locked = none → f.entered = [] → (doReturn e (T.setTop f) acts (some (.int z))).1 = T.setFrames fs) : Steps p.tables e below (T.setTop (mkF m pc Ls (.int z :: rest))) (T.setFrames fs) := by
  have hm' : T.vm.method? m = some meth := X.method'
  have hn : narrow .int (.int z) = .int z := rfl
  show Steps p.tables e below (T.setTop { method := m, pc := pc, locals := Ls, stack := _ :: rest, locked := none }) _
  jvm_step X.here [X.here.top, hx, hd, hm', hret, hn]
  first | (intro acts; rw [hl _ acts rfl rfl rfl]) | rw [hl _ _ rfl rfl rfl]
  exact Steps.refl _
end New
/-- the run from S ends, with Post of its end -/
def Go (tb : Tables) (e : Env) (below : List Frame) (Post : Outcome → State → Prop) (S : State) : Prop := ∃ s₂ o, Steps tb e below S s₂ ∧ s₂.status = .running ∧ Ended s₂ below o ∧ Post o s₂
theorem Go.step {tb : Tables} {e : Env} {below : List Frame} {Post : Outcome → State → Prop} {S S' : State} (h : ∀ t, Steps tb e below S' t → Steps tb e below S t) (g : Go tb e below Post S') : Go tb e below Post S := by
  obtain ⟨s₂, o, a, b⟩ := g
  exact ⟨s₂, o, h _ a, b⟩
theorem at_of {c : Cell} {vs : List Value} {d v : Value} {j : Int32} (H : Has c vs d) (hin : ¬ (j < 0 ∨ c.slots.size ≤ j.toNatClampNeg)) (e : vs.getD j.toNatClampNeg d = v) : c.slots[j.toNatClampNeg]? = some v := by
  have q : j.toNatClampNeg < c.slots.size := Nat.lt_of_not_le (fun h => hin (Or.inr h))
  rw [H _ q, e]
end Jvm.RoadKit
namespace Jvm.Pilot.@@N@@
open Jvm Jvm.ClassFile Sem Op Lib Jvm.Free Jvm.Stand Jvm.LawKit Jvm.RoadKit Bundle Jvm.Pilot.@@N@@.Jvm.D
theorem own_wS {Z : State} {a0 : Array Value} (hw : ∀ d ∈ tables_1, d.before a0 Z = true) : ∀ a ∈ Bundle.stringAtoms, a.before a0 Z = true := fun d hd => by
  simp only [Bundle.stringAtoms, List.mem_cons, List.not_mem_nil, or_false] at hd
  rcases hd with rfl | rfl | rfl | rfl | rfl | rfl | rfl
  · exact hw _ (List.mem_of_getElem? (i := 49) rfl)
  · exact hw _ (List.mem_of_getElem? (i := 50) rfl)
  · exact hw _ (List.mem_of_getElem? (i := 1) rfl)
  · exact hw _ (List.mem_of_getElem? (i := 51) rfl)
  · exact hw _ (List.mem_of_getElem? (i := 52) rfl)
  · exact hw _ (List.mem_of_getElem? (i := 53) rfl)
  · exact hw _ (List.mem_of_getElem? (i := 54) rfl)
theorem own_eqI {args : Array Value} {s : State} {t : Term} {n : Int32} (h : (Jvm.Cond.eq t (.int n)).value args s none s [] = some true) : t.eval args s none [] s = some (.int n) := by
  simp only [Cond.value, Term.eval] at h
  cases ht : t.eval args s none [] s with
  | none => simp [ht] at h
  | some x => cases x <;> simp [ht] at h ⊢; exact h
theorem own_len {args : Array Value} {s : State} {t : Term} {a : Addr} {cl : Cell} {n : Int32} (h : (Term.length t).eval args s none [] s = some (.int n)) (ev : t.eval args s none [] s = some (.ref a)) (hc : s.heap[a]? = some cl) : cl.slots.size < 2 ^ 31 ∧ cl.slots.size.toInt32 = n := by
  obtain ⟨a', cell, e1, e2, e3⟩ := Term.length_spec h
  cases ev.symm.trans e1
  have e4 := (State.arrayAt?_spec e2).1
  cases hc.symm.trans e4
  exact ⟨Jvm.Free.SBG.length_lt ev e2 h, (Value.int.inj e3).symm⟩
theorem own_back (p : Int32) : (p + (128 : Int32)) - 128 = p := by
  rw [← Int32.toInt_inj]
  have h1 := c_iadd p 128
  have h2 := c_isub (p + 128) 128
  have h3 := rng32 p
  have h4 := rng32 (p + 128 - 128)
  have e : (128 : Int32).toInt = 128 := by decide
  omega
def own_del (k : Int32) : Int32 := if k < 200 then 0 else if 299 < k then 0 else 1
theorem own_dl (k : Int32) : (k / (100 : Int32) = 2 → own_del k = 1) ∧ (¬ k / (100 : Int32) = 2 → own_del k = 0) := by
  have h := c_idiv k 100 100 (by decide) (by decide)
  have e2 : (2 : Int32).toInt = 2 := by decide
  have e200 : (200 : Int32).toInt = 200 := by decide
  have e299 : (299 : Int32).toInt = 299 := by decide
  rw [← Int32.toInt_inj, e2]
  unfold own_del
  simp only [Int32.lt_iff_toInt_lt, e200, e299]
  refine ⟨fun q => ?_, fun q => ?_⟩
  · rw [if_neg (by omega), if_neg (by omega)]
  · by_cases p1 : k.toInt < 200
    · rw [if_pos p1]
    · rw [if_neg p1, if_pos (by omega)]
theorem own_cap (x : Int32) : ¬ (x &&& (3 : Int32)) < 0 ∧ (x &&& (3 : Int32)).toNatClampNeg ≤ 3 := by
  have h := c_mask x 3 2 (by decide) (by decide)
  have e0 : (0 : Int32).toInt = 0 := by decide
  refine ⟨by rw [Int32.lt_iff_toInt_lt]; omega, ?_⟩
  simp only [Int32.toNatClampNeg]
  omega
theorem pn_0 : plainName "java/lang/Record" = true := by first | (simp [plainName, overriddenIn]; done) | decide +kernel
theorem d2_0 : decode jdk_30_method_1_code 0 = .ok (.aload_n 0, 1) := by decide +kernel
theorem d2_1 : decode jdk_30_method_1_code 1 = .ok (.invokespecial 1, 3) := by decide +kernel
theorem d2_4 : decode jdk_30_method_1_code 4 = .ok (.return_, 1) := by decide +kernel
theorem ef_rm2 (m : MethodId) (a1 : Addr) : entryFrame m #[(.ref a1)] 1 = mkF m 0 #[.val (.ref a1)] [] := by first | (simp [entryFrame, mkF, argsToLocals, Value.category]; done) | rfl
def Qrm2 (Z : State) (a1 : Addr) (h0 : Heap) (n0 : Nat) (v : Option Value) (h : Heap) (L : List Loc) : Prop := v = none ∧ Fr n0 L ∧ h = h0
set_option maxRecDepth 65536 in
set_option maxHeartbeats 40000000 in
theorem rm2 (l : Launch) (Z : State) (a0 : Array Value) (hw : ∀ d ∈ tables_1, d.before a0 Z = true) (ws : List Jvm.Cond) (a1 : Addr) (h0 : Heap) (n0 : Nat) (Z0 : n0 ≤ h0.size) :
    MetFree l (⟨"java/lang/Record", "<init>", "()V"⟩ : MethodName) (head1 (Jvm.Cond.code (⟨"java/lang/Record", "<init>", "()V"⟩ : MethodName) jdk_30_method_1_code 1 none :: ws) ({ frames := 1, cells := 0, slots := 0, locals := 12 } : Room)) (fun a U => a = #[(.ref a1)] ∧ Z.Warmed39 U.vm ∧ U.heap = h0) (fun _ _ _ _ _ => True) (fun _ U o U' => ∃ v L, o = .returned v ∧ Qrm2 Z a1 h0 n0 v U'.heap L ∧ FrameEnd U o U' L ({ frames := 1, cells := 0, slots := 0, locals := 12 } : Room).cells ({ frames := 1, cells := 0, slots := 0, locals := 12 } : Room).slots) := by
  refine MetFree.of_bodySF (plainFor_of_name pn_0) hisR ?_
  intro p e s m args below meth c s₁ Bd hml0 hP hK
  obtain ⟨rfl, hZ, hh⟩ := hP
  have hx := Bd.exec
  have hby := Bd.bytes
  have hml : c.maxLocals = 1 := hml0
  have hown : s.vm.findClass "java/lang/Record" = some m.cls := findClass_of_methodNamed Bd.named
  have hnm := (name_of_methodNamed Bd.named Bd.method).1
  have X0 : Stand p l e ({ frames := 1, cells := 0, slots := 0, locals := 12 } : Room) s m #[(.ref a1)] below meth c s₁ [] 0 0 := Stand.of_body Bd
  have e0 : s₁.heap = h0 := by rw [← hh, Bd.state]; rfl
  have N0 := Fr.nil n0
  show Go p.tables e below (fun o U' => ∃ v L, o = .returned v ∧ Qrm2 Z a1 h0 n0 v U'.heap L ∧ FrameEnd s o U' L ({ frames := 1, cells := 0, slots := 0, locals := 12 } : Room).cells ({ frames := 1, cells := 0, slots := 0, locals := 12 } : Room).slots) _
  refine Go.step (fun t kt => castTop (ef_rm2 m a1) kt) ?_
  show Go p.tables e below _ (s₁.setTop (mkF m 0 #[.val (.ref a1)] []))
  refine Go.step (fun _ kt => XS.aloadN X0.here hx rfl (hb hby d2_0) rfl rfl kt) ?_
  show Go p.tables e below _ (s₁.setTop (mkF m 1 #[.val (.ref a1)] [(.ref a1)]))
  obtain ⟨T101, X101, e101, st101⟩ := initO X0 hx hZ hown (hw _ (List.mem_of_getElem? (i := 13) rfl)) (hw _ (List.mem_of_getElem? (i := 14) rfl)) (hw _ (List.mem_of_getElem? (i := 15) rfl)) e0 (g := (mkF m 1 #[.val (.ref a1)] [(.ref a1)])) rfl (by rw [hml]; rfl) rfl (hb hby d2_1) (by decide) (W := 0) (by show 2 * 0 + _ ≤ _; exact Nat.le_of_eq rfl) (by decide)
  refine Go.step st101 ?_
  show Go p.tables e below _ (T101.setTop (mkF m 4 #[.val (.ref a1)] []))
  obtain ⟨fs, hr, hrun, hended, hW, hsame⟩ := X101.leave (v := none) (fun _ => rfl)
  refine ⟨_, _, X101.returnOut hx Bd.returns (hb hby d2_4) hr, hrun, hended, _, _, rfl, ?_, ⟨_, rfl⟩, hW, hsame.mono (by decide) (by decide)⟩
  show Qrm2 Z a1 h0 n0 _ T101.heap _
  rw [e101]
  refine ⟨?_, N0, rfl⟩
  rfl
theorem pn_1 : plainName "java/lang/Number" = true := by first | (simp [plainName, overriddenIn]; done) | decide +kernel
theorem d7_0 : decode jdk_18_method_1_code 0 = .ok (.aload_n 0, 1) := by decide +kernel
theorem d7_1 : decode jdk_18_method_1_code 1 = .ok (.invokespecial 1, 3) := by decide +kernel
theorem d7_4 : decode jdk_18_method_1_code 4 = .ok (.return_, 1) := by decide +kernel
theorem ef_rm7 (m : MethodId) (a1 : Addr) : entryFrame m #[(.ref a1)] 1 = mkF m 0 #[.val (.ref a1)] [] := by first | (simp [entryFrame, mkF, argsToLocals, Value.category]; done) | rfl
def Qrm7 (Z : State) (a1 : Addr) (h0 : Heap) (n0 : Nat) (v : Option Value) (h : Heap) (L : List Loc) : Prop := v = none ∧ Fr n0 L ∧ h = h0
set_option maxRecDepth 65536 in
set_option maxHeartbeats 40000000 in
theorem rm7 (l : Launch) (Z : State) (a0 : Array Value) (hw : ∀ d ∈ tables_1, d.before a0 Z = true) (ws : List Jvm.Cond) (a1 : Addr) (h0 : Heap) (n0 : Nat) (Z0 : n0 ≤ h0.size) :
    MetFree l (⟨"java/lang/Number", "<init>", "()V"⟩ : MethodName) (head1 (Jvm.Cond.code (⟨"java/lang/Number", "<init>", "()V"⟩ : MethodName) jdk_18_method_1_code 1 none :: ws) ({ frames := 1, cells := 0, slots := 0, locals := 12 } : Room)) (fun a U => a = #[(.ref a1)] ∧ Z.Warmed39 U.vm ∧ U.heap = h0) (fun _ _ _ _ _ => True) (fun _ U o U' => ∃ v L, o = .returned v ∧ Qrm7 Z a1 h0 n0 v U'.heap L ∧ FrameEnd U o U' L ({ frames := 1, cells := 0, slots := 0, locals := 12 } : Room).cells ({ frames := 1, cells := 0, slots := 0, locals := 12 } : Room).slots) := by
  refine MetFree.of_bodySF (plainFor_of_name pn_1) hisR ?_
  intro p e s m args below meth c s₁ Bd hml0 hP hK
  obtain ⟨rfl, hZ, hh⟩ := hP
  have hx := Bd.exec
  have hby := Bd.bytes
  have hml : c.maxLocals = 1 := hml0
  have hown : s.vm.findClass "java/lang/Number" = some m.cls := findClass_of_methodNamed Bd.named
  have hnm := (name_of_methodNamed Bd.named Bd.method).1
  have X0 : Stand p l e ({ frames := 1, cells := 0, slots := 0, locals := 12 } : Room) s m #[(.ref a1)] below meth c s₁ [] 0 0 := Stand.of_body Bd
  have e0 : s₁.heap = h0 := by rw [← hh, Bd.state]; rfl
  have N0 := Fr.nil n0
  show Go p.tables e below (fun o U' => ∃ v L, o = .returned v ∧ Qrm7 Z a1 h0 n0 v U'.heap L ∧ FrameEnd s o U' L ({ frames := 1, cells := 0, slots := 0, locals := 12 } : Room).cells ({ frames := 1, cells := 0, slots := 0, locals := 12 } : Room).slots) _
  refine Go.step (fun t kt => castTop (ef_rm7 m a1) kt) ?_
  show Go p.tables e below _ (s₁.setTop (mkF m 0 #[.val (.ref a1)] []))
  refine Go.step (fun _ kt => XS.aloadN X0.here hx rfl (hb hby d7_0) rfl rfl kt) ?_
  show Go p.tables e below _ (s₁.setTop (mkF m 1 #[.val (.ref a1)] [(.ref a1)]))
  obtain ⟨T101, X101, e101, st101⟩ := initO X0 hx hZ hown (hw _ (List.mem_of_getElem? (i := 45) rfl)) (hw _ (List.mem_of_getElem? (i := 14) rfl)) (hw _ (List.mem_of_getElem? (i := 15) rfl)) e0 (g := (mkF m 1 #[.val (.ref a1)] [(.ref a1)])) rfl (by rw [hml]; rfl) rfl (hb hby d7_1) (by decide) (W := 0) (by show 2 * 0 + _ ≤ _; exact Nat.le_of_eq rfl) (by decide)
  refine Go.step st101 ?_
  show Go p.tables e below _ (T101.setTop (mkF m 4 #[.val (.ref a1)] []))
  obtain ⟨fs, hr, hrun, hended, hW, hsame⟩ := X101.leave (v := none) (fun _ => rfl)
  refine ⟨_, _, X101.returnOut hx Bd.returns (hb hby d7_4) hr, hrun, hended, _, _, rfl, ?_, ⟨_, rfl⟩, hW, hsame.mono (by decide) (by decide)⟩
  show Qrm7 Z a1 h0 n0 _ T101.heap _
  rw [e101]
  refine ⟨?_, N0, rfl⟩
  rfl
theorem pd_0 : parseMethodDescriptor "()V" = some ⟨[], none⟩ := by decide +kernel
theorem pn_2 : plainName "java/lang/Integer" = true := by first | (simp [plainName, overriddenIn]; done) | decide +kernel
theorem d6_0 : decode jdk_33_method_23_code 0 = .ok (.aload_n 0, 1) := by decide +kernel
theorem d6_1 : decode jdk_33_method_23_code 1 = .ok (.invokespecial 202, 3) := by decide +kernel
theorem d6_4 : decode jdk_33_method_23_code 4 = .ok (.aload_n 0, 1) := by decide +kernel
theorem d6_5 : decode jdk_33_method_23_code 5 = .ok (.iload_n 1, 1) := by decide +kernel
theorem d6_6 : decode jdk_33_method_23_code 6 = .ok (.putfield 205, 3) := by decide +kernel
theorem d6_9 : decode jdk_33_method_23_code 9 = .ok (.return_, 1) := by decide +kernel
theorem ef_rm6 (m : MethodId) (a1 : Addr) (p1 : Int32) (u1 : Value) : entryFrame m #[(.ref a1), (.int p1)] 2 = mkF m 0 #[.val (.ref a1), .val (.int p1)] [] := by first | (simp [entryFrame, mkF, argsToLocals, Value.category]; done) | rfl
def Qrm6 (Z : State) (a1 : Addr) (p1 : Int32) (u1 : Value) (h0 : Heap) (n0 : Nat) (v : Option Value) (h : Heap) (L : List Loc) : Prop := v = none ∧ Fr n0 L ∧ Keep h0 h [a1] ∧ Exa Z h a1 "java/lang/Integer" ∧ Fld Z h a1 "java/lang/Integer" "value" "I" (.int p1)
set_option maxRecDepth 65536 in
set_option maxHeartbeats 40000000 in
theorem rm6 (l : Launch) (Z : State) (a0 : Array Value) (hw : ∀ d ∈ tables_1, d.before a0 Z = true) (ws : List Jvm.Cond) (a1 : Addr) (p1 : Int32) (u1 : Value) (h0 : Heap) (n0 : Nat) (Z0 : n0 ≤ h0.size) (E1 : Exa Z h0 a1 "java/lang/Integer") (F1 : Fld Z h0 a1 "java/lang/Integer" "value" "I" u1) (g_a1 : n0 ≤ a1) :
    MetFree l (⟨"java/lang/Integer", "<init>", "(I)V"⟩ : MethodName) (head1 (Jvm.Cond.code (⟨"java/lang/Integer", "<init>", "(I)V"⟩ : MethodName) jdk_33_method_23_code 2 none :: ws) ({ frames := 2, cells := 0, slots := 0, locals := 24 } : Room)) (fun a U => a = #[(.ref a1), (.int p1)] ∧ Z.Warmed39 U.vm ∧ U.heap = h0) (fun _ _ _ _ _ => True) (fun _ U o U' => ∃ v L, o = .returned v ∧ Qrm6 Z a1 p1 u1 h0 n0 v U'.heap L ∧ FrameEnd U o U' L ({ frames := 2, cells := 0, slots := 0, locals := 24 } : Room).cells ({ frames := 2, cells := 0, slots := 0, locals := 24 } : Room).slots) := by
  refine MetFree.of_bodySF (plainFor_of_name pn_2) hisR ?_
  intro p e s m args below meth c s₁ Bd hml0 hP hK
  obtain ⟨rfl, hZ, hh⟩ := hP
  have hx := Bd.exec
  have hby := Bd.bytes
  have hml : c.maxLocals = 2 := hml0
  have hown : s.vm.findClass "java/lang/Integer" = some m.cls := findClass_of_methodNamed Bd.named
  have hnm := (name_of_methodNamed Bd.named Bd.method).1
  have X0 : Stand p l e ({ frames := 2, cells := 0, slots := 0, locals := 24 } : Room) s m #[(.ref a1), (.int p1)] below meth c s₁ [] 0 0 := Stand.of_body Bd
  have e0 : s₁.heap = h0 := by rw [← hh, Bd.state]; rfl
  have N0 := Fr.nil n0
  show Go p.tables e below (fun o U' => ∃ v L, o = .returned v ∧ Qrm6 Z a1 p1 u1 h0 n0 v U'.heap L ∧ FrameEnd s o U' L ({ frames := 2, cells := 0, slots := 0, locals := 24 } : Room).cells ({ frames := 2, cells := 0, slots := 0, locals := 24 } : Room).slots) _
  refine Go.step (fun t kt => castTop (ef_rm6 m a1 p1 u1) kt) ?_
  show Go p.tables e below _ (s₁.setTop (mkF m 0 #[.val (.ref a1), .val (.int p1)] []))
  have K101 : Keep h0 h0 [a1] := (Keep.refl h0 [a1])
  refine Go.step (fun _ kt => XS.aloadN X0.here hx rfl (hb hby d6_0) rfl rfl kt) ?_
  show Go p.tables e below _ (s₁.setTop (mkF m 1 #[.val (.ref a1), .val (.int p1)] [(.ref a1)]))
  obtain ⟨_, _, ⟨T102, L102, k102, n102⟩, -, X102, ⟨Lc102, hQ102, l102, y102, z102⟩, st102⟩ := X0.specialBack hx (y := (⟨"java/lang/Number", "<init>", "()V"⟩ : MethodName)) rfl hown (mvT hZ (hw _ (List.mem_of_getElem? (i := 39) rfl))) (mvT hZ (hw _ (List.mem_of_getElem? (i := 40) rfl))) (mvT hZ (hw _ (List.mem_of_getElem? (i := 44) rfl))) (by decide) (backOf (W := 0) (rm7 l Z a0 hw [] a1  h0 n0 Z0  ) hZ (hw _ (List.mem_of_getElem? (i := 44) rfl)) (hw _ (List.mem_of_getElem? (i := 43) rfl)) (by decide) (by decide)) (g := (mkF m 1 #[.val (.ref a1), .val (.int p1)] [(.ref a1)])) rfl (by rw [hml]; rfl) (Steps.refl _) (a := a1) (argsL := []) (rest := []) (lenOf pd_0 rfl) rfl (by show 2 * 0 + _ ≤ _; exact Nat.le_of_eq rfl) (hb hby d6_1) (fun _ _ => ⟨rfl, e0, (by decide : 0 + 0 ≤ _), (by decide : 0 + 0 ≤ _)⟩)
  dsimp only [Pt.U, Pt.locs, Pt.cells, Pt.slots] at X102 l102 y102 z102 st102 hQ102
  subst l102 y102 z102
  obtain ⟨rfl, N102q, eh102⟩ := hQ102
  have N102 := Fr.app N0 N102q
  refine Go.step (fun _ kt => st102.trans kt) ?_
  show Go p.tables e below _ (T102.setTop (mkF m 4 #[.val (.ref a1), .val (.int p1)] []))
  refine Go.step (fun _ kt => XS.aloadN X102.here hx rfl (hb hby d6_4) rfl rfl kt) ?_
  show Go p.tables e below _ (T102.setTop (mkF m 5 #[.val (.ref a1), .val (.int p1)] [(.ref a1)]))
  refine Go.step (fun _ kt => XS.iloadN X102.here hx rfl (hb hby d6_5) rfl kt) ?_
  show Go p.tables e below _ (T102.setTop (mkF m 6 #[.val (.ref a1), .val (.int p1)] [(.int p1), (.ref a1)]))
  obtain ⟨T103, h103, X103, e103, W103, st103⟩ := putF X102 hx hZ hown (host := "") (Or.inl (hw _ (List.mem_of_getElem? (i := 46) rfl))) Via.refl eh102 F1 E1 (Or.inr ⟨(hw _ (List.mem_of_getElem? (i := 47) rfl)), rfl, hnm⟩) (hw _ (List.mem_of_getElem? (i := 34) rfl)) (ty := .int) (by decide) rfl rfl (g := (mkF m 6 #[.val (.ref a1), .val (.int p1)] [(.int p1), (.ref a1)])) rfl rfl (hb hby d6_6)
  refine Go.step st103 ?_
  have N103 := Fr.snoc X103 N102 g_a1
  have F104 : Exa Z h103 a1 "java/lang/Integer" := (E1.wr W103)
  have F105 : Fld Z h103 a1 "java/lang/Integer" "value" "I" (.int p1) := (F1.same W103)
  have Z106 : n0 ≤ h103.size := (Nat.le_trans Z0 (Nat.le_of_eq W103.size.symm))
  have K107 : Keep h0 h103 [a1] := (K101.wr W103 (Or.inl (List.mem_of_getElem? (i := 0) rfl)))
  show Go p.tables e below _ (T103.setTop (mkF m 9 #[.val (.ref a1), .val (.int p1)] []))
  obtain ⟨fs, hr, hrun, hended, hW, hsame⟩ := X103.leave (v := none) (fun _ => rfl)
  refine ⟨_, _, X103.returnOut hx Bd.returns (hb hby d6_9) hr, hrun, hended, _, _, rfl, ?_, ⟨_, rfl⟩, hW, hsame.mono (by decide) (by decide)⟩
  show Qrm6 Z a1 p1 u1 h0 n0 _ T103.heap _
  rw [e103]
  refine ⟨?_, N103, K107, F104, F105⟩
  rfl
theorem d8_0 : decode jdk_33_method_27_code 0 = .ok (.aload_n 0, 1) := by decide +kernel
theorem d8_1 : decode jdk_33_method_27_code 1 = .ok (.getfield 205, 3) := by decide +kernel
theorem d8_4 : decode jdk_33_method_27_code 4 = .ok (.ireturn, 1) := by decide +kernel
theorem ef_rm8 (m : MethodId) (a1 : Addr) (k : Int32) : entryFrame m #[(.ref a1)] 1 = mkF m 0 #[.val (.ref a1)] [] := by first | (simp [entryFrame, mkF, argsToLocals, Value.category]; done) | rfl
def Qrm8 (Z : State) (a1 : Addr) (k : Int32) (h0 : Heap) (n0 : Nat) (v : Option Value) (h : Heap) (L : List Loc) : Prop := v = some (.int k) ∧ Fr n0 L ∧ h = h0
set_option maxRecDepth 65536 in
set_option maxHeartbeats 40000000 in
theorem rm8 (l : Launch) (Z : State) (a0 : Array Value) (hw : ∀ d ∈ tables_1, d.before a0 Z = true) (ws : List Jvm.Cond) (a1 : Addr) (k : Int32) (h0 : Heap) (n0 : Nat) (Z0 : n0 ≤ h0.size) (F1 : Fld Z h0 a1 "java/lang/Integer" "value" "I" (.int k)) :
    MetFree l (⟨"java/lang/Integer", "intValue", "()I"⟩ : MethodName) (head1 (Jvm.Cond.code (⟨"java/lang/Integer", "intValue", "()I"⟩ : MethodName) jdk_33_method_27_code 1 (some .int) :: ws) ({ frames := 0, cells := 0, slots := 0, locals := 0 } : Room)) (fun a U => a = #[(.ref a1)] ∧ Z.Warmed39 U.vm ∧ U.heap = h0) (fun _ _ _ _ _ => True) (fun _ U o U' => ∃ v L, o = .returned v ∧ Qrm8 Z a1 k h0 n0 v U'.heap L ∧ FrameEnd U o U' L ({ frames := 0, cells := 0, slots := 0, locals := 0 } : Room).cells ({ frames := 0, cells := 0, slots := 0, locals := 0 } : Room).slots) := by
  refine MetFree.of_bodySF (plainFor_of_name pn_2) hisR ?_
  intro p e s m args below meth c s₁ Bd hml0 hP hK
  obtain ⟨rfl, hZ, hh⟩ := hP
  have hx := Bd.exec
  have hby := Bd.bytes
  have hml : c.maxLocals = 1 := hml0
  have hown : s.vm.findClass "java/lang/Integer" = some m.cls := findClass_of_methodNamed Bd.named
  have hnm := (name_of_methodNamed Bd.named Bd.method).1
  have X0 : Stand p l e ({ frames := 0, cells := 0, slots := 0, locals := 0 } : Room) s m #[(.ref a1)] below meth c s₁ [] 0 0 := Stand.of_body Bd
  have e0 : s₁.heap = h0 := by rw [← hh, Bd.state]; rfl
  have N0 := Fr.nil n0
  show Go p.tables e below (fun o U' => ∃ v L, o = .returned v ∧ Qrm8 Z a1 k h0 n0 v U'.heap L ∧ FrameEnd s o U' L ({ frames := 0, cells := 0, slots := 0, locals := 0 } : Room).cells ({ frames := 0, cells := 0, slots := 0, locals := 0 } : Room).slots) _
  refine Go.step (fun t kt => castTop (ef_rm8 m a1 k) kt) ?_
  show Go p.tables e below _ (s₁.setTop (mkF m 0 #[.val (.ref a1)] []))
  refine Go.step (fun _ kt => XS.aloadN X0.here hx rfl (hb hby d8_0) rfl rfl kt) ?_
  show Go p.tables e below _ (s₁.setTop (mkF m 1 #[.val (.ref a1)] [(.ref a1)]))
  obtain ⟨T101, X101, e101, st101⟩ := getF X0 hx hZ hown (host := "") (Or.inl (hw _ (List.mem_of_getElem? (i := 46) rfl))) Via.refl e0 F1 (g := (mkF m 1 #[.val (.ref a1)] [(.ref a1)])) rfl rfl (hb hby d8_1)
  refine Go.step st101 ?_
  show Go p.tables e below _ (T101.setTop (mkF m 4 #[.val (.ref a1)] [(.int k)]))
  obtain ⟨fs, hr, hrun, hended, hW, hsame⟩ := X101.leave (v := some (.int k)) (fun h => by rw [Bd.returns] at h; cases h)
  refine ⟨_, _, retI X101 hx Bd.returns (hb hby d8_4) hr, hrun, hended, _, _, rfl, ?_, ⟨_, rfl⟩, hW, hsame.mono (by decide) (by decide)⟩
  show Qrm8 Z a1 k h0 n0 _ T101.heap _
  rw [e101]
  refine ⟨?_, N0, rfl⟩
  rfl
theorem pd_1 : parseMethodDescriptor "(I)V" = some ⟨[.int], none⟩ := by decide +kernel
theorem d5_0 : decode jdk_33_method_22_code 0 = .ok (.iload_n 0, 1) := by decide +kernel
theorem d5_1 : decode jdk_33_method_22_code 1 = .ok (.bipush (-128), 2) := by decide +kernel
theorem d5_3 : decode jdk_33_method_22_code 3 = .ok (.if_icmp .lt 20, 3) := by decide +kernel
theorem d5_6 : decode jdk_33_method_22_code 6 = .ok (.iload_n 0, 1) := by decide +kernel
theorem d5_7 : decode jdk_33_method_22_code 7 = .ok (.getstatic 191, 3) := by decide +kernel
theorem d5_10 : decode jdk_33_method_22_code 10 = .ok (.if_icmp .gt 13, 3) := by decide +kernel
theorem d5_13 : decode jdk_33_method_22_code 13 = .ok (.getstatic 195, 3) := by decide +kernel
theorem d5_16 : decode jdk_33_method_22_code 16 = .ok (.iload_n 0, 1) := by decide +kernel
theorem d5_17 : decode jdk_33_method_22_code 17 = .ok (.sipush 128, 3) := by decide +kernel
theorem d5_20 : decode jdk_33_method_22_code 20 = .ok (.iadd, 1) := by decide +kernel
theorem d5_21 : decode jdk_33_method_22_code 21 = .ok (.aaload, 1) := by decide +kernel
theorem d5_22 : decode jdk_33_method_22_code 22 = .ok (.areturn, 1) := by decide +kernel
theorem d5_23 : decode jdk_33_method_22_code 23 = .ok (.new 1, 3) := by decide +kernel
theorem d5_26 : decode jdk_33_method_22_code 26 = .ok (.dup, 1) := by decide +kernel
theorem d5_27 : decode jdk_33_method_22_code 27 = .ok (.iload_n 0, 1) := by decide +kernel
theorem d5_28 : decode jdk_33_method_22_code 28 = .ok (.invokespecial 199, 3) := by decide +kernel
theorem d5_31 : decode jdk_33_method_22_code 31 = .ok (.areturn, 1) := by decide +kernel
theorem ef_rm5 (m : MethodId) (p1 : Int32) (ca : Addr) (cc : Cell) : entryFrame m #[(.int p1)] 1 = mkF m 0 #[.val (.int p1)] [] := by first | (simp [entryFrame, mkF, argsToLocals, Value.category]; done) | rfl
def Qrm5 (Z : State) (p1 : Int32) (ca : Addr) (cc : Cell) (h0 : Heap) (n0 : Nat) (v : Option Value) (h : Heap) (L : List Loc) : Prop := ∃ r : Addr, v = some (.ref r) ∧ Fr n0 L ∧ Keep h0 h [] ∧ Exa Z h r "java/lang/Integer" ∧ Fld Z h r "java/lang/Integer" "value" "I" (.int p1)
set_option maxRecDepth 65536 in
set_option maxHeartbeats 40000000 in
theorem rm5 (l : Launch) (Z : State) (a0 : Array Value) (hw : ∀ d ∈ tables_1, d.before a0 Z = true) (ws : List Jvm.Cond) (p1 : Int32) (ca : Addr) (cc : Cell) (h0 : Heap) (n0 : Nat) (Z0 : n0 ≤ h0.size) (S_high : Sta Z h0 "java/lang/Integer$IntegerCache" "high" "I" (.int (127 : Int32))) (S_cache : Sta Z h0 "java/lang/Integer$IntegerCache" "cache" "[Ljava/lang/Integer;" (.ref ca)) (Bx : Bxs Z ca cc "java/lang/Integer" "I" (256 : Int32) (fun j => .int (j - 128))) (O0 : Ext Z.heap h0) :
    MetFree l (⟨"java/lang/Integer", "valueOf", "(I)Ljava/lang/Integer;"⟩ : MethodName) (head1 (Jvm.Cond.code (⟨"java/lang/Integer", "valueOf", "(I)Ljava/lang/Integer;"⟩ : MethodName) jdk_33_method_22_code 1 (some (.object "java/lang/Integer")) :: ws) ({ frames := 3, cells := 1, slots := 1, locals := 38 } : Room)) (fun a U => a = #[(.int p1)] ∧ Z.Warmed39 U.vm ∧ U.heap = h0) (fun _ _ _ _ _ => True) (fun _ U o U' => ∃ v L, o = .returned v ∧ Qrm5 Z p1 ca cc h0 n0 v U'.heap L ∧ FrameEnd U o U' L ({ frames := 3, cells := 1, slots := 1, locals := 38 } : Room).cells ({ frames := 3, cells := 1, slots := 1, locals := 38 } : Room).slots) := by
  refine MetFree.of_bodySF (plainFor_of_name pn_2) hisR ?_
  intro p e s m args below meth c s₁ Bd hml0 hP hK
  obtain ⟨rfl, hZ, hh⟩ := hP
  have hx := Bd.exec
  have hby := Bd.bytes
  have hml : c.maxLocals = 1 := hml0
  have hown : s.vm.findClass "java/lang/Integer" = some m.cls := findClass_of_methodNamed Bd.named
  have hnm := (name_of_methodNamed Bd.named Bd.method).1
  have X0 : Stand p l e ({ frames := 3, cells := 1, slots := 1, locals := 38 } : Room) s m #[(.int p1)] below meth c s₁ [] 0 0 := Stand.of_body Bd
  have e0 : s₁.heap = h0 := by rw [← hh, Bd.state]; rfl
  have N0 := Fr.nil n0
  show Go p.tables e below (fun o U' => ∃ v L, o = .returned v ∧ Qrm5 Z p1 ca cc h0 n0 v U'.heap L ∧ FrameEnd s o U' L ({ frames := 3, cells := 1, slots := 1, locals := 38 } : Room).cells ({ frames := 3, cells := 1, slots := 1, locals := 38 } : Room).slots) _
  refine Go.step (fun t kt => castTop (ef_rm5 m p1 ca cc) kt) ?_
  show Go p.tables e below _ (s₁.setTop (mkF m 0 #[.val (.int p1)] []))
  have K101 : Keep h0 h0 [] := (Keep.refl h0 [])
  refine Go.step (fun _ kt => XS.iloadN X0.here hx rfl (hb hby d5_0) rfl kt) ?_
  show Go p.tables e below _ (s₁.setTop (mkF m 1 #[.val (.int p1)] [(.int p1)]))
  refine Go.step (fun _ kt => XS.bipush X0.here hx rfl (hb hby d5_1) kt) ?_
  show Go p.tables e below _ (s₁.setTop (mkF m 3 #[.val (.int p1)] [(.int (-128 : Int32)), (.int p1)]))
  by_cases hc3_102 : p1 < (-128 : Int32)
  · refine Go.step (fun _ kt => XS.icmpYes X0.here hx rfl (pc0 := 3) (pc' := 23) rfl (hb hby d5_3) rfl (tlt hc3_102).1 (by decide) (by decide) kt) ?_
    show Go p.tables e below _ (s₁.setTop (mkF m 23 #[.val (.int p1)] []))
    obtain ⟨T103, h103, X103, e103, E103, A103, D103, -, st103⟩ := newO X0 hx hZ hown (hw _ (List.mem_of_getElem? (i := 33) rfl)) (hw _ (List.mem_of_getElem? (i := 34) rfl)) (hw _ (List.mem_of_getElem? (i := 31) rfl)) e0 (g := (mkF m 23 #[.val (.int p1)] [])) rfl (hb hby d5_23) (by decide) (by decide)
    obtain ⟨b103, g103⟩ : ∃ z, z = h0.size := ⟨_, rfl⟩
    rw [← g103] at A103 D103 st103
    refine Go.step st103 ?_
    have g_b103 : n0 ≤ b103 := Nat.le_trans Z0 (Nat.le_of_eq g103.symm)
    have sz_b103 : h0.size ≤ b103 := Nat.le_trans K101.1 (Nat.le_of_eq g103.symm)
    have F104 : Sta Z h103 "java/lang/Integer$IntegerCache" "high" "I" (.int (127 : Int32)) := (S_high.ext E103)
    have F105 : Sta Z h103 "java/lang/Integer$IntegerCache" "cache" "[Ljava/lang/Integer;" (.ref ca) := (S_cache.ext E103)
    have Z106 : n0 ≤ h103.size := (Nat.le_trans Z0 E103.1)
    have K107 : Keep h0 h103 [] := (K101.ext E103)
    have F108 : Fld Z h103 b103 "java/lang/Integer" "value" "I" (.int (0 : Int32)) := D103 (Or.inr (hw _ (List.mem_of_getElem? (i := 47) rfl))) (ty := .int) (by decide)
    show Go p.tables e below _ (T103.setTop (mkF m 26 #[.val (.int p1)] [(.ref b103)]))
    refine Go.step (fun _ kt => XS.dup X103.here hx rfl (hb hby d5_26) rfl rfl kt) ?_
    show Go p.tables e below _ (T103.setTop (mkF m 27 #[.val (.int p1)] [(.ref b103), (.ref b103)]))
    refine Go.step (fun _ kt => XS.iloadN X103.here hx rfl (hb hby d5_27) rfl kt) ?_
    show Go p.tables e below _ (T103.setTop (mkF m 28 #[.val (.int p1)] [(.int p1), (.ref b103), (.ref b103)]))
    obtain ⟨_, _, ⟨T109, L109, k109, n109⟩, -, X109, ⟨Lc109, hQ109, l109, y109, z109⟩, st109⟩ := X103.specialBack hx (y := (⟨"java/lang/Integer", "<init>", "(I)V"⟩ : MethodName)) rfl hown (mvT hZ (hw _ (List.mem_of_getElem? (i := 35) rfl))) (mvT hZ (hw _ (List.mem_of_getElem? (i := 36) rfl))) (mvT hZ (hw _ (List.mem_of_getElem? (i := 38) rfl))) (by decide) (backOf (W := 1) (rm6 l Z a0 hw [] b103 p1 (.int (0 : Int32)) h103 n0 Z106 A103 F108 g_b103) hZ (hw _ (List.mem_of_getElem? (i := 38) rfl)) (hw _ (List.mem_of_getElem? (i := 31) rfl)) (by decide) (by decide)) (g := (mkF m 28 #[.val (.int p1)] [(.int p1), (.ref b103), (.ref b103)])) rfl (by rw [hml]; rfl) (Steps.refl _) (a := b103) (argsL := [(.int p1)]) (rest := [(.ref b103)]) (lenOf pd_1 rfl) rfl (by show 2 * 0 + _ ≤ _; exact Nat.le_of_eq rfl) (hb hby d5_28) (fun _ _ => ⟨rfl, e103, (by decide : 1 + 0 ≤ _), (by decide : 1 + 0 ≤ _)⟩)
    dsimp only [Pt.U, Pt.locs, Pt.cells, Pt.slots] at X109 l109 y109 z109 st109 hQ109
    subst l109 y109 z109
    obtain ⟨rfl, N109q, Kq109, P110, P111⟩ := hQ109
    have F112 : Exa Z T109.heap b103 "java/lang/Integer" := (A103.keep Kq109)
    have Z113 : n0 ≤ T109.heap.size := (Nat.le_trans Z106 Kq109.1)
    have K114 : Keep h0 T109.heap [] := (K107.trans Kq109 (by intro x hx; cases List.mem_singleton.mp hx; exact (Or.inr sz_b103)))
    have N109 := Fr.app N0 N109q
    refine Go.step (fun _ kt => st109.trans kt) ?_
    show Go p.tables e below _ (T109.setTop (mkF m 31 #[.val (.int p1)] [(.ref b103)]))
    obtain ⟨fs, hr, hrun, hended, hW, hsame⟩ := X109.leave (v := some (.ref b103)) (fun h => by rw [Bd.returns] at h; cases h)
    refine ⟨_, _, retOut X109 hx Bd.returns rfl (Or.inr (Or.inr (Or.inr (Or.inr ⟨rfl, rfl, rfl⟩)))) (hb hby d5_31) hr, hrun, hended, _, _, rfl, ?_, ⟨_, rfl⟩, hW, hsame.mono (by decide) (by decide)⟩
    show Qrm5 Z p1 ca cc h0 n0 _ T109.heap _
    refine ⟨b103, ?_, N109, K114, P110, P111⟩
    rfl
  · refine Go.step (fun _ kt => XS.icmpNo X0.here hx rfl (hb hby d5_3) rfl (flt hc3_102).1 kt) ?_
    show Go p.tables e below _ (s₁.setTop (mkF m 6 #[.val (.int p1)] []))
    refine Go.step (fun _ kt => XS.iloadN X0.here hx rfl (hb hby d5_6) rfl kt) ?_
    show Go p.tables e below _ (s₁.setTop (mkF m 7 #[.val (.int p1)] [(.int p1)]))
    obtain ⟨T115, X115, e115, st115⟩ := getS2 X0 hx hZ hown (host := "") (Or.inl (hw _ (List.mem_of_getElem? (i := 60) rfl))) Via.refl e0 S_high (g := (mkF m 7 #[.val (.int p1)] [(.int p1)])) rfl (hb hby d5_7)
    refine Go.step st115 ?_
    show Go p.tables e below _ (T115.setTop (mkF m 10 #[.val (.int p1)] [(.int (127 : Int32)), (.int p1)]))
    by_cases hc10_116 : (127 : Int32) < p1
    · refine Go.step (fun _ kt => XS.icmpYes X115.here hx rfl (pc0 := 10) (pc' := 23) rfl (hb hby d5_10) rfl (tlt hc10_116).2.2.1 (by decide) (by decide) kt) ?_
      show Go p.tables e below _ (T115.setTop (mkF m 23 #[.val (.int p1)] []))
      obtain ⟨T117, h117, X117, e117, E117, A117, D117, -, st117⟩ := newO X115 hx hZ hown (hw _ (List.mem_of_getElem? (i := 33) rfl)) (hw _ (List.mem_of_getElem? (i := 34) rfl)) (hw _ (List.mem_of_getElem? (i := 31) rfl)) e115 (g := (mkF m 23 #[.val (.int p1)] [])) rfl (hb hby d5_23) (by decide) (by decide)
      obtain ⟨b117, g117⟩ : ∃ z, z = h0.size := ⟨_, rfl⟩
      rw [← g117] at A117 D117 st117
      refine Go.step st117 ?_
      have g_b117 : n0 ≤ b117 := Nat.le_trans Z0 (Nat.le_of_eq g117.symm)
      have sz_b117 : h0.size ≤ b117 := Nat.le_trans K101.1 (Nat.le_of_eq g117.symm)
      have F118 : Sta Z h117 "java/lang/Integer$IntegerCache" "high" "I" (.int (127 : Int32)) := (S_high.ext E117)
      have F119 : Sta Z h117 "java/lang/Integer$IntegerCache" "cache" "[Ljava/lang/Integer;" (.ref ca) := (S_cache.ext E117)
      have Z120 : n0 ≤ h117.size := (Nat.le_trans Z0 E117.1)
      have K121 : Keep h0 h117 [] := (K101.ext E117)
      have F122 : Fld Z h117 b117 "java/lang/Integer" "value" "I" (.int (0 : Int32)) := D117 (Or.inr (hw _ (List.mem_of_getElem? (i := 47) rfl))) (ty := .int) (by decide)
      show Go p.tables e below _ (T117.setTop (mkF m 26 #[.val (.int p1)] [(.ref b117)]))
      refine Go.step (fun _ kt => XS.dup X117.here hx rfl (hb hby d5_26) rfl rfl kt) ?_
      show Go p.tables e below _ (T117.setTop (mkF m 27 #[.val (.int p1)] [(.ref b117), (.ref b117)]))
      refine Go.step (fun _ kt => XS.iloadN X117.here hx rfl (hb hby d5_27) rfl kt) ?_
      show Go p.tables e below _ (T117.setTop (mkF m 28 #[.val (.int p1)] [(.int p1), (.ref b117), (.ref b117)]))
      obtain ⟨_, _, ⟨T123, L123, k123, n123⟩, -, X123, ⟨Lc123, hQ123, l123, y123, z123⟩, st123⟩ := X117.specialBack hx (y := (⟨"java/lang/Integer", "<init>", "(I)V"⟩ : MethodName)) rfl hown (mvT hZ (hw _ (List.mem_of_getElem? (i := 35) rfl))) (mvT hZ (hw _ (List.mem_of_getElem? (i := 36) rfl))) (mvT hZ (hw _ (List.mem_of_getElem? (i := 38) rfl))) (by decide) (backOf (W := 1) (rm6 l Z a0 hw [] b117 p1 (.int (0 : Int32)) h117 n0 Z120 A117 F122 g_b117) hZ (hw _ (List.mem_of_getElem? (i := 38) rfl)) (hw _ (List.mem_of_getElem? (i := 31) rfl)) (by decide) (by decide)) (g := (mkF m 28 #[.val (.int p1)] [(.int p1), (.ref b117), (.ref b117)])) rfl (by rw [hml]; rfl) (Steps.refl _) (a := b117) (argsL := [(.int p1)]) (rest := [(.ref b117)]) (lenOf pd_1 rfl) rfl (by show 2 * 0 + _ ≤ _; exact Nat.le_of_eq rfl) (hb hby d5_28) (fun _ _ => ⟨rfl, e117, (by decide : 1 + 0 ≤ _), (by decide : 1 + 0 ≤ _)⟩)
      dsimp only [Pt.U, Pt.locs, Pt.cells, Pt.slots] at X123 l123 y123 z123 st123 hQ123
      subst l123 y123 z123
      obtain ⟨rfl, N123q, Kq123, P124, P125⟩ := hQ123
      have F126 : Exa Z T123.heap b117 "java/lang/Integer" := (A117.keep Kq123)
      have Z127 : n0 ≤ T123.heap.size := (Nat.le_trans Z120 Kq123.1)
      have K128 : Keep h0 T123.heap [] := (K121.trans Kq123 (by intro x hx; cases List.mem_singleton.mp hx; exact (Or.inr sz_b117)))
      have N123 := Fr.app N0 N123q
      refine Go.step (fun _ kt => st123.trans kt) ?_
      show Go p.tables e below _ (T123.setTop (mkF m 31 #[.val (.int p1)] [(.ref b117)]))
      obtain ⟨fs, hr, hrun, hended, hW, hsame⟩ := X123.leave (v := some (.ref b117)) (fun h => by rw [Bd.returns] at h; cases h)
      refine ⟨_, _, retOut X123 hx Bd.returns rfl (Or.inr (Or.inr (Or.inr (Or.inr ⟨rfl, rfl, rfl⟩)))) (hb hby d5_31) hr, hrun, hended, _, _, rfl, ?_, ⟨_, rfl⟩, hW, hsame.mono (by decide) (by decide)⟩
      show Qrm5 Z p1 ca cc h0 n0 _ T123.heap _
      refine ⟨b117, ?_, N123, K128, P124, P125⟩
      rfl
    · refine Go.step (fun _ kt => XS.icmpNo X115.here hx rfl (hb hby d5_10) rfl (flt hc10_116).2.2.1 kt) ?_
      show Go p.tables e below _ (T115.setTop (mkF m 13 #[.val (.int p1)] []))
      obtain ⟨T129, X129, e129, st129⟩ := getS2 X115 hx hZ hown (host := "") (Or.inl (hw _ (List.mem_of_getElem? (i := 62) rfl))) Via.refl e115 S_cache (g := (mkF m 13 #[.val (.int p1)] [])) rfl (hb hby d5_13)
      refine Go.step st129 ?_
      show Go p.tables e below _ (T129.setTop (mkF m 16 #[.val (.int p1)] [(.ref ca)]))
      refine Go.step (fun _ kt => XS.iloadN X129.here hx rfl (hb hby d5_16) rfl kt) ?_
      show Go p.tables e below _ (T129.setTop (mkF m 17 #[.val (.int p1)] [(.int p1), (.ref ca)]))
      refine Go.step (fun _ kt => XS.sipush X129.here hx rfl (hb hby d5_17) kt) ?_
      show Go p.tables e below _ (T129.setTop (mkF m 20 #[.val (.int p1)] [(.int (128 : Int32)), (.int p1), (.ref ca)]))
      refine Go.step (fun _ kt => XS.iadd X129.here hx rfl (hb hby d5_20) rfl kt) ?_
      show Go p.tables e below _ (T129.setTop (mkF m 21 #[.val (.int p1)] [(.int (p1 + (128 : Int32))), (.ref ca)]))
      obtain ⟨ArB, SzB, NzB⟩ := Bx.ext O0
      have hin : ¬ ((p1 + (128 : Int32)) < 0 ∨ cc.slots.size ≤ ((p1 + (128 : Int32))).toNatClampNeg) := by rw [SzB]; exact (Jvm.Free.IntBox.place_ok p1 hc3_102 hc10_116).1
      obtain ⟨r, hat, EB, FB⟩ := Bx.2.2.2 (p1 + (128 : Int32)) hin
      have EB' := EB.ext O0
      have FB' : Fld Z h0 r "java/lang/Integer" "value" "I" (.int p1) := by have q0 := FB.ext O0; simpa only [own_back] using q0
      refine Go.step (X129.aaload hx (j := (p1 + (128 : Int32))) (v := (.ref r)) (by rw [e129]; exact ArB.1) (State.isArrayOf_alike hZ.alike ArB.2.1) rfl ArB.2.2 hin hat (g := (mkF m 21 #[.val (.int p1)] [(.int (p1 + (128 : Int32))), (.ref ca)])) rfl rfl (hb hby d5_21)) ?_
      show Go p.tables e below _ (T129.setTop (mkF m 22 #[.val (.int p1)] [(.ref r)]))
      obtain ⟨fs, hr, hrun, hended, hW, hsame⟩ := X129.leave (v := some (.ref r)) (fun h => by rw [Bd.returns] at h; cases h)
      refine ⟨_, _, retOut X129 hx Bd.returns rfl (Or.inr (Or.inr (Or.inr (Or.inr ⟨rfl, rfl, rfl⟩)))) (hb hby d5_22) hr, hrun, hended, _, _, rfl, ?_, ⟨_, rfl⟩, hW, hsame.mono (by decide) (by decide)⟩
      show Qrm5 Z p1 ca cc h0 n0 _ T129.heap _
      rw [e129]
      refine ⟨r, ?_, N0, K101, EB', FB'⟩
      rfl
theorem pn_3 : plainName "com/example/patient_courier/patientcourier/delivery/AttemptResult" = true := by first | (simp [plainName, overriddenIn]; done) | decide +kernel
theorem d4_0 : decode prog_19_method_4_code 0 = .ok (.aload_n 0, 1) := by decide +kernel
theorem d4_1 : decode prog_19_method_4_code 1 = .ok (.getfield 7, 3) := by decide +kernel
theorem d4_4 : decode prog_19_method_4_code 4 = .ok (.ifnull 33, 3) := by decide +kernel
theorem d4_37 : decode prog_19_method_4_code 37 = .ok (.iconst 0, 1) := by decide +kernel
theorem d4_38 : decode prog_19_method_4_code 38 = .ok (.ireturn, 1) := by decide +kernel
theorem ef_rmdn (m : MethodId) (a1 : Addr) : entryFrame m #[(.ref a1)] 1 = mkF m 0 #[.val (.ref a1)] [] := by first | (simp [entryFrame, mkF, argsToLocals, Value.category]; done) | rfl
def Qrmdn (Z : State) (a1 : Addr) (h0 : Heap) (n0 : Nat) (v : Option Value) (h : Heap) (L : List Loc) : Prop := v = some (.int (0 : Int32)) ∧ Fr n0 L ∧ h = h0
set_option maxRecDepth 65536 in
set_option maxHeartbeats 40000000 in
theorem rmdn (l : Launch) (Z : State) (a0 : Array Value) (hw : ∀ d ∈ tables_1, d.before a0 Z = true) (ws : List Jvm.Cond) (a1 : Addr) (h0 : Heap) (n0 : Nat) (Z0 : n0 ≤ h0.size) (F1 : Fld Z h0 a1 "com/example/patient_courier/patientcourier/delivery/AttemptResult" "status" "Ljava/lang/Integer;" .null) :
    MetFree l (⟨"com/example/patient_courier/patientcourier/delivery/AttemptResult", "delivered", "()Z"⟩ : MethodName) (head1 (Jvm.Cond.code (⟨"com/example/patient_courier/patientcourier/delivery/AttemptResult", "delivered", "()Z"⟩ : MethodName) prog_19_method_4_code 1 (some .boolean) :: ws) ({ frames := 0, cells := 0, slots := 0, locals := 0 } : Room)) (fun a U => a = #[(.ref a1)] ∧ Z.Warmed39 U.vm ∧ U.heap = h0) (fun _ _ _ _ _ => True) (fun _ U o U' => ∃ v L, o = .returned v ∧ Qrmdn Z a1 h0 n0 v U'.heap L ∧ FrameEnd U o U' L ({ frames := 0, cells := 0, slots := 0, locals := 0 } : Room).cells ({ frames := 0, cells := 0, slots := 0, locals := 0 } : Room).slots) := by
  refine MetFree.of_bodySF (plainFor_of_name pn_3) hisR ?_
  intro p e s m args below meth c s₁ Bd hml0 hP hK
  obtain ⟨rfl, hZ, hh⟩ := hP
  have hx := Bd.exec
  have hby := Bd.bytes
  have hml : c.maxLocals = 1 := hml0
  have hown : s.vm.findClass "com/example/patient_courier/patientcourier/delivery/AttemptResult" = some m.cls := findClass_of_methodNamed Bd.named
  have hnm := (name_of_methodNamed Bd.named Bd.method).1
  have X0 : Stand p l e ({ frames := 0, cells := 0, slots := 0, locals := 0 } : Room) s m #[(.ref a1)] below meth c s₁ [] 0 0 := Stand.of_body Bd
  have e0 : s₁.heap = h0 := by rw [← hh, Bd.state]; rfl
  have N0 := Fr.nil n0
  show Go p.tables e below (fun o U' => ∃ v L, o = .returned v ∧ Qrmdn Z a1 h0 n0 v U'.heap L ∧ FrameEnd s o U' L ({ frames := 0, cells := 0, slots := 0, locals := 0 } : Room).cells ({ frames := 0, cells := 0, slots := 0, locals := 0 } : Room).slots) _
  refine Go.step (fun t kt => castTop (ef_rmdn m a1) kt) ?_
  show Go p.tables e below _ (s₁.setTop (mkF m 0 #[.val (.ref a1)] []))
  refine Go.step (fun _ kt => XS.aloadN X0.here hx rfl (hb hby d4_0) rfl rfl kt) ?_
  show Go p.tables e below _ (s₁.setTop (mkF m 1 #[.val (.ref a1)] [(.ref a1)]))
  obtain ⟨T101, X101, e101, st101⟩ := getF X0 hx hZ hown (host := "") (Or.inl (hw _ (List.mem_of_getElem? (i := 16) rfl))) Via.refl e0 F1 (g := (mkF m 1 #[.val (.ref a1)] [(.ref a1)])) rfl rfl (hb hby d4_1)
  refine Go.step st101 ?_
  show Go p.tables e below _ (T101.setTop (mkF m 4 #[.val (.ref a1)] [.null]))
  refine Go.step (fun _ kt => XS.ifnullYes X101.here hx rfl (pc0 := 4) (pc' := 37) rfl (hb hby d4_4) rfl (by decide) (by decide) kt) ?_
  show Go p.tables e below _ (T101.setTop (mkF m 37 #[.val (.ref a1)] []))
  refine Go.step (fun _ kt => XS.iconst X101.here hx rfl (hb hby d4_37) kt) ?_
  show Go p.tables e below _ (T101.setTop (mkF m 38 #[.val (.ref a1)] [(.int (0 : Int32))]))
  obtain ⟨fs, hr, hrun, hended, hW, hsame⟩ := X101.leave (v := some (.int (0 : Int32))) (fun h => by rw [Bd.returns] at h; cases h)
  refine ⟨_, _, retN X101 hx (t := .boolean) Bd.returns (by simp) (hb hby d4_38) hr, hrun, hended, _, _, rfl, ?_, ⟨_, rfl⟩, hW, hsame.mono (by decide) (by decide)⟩
  show Qrmdn Z a1 h0 n0 _ T101.heap _
  rw [e101]
  refine ⟨?_, N0, rfl⟩
  rfl
theorem pd_2 : parseMethodDescriptor "()I" = some ⟨[], some .int⟩ := by decide +kernel
theorem d4_7 : decode prog_19_method_4_code 7 = .ok (.aload_n 0, 1) := by decide +kernel
theorem d4_8 : decode prog_19_method_4_code 8 = .ok (.getfield 7, 3) := by decide +kernel
theorem d4_11 : decode prog_19_method_4_code 11 = .ok (.invokevirtual 33, 3) := by decide +kernel
theorem d4_14 : decode prog_19_method_4_code 14 = .ok (.sipush 200, 3) := by decide +kernel
theorem d4_17 : decode prog_19_method_4_code 17 = .ok (.if_icmp .lt 20, 3) := by decide +kernel
theorem d4_20 : decode prog_19_method_4_code 20 = .ok (.aload_n 0, 1) := by decide +kernel
theorem d4_21 : decode prog_19_method_4_code 21 = .ok (.getfield 7, 3) := by decide +kernel
theorem d4_24 : decode prog_19_method_4_code 24 = .ok (.invokevirtual 33, 3) := by decide +kernel
theorem d4_27 : decode prog_19_method_4_code 27 = .ok (.sipush 299, 3) := by decide +kernel
theorem d4_30 : decode prog_19_method_4_code 30 = .ok (.if_icmp .gt 7, 3) := by decide +kernel
theorem d4_33 : decode prog_19_method_4_code 33 = .ok (.iconst 1, 1) := by decide +kernel
theorem d4_34 : decode prog_19_method_4_code 34 = .ok (.goto 4, 3) := by decide +kernel
theorem ef_rmds (m : MethodId) (a1 : Addr) (r : Addr) (k : Int32) : entryFrame m #[(.ref a1)] 1 = mkF m 0 #[.val (.ref a1)] [] := by first | (simp [entryFrame, mkF, argsToLocals, Value.category]; done) | rfl
def Qrmds (Z : State) (a1 : Addr) (r : Addr) (k : Int32) (h0 : Heap) (n0 : Nat) (v : Option Value) (h : Heap) (L : List Loc) : Prop := v = some (.int (own_del k)) ∧ Fr n0 L ∧ h = h0
set_option maxRecDepth 65536 in
set_option maxHeartbeats 40000000 in
theorem rmds (l : Launch) (Z : State) (a0 : Array Value) (hw : ∀ d ∈ tables_1, d.before a0 Z = true) (ws : List Jvm.Cond) (a1 : Addr) (r : Addr) (k : Int32) (h0 : Heap) (n0 : Nat) (Z0 : n0 ≤ h0.size) (F1 : Fld Z h0 a1 "com/example/patient_courier/patientcourier/delivery/AttemptResult" "status" "Ljava/lang/Integer;" (.ref r)) (E2 : Exa Z h0 r "java/lang/Integer") (F2 : Fld Z h0 r "java/lang/Integer" "value" "I" (.int k)) :
    MetFree l (⟨"com/example/patient_courier/patientcourier/delivery/AttemptResult", "delivered", "()Z"⟩ : MethodName) (head1 (Jvm.Cond.code (⟨"com/example/patient_courier/patientcourier/delivery/AttemptResult", "delivered", "()Z"⟩ : MethodName) prog_19_method_4_code 1 (some .boolean) :: ws) ({ frames := 1, cells := 0, slots := 0, locals := 12 } : Room)) (fun a U => a = #[(.ref a1)] ∧ Z.Warmed39 U.vm ∧ U.heap = h0) (fun _ _ _ _ _ => True) (fun _ U o U' => ∃ v L, o = .returned v ∧ Qrmds Z a1 r k h0 n0 v U'.heap L ∧ FrameEnd U o U' L ({ frames := 1, cells := 0, slots := 0, locals := 12 } : Room).cells ({ frames := 1, cells := 0, slots := 0, locals := 12 } : Room).slots) := by
  refine MetFree.of_bodySF (plainFor_of_name pn_3) hisR ?_
  intro p e s m args below meth c s₁ Bd hml0 hP hK
  obtain ⟨rfl, hZ, hh⟩ := hP
  have hx := Bd.exec
  have hby := Bd.bytes
  have hml : c.maxLocals = 1 := hml0
  have hown : s.vm.findClass "com/example/patient_courier/patientcourier/delivery/AttemptResult" = some m.cls := findClass_of_methodNamed Bd.named
  have hnm := (name_of_methodNamed Bd.named Bd.method).1
  have X0 : Stand p l e ({ frames := 1, cells := 0, slots := 0, locals := 12 } : Room) s m #[(.ref a1)] below meth c s₁ [] 0 0 := Stand.of_body Bd
  have e0 : s₁.heap = h0 := by rw [← hh, Bd.state]; rfl
  have N0 := Fr.nil n0
  show Go p.tables e below (fun o U' => ∃ v L, o = .returned v ∧ Qrmds Z a1 r k h0 n0 v U'.heap L ∧ FrameEnd s o U' L ({ frames := 1, cells := 0, slots := 0, locals := 12 } : Room).cells ({ frames := 1, cells := 0, slots := 0, locals := 12 } : Room).slots) _
  refine Go.step (fun t kt => castTop (ef_rmds m a1 r k) kt) ?_
  show Go p.tables e below _ (s₁.setTop (mkF m 0 #[.val (.ref a1)] []))
  refine Go.step (fun _ kt => XS.aloadN X0.here hx rfl (hb hby d4_0) rfl rfl kt) ?_
  show Go p.tables e below _ (s₁.setTop (mkF m 1 #[.val (.ref a1)] [(.ref a1)]))
  obtain ⟨T101, X101, e101, st101⟩ := getF X0 hx hZ hown (host := "") (Or.inl (hw _ (List.mem_of_getElem? (i := 16) rfl))) Via.refl e0 F1 (g := (mkF m 1 #[.val (.ref a1)] [(.ref a1)])) rfl rfl (hb hby d4_1)
  refine Go.step st101 ?_
  show Go p.tables e below _ (T101.setTop (mkF m 4 #[.val (.ref a1)] [(.ref r)]))
  refine Go.step (fun _ kt => XS.ifnullNo X101.here hx rfl (hb hby d4_4) rfl kt) ?_
  show Go p.tables e below _ (T101.setTop (mkF m 7 #[.val (.ref a1)] []))
  refine Go.step (fun _ kt => XS.aloadN X101.here hx rfl (hb hby d4_7) rfl rfl kt) ?_
  show Go p.tables e below _ (T101.setTop (mkF m 8 #[.val (.ref a1)] [(.ref a1)]))
  obtain ⟨T102, X102, e102, st102⟩ := getF X101 hx hZ hown (host := "") (Or.inl (hw _ (List.mem_of_getElem? (i := 16) rfl))) Via.refl e101 F1 (g := (mkF m 8 #[.val (.ref a1)] [(.ref a1)])) rfl rfl (hb hby d4_8)
  refine Go.step st102 ?_
  show Go p.tables e below _ (T102.setTop (mkF m 11 #[.val (.ref a1)] [(.ref r)]))
  obtain ⟨cq103, kq103, q103a, q103b, q103c⟩ := isOf hZ e102 E2
  obtain ⟨_, _, ⟨T103, L103, k103, n103⟩, -, X103, ⟨Lc103, hQ103, l103, y103, z103⟩, st103⟩ := X102.virtualBack hx (y := (⟨"java/lang/Integer", "intValue", "()I"⟩ : MethodName)) (z := (⟨"java/lang/Integer", "intValue", "()I"⟩ : MethodName)) hown (mvT hZ (hw _ (List.mem_of_getElem? (i := 55) rfl))) (mvT hZ (hw _ (List.mem_of_getElem? (i := 56) rfl))) (notFace_of_selects (args := #[]) (mvT hZ (hw _ (List.mem_of_getElem? (i := 58) rfl)))) (mvT hZ (hw _ (List.mem_of_getElem? (i := 58) rfl))) (mvT hZ (hw _ (List.mem_of_getElem? (i := 57) rfl))) (by decide) (backOf (W := 0) (rm8 l Z a0 hw [] r k h0 n0 Z0 F2 ) hZ (hw _ (List.mem_of_getElem? (i := 59) rfl)) (hw _ (List.mem_of_getElem? (i := 31) rfl)) (by decide) (by decide)) q103a q103c (g := (mkF m 11 #[.val (.ref a1)] [(.ref r)])) rfl (by rw [hml]; rfl) (Steps.refl _) (argsL := []) (rest := []) (lenOf pd_2 rfl) rfl (by show 2 * 0 + _ ≤ _; exact Nat.le_of_eq rfl) (hb hby d4_11) (fun _ _ => ⟨rfl, e102, (by decide : 0 + 0 ≤ _), (by decide : 0 + 0 ≤ _)⟩)
  dsimp only [Pt.U, Pt.locs, Pt.cells, Pt.slots] at X103 l103 y103 z103 st103 hQ103
  subst l103 y103 z103
  obtain ⟨rfl, N103q, eh103⟩ := hQ103
  have N103 := Fr.app N0 N103q
  refine Go.step (fun _ kt => st103.trans kt) ?_
  show Go p.tables e below _ (T103.setTop (mkF m 14 #[.val (.ref a1)] [(.int k)]))
  refine Go.step (fun _ kt => XS.sipush X103.here hx rfl (hb hby d4_14) kt) ?_
  show Go p.tables e below _ (T103.setTop (mkF m 17 #[.val (.ref a1)] [(.int (200 : Int32)), (.int k)]))
  by_cases hc17_104 : k < (200 : Int32)
  · refine Go.step (fun _ kt => XS.icmpYes X103.here hx rfl (pc0 := 17) (pc' := 37) rfl (hb hby d4_17) rfl (tlt hc17_104).1 (by decide) (by decide) kt) ?_
    show Go p.tables e below _ (T103.setTop (mkF m 37 #[.val (.ref a1)] []))
    refine Go.step (fun _ kt => XS.iconst X103.here hx rfl (hb hby d4_37) kt) ?_
    show Go p.tables e below _ (T103.setTop (mkF m 38 #[.val (.ref a1)] [(.int (0 : Int32))]))
    obtain ⟨fs, hr, hrun, hended, hW, hsame⟩ := X103.leave (v := some (.int (0 : Int32))) (fun h => by rw [Bd.returns] at h; cases h)
    refine ⟨_, _, retN X103 hx (t := .boolean) Bd.returns (by simp) (hb hby d4_38) hr, hrun, hended, _, _, rfl, ?_, ⟨_, rfl⟩, hW, hsame.mono (by decide) (by decide)⟩
    show Qrmds Z a1 r k h0 n0 _ T103.heap _
    rw [eh103]
    refine ⟨?_, N103, rfl⟩
    have q : own_del k = (0 : Int32) := by simp only [own_del]; simp [hc17_104]
    rw [q]
  · refine Go.step (fun _ kt => XS.icmpNo X103.here hx rfl (hb hby d4_17) rfl (flt hc17_104).1 kt) ?_
    show Go p.tables e below _ (T103.setTop (mkF m 20 #[.val (.ref a1)] []))
    refine Go.step (fun _ kt => XS.aloadN X103.here hx rfl (hb hby d4_20) rfl rfl kt) ?_
    show Go p.tables e below _ (T103.setTop (mkF m 21 #[.val (.ref a1)] [(.ref a1)]))
    obtain ⟨T105, X105, e105, st105⟩ := getF X103 hx hZ hown (host := "") (Or.inl (hw _ (List.mem_of_getElem? (i := 16) rfl))) Via.refl eh103 F1 (g := (mkF m 21 #[.val (.ref a1)] [(.ref a1)])) rfl rfl (hb hby d4_21)
    refine Go.step st105 ?_
    show Go p.tables e below _ (T105.setTop (mkF m 24 #[.val (.ref a1)] [(.ref r)]))
    obtain ⟨cq106, kq106, q106a, q106b, q106c⟩ := isOf hZ e105 E2
    obtain ⟨_, _, ⟨T106, L106, k106, n106⟩, -, X106, ⟨Lc106, hQ106, l106, y106, z106⟩, st106⟩ := X105.virtualBack hx (y := (⟨"java/lang/Integer", "intValue", "()I"⟩ : MethodName)) (z := (⟨"java/lang/Integer", "intValue", "()I"⟩ : MethodName)) hown (mvT hZ (hw _ (List.mem_of_getElem? (i := 55) rfl))) (mvT hZ (hw _ (List.mem_of_getElem? (i := 56) rfl))) (notFace_of_selects (args := #[]) (mvT hZ (hw _ (List.mem_of_getElem? (i := 58) rfl)))) (mvT hZ (hw _ (List.mem_of_getElem? (i := 58) rfl))) (mvT hZ (hw _ (List.mem_of_getElem? (i := 57) rfl))) (by decide) (backOf (W := 0) (rm8 l Z a0 hw [] r k h0 n0 Z0 F2 ) hZ (hw _ (List.mem_of_getElem? (i := 59) rfl)) (hw _ (List.mem_of_getElem? (i := 31) rfl)) (by decide) (by decide)) q106a q106c (g := (mkF m 24 #[.val (.ref a1)] [(.ref r)])) rfl (by rw [hml]; rfl) (Steps.refl _) (argsL := []) (rest := []) (lenOf pd_2 rfl) rfl (by show 2 * 0 + _ ≤ _; exact Nat.le_of_eq rfl) (hb hby d4_24) (fun _ _ => ⟨rfl, e105, (by decide : 0 + 0 ≤ _), (by decide : 0 + 0 ≤ _)⟩)
    dsimp only [Pt.U, Pt.locs, Pt.cells, Pt.slots] at X106 l106 y106 z106 st106 hQ106
    subst l106 y106 z106
    obtain ⟨rfl, N106q, eh106⟩ := hQ106
    have N106 := Fr.app N103 N106q
    refine Go.step (fun _ kt => st106.trans kt) ?_
    show Go p.tables e below _ (T106.setTop (mkF m 27 #[.val (.ref a1)] [(.int k)]))
    refine Go.step (fun _ kt => XS.sipush X106.here hx rfl (hb hby d4_27) kt) ?_
    show Go p.tables e below _ (T106.setTop (mkF m 30 #[.val (.ref a1)] [(.int (299 : Int32)), (.int k)]))
    by_cases hc30_107 : (299 : Int32) < k
    · refine Go.step (fun _ kt => XS.icmpYes X106.here hx rfl (pc0 := 30) (pc' := 37) rfl (hb hby d4_30) rfl (tlt hc30_107).2.2.1 (by decide) (by decide) kt) ?_
      show Go p.tables e below _ (T106.setTop (mkF m 37 #[.val (.ref a1)] []))
      refine Go.step (fun _ kt => XS.iconst X106.here hx rfl (hb hby d4_37) kt) ?_
      show Go p.tables e below _ (T106.setTop (mkF m 38 #[.val (.ref a1)] [(.int (0 : Int32))]))
      obtain ⟨fs, hr, hrun, hended, hW, hsame⟩ := X106.leave (v := some (.int (0 : Int32))) (fun h => by rw [Bd.returns] at h; cases h)
      refine ⟨_, _, retN X106 hx (t := .boolean) Bd.returns (by simp) (hb hby d4_38) hr, hrun, hended, _, _, rfl, ?_, ⟨_, rfl⟩, hW, hsame.mono (by decide) (by decide)⟩
      show Qrmds Z a1 r k h0 n0 _ T106.heap _
      rw [eh106]
      refine ⟨?_, N106, rfl⟩
      have q : own_del k = (0 : Int32) := by simp only [own_del]; simp [hc17_104, hc30_107]
      rw [q]
    · refine Go.step (fun _ kt => XS.icmpNo X106.here hx rfl (hb hby d4_30) rfl (flt hc30_107).2.2.1 kt) ?_
      show Go p.tables e below _ (T106.setTop (mkF m 33 #[.val (.ref a1)] []))
      refine Go.step (fun _ kt => XS.iconst X106.here hx rfl (hb hby d4_33) kt) ?_
      show Go p.tables e below _ (T106.setTop (mkF m 34 #[.val (.ref a1)] [(.int (1 : Int32))]))
      refine Go.step (fun _ kt => XS.goto X106.here hx rfl (pc0 := 34) (pc' := 38) rfl (hb hby d4_34) (by decide) (by decide) kt) ?_
      show Go p.tables e below _ (T106.setTop (mkF m 38 #[.val (.ref a1)] [(.int (1 : Int32))]))
      obtain ⟨fs, hr, hrun, hended, hW, hsame⟩ := X106.leave (v := some (.int (1 : Int32))) (fun h => by rw [Bd.returns] at h; cases h)
      refine ⟨_, _, retN X106 hx (t := .boolean) Bd.returns (by simp) (hb hby d4_38) hr, hrun, hended, _, _, rfl, ?_, ⟨_, rfl⟩, hW, hsame.mono (by decide) (by decide)⟩
      show Qrmds Z a1 r k h0 n0 _ T106.heap _
      rw [eh106]
      refine ⟨?_, N106, rfl⟩
      have q : own_del k = (1 : Int32) := by simp only [own_del]; simp [hc17_104, hc30_107]
      rw [q]
theorem pd_3 : parseMethodDescriptor "(I)Ljava/lang/Integer;" = some ⟨[.int], some (.object "java/lang/Integer")⟩ := by decide +kernel
theorem d1_0 : decode prog_19_method_1_code 0 = .ok (.aload_n 0, 1) := by decide +kernel
theorem d1_1 : decode prog_19_method_1_code 1 = .ok (.invokespecial 1, 3) := by decide +kernel
theorem d1_4 : decode prog_19_method_1_code 4 = .ok (.aload_n 0, 1) := by decide +kernel
theorem d1_5 : decode prog_19_method_1_code 5 = .ok (.aload_n 1, 1) := by decide +kernel
theorem d1_6 : decode prog_19_method_1_code 6 = .ok (.putfield 7, 3) := by decide +kernel
theorem d1_9 : decode prog_19_method_1_code 9 = .ok (.aload_n 0, 1) := by decide +kernel
theorem d1_10 : decode prog_19_method_1_code 10 = .ok (.aload_n 2, 1) := by decide +kernel
theorem d1_11 : decode prog_19_method_1_code 11 = .ok (.putfield 13, 3) := by decide +kernel
theorem d1_14 : decode prog_19_method_1_code 14 = .ok (.aload_n 0, 1) := by decide +kernel
theorem d1_15 : decode prog_19_method_1_code 15 = .ok (.aload_n 3, 1) := by decide +kernel
theorem d1_16 : decode prog_19_method_1_code 16 = .ok (.putfield 17, 3) := by decide +kernel
theorem d1_19 : decode prog_19_method_1_code 19 = .ok (.aload_n 0, 1) := by decide +kernel
theorem d1_20 : decode prog_19_method_1_code 20 = .ok (.aload 4, 2) := by decide +kernel
theorem d1_22 : decode prog_19_method_1_code 22 = .ok (.putfield 21, 3) := by decide +kernel
theorem d1_25 : decode prog_19_method_1_code 25 = .ok (.return_, 1) := by decide +kernel
theorem ef_rmi_rnrn (m : MethodId) (a1 : Addr) (x0 : Addr) (x2 : Addr) (u0 : Value) (u1 : Value) (u2 : Value) (u3 : Value) : entryFrame m #[(.ref a1), (.ref x0), .null, (.ref x2), .null] 5 = mkF m 0 #[.val (.ref a1), .val (.ref x0), .val .null, .val (.ref x2), .val .null] [] := by first | (simp [entryFrame, mkF, argsToLocals, Value.category]; done) | rfl
def Qrmi_rnrn (Z : State) (a1 : Addr) (x0 : Addr) (x2 : Addr) (u0 : Value) (u1 : Value) (u2 : Value) (u3 : Value) (h0 : Heap) (n0 : Nat) (v : Option Value) (h : Heap) (L : List Loc) : Prop := v = none ∧ Fr n0 L ∧ Keep h0 h [a1] ∧ Exa Z h a1 "com/example/patient_courier/patientcourier/delivery/AttemptResult" ∧ Fld Z h a1 "com/example/patient_courier/patientcourier/delivery/AttemptResult" "status" "Ljava/lang/Integer;" (.ref x0)
set_option maxRecDepth 65536 in
set_option maxHeartbeats 40000000 in
theorem rmi_rnrn (l : Launch) (Z : State) (a0 : Array Value) (hw : ∀ d ∈ tables_1, d.before a0 Z = true) (ws : List Jvm.Cond) (a1 : Addr) (x0 : Addr) (x2 : Addr) (u0 : Value) (u1 : Value) (u2 : Value) (u3 : Value) (h0 : Heap) (n0 : Nat) (Z0 : n0 ≤ h0.size) (E1 : Exa Z h0 a1 "com/example/patient_courier/patientcourier/delivery/AttemptResult") (F0 : Fld Z h0 a1 "com/example/patient_courier/patientcourier/delivery/AttemptResult" "status" "Ljava/lang/Integer;" u0) (F1 : Fld Z h0 a1 "com/example/patient_courier/patientcourier/delivery/AttemptResult" "error" "Ljava/lang/String;" u1) (F2 : Fld Z h0 a1 "com/example/patient_courier/patientcourier/delivery/AttemptResult" "preview" "[B" u2) (F3 : Fld Z h0 a1 "com/example/patient_courier/patientcourier/delivery/AttemptResult" "retryAfter" "Ljava/lang/String;" u3) (g_a1 : n0 ≤ a1) :
    MetFree l (⟨"com/example/patient_courier/patientcourier/delivery/AttemptResult", "<init>", "(Ljava/lang/Integer;Ljava/lang/String;[BLjava/lang/String;)V"⟩ : MethodName) (head1 (Jvm.Cond.code (⟨"com/example/patient_courier/patientcourier/delivery/AttemptResult", "<init>", "(Ljava/lang/Integer;Ljava/lang/String;[BLjava/lang/String;)V"⟩ : MethodName) prog_19_method_1_code 5 none :: ws) ({ frames := 2, cells := 0, slots := 0, locals := 24 } : Room)) (fun a U => a = #[(.ref a1), (.ref x0), .null, (.ref x2), .null] ∧ Z.Warmed39 U.vm ∧ U.heap = h0) (fun _ _ _ _ _ => True) (fun _ U o U' => ∃ v L, o = .returned v ∧ Qrmi_rnrn Z a1 x0 x2 u0 u1 u2 u3 h0 n0 v U'.heap L ∧ FrameEnd U o U' L ({ frames := 2, cells := 0, slots := 0, locals := 24 } : Room).cells ({ frames := 2, cells := 0, slots := 0, locals := 24 } : Room).slots) := by
  refine MetFree.of_bodySF (plainFor_of_name pn_3) hisR ?_
  intro p e s m args below meth c s₁ Bd hml0 hP hK
  obtain ⟨rfl, hZ, hh⟩ := hP
  have hx := Bd.exec
  have hby := Bd.bytes
  have hml : c.maxLocals = 5 := hml0
  have hown : s.vm.findClass "com/example/patient_courier/patientcourier/delivery/AttemptResult" = some m.cls := findClass_of_methodNamed Bd.named
  have hnm := (name_of_methodNamed Bd.named Bd.method).1
  have X0 : Stand p l e ({ frames := 2, cells := 0, slots := 0, locals := 24 } : Room) s m #[(.ref a1), (.ref x0), .null, (.ref x2), .null] below meth c s₁ [] 0 0 := Stand.of_body Bd
  have e0 : s₁.heap = h0 := by rw [← hh, Bd.state]; rfl
  have N0 := Fr.nil n0
  show Go p.tables e below (fun o U' => ∃ v L, o = .returned v ∧ Qrmi_rnrn Z a1 x0 x2 u0 u1 u2 u3 h0 n0 v U'.heap L ∧ FrameEnd s o U' L ({ frames := 2, cells := 0, slots := 0, locals := 24 } : Room).cells ({ frames := 2, cells := 0, slots := 0, locals := 24 } : Room).slots) _
  refine Go.step (fun t kt => castTop (ef_rmi_rnrn m a1 x0 x2 u0 u1 u2 u3) kt) ?_
  show Go p.tables e below _ (s₁.setTop (mkF m 0 #[.val (.ref a1), .val (.ref x0), .val .null, .val (.ref x2), .val .null] []))
  have K101 : Keep h0 h0 [a1] := (Keep.refl h0 [a1])
  refine Go.step (fun _ kt => XS.aloadN X0.here hx rfl (hb hby d1_0) rfl rfl kt) ?_
  show Go p.tables e below _ (s₁.setTop (mkF m 1 #[.val (.ref a1), .val (.ref x0), .val .null, .val (.ref x2), .val .null] [(.ref a1)]))
  obtain ⟨_, _, ⟨T102, L102, k102, n102⟩, -, X102, ⟨Lc102, hQ102, l102, y102, z102⟩, st102⟩ := X0.specialBack hx (y := (⟨"java/lang/Record", "<init>", "()V"⟩ : MethodName)) rfl hown (mvT hZ (hw _ (List.mem_of_getElem? (i := 8) rfl))) (mvT hZ (hw _ (List.mem_of_getElem? (i := 9) rfl))) (mvT hZ (hw _ (List.mem_of_getElem? (i := 12) rfl))) (by decide) (backOf (W := 0) (rm2 l Z a0 hw [] a1  h0 n0 Z0  ) hZ (hw _ (List.mem_of_getElem? (i := 12) rfl)) (hw _ (List.mem_of_getElem? (i := 11) rfl)) (by decide) (by decide)) (g := (mkF m 1 #[.val (.ref a1), .val (.ref x0), .val .null, .val (.ref x2), .val .null] [(.ref a1)])) rfl (by rw [hml]; rfl) (Steps.refl _) (a := a1) (argsL := []) (rest := []) (lenOf pd_0 rfl) rfl (by show 2 * 0 + _ ≤ _; exact Nat.le_of_eq rfl) (hb hby d1_1) (fun _ _ => ⟨rfl, e0, (by decide : 0 + 0 ≤ _), (by decide : 0 + 0 ≤ _)⟩)
  dsimp only [Pt.U, Pt.locs, Pt.cells, Pt.slots] at X102 l102 y102 z102 st102 hQ102
  subst l102 y102 z102
  obtain ⟨rfl, N102q, eh102⟩ := hQ102
  have N102 := Fr.app N0 N102q
  refine Go.step (fun _ kt => st102.trans kt) ?_
  show Go p.tables e below _ (T102.setTop (mkF m 4 #[.val (.ref a1), .val (.ref x0), .val .null, .val (.ref x2), .val .null] []))
  refine Go.step (fun _ kt => XS.aloadN X102.here hx rfl (hb hby d1_4) rfl rfl kt) ?_
  show Go p.tables e below _ (T102.setTop (mkF m 5 #[.val (.ref a1), .val (.ref x0), .val .null, .val (.ref x2), .val .null] [(.ref a1)]))
  refine Go.step (fun _ kt => XS.aloadN X102.here hx rfl (hb hby d1_5) rfl rfl kt) ?_
  show Go p.tables e below _ (T102.setTop (mkF m 6 #[.val (.ref a1), .val (.ref x0), .val .null, .val (.ref x2), .val .null] [(.ref x0), (.ref a1)]))
  obtain ⟨T103, h103, X103, e103, W103, st103⟩ := putF X102 hx hZ hown (host := "") (Or.inl (hw _ (List.mem_of_getElem? (i := 16) rfl))) Via.refl eh102 F0 E1 (Or.inr ⟨(hw _ (List.mem_of_getElem? (i := 17) rfl)), rfl, hnm⟩) (hw _ (List.mem_of_getElem? (i := 3) rfl)) (ty := (.object "java/lang/Integer")) (by decide) rfl rfl (g := (mkF m 6 #[.val (.ref a1), .val (.ref x0), .val .null, .val (.ref x2), .val .null] [(.ref x0), (.ref a1)])) rfl rfl (hb hby d1_6)
  refine Go.step st103 ?_
  have N103 := Fr.snoc X103 N102 g_a1
  have F104 : Exa Z h103 a1 "com/example/patient_courier/patientcourier/delivery/AttemptResult" := (E1.wr W103)
  have F105 : Fld Z h103 a1 "com/example/patient_courier/patientcourier/delivery/AttemptResult" "status" "Ljava/lang/Integer;" (.ref x0) := (F0.same W103)
  have F106 : Fld Z h103 a1 "com/example/patient_courier/patientcourier/delivery/AttemptResult" "error" "Ljava/lang/String;" u1 := (F1.other W103 (Or.inr (slot_ne (Or.inr (hw _ (List.mem_of_getElem? (i := 19) rfl))) (Or.inr (hw _ (List.mem_of_getElem? (i := 17) rfl))) (by decide) (t := (.object "java/lang/String")) (t' := (.object "java/lang/Integer")) (by decide) (by decide))))
  have F107 : Fld Z h103 a1 "com/example/patient_courier/patientcourier/delivery/AttemptResult" "preview" "[B" u2 := (F2.other W103 (Or.inr (slot_ne (Or.inr (hw _ (List.mem_of_getElem? (i := 21) rfl))) (Or.inr (hw _ (List.mem_of_getElem? (i := 17) rfl))) (by decide) (t := (.array .byte)) (t' := (.object "java/lang/Integer")) (by decide) (by decide))))
  have F108 : Fld Z h103 a1 "com/example/patient_courier/patientcourier/delivery/AttemptResult" "retryAfter" "Ljava/lang/String;" u3 := (F3.other W103 (Or.inr (slot_ne (Or.inr (hw _ (List.mem_of_getElem? (i := 23) rfl))) (Or.inr (hw _ (List.mem_of_getElem? (i := 17) rfl))) (by decide) (t := (.object "java/lang/String")) (t' := (.object "java/lang/Integer")) (by decide) (by decide))))
  have Z109 : n0 ≤ h103.size := (Nat.le_trans Z0 (Nat.le_of_eq W103.size.symm))
  have K110 : Keep h0 h103 [a1] := (K101.wr W103 (Or.inl (List.mem_of_getElem? (i := 0) rfl)))
  show Go p.tables e below _ (T103.setTop (mkF m 9 #[.val (.ref a1), .val (.ref x0), .val .null, .val (.ref x2), .val .null] []))
  refine Go.step (fun _ kt => XS.aloadN X103.here hx rfl (hb hby d1_9) rfl rfl kt) ?_
  show Go p.tables e below _ (T103.setTop (mkF m 10 #[.val (.ref a1), .val (.ref x0), .val .null, .val (.ref x2), .val .null] [(.ref a1)]))
  refine Go.step (fun _ kt => XS.aloadN X103.here hx rfl (hb hby d1_10) rfl rfl kt) ?_
  show Go p.tables e below _ (T103.setTop (mkF m 11 #[.val (.ref a1), .val (.ref x0), .val .null, .val (.ref x2), .val .null] [.null, (.ref a1)]))
  obtain ⟨T111, h111, X111, e111, W111, st111⟩ := putF X103 hx hZ hown (host := "") (Or.inl (hw _ (List.mem_of_getElem? (i := 18) rfl))) Via.refl e103 F106 F104 (Or.inr ⟨(hw _ (List.mem_of_getElem? (i := 19) rfl)), rfl, hnm⟩) (hw _ (List.mem_of_getElem? (i := 3) rfl)) (ty := (.object "java/lang/String")) (by decide) rfl rfl (g := (mkF m 11 #[.val (.ref a1), .val (.ref x0), .val .null, .val (.ref x2), .val .null] [.null, (.ref a1)])) rfl rfl (hb hby d1_11)
  refine Go.step st111 ?_
  have N111 := Fr.snoc X111 N103 g_a1
  have F112 : Exa Z h111 a1 "com/example/patient_courier/patientcourier/delivery/AttemptResult" := (F104.wr W111)
  have F113 : Fld Z h111 a1 "com/example/patient_courier/patientcourier/delivery/AttemptResult" "status" "Ljava/lang/Integer;" (.ref x0) := (F105.other W111 (Or.inr (slot_ne (Or.inr (hw _ (List.mem_of_getElem? (i := 17) rfl))) (Or.inr (hw _ (List.mem_of_getElem? (i := 19) rfl))) (by decide) (t := (.object "java/lang/Integer")) (t' := (.object "java/lang/String")) (by decide) (by decide))))
  have F114 : Fld Z h111 a1 "com/example/patient_courier/patientcourier/delivery/AttemptResult" "preview" "[B" u2 := (F107.other W111 (Or.inr (slot_ne (Or.inr (hw _ (List.mem_of_getElem? (i := 21) rfl))) (Or.inr (hw _ (List.mem_of_getElem? (i := 19) rfl))) (by decide) (t := (.array .byte)) (t' := (.object "java/lang/String")) (by decide) (by decide))))
  have F115 : Fld Z h111 a1 "com/example/patient_courier/patientcourier/delivery/AttemptResult" "retryAfter" "Ljava/lang/String;" u3 := (F108.other W111 (Or.inr (slot_ne (Or.inr (hw _ (List.mem_of_getElem? (i := 23) rfl))) (Or.inr (hw _ (List.mem_of_getElem? (i := 19) rfl))) (by decide) (t := (.object "java/lang/String")) (t' := (.object "java/lang/String")) (by decide) (by decide))))
  have Z116 : n0 ≤ h111.size := (Nat.le_trans Z109 (Nat.le_of_eq W111.size.symm))
  have K117 : Keep h0 h111 [a1] := (K110.wr W111 (Or.inl (List.mem_of_getElem? (i := 0) rfl)))
  show Go p.tables e below _ (T111.setTop (mkF m 14 #[.val (.ref a1), .val (.ref x0), .val .null, .val (.ref x2), .val .null] []))
  refine Go.step (fun _ kt => XS.aloadN X111.here hx rfl (hb hby d1_14) rfl rfl kt) ?_
  show Go p.tables e below _ (T111.setTop (mkF m 15 #[.val (.ref a1), .val (.ref x0), .val .null, .val (.ref x2), .val .null] [(.ref a1)]))
  refine Go.step (fun _ kt => XS.aloadN X111.here hx rfl (hb hby d1_15) rfl rfl kt) ?_
  show Go p.tables e below _ (T111.setTop (mkF m 16 #[.val (.ref a1), .val (.ref x0), .val .null, .val (.ref x2), .val .null] [(.ref x2), (.ref a1)]))
  obtain ⟨T118, h118, X118, e118, W118, st118⟩ := putF X111 hx hZ hown (host := "") (Or.inl (hw _ (List.mem_of_getElem? (i := 20) rfl))) Via.refl e111 F114 F112 (Or.inr ⟨(hw _ (List.mem_of_getElem? (i := 21) rfl)), rfl, hnm⟩) (hw _ (List.mem_of_getElem? (i := 3) rfl)) (ty := (.array .byte)) (by decide) rfl rfl (g := (mkF m 16 #[.val (.ref a1), .val (.ref x0), .val .null, .val (.ref x2), .val .null] [(.ref x2), (.ref a1)])) rfl rfl (hb hby d1_16)
  refine Go.step st118 ?_
  have N118 := Fr.snoc X118 N111 g_a1
  have F119 : Exa Z h118 a1 "com/example/patient_courier/patientcourier/delivery/AttemptResult" := (F112.wr W118)
  have F120 : Fld Z h118 a1 "com/example/patient_courier/patientcourier/delivery/AttemptResult" "status" "Ljava/lang/Integer;" (.ref x0) := (F113.other W118 (Or.inr (slot_ne (Or.inr (hw _ (List.mem_of_getElem? (i := 17) rfl))) (Or.inr (hw _ (List.mem_of_getElem? (i := 21) rfl))) (by decide) (t := (.object "java/lang/Integer")) (t' := (.array .byte)) (by decide) (by decide))))
  have F121 : Fld Z h118 a1 "com/example/patient_courier/patientcourier/delivery/AttemptResult" "retryAfter" "Ljava/lang/String;" u3 := (F115.other W118 (Or.inr (slot_ne (Or.inr (hw _ (List.mem_of_getElem? (i := 23) rfl))) (Or.inr (hw _ (List.mem_of_getElem? (i := 21) rfl))) (by decide) (t := (.object "java/lang/String")) (t' := (.array .byte)) (by decide) (by decide))))
  have Z122 : n0 ≤ h118.size := (Nat.le_trans Z116 (Nat.le_of_eq W118.size.symm))
  have K123 : Keep h0 h118 [a1] := (K117.wr W118 (Or.inl (List.mem_of_getElem? (i := 0) rfl)))
  show Go p.tables e below _ (T118.setTop (mkF m 19 #[.val (.ref a1), .val (.ref x0), .val .null, .val (.ref x2), .val .null] []))
  refine Go.step (fun _ kt => XS.aloadN X118.here hx rfl (hb hby d1_19) rfl rfl kt) ?_
  show Go p.tables e below _ (T118.setTop (mkF m 20 #[.val (.ref a1), .val (.ref x0), .val .null, .val (.ref x2), .val .null] [(.ref a1)]))
  refine Go.step (fun _ kt => XS.aload X118.here hx rfl (hb hby d1_20) rfl rfl kt) ?_
  show Go p.tables e below _ (T118.setTop (mkF m 22 #[.val (.ref a1), .val (.ref x0), .val .null, .val (.ref x2), .val .null] [.null, (.ref a1)]))
  obtain ⟨T124, h124, X124, e124, W124, st124⟩ := putF X118 hx hZ hown (host := "") (Or.inl (hw _ (List.mem_of_getElem? (i := 22) rfl))) Via.refl e118 F121 F119 (Or.inr ⟨(hw _ (List.mem_of_getElem? (i := 23) rfl)), rfl, hnm⟩) (hw _ (List.mem_of_getElem? (i := 3) rfl)) (ty := (.object "java/lang/String")) (by decide) rfl rfl (g := (mkF m 22 #[.val (.ref a1), .val (.ref x0), .val .null, .val (.ref x2), .val .null] [.null, (.ref a1)])) rfl rfl (hb hby d1_22)
  refine Go.step st124 ?_
  have N124 := Fr.snoc X124 N118 g_a1
  have F125 : Exa Z h124 a1 "com/example/patient_courier/patientcourier/delivery/AttemptResult" := (F119.wr W124)
  have F126 : Fld Z h124 a1 "com/example/patient_courier/patientcourier/delivery/AttemptResult" "status" "Ljava/lang/Integer;" (.ref x0) := (F120.other W124 (Or.inr (slot_ne (Or.inr (hw _ (List.mem_of_getElem? (i := 17) rfl))) (Or.inr (hw _ (List.mem_of_getElem? (i := 23) rfl))) (by decide) (t := (.object "java/lang/Integer")) (t' := (.object "java/lang/String")) (by decide) (by decide))))
  have Z127 : n0 ≤ h124.size := (Nat.le_trans Z122 (Nat.le_of_eq W124.size.symm))
  have K128 : Keep h0 h124 [a1] := (K123.wr W124 (Or.inl (List.mem_of_getElem? (i := 0) rfl)))
  show Go p.tables e below _ (T124.setTop (mkF m 25 #[.val (.ref a1), .val (.ref x0), .val .null, .val (.ref x2), .val .null] []))
  obtain ⟨fs, hr, hrun, hended, hW, hsame⟩ := X124.leave (v := none) (fun _ => rfl)
  refine ⟨_, _, X124.returnOut hx Bd.returns (hb hby d1_25) hr, hrun, hended, _, _, rfl, ?_, ⟨_, rfl⟩, hW, hsame.mono (by decide) (by decide)⟩
  show Qrmi_rnrn Z a1 x0 x2 u0 u1 u2 u3 h0 n0 _ T124.heap _
  rw [e124]
  refine ⟨?_, N124, K128, F125, F126⟩
  rfl
theorem pd_4 : parseMethodDescriptor "(Ljava/lang/Integer;Ljava/lang/String;[BLjava/lang/String;)V" = some ⟨[(.object "java/lang/Integer"), (.object "java/lang/String"), (.array .byte), (.object "java/lang/String")], none⟩ := by decide +kernel
theorem pd_5 : parseMethodDescriptor "()Z" = some ⟨[], some .boolean⟩ := by decide +kernel
theorem ef_rmi_rnrr (m : MethodId) (a1 : Addr) (x0 : Addr) (x2 : Addr) (x3 : Addr) (u0 : Value) (u1 : Value) (u2 : Value) (u3 : Value) : entryFrame m #[(.ref a1), (.ref x0), .null, (.ref x2), (.ref x3)] 5 = mkF m 0 #[.val (.ref a1), .val (.ref x0), .val .null, .val (.ref x2), .val (.ref x3)] [] := by first | (simp [entryFrame, mkF, argsToLocals, Value.category]; done) | rfl
def Qrmi_rnrr (Z : State) (a1 : Addr) (x0 : Addr) (x2 : Addr) (x3 : Addr) (u0 : Value) (u1 : Value) (u2 : Value) (u3 : Value) (h0 : Heap) (n0 : Nat) (v : Option Value) (h : Heap) (L : List Loc) : Prop := v = none ∧ Fr n0 L ∧ Keep h0 h [a1] ∧ Exa Z h a1 "com/example/patient_courier/patientcourier/delivery/AttemptResult" ∧ Fld Z h a1 "com/example/patient_courier/patientcourier/delivery/AttemptResult" "status" "Ljava/lang/Integer;" (.ref x0)
set_option maxRecDepth 65536 in
set_option maxHeartbeats 40000000 in
theorem rmi_rnrr (l : Launch) (Z : State) (a0 : Array Value) (hw : ∀ d ∈ tables_1, d.before a0 Z = true) (ws : List Jvm.Cond) (a1 : Addr) (x0 : Addr) (x2 : Addr) (x3 : Addr) (u0 : Value) (u1 : Value) (u2 : Value) (u3 : Value) (h0 : Heap) (n0 : Nat) (Z0 : n0 ≤ h0.size) (E1 : Exa Z h0 a1 "com/example/patient_courier/patientcourier/delivery/AttemptResult") (F0 : Fld Z h0 a1 "com/example/patient_courier/patientcourier/delivery/AttemptResult" "status" "Ljava/lang/Integer;" u0) (F1 : Fld Z h0 a1 "com/example/patient_courier/patientcourier/delivery/AttemptResult" "error" "Ljava/lang/String;" u1) (F2 : Fld Z h0 a1 "com/example/patient_courier/patientcourier/delivery/AttemptResult" "preview" "[B" u2) (F3 : Fld Z h0 a1 "com/example/patient_courier/patientcourier/delivery/AttemptResult" "retryAfter" "Ljava/lang/String;" u3) (g_a1 : n0 ≤ a1) :
    MetFree l (⟨"com/example/patient_courier/patientcourier/delivery/AttemptResult", "<init>", "(Ljava/lang/Integer;Ljava/lang/String;[BLjava/lang/String;)V"⟩ : MethodName) (head1 (Jvm.Cond.code (⟨"com/example/patient_courier/patientcourier/delivery/AttemptResult", "<init>", "(Ljava/lang/Integer;Ljava/lang/String;[BLjava/lang/String;)V"⟩ : MethodName) prog_19_method_1_code 5 none :: ws) ({ frames := 2, cells := 0, slots := 0, locals := 24 } : Room)) (fun a U => a = #[(.ref a1), (.ref x0), .null, (.ref x2), (.ref x3)] ∧ Z.Warmed39 U.vm ∧ U.heap = h0) (fun _ _ _ _ _ => True) (fun _ U o U' => ∃ v L, o = .returned v ∧ Qrmi_rnrr Z a1 x0 x2 x3 u0 u1 u2 u3 h0 n0 v U'.heap L ∧ FrameEnd U o U' L ({ frames := 2, cells := 0, slots := 0, locals := 24 } : Room).cells ({ frames := 2, cells := 0, slots := 0, locals := 24 } : Room).slots) := by
  refine MetFree.of_bodySF (plainFor_of_name pn_3) hisR ?_
  intro p e s m args below meth c s₁ Bd hml0 hP hK
  obtain ⟨rfl, hZ, hh⟩ := hP
  have hx := Bd.exec
  have hby := Bd.bytes
  have hml : c.maxLocals = 5 := hml0
  have hown : s.vm.findClass "com/example/patient_courier/patientcourier/delivery/AttemptResult" = some m.cls := findClass_of_methodNamed Bd.named
  have hnm := (name_of_methodNamed Bd.named Bd.method).1
  have X0 : Stand p l e ({ frames := 2, cells := 0, slots := 0, locals := 24 } : Room) s m #[(.ref a1), (.ref x0), .null, (.ref x2), (.ref x3)] below meth c s₁ [] 0 0 := Stand.of_body Bd
  have e0 : s₁.heap = h0 := by rw [← hh, Bd.state]; rfl
  have N0 := Fr.nil n0
  show Go p.tables e below (fun o U' => ∃ v L, o = .returned v ∧ Qrmi_rnrr Z a1 x0 x2 x3 u0 u1 u2 u3 h0 n0 v U'.heap L ∧ FrameEnd s o U' L ({ frames := 2, cells := 0, slots := 0, locals := 24 } : Room).cells ({ frames := 2, cells := 0, slots := 0, locals := 24 } : Room).slots) _
  refine Go.step (fun t kt => castTop (ef_rmi_rnrr m a1 x0 x2 x3 u0 u1 u2 u3) kt) ?_
  show Go p.tables e below _ (s₁.setTop (mkF m 0 #[.val (.ref a1), .val (.ref x0), .val .null, .val (.ref x2), .val (.ref x3)] []))
  have K101 : Keep h0 h0 [a1] := (Keep.refl h0 [a1])
  refine Go.step (fun _ kt => XS.aloadN X0.here hx rfl (hb hby d1_0) rfl rfl kt) ?_
  show Go p.tables e below _ (s₁.setTop (mkF m 1 #[.val (.ref a1), .val (.ref x0), .val .null, .val (.ref x2), .val (.ref x3)] [(.ref a1)]))
  obtain ⟨_, _, ⟨T102, L102, k102, n102⟩, -, X102, ⟨Lc102, hQ102, l102, y102, z102⟩, st102⟩ := X0.specialBack hx (y := (⟨"java/lang/Record", "<init>", "()V"⟩ : MethodName)) rfl hown (mvT hZ (hw _ (List.mem_of_getElem? (i := 8) rfl))) (mvT hZ (hw _ (List.mem_of_getElem? (i := 9) rfl))) (mvT hZ (hw _ (List.mem_of_getElem? (i := 12) rfl))) (by decide) (backOf (W := 0) (rm2 l Z a0 hw [] a1  h0 n0 Z0  ) hZ (hw _ (List.mem_of_getElem? (i := 12) rfl)) (hw _ (List.mem_of_getElem? (i := 11) rfl)) (by decide) (by decide)) (g := (mkF m 1 #[.val (.ref a1), .val (.ref x0), .val .null, .val (.ref x2), .val (.ref x3)] [(.ref a1)])) rfl (by rw [hml]; rfl) (Steps.refl _) (a := a1) (argsL := []) (rest := []) (lenOf pd_0 rfl) rfl (by show 2 * 0 + _ ≤ _; exact Nat.le_of_eq rfl) (hb hby d1_1) (fun _ _ => ⟨rfl, e0, (by decide : 0 + 0 ≤ _), (by decide : 0 + 0 ≤ _)⟩)
  dsimp only [Pt.U, Pt.locs, Pt.cells, Pt.slots] at X102 l102 y102 z102 st102 hQ102
  subst l102 y102 z102
  obtain ⟨rfl, N102q, eh102⟩ := hQ102
  have N102 := Fr.app N0 N102q
  refine Go.step (fun _ kt => st102.trans kt) ?_
  show Go p.tables e below _ (T102.setTop (mkF m 4 #[.val (.ref a1), .val (.ref x0), .val .null, .val (.ref x2), .val (.ref x3)] []))
  refine Go.step (fun _ kt => XS.aloadN X102.here hx rfl (hb hby d1_4) rfl rfl kt) ?_
  show Go p.tables e below _ (T102.setTop (mkF m 5 #[.val (.ref a1), .val (.ref x0), .val .null, .val (.ref x2), .val (.ref x3)] [(.ref a1)]))
  refine Go.step (fun _ kt => XS.aloadN X102.here hx rfl (hb hby d1_5) rfl rfl kt) ?_
  show Go p.tables e below _ (T102.setTop (mkF m 6 #[.val (.ref a1), .val (.ref x0), .val .null, .val (.ref x2), .val (.ref x3)] [(.ref x0), (.ref a1)]))
  obtain ⟨T103, h103, X103, e103, W103, st103⟩ := putF X102 hx hZ hown (host := "") (Or.inl (hw _ (List.mem_of_getElem? (i := 16) rfl))) Via.refl eh102 F0 E1 (Or.inr ⟨(hw _ (List.mem_of_getElem? (i := 17) rfl)), rfl, hnm⟩) (hw _ (List.mem_of_getElem? (i := 3) rfl)) (ty := (.object "java/lang/Integer")) (by decide) rfl rfl (g := (mkF m 6 #[.val (.ref a1), .val (.ref x0), .val .null, .val (.ref x2), .val (.ref x3)] [(.ref x0), (.ref a1)])) rfl rfl (hb hby d1_6)
  refine Go.step st103 ?_
  have N103 := Fr.snoc X103 N102 g_a1
  have F104 : Exa Z h103 a1 "com/example/patient_courier/patientcourier/delivery/AttemptResult" := (E1.wr W103)
  have F105 : Fld Z h103 a1 "com/example/patient_courier/patientcourier/delivery/AttemptResult" "status" "Ljava/lang/Integer;" (.ref x0) := (F0.same W103)
  have F106 : Fld Z h103 a1 "com/example/patient_courier/patientcourier/delivery/AttemptResult" "error" "Ljava/lang/String;" u1 := (F1.other W103 (Or.inr (slot_ne (Or.inr (hw _ (List.mem_of_getElem? (i := 19) rfl))) (Or.inr (hw _ (List.mem_of_getElem? (i := 17) rfl))) (by decide) (t := (.object "java/lang/String")) (t' := (.object "java/lang/Integer")) (by decide) (by decide))))
  have F107 : Fld Z h103 a1 "com/example/patient_courier/patientcourier/delivery/AttemptResult" "preview" "[B" u2 := (F2.other W103 (Or.inr (slot_ne (Or.inr (hw _ (List.mem_of_getElem? (i := 21) rfl))) (Or.inr (hw _ (List.mem_of_getElem? (i := 17) rfl))) (by decide) (t := (.array .byte)) (t' := (.object "java/lang/Integer")) (by decide) (by decide))))
  have F108 : Fld Z h103 a1 "com/example/patient_courier/patientcourier/delivery/AttemptResult" "retryAfter" "Ljava/lang/String;" u3 := (F3.other W103 (Or.inr (slot_ne (Or.inr (hw _ (List.mem_of_getElem? (i := 23) rfl))) (Or.inr (hw _ (List.mem_of_getElem? (i := 17) rfl))) (by decide) (t := (.object "java/lang/String")) (t' := (.object "java/lang/Integer")) (by decide) (by decide))))
  have Z109 : n0 ≤ h103.size := (Nat.le_trans Z0 (Nat.le_of_eq W103.size.symm))
  have K110 : Keep h0 h103 [a1] := (K101.wr W103 (Or.inl (List.mem_of_getElem? (i := 0) rfl)))
  show Go p.tables e below _ (T103.setTop (mkF m 9 #[.val (.ref a1), .val (.ref x0), .val .null, .val (.ref x2), .val (.ref x3)] []))
  refine Go.step (fun _ kt => XS.aloadN X103.here hx rfl (hb hby d1_9) rfl rfl kt) ?_
  show Go p.tables e below _ (T103.setTop (mkF m 10 #[.val (.ref a1), .val (.ref x0), .val .null, .val (.ref x2), .val (.ref x3)] [(.ref a1)]))
  refine Go.step (fun _ kt => XS.aloadN X103.here hx rfl (hb hby d1_10) rfl rfl kt) ?_
  show Go p.tables e below _ (T103.setTop (mkF m 11 #[.val (.ref a1), .val (.ref x0), .val .null, .val (.ref x2), .val (.ref x3)] [.null, (.ref a1)]))
  obtain ⟨T111, h111, X111, e111, W111, st111⟩ := putF X103 hx hZ hown (host := "") (Or.inl (hw _ (List.mem_of_getElem? (i := 18) rfl))) Via.refl e103 F106 F104 (Or.inr ⟨(hw _ (List.mem_of_getElem? (i := 19) rfl)), rfl, hnm⟩) (hw _ (List.mem_of_getElem? (i := 3) rfl)) (ty := (.object "java/lang/String")) (by decide) rfl rfl (g := (mkF m 11 #[.val (.ref a1), .val (.ref x0), .val .null, .val (.ref x2), .val (.ref x3)] [.null, (.ref a1)])) rfl rfl (hb hby d1_11)
  refine Go.step st111 ?_
  have N111 := Fr.snoc X111 N103 g_a1
  have F112 : Exa Z h111 a1 "com/example/patient_courier/patientcourier/delivery/AttemptResult" := (F104.wr W111)
  have F113 : Fld Z h111 a1 "com/example/patient_courier/patientcourier/delivery/AttemptResult" "status" "Ljava/lang/Integer;" (.ref x0) := (F105.other W111 (Or.inr (slot_ne (Or.inr (hw _ (List.mem_of_getElem? (i := 17) rfl))) (Or.inr (hw _ (List.mem_of_getElem? (i := 19) rfl))) (by decide) (t := (.object "java/lang/Integer")) (t' := (.object "java/lang/String")) (by decide) (by decide))))
  have F114 : Fld Z h111 a1 "com/example/patient_courier/patientcourier/delivery/AttemptResult" "preview" "[B" u2 := (F107.other W111 (Or.inr (slot_ne (Or.inr (hw _ (List.mem_of_getElem? (i := 21) rfl))) (Or.inr (hw _ (List.mem_of_getElem? (i := 19) rfl))) (by decide) (t := (.array .byte)) (t' := (.object "java/lang/String")) (by decide) (by decide))))
  have F115 : Fld Z h111 a1 "com/example/patient_courier/patientcourier/delivery/AttemptResult" "retryAfter" "Ljava/lang/String;" u3 := (F108.other W111 (Or.inr (slot_ne (Or.inr (hw _ (List.mem_of_getElem? (i := 23) rfl))) (Or.inr (hw _ (List.mem_of_getElem? (i := 19) rfl))) (by decide) (t := (.object "java/lang/String")) (t' := (.object "java/lang/String")) (by decide) (by decide))))
  have Z116 : n0 ≤ h111.size := (Nat.le_trans Z109 (Nat.le_of_eq W111.size.symm))
  have K117 : Keep h0 h111 [a1] := (K110.wr W111 (Or.inl (List.mem_of_getElem? (i := 0) rfl)))
  show Go p.tables e below _ (T111.setTop (mkF m 14 #[.val (.ref a1), .val (.ref x0), .val .null, .val (.ref x2), .val (.ref x3)] []))
  refine Go.step (fun _ kt => XS.aloadN X111.here hx rfl (hb hby d1_14) rfl rfl kt) ?_
  show Go p.tables e below _ (T111.setTop (mkF m 15 #[.val (.ref a1), .val (.ref x0), .val .null, .val (.ref x2), .val (.ref x3)] [(.ref a1)]))
  refine Go.step (fun _ kt => XS.aloadN X111.here hx rfl (hb hby d1_15) rfl rfl kt) ?_
  show Go p.tables e below _ (T111.setTop (mkF m 16 #[.val (.ref a1), .val (.ref x0), .val .null, .val (.ref x2), .val (.ref x3)] [(.ref x2), (.ref a1)]))
  obtain ⟨T118, h118, X118, e118, W118, st118⟩ := putF X111 hx hZ hown (host := "") (Or.inl (hw _ (List.mem_of_getElem? (i := 20) rfl))) Via.refl e111 F114 F112 (Or.inr ⟨(hw _ (List.mem_of_getElem? (i := 21) rfl)), rfl, hnm⟩) (hw _ (List.mem_of_getElem? (i := 3) rfl)) (ty := (.array .byte)) (by decide) rfl rfl (g := (mkF m 16 #[.val (.ref a1), .val (.ref x0), .val .null, .val (.ref x2), .val (.ref x3)] [(.ref x2), (.ref a1)])) rfl rfl (hb hby d1_16)
  refine Go.step st118 ?_
  have N118 := Fr.snoc X118 N111 g_a1
  have F119 : Exa Z h118 a1 "com/example/patient_courier/patientcourier/delivery/AttemptResult" := (F112.wr W118)
  have F120 : Fld Z h118 a1 "com/example/patient_courier/patientcourier/delivery/AttemptResult" "status" "Ljava/lang/Integer;" (.ref x0) := (F113.other W118 (Or.inr (slot_ne (Or.inr (hw _ (List.mem_of_getElem? (i := 17) rfl))) (Or.inr (hw _ (List.mem_of_getElem? (i := 21) rfl))) (by decide) (t := (.object "java/lang/Integer")) (t' := (.array .byte)) (by decide) (by decide))))
  have F121 : Fld Z h118 a1 "com/example/patient_courier/patientcourier/delivery/AttemptResult" "retryAfter" "Ljava/lang/String;" u3 := (F115.other W118 (Or.inr (slot_ne (Or.inr (hw _ (List.mem_of_getElem? (i := 23) rfl))) (Or.inr (hw _ (List.mem_of_getElem? (i := 21) rfl))) (by decide) (t := (.object "java/lang/String")) (t' := (.array .byte)) (by decide) (by decide))))
  have Z122 : n0 ≤ h118.size := (Nat.le_trans Z116 (Nat.le_of_eq W118.size.symm))
  have K123 : Keep h0 h118 [a1] := (K117.wr W118 (Or.inl (List.mem_of_getElem? (i := 0) rfl)))
  show Go p.tables e below _ (T118.setTop (mkF m 19 #[.val (.ref a1), .val (.ref x0), .val .null, .val (.ref x2), .val (.ref x3)] []))
  refine Go.step (fun _ kt => XS.aloadN X118.here hx rfl (hb hby d1_19) rfl rfl kt) ?_
  show Go p.tables e below _ (T118.setTop (mkF m 20 #[.val (.ref a1), .val (.ref x0), .val .null, .val (.ref x2), .val (.ref x3)] [(.ref a1)]))
  refine Go.step (fun _ kt => XS.aload X118.here hx rfl (hb hby d1_20) rfl rfl kt) ?_
  show Go p.tables e below _ (T118.setTop (mkF m 22 #[.val (.ref a1), .val (.ref x0), .val .null, .val (.ref x2), .val (.ref x3)] [(.ref x3), (.ref a1)]))
  obtain ⟨T124, h124, X124, e124, W124, st124⟩ := putF X118 hx hZ hown (host := "") (Or.inl (hw _ (List.mem_of_getElem? (i := 22) rfl))) Via.refl e118 F121 F119 (Or.inr ⟨(hw _ (List.mem_of_getElem? (i := 23) rfl)), rfl, hnm⟩) (hw _ (List.mem_of_getElem? (i := 3) rfl)) (ty := (.object "java/lang/String")) (by decide) rfl rfl (g := (mkF m 22 #[.val (.ref a1), .val (.ref x0), .val .null, .val (.ref x2), .val (.ref x3)] [(.ref x3), (.ref a1)])) rfl rfl (hb hby d1_22)
  refine Go.step st124 ?_
  have N124 := Fr.snoc X124 N118 g_a1
  have F125 : Exa Z h124 a1 "com/example/patient_courier/patientcourier/delivery/AttemptResult" := (F119.wr W124)
  have F126 : Fld Z h124 a1 "com/example/patient_courier/patientcourier/delivery/AttemptResult" "status" "Ljava/lang/Integer;" (.ref x0) := (F120.other W124 (Or.inr (slot_ne (Or.inr (hw _ (List.mem_of_getElem? (i := 17) rfl))) (Or.inr (hw _ (List.mem_of_getElem? (i := 23) rfl))) (by decide) (t := (.object "java/lang/Integer")) (t' := (.object "java/lang/String")) (by decide) (by decide))))
  have Z127 : n0 ≤ h124.size := (Nat.le_trans Z122 (Nat.le_of_eq W124.size.symm))
  have K128 : Keep h0 h124 [a1] := (K123.wr W124 (Or.inl (List.mem_of_getElem? (i := 0) rfl)))
  show Go p.tables e below _ (T124.setTop (mkF m 25 #[.val (.ref a1), .val (.ref x0), .val .null, .val (.ref x2), .val (.ref x3)] []))
  obtain ⟨fs, hr, hrun, hended, hW, hsame⟩ := X124.leave (v := none) (fun _ => rfl)
  refine ⟨_, _, X124.returnOut hx Bd.returns (hb hby d1_25) hr, hrun, hended, _, _, rfl, ?_, ⟨_, rfl⟩, hW, hsame.mono (by decide) (by decide)⟩
  show Qrmi_rnrr Z a1 x0 x2 x3 u0 u1 u2 u3 h0 n0 _ T124.heap _
  rw [e124]
  refine ⟨?_, N124, K128, F125, F126⟩
  rfl
theorem ef_rmi_rrrn (m : MethodId) (a1 : Addr) (x0 : Addr) (x1 : Addr) (x2 : Addr) (u0 : Value) (u1 : Value) (u2 : Value) (u3 : Value) : entryFrame m #[(.ref a1), (.ref x0), (.ref x1), (.ref x2), .null] 5 = mkF m 0 #[.val (.ref a1), .val (.ref x0), .val (.ref x1), .val (.ref x2), .val .null] [] := by first | (simp [entryFrame, mkF, argsToLocals, Value.category]; done) | rfl
def Qrmi_rrrn (Z : State) (a1 : Addr) (x0 : Addr) (x1 : Addr) (x2 : Addr) (u0 : Value) (u1 : Value) (u2 : Value) (u3 : Value) (h0 : Heap) (n0 : Nat) (v : Option Value) (h : Heap) (L : List Loc) : Prop := v = none ∧ Fr n0 L ∧ Keep h0 h [a1] ∧ Exa Z h a1 "com/example/patient_courier/patientcourier/delivery/AttemptResult" ∧ Fld Z h a1 "com/example/patient_courier/patientcourier/delivery/AttemptResult" "status" "Ljava/lang/Integer;" (.ref x0)
set_option maxRecDepth 65536 in
set_option maxHeartbeats 40000000 in
theorem rmi_rrrn (l : Launch) (Z : State) (a0 : Array Value) (hw : ∀ d ∈ tables_1, d.before a0 Z = true) (ws : List Jvm.Cond) (a1 : Addr) (x0 : Addr) (x1 : Addr) (x2 : Addr) (u0 : Value) (u1 : Value) (u2 : Value) (u3 : Value) (h0 : Heap) (n0 : Nat) (Z0 : n0 ≤ h0.size) (E1 : Exa Z h0 a1 "com/example/patient_courier/patientcourier/delivery/AttemptResult") (F0 : Fld Z h0 a1 "com/example/patient_courier/patientcourier/delivery/AttemptResult" "status" "Ljava/lang/Integer;" u0) (F1 : Fld Z h0 a1 "com/example/patient_courier/patientcourier/delivery/AttemptResult" "error" "Ljava/lang/String;" u1) (F2 : Fld Z h0 a1 "com/example/patient_courier/patientcourier/delivery/AttemptResult" "preview" "[B" u2) (F3 : Fld Z h0 a1 "com/example/patient_courier/patientcourier/delivery/AttemptResult" "retryAfter" "Ljava/lang/String;" u3) (g_a1 : n0 ≤ a1) :
    MetFree l (⟨"com/example/patient_courier/patientcourier/delivery/AttemptResult", "<init>", "(Ljava/lang/Integer;Ljava/lang/String;[BLjava/lang/String;)V"⟩ : MethodName) (head1 (Jvm.Cond.code (⟨"com/example/patient_courier/patientcourier/delivery/AttemptResult", "<init>", "(Ljava/lang/Integer;Ljava/lang/String;[BLjava/lang/String;)V"⟩ : MethodName) prog_19_method_1_code 5 none :: ws) ({ frames := 2, cells := 0, slots := 0, locals := 24 } : Room)) (fun a U => a = #[(.ref a1), (.ref x0), (.ref x1), (.ref x2), .null] ∧ Z.Warmed39 U.vm ∧ U.heap = h0) (fun _ _ _ _ _ => True) (fun _ U o U' => ∃ v L, o = .returned v ∧ Qrmi_rrrn Z a1 x0 x1 x2 u0 u1 u2 u3 h0 n0 v U'.heap L ∧ FrameEnd U o U' L ({ frames := 2, cells := 0, slots := 0, locals := 24 } : Room).cells ({ frames := 2, cells := 0, slots := 0, locals := 24 } : Room).slots) := by
  refine MetFree.of_bodySF (plainFor_of_name pn_3) hisR ?_
  intro p e s m args below meth c s₁ Bd hml0 hP hK
  obtain ⟨rfl, hZ, hh⟩ := hP
  have hx := Bd.exec
  have hby := Bd.bytes
  have hml : c.maxLocals = 5 := hml0
  have hown : s.vm.findClass "com/example/patient_courier/patientcourier/delivery/AttemptResult" = some m.cls := findClass_of_methodNamed Bd.named
  have hnm := (name_of_methodNamed Bd.named Bd.method).1
  have X0 : Stand p l e ({ frames := 2, cells := 0, slots := 0, locals := 24 } : Room) s m #[(.ref a1), (.ref x0), (.ref x1), (.ref x2), .null] below meth c s₁ [] 0 0 := Stand.of_body Bd
  have e0 : s₁.heap = h0 := by rw [← hh, Bd.state]; rfl
  have N0 := Fr.nil n0
  show Go p.tables e below (fun o U' => ∃ v L, o = .returned v ∧ Qrmi_rrrn Z a1 x0 x1 x2 u0 u1 u2 u3 h0 n0 v U'.heap L ∧ FrameEnd s o U' L ({ frames := 2, cells := 0, slots := 0, locals := 24 } : Room).cells ({ frames := 2, cells := 0, slots := 0, locals := 24 } : Room).slots) _
  refine Go.step (fun t kt => castTop (ef_rmi_rrrn m a1 x0 x1 x2 u0 u1 u2 u3) kt) ?_
  show Go p.tables e below _ (s₁.setTop (mkF m 0 #[.val (.ref a1), .val (.ref x0), .val (.ref x1), .val (.ref x2), .val .null] []))
  have K101 : Keep h0 h0 [a1] := (Keep.refl h0 [a1])
  refine Go.step (fun _ kt => XS.aloadN X0.here hx rfl (hb hby d1_0) rfl rfl kt) ?_
  show Go p.tables e below _ (s₁.setTop (mkF m 1 #[.val (.ref a1), .val (.ref x0), .val (.ref x1), .val (.ref x2), .val .null] [(.ref a1)]))
  obtain ⟨_, _, ⟨T102, L102, k102, n102⟩, -, X102, ⟨Lc102, hQ102, l102, y102, z102⟩, st102⟩ := X0.specialBack hx (y := (⟨"java/lang/Record", "<init>", "()V"⟩ : MethodName)) rfl hown (mvT hZ (hw _ (List.mem_of_getElem? (i := 8) rfl))) (mvT hZ (hw _ (List.mem_of_getElem? (i := 9) rfl))) (mvT hZ (hw _ (List.mem_of_getElem? (i := 12) rfl))) (by decide) (backOf (W := 0) (rm2 l Z a0 hw [] a1  h0 n0 Z0  ) hZ (hw _ (List.mem_of_getElem? (i := 12) rfl)) (hw _ (List.mem_of_getElem? (i := 11) rfl)) (by decide) (by decide)) (g := (mkF m 1 #[.val (.ref a1), .val (.ref x0), .val (.ref x1), .val (.ref x2), .val .null] [(.ref a1)])) rfl (by rw [hml]; rfl) (Steps.refl _) (a := a1) (argsL := []) (rest := []) (lenOf pd_0 rfl) rfl (by show 2 * 0 + _ ≤ _; exact Nat.le_of_eq rfl) (hb hby d1_1) (fun _ _ => ⟨rfl, e0, (by decide : 0 + 0 ≤ _), (by decide : 0 + 0 ≤ _)⟩)
  dsimp only [Pt.U, Pt.locs, Pt.cells, Pt.slots] at X102 l102 y102 z102 st102 hQ102
  subst l102 y102 z102
  obtain ⟨rfl, N102q, eh102⟩ := hQ102
  have N102 := Fr.app N0 N102q
  refine Go.step (fun _ kt => st102.trans kt) ?_
  show Go p.tables e below _ (T102.setTop (mkF m 4 #[.val (.ref a1), .val (.ref x0), .val (.ref x1), .val (.ref x2), .val .null] []))
  refine Go.step (fun _ kt => XS.aloadN X102.here hx rfl (hb hby d1_4) rfl rfl kt) ?_
  show Go p.tables e below _ (T102.setTop (mkF m 5 #[.val (.ref a1), .val (.ref x0), .val (.ref x1), .val (.ref x2), .val .null] [(.ref a1)]))
  refine Go.step (fun _ kt => XS.aloadN X102.here hx rfl (hb hby d1_5) rfl rfl kt) ?_
  show Go p.tables e below _ (T102.setTop (mkF m 6 #[.val (.ref a1), .val (.ref x0), .val (.ref x1), .val (.ref x2), .val .null] [(.ref x0), (.ref a1)]))
  obtain ⟨T103, h103, X103, e103, W103, st103⟩ := putF X102 hx hZ hown (host := "") (Or.inl (hw _ (List.mem_of_getElem? (i := 16) rfl))) Via.refl eh102 F0 E1 (Or.inr ⟨(hw _ (List.mem_of_getElem? (i := 17) rfl)), rfl, hnm⟩) (hw _ (List.mem_of_getElem? (i := 3) rfl)) (ty := (.object "java/lang/Integer")) (by decide) rfl rfl (g := (mkF m 6 #[.val (.ref a1), .val (.ref x0), .val (.ref x1), .val (.ref x2), .val .null] [(.ref x0), (.ref a1)])) rfl rfl (hb hby d1_6)
  refine Go.step st103 ?_
  have N103 := Fr.snoc X103 N102 g_a1
  have F104 : Exa Z h103 a1 "com/example/patient_courier/patientcourier/delivery/AttemptResult" := (E1.wr W103)
  have F105 : Fld Z h103 a1 "com/example/patient_courier/patientcourier/delivery/AttemptResult" "status" "Ljava/lang/Integer;" (.ref x0) := (F0.same W103)
  have F106 : Fld Z h103 a1 "com/example/patient_courier/patientcourier/delivery/AttemptResult" "error" "Ljava/lang/String;" u1 := (F1.other W103 (Or.inr (slot_ne (Or.inr (hw _ (List.mem_of_getElem? (i := 19) rfl))) (Or.inr (hw _ (List.mem_of_getElem? (i := 17) rfl))) (by decide) (t := (.object "java/lang/String")) (t' := (.object "java/lang/Integer")) (by decide) (by decide))))
  have F107 : Fld Z h103 a1 "com/example/patient_courier/patientcourier/delivery/AttemptResult" "preview" "[B" u2 := (F2.other W103 (Or.inr (slot_ne (Or.inr (hw _ (List.mem_of_getElem? (i := 21) rfl))) (Or.inr (hw _ (List.mem_of_getElem? (i := 17) rfl))) (by decide) (t := (.array .byte)) (t' := (.object "java/lang/Integer")) (by decide) (by decide))))
  have F108 : Fld Z h103 a1 "com/example/patient_courier/patientcourier/delivery/AttemptResult" "retryAfter" "Ljava/lang/String;" u3 := (F3.other W103 (Or.inr (slot_ne (Or.inr (hw _ (List.mem_of_getElem? (i := 23) rfl))) (Or.inr (hw _ (List.mem_of_getElem? (i := 17) rfl))) (by decide) (t := (.object "java/lang/String")) (t' := (.object "java/lang/Integer")) (by decide) (by decide))))
  have Z109 : n0 ≤ h103.size := (Nat.le_trans Z0 (Nat.le_of_eq W103.size.symm))
  have K110 : Keep h0 h103 [a1] := (K101.wr W103 (Or.inl (List.mem_of_getElem? (i := 0) rfl)))
  show Go p.tables e below _ (T103.setTop (mkF m 9 #[.val (.ref a1), .val (.ref x0), .val (.ref x1), .val (.ref x2), .val .null] []))
  refine Go.step (fun _ kt => XS.aloadN X103.here hx rfl (hb hby d1_9) rfl rfl kt) ?_
  show Go p.tables e below _ (T103.setTop (mkF m 10 #[.val (.ref a1), .val (.ref x0), .val (.ref x1), .val (.ref x2), .val .null] [(.ref a1)]))
  refine Go.step (fun _ kt => XS.aloadN X103.here hx rfl (hb hby d1_10) rfl rfl kt) ?_
  show Go p.tables e below _ (T103.setTop (mkF m 11 #[.val (.ref a1), .val (.ref x0), .val (.ref x1), .val (.ref x2), .val .null] [(.ref x1), (.ref a1)]))
  obtain ⟨T111, h111, X111, e111, W111, st111⟩ := putF X103 hx hZ hown (host := "") (Or.inl (hw _ (List.mem_of_getElem? (i := 18) rfl))) Via.refl e103 F106 F104 (Or.inr ⟨(hw _ (List.mem_of_getElem? (i := 19) rfl)), rfl, hnm⟩) (hw _ (List.mem_of_getElem? (i := 3) rfl)) (ty := (.object "java/lang/String")) (by decide) rfl rfl (g := (mkF m 11 #[.val (.ref a1), .val (.ref x0), .val (.ref x1), .val (.ref x2), .val .null] [(.ref x1), (.ref a1)])) rfl rfl (hb hby d1_11)
  refine Go.step st111 ?_
  have N111 := Fr.snoc X111 N103 g_a1
  have F112 : Exa Z h111 a1 "com/example/patient_courier/patientcourier/delivery/AttemptResult" := (F104.wr W111)
  have F113 : Fld Z h111 a1 "com/example/patient_courier/patientcourier/delivery/AttemptResult" "status" "Ljava/lang/Integer;" (.ref x0) := (F105.other W111 (Or.inr (slot_ne (Or.inr (hw _ (List.mem_of_getElem? (i := 17) rfl))) (Or.inr (hw _ (List.mem_of_getElem? (i := 19) rfl))) (by decide) (t := (.object "java/lang/Integer")) (t' := (.object "java/lang/String")) (by decide) (by decide))))
  have F114 : Fld Z h111 a1 "com/example/patient_courier/patientcourier/delivery/AttemptResult" "preview" "[B" u2 := (F107.other W111 (Or.inr (slot_ne (Or.inr (hw _ (List.mem_of_getElem? (i := 21) rfl))) (Or.inr (hw _ (List.mem_of_getElem? (i := 19) rfl))) (by decide) (t := (.array .byte)) (t' := (.object "java/lang/String")) (by decide) (by decide))))
  have F115 : Fld Z h111 a1 "com/example/patient_courier/patientcourier/delivery/AttemptResult" "retryAfter" "Ljava/lang/String;" u3 := (F108.other W111 (Or.inr (slot_ne (Or.inr (hw _ (List.mem_of_getElem? (i := 23) rfl))) (Or.inr (hw _ (List.mem_of_getElem? (i := 19) rfl))) (by decide) (t := (.object "java/lang/String")) (t' := (.object "java/lang/String")) (by decide) (by decide))))
  have Z116 : n0 ≤ h111.size := (Nat.le_trans Z109 (Nat.le_of_eq W111.size.symm))
  have K117 : Keep h0 h111 [a1] := (K110.wr W111 (Or.inl (List.mem_of_getElem? (i := 0) rfl)))
  show Go p.tables e below _ (T111.setTop (mkF m 14 #[.val (.ref a1), .val (.ref x0), .val (.ref x1), .val (.ref x2), .val .null] []))
  refine Go.step (fun _ kt => XS.aloadN X111.here hx rfl (hb hby d1_14) rfl rfl kt) ?_
  show Go p.tables e below _ (T111.setTop (mkF m 15 #[.val (.ref a1), .val (.ref x0), .val (.ref x1), .val (.ref x2), .val .null] [(.ref a1)]))
  refine Go.step (fun _ kt => XS.aloadN X111.here hx rfl (hb hby d1_15) rfl rfl kt) ?_
  show Go p.tables e below _ (T111.setTop (mkF m 16 #[.val (.ref a1), .val (.ref x0), .val (.ref x1), .val (.ref x2), .val .null] [(.ref x2), (.ref a1)]))
  obtain ⟨T118, h118, X118, e118, W118, st118⟩ := putF X111 hx hZ hown (host := "") (Or.inl (hw _ (List.mem_of_getElem? (i := 20) rfl))) Via.refl e111 F114 F112 (Or.inr ⟨(hw _ (List.mem_of_getElem? (i := 21) rfl)), rfl, hnm⟩) (hw _ (List.mem_of_getElem? (i := 3) rfl)) (ty := (.array .byte)) (by decide) rfl rfl (g := (mkF m 16 #[.val (.ref a1), .val (.ref x0), .val (.ref x1), .val (.ref x2), .val .null] [(.ref x2), (.ref a1)])) rfl rfl (hb hby d1_16)
  refine Go.step st118 ?_
  have N118 := Fr.snoc X118 N111 g_a1
  have F119 : Exa Z h118 a1 "com/example/patient_courier/patientcourier/delivery/AttemptResult" := (F112.wr W118)
  have F120 : Fld Z h118 a1 "com/example/patient_courier/patientcourier/delivery/AttemptResult" "status" "Ljava/lang/Integer;" (.ref x0) := (F113.other W118 (Or.inr (slot_ne (Or.inr (hw _ (List.mem_of_getElem? (i := 17) rfl))) (Or.inr (hw _ (List.mem_of_getElem? (i := 21) rfl))) (by decide) (t := (.object "java/lang/Integer")) (t' := (.array .byte)) (by decide) (by decide))))
  have F121 : Fld Z h118 a1 "com/example/patient_courier/patientcourier/delivery/AttemptResult" "retryAfter" "Ljava/lang/String;" u3 := (F115.other W118 (Or.inr (slot_ne (Or.inr (hw _ (List.mem_of_getElem? (i := 23) rfl))) (Or.inr (hw _ (List.mem_of_getElem? (i := 21) rfl))) (by decide) (t := (.object "java/lang/String")) (t' := (.array .byte)) (by decide) (by decide))))
  have Z122 : n0 ≤ h118.size := (Nat.le_trans Z116 (Nat.le_of_eq W118.size.symm))
  have K123 : Keep h0 h118 [a1] := (K117.wr W118 (Or.inl (List.mem_of_getElem? (i := 0) rfl)))
  show Go p.tables e below _ (T118.setTop (mkF m 19 #[.val (.ref a1), .val (.ref x0), .val (.ref x1), .val (.ref x2), .val .null] []))
  refine Go.step (fun _ kt => XS.aloadN X118.here hx rfl (hb hby d1_19) rfl rfl kt) ?_
  show Go p.tables e below _ (T118.setTop (mkF m 20 #[.val (.ref a1), .val (.ref x0), .val (.ref x1), .val (.ref x2), .val .null] [(.ref a1)]))
  refine Go.step (fun _ kt => XS.aload X118.here hx rfl (hb hby d1_20) rfl rfl kt) ?_
  show Go p.tables e below _ (T118.setTop (mkF m 22 #[.val (.ref a1), .val (.ref x0), .val (.ref x1), .val (.ref x2), .val .null] [.null, (.ref a1)]))
  obtain ⟨T124, h124, X124, e124, W124, st124⟩ := putF X118 hx hZ hown (host := "") (Or.inl (hw _ (List.mem_of_getElem? (i := 22) rfl))) Via.refl e118 F121 F119 (Or.inr ⟨(hw _ (List.mem_of_getElem? (i := 23) rfl)), rfl, hnm⟩) (hw _ (List.mem_of_getElem? (i := 3) rfl)) (ty := (.object "java/lang/String")) (by decide) rfl rfl (g := (mkF m 22 #[.val (.ref a1), .val (.ref x0), .val (.ref x1), .val (.ref x2), .val .null] [.null, (.ref a1)])) rfl rfl (hb hby d1_22)
  refine Go.step st124 ?_
  have N124 := Fr.snoc X124 N118 g_a1
  have F125 : Exa Z h124 a1 "com/example/patient_courier/patientcourier/delivery/AttemptResult" := (F119.wr W124)
  have F126 : Fld Z h124 a1 "com/example/patient_courier/patientcourier/delivery/AttemptResult" "status" "Ljava/lang/Integer;" (.ref x0) := (F120.other W124 (Or.inr (slot_ne (Or.inr (hw _ (List.mem_of_getElem? (i := 17) rfl))) (Or.inr (hw _ (List.mem_of_getElem? (i := 23) rfl))) (by decide) (t := (.object "java/lang/Integer")) (t' := (.object "java/lang/String")) (by decide) (by decide))))
  have Z127 : n0 ≤ h124.size := (Nat.le_trans Z122 (Nat.le_of_eq W124.size.symm))
  have K128 : Keep h0 h124 [a1] := (K123.wr W124 (Or.inl (List.mem_of_getElem? (i := 0) rfl)))
  show Go p.tables e below _ (T124.setTop (mkF m 25 #[.val (.ref a1), .val (.ref x0), .val (.ref x1), .val (.ref x2), .val .null] []))
  obtain ⟨fs, hr, hrun, hended, hW, hsame⟩ := X124.leave (v := none) (fun _ => rfl)
  refine ⟨_, _, X124.returnOut hx Bd.returns (hb hby d1_25) hr, hrun, hended, _, _, rfl, ?_, ⟨_, rfl⟩, hW, hsame.mono (by decide) (by decide)⟩
  show Qrmi_rrrn Z a1 x0 x1 x2 u0 u1 u2 u3 h0 n0 _ T124.heap _
  rw [e124]
  refine ⟨?_, N124, K128, F125, F126⟩
  rfl
theorem ef_rmi_rrrr (m : MethodId) (a1 : Addr) (x0 : Addr) (x1 : Addr) (x2 : Addr) (x3 : Addr) (u0 : Value) (u1 : Value) (u2 : Value) (u3 : Value) : entryFrame m #[(.ref a1), (.ref x0), (.ref x1), (.ref x2), (.ref x3)] 5 = mkF m 0 #[.val (.ref a1), .val (.ref x0), .val (.ref x1), .val (.ref x2), .val (.ref x3)] [] := by first | (simp [entryFrame, mkF, argsToLocals, Value.category]; done) | rfl
def Qrmi_rrrr (Z : State) (a1 : Addr) (x0 : Addr) (x1 : Addr) (x2 : Addr) (x3 : Addr) (u0 : Value) (u1 : Value) (u2 : Value) (u3 : Value) (h0 : Heap) (n0 : Nat) (v : Option Value) (h : Heap) (L : List Loc) : Prop := v = none ∧ Fr n0 L ∧ Keep h0 h [a1] ∧ Exa Z h a1 "com/example/patient_courier/patientcourier/delivery/AttemptResult" ∧ Fld Z h a1 "com/example/patient_courier/patientcourier/delivery/AttemptResult" "status" "Ljava/lang/Integer;" (.ref x0)
set_option maxRecDepth 65536 in
set_option maxHeartbeats 40000000 in
theorem rmi_rrrr (l : Launch) (Z : State) (a0 : Array Value) (hw : ∀ d ∈ tables_1, d.before a0 Z = true) (ws : List Jvm.Cond) (a1 : Addr) (x0 : Addr) (x1 : Addr) (x2 : Addr) (x3 : Addr) (u0 : Value) (u1 : Value) (u2 : Value) (u3 : Value) (h0 : Heap) (n0 : Nat) (Z0 : n0 ≤ h0.size) (E1 : Exa Z h0 a1 "com/example/patient_courier/patientcourier/delivery/AttemptResult") (F0 : Fld Z h0 a1 "com/example/patient_courier/patientcourier/delivery/AttemptResult" "status" "Ljava/lang/Integer;" u0) (F1 : Fld Z h0 a1 "com/example/patient_courier/patientcourier/delivery/AttemptResult" "error" "Ljava/lang/String;" u1) (F2 : Fld Z h0 a1 "com/example/patient_courier/patientcourier/delivery/AttemptResult" "preview" "[B" u2) (F3 : Fld Z h0 a1 "com/example/patient_courier/patientcourier/delivery/AttemptResult" "retryAfter" "Ljava/lang/String;" u3) (g_a1 : n0 ≤ a1) :
    MetFree l (⟨"com/example/patient_courier/patientcourier/delivery/AttemptResult", "<init>", "(Ljava/lang/Integer;Ljava/lang/String;[BLjava/lang/String;)V"⟩ : MethodName) (head1 (Jvm.Cond.code (⟨"com/example/patient_courier/patientcourier/delivery/AttemptResult", "<init>", "(Ljava/lang/Integer;Ljava/lang/String;[BLjava/lang/String;)V"⟩ : MethodName) prog_19_method_1_code 5 none :: ws) ({ frames := 2, cells := 0, slots := 0, locals := 24 } : Room)) (fun a U => a = #[(.ref a1), (.ref x0), (.ref x1), (.ref x2), (.ref x3)] ∧ Z.Warmed39 U.vm ∧ U.heap = h0) (fun _ _ _ _ _ => True) (fun _ U o U' => ∃ v L, o = .returned v ∧ Qrmi_rrrr Z a1 x0 x1 x2 x3 u0 u1 u2 u3 h0 n0 v U'.heap L ∧ FrameEnd U o U' L ({ frames := 2, cells := 0, slots := 0, locals := 24 } : Room).cells ({ frames := 2, cells := 0, slots := 0, locals := 24 } : Room).slots) := by
  refine MetFree.of_bodySF (plainFor_of_name pn_3) hisR ?_
  intro p e s m args below meth c s₁ Bd hml0 hP hK
  obtain ⟨rfl, hZ, hh⟩ := hP
  have hx := Bd.exec
  have hby := Bd.bytes
  have hml : c.maxLocals = 5 := hml0
  have hown : s.vm.findClass "com/example/patient_courier/patientcourier/delivery/AttemptResult" = some m.cls := findClass_of_methodNamed Bd.named
  have hnm := (name_of_methodNamed Bd.named Bd.method).1
  have X0 : Stand p l e ({ frames := 2, cells := 0, slots := 0, locals := 24 } : Room) s m #[(.ref a1), (.ref x0), (.ref x1), (.ref x2), (.ref x3)] below meth c s₁ [] 0 0 := Stand.of_body Bd
  have e0 : s₁.heap = h0 := by rw [← hh, Bd.state]; rfl
  have N0 := Fr.nil n0
  show Go p.tables e below (fun o U' => ∃ v L, o = .returned v ∧ Qrmi_rrrr Z a1 x0 x1 x2 x3 u0 u1 u2 u3 h0 n0 v U'.heap L ∧ FrameEnd s o U' L ({ frames := 2, cells := 0, slots := 0, locals := 24 } : Room).cells ({ frames := 2, cells := 0, slots := 0, locals := 24 } : Room).slots) _
  refine Go.step (fun t kt => castTop (ef_rmi_rrrr m a1 x0 x1 x2 x3 u0 u1 u2 u3) kt) ?_
  show Go p.tables e below _ (s₁.setTop (mkF m 0 #[.val (.ref a1), .val (.ref x0), .val (.ref x1), .val (.ref x2), .val (.ref x3)] []))
  have K101 : Keep h0 h0 [a1] := (Keep.refl h0 [a1])
  refine Go.step (fun _ kt => XS.aloadN X0.here hx rfl (hb hby d1_0) rfl rfl kt) ?_
  show Go p.tables e below _ (s₁.setTop (mkF m 1 #[.val (.ref a1), .val (.ref x0), .val (.ref x1), .val (.ref x2), .val (.ref x3)] [(.ref a1)]))
  obtain ⟨_, _, ⟨T102, L102, k102, n102⟩, -, X102, ⟨Lc102, hQ102, l102, y102, z102⟩, st102⟩ := X0.specialBack hx (y := (⟨"java/lang/Record", "<init>", "()V"⟩ : MethodName)) rfl hown (mvT hZ (hw _ (List.mem_of_getElem? (i := 8) rfl))) (mvT hZ (hw _ (List.mem_of_getElem? (i := 9) rfl))) (mvT hZ (hw _ (List.mem_of_getElem? (i := 12) rfl))) (by decide) (backOf (W := 0) (rm2 l Z a0 hw [] a1  h0 n0 Z0  ) hZ (hw _ (List.mem_of_getElem? (i := 12) rfl)) (hw _ (List.mem_of_getElem? (i := 11) rfl)) (by decide) (by decide)) (g := (mkF m 1 #[.val (.ref a1), .val (.ref x0), .val (.ref x1), .val (.ref x2), .val (.ref x3)] [(.ref a1)])) rfl (by rw [hml]; rfl) (Steps.refl _) (a := a1) (argsL := []) (rest := []) (lenOf pd_0 rfl) rfl (by show 2 * 0 + _ ≤ _; exact Nat.le_of_eq rfl) (hb hby d1_1) (fun _ _ => ⟨rfl, e0, (by decide : 0 + 0 ≤ _), (by decide : 0 + 0 ≤ _)⟩)
  dsimp only [Pt.U, Pt.locs, Pt.cells, Pt.slots] at X102 l102 y102 z102 st102 hQ102
  subst l102 y102 z102
  obtain ⟨rfl, N102q, eh102⟩ := hQ102
  have N102 := Fr.app N0 N102q
  refine Go.step (fun _ kt => st102.trans kt) ?_
  show Go p.tables e below _ (T102.setTop (mkF m 4 #[.val (.ref a1), .val (.ref x0), .val (.ref x1), .val (.ref x2), .val (.ref x3)] []))
  refine Go.step (fun _ kt => XS.aloadN X102.here hx rfl (hb hby d1_4) rfl rfl kt) ?_
  show Go p.tables e below _ (T102.setTop (mkF m 5 #[.val (.ref a1), .val (.ref x0), .val (.ref x1), .val (.ref x2), .val (.ref x3)] [(.ref a1)]))
  refine Go.step (fun _ kt => XS.aloadN X102.here hx rfl (hb hby d1_5) rfl rfl kt) ?_
  show Go p.tables e below _ (T102.setTop (mkF m 6 #[.val (.ref a1), .val (.ref x0), .val (.ref x1), .val (.ref x2), .val (.ref x3)] [(.ref x0), (.ref a1)]))
  obtain ⟨T103, h103, X103, e103, W103, st103⟩ := putF X102 hx hZ hown (host := "") (Or.inl (hw _ (List.mem_of_getElem? (i := 16) rfl))) Via.refl eh102 F0 E1 (Or.inr ⟨(hw _ (List.mem_of_getElem? (i := 17) rfl)), rfl, hnm⟩) (hw _ (List.mem_of_getElem? (i := 3) rfl)) (ty := (.object "java/lang/Integer")) (by decide) rfl rfl (g := (mkF m 6 #[.val (.ref a1), .val (.ref x0), .val (.ref x1), .val (.ref x2), .val (.ref x3)] [(.ref x0), (.ref a1)])) rfl rfl (hb hby d1_6)
  refine Go.step st103 ?_
  have N103 := Fr.snoc X103 N102 g_a1
  have F104 : Exa Z h103 a1 "com/example/patient_courier/patientcourier/delivery/AttemptResult" := (E1.wr W103)
  have F105 : Fld Z h103 a1 "com/example/patient_courier/patientcourier/delivery/AttemptResult" "status" "Ljava/lang/Integer;" (.ref x0) := (F0.same W103)
  have F106 : Fld Z h103 a1 "com/example/patient_courier/patientcourier/delivery/AttemptResult" "error" "Ljava/lang/String;" u1 := (F1.other W103 (Or.inr (slot_ne (Or.inr (hw _ (List.mem_of_getElem? (i := 19) rfl))) (Or.inr (hw _ (List.mem_of_getElem? (i := 17) rfl))) (by decide) (t := (.object "java/lang/String")) (t' := (.object "java/lang/Integer")) (by decide) (by decide))))
  have F107 : Fld Z h103 a1 "com/example/patient_courier/patientcourier/delivery/AttemptResult" "preview" "[B" u2 := (F2.other W103 (Or.inr (slot_ne (Or.inr (hw _ (List.mem_of_getElem? (i := 21) rfl))) (Or.inr (hw _ (List.mem_of_getElem? (i := 17) rfl))) (by decide) (t := (.array .byte)) (t' := (.object "java/lang/Integer")) (by decide) (by decide))))
  have F108 : Fld Z h103 a1 "com/example/patient_courier/patientcourier/delivery/AttemptResult" "retryAfter" "Ljava/lang/String;" u3 := (F3.other W103 (Or.inr (slot_ne (Or.inr (hw _ (List.mem_of_getElem? (i := 23) rfl))) (Or.inr (hw _ (List.mem_of_getElem? (i := 17) rfl))) (by decide) (t := (.object "java/lang/String")) (t' := (.object "java/lang/Integer")) (by decide) (by decide))))
  have Z109 : n0 ≤ h103.size := (Nat.le_trans Z0 (Nat.le_of_eq W103.size.symm))
  have K110 : Keep h0 h103 [a1] := (K101.wr W103 (Or.inl (List.mem_of_getElem? (i := 0) rfl)))
  show Go p.tables e below _ (T103.setTop (mkF m 9 #[.val (.ref a1), .val (.ref x0), .val (.ref x1), .val (.ref x2), .val (.ref x3)] []))
  refine Go.step (fun _ kt => XS.aloadN X103.here hx rfl (hb hby d1_9) rfl rfl kt) ?_
  show Go p.tables e below _ (T103.setTop (mkF m 10 #[.val (.ref a1), .val (.ref x0), .val (.ref x1), .val (.ref x2), .val (.ref x3)] [(.ref a1)]))
  refine Go.step (fun _ kt => XS.aloadN X103.here hx rfl (hb hby d1_10) rfl rfl kt) ?_
  show Go p.tables e below _ (T103.setTop (mkF m 11 #[.val (.ref a1), .val (.ref x0), .val (.ref x1), .val (.ref x2), .val (.ref x3)] [(.ref x1), (.ref a1)]))
  obtain ⟨T111, h111, X111, e111, W111, st111⟩ := putF X103 hx hZ hown (host := "") (Or.inl (hw _ (List.mem_of_getElem? (i := 18) rfl))) Via.refl e103 F106 F104 (Or.inr ⟨(hw _ (List.mem_of_getElem? (i := 19) rfl)), rfl, hnm⟩) (hw _ (List.mem_of_getElem? (i := 3) rfl)) (ty := (.object "java/lang/String")) (by decide) rfl rfl (g := (mkF m 11 #[.val (.ref a1), .val (.ref x0), .val (.ref x1), .val (.ref x2), .val (.ref x3)] [(.ref x1), (.ref a1)])) rfl rfl (hb hby d1_11)
  refine Go.step st111 ?_
  have N111 := Fr.snoc X111 N103 g_a1
  have F112 : Exa Z h111 a1 "com/example/patient_courier/patientcourier/delivery/AttemptResult" := (F104.wr W111)
  have F113 : Fld Z h111 a1 "com/example/patient_courier/patientcourier/delivery/AttemptResult" "status" "Ljava/lang/Integer;" (.ref x0) := (F105.other W111 (Or.inr (slot_ne (Or.inr (hw _ (List.mem_of_getElem? (i := 17) rfl))) (Or.inr (hw _ (List.mem_of_getElem? (i := 19) rfl))) (by decide) (t := (.object "java/lang/Integer")) (t' := (.object "java/lang/String")) (by decide) (by decide))))
  have F114 : Fld Z h111 a1 "com/example/patient_courier/patientcourier/delivery/AttemptResult" "preview" "[B" u2 := (F107.other W111 (Or.inr (slot_ne (Or.inr (hw _ (List.mem_of_getElem? (i := 21) rfl))) (Or.inr (hw _ (List.mem_of_getElem? (i := 19) rfl))) (by decide) (t := (.array .byte)) (t' := (.object "java/lang/String")) (by decide) (by decide))))
  have F115 : Fld Z h111 a1 "com/example/patient_courier/patientcourier/delivery/AttemptResult" "retryAfter" "Ljava/lang/String;" u3 := (F108.other W111 (Or.inr (slot_ne (Or.inr (hw _ (List.mem_of_getElem? (i := 23) rfl))) (Or.inr (hw _ (List.mem_of_getElem? (i := 19) rfl))) (by decide) (t := (.object "java/lang/String")) (t' := (.object "java/lang/String")) (by decide) (by decide))))
  have Z116 : n0 ≤ h111.size := (Nat.le_trans Z109 (Nat.le_of_eq W111.size.symm))
  have K117 : Keep h0 h111 [a1] := (K110.wr W111 (Or.inl (List.mem_of_getElem? (i := 0) rfl)))
  show Go p.tables e below _ (T111.setTop (mkF m 14 #[.val (.ref a1), .val (.ref x0), .val (.ref x1), .val (.ref x2), .val (.ref x3)] []))
  refine Go.step (fun _ kt => XS.aloadN X111.here hx rfl (hb hby d1_14) rfl rfl kt) ?_
  show Go p.tables e below _ (T111.setTop (mkF m 15 #[.val (.ref a1), .val (.ref x0), .val (.ref x1), .val (.ref x2), .val (.ref x3)] [(.ref a1)]))
  refine Go.step (fun _ kt => XS.aloadN X111.here hx rfl (hb hby d1_15) rfl rfl kt) ?_
  show Go p.tables e below _ (T111.setTop (mkF m 16 #[.val (.ref a1), .val (.ref x0), .val (.ref x1), .val (.ref x2), .val (.ref x3)] [(.ref x2), (.ref a1)]))
  obtain ⟨T118, h118, X118, e118, W118, st118⟩ := putF X111 hx hZ hown (host := "") (Or.inl (hw _ (List.mem_of_getElem? (i := 20) rfl))) Via.refl e111 F114 F112 (Or.inr ⟨(hw _ (List.mem_of_getElem? (i := 21) rfl)), rfl, hnm⟩) (hw _ (List.mem_of_getElem? (i := 3) rfl)) (ty := (.array .byte)) (by decide) rfl rfl (g := (mkF m 16 #[.val (.ref a1), .val (.ref x0), .val (.ref x1), .val (.ref x2), .val (.ref x3)] [(.ref x2), (.ref a1)])) rfl rfl (hb hby d1_16)
  refine Go.step st118 ?_
  have N118 := Fr.snoc X118 N111 g_a1
  have F119 : Exa Z h118 a1 "com/example/patient_courier/patientcourier/delivery/AttemptResult" := (F112.wr W118)
  have F120 : Fld Z h118 a1 "com/example/patient_courier/patientcourier/delivery/AttemptResult" "status" "Ljava/lang/Integer;" (.ref x0) := (F113.other W118 (Or.inr (slot_ne (Or.inr (hw _ (List.mem_of_getElem? (i := 17) rfl))) (Or.inr (hw _ (List.mem_of_getElem? (i := 21) rfl))) (by decide) (t := (.object "java/lang/Integer")) (t' := (.array .byte)) (by decide) (by decide))))
  have F121 : Fld Z h118 a1 "com/example/patient_courier/patientcourier/delivery/AttemptResult" "retryAfter" "Ljava/lang/String;" u3 := (F115.other W118 (Or.inr (slot_ne (Or.inr (hw _ (List.mem_of_getElem? (i := 23) rfl))) (Or.inr (hw _ (List.mem_of_getElem? (i := 21) rfl))) (by decide) (t := (.object "java/lang/String")) (t' := (.array .byte)) (by decide) (by decide))))
  have Z122 : n0 ≤ h118.size := (Nat.le_trans Z116 (Nat.le_of_eq W118.size.symm))
  have K123 : Keep h0 h118 [a1] := (K117.wr W118 (Or.inl (List.mem_of_getElem? (i := 0) rfl)))
  show Go p.tables e below _ (T118.setTop (mkF m 19 #[.val (.ref a1), .val (.ref x0), .val (.ref x1), .val (.ref x2), .val (.ref x3)] []))
  refine Go.step (fun _ kt => XS.aloadN X118.here hx rfl (hb hby d1_19) rfl rfl kt) ?_
  show Go p.tables e below _ (T118.setTop (mkF m 20 #[.val (.ref a1), .val (.ref x0), .val (.ref x1), .val (.ref x2), .val (.ref x3)] [(.ref a1)]))
  refine Go.step (fun _ kt => XS.aload X118.here hx rfl (hb hby d1_20) rfl rfl kt) ?_
  show Go p.tables e below _ (T118.setTop (mkF m 22 #[.val (.ref a1), .val (.ref x0), .val (.ref x1), .val (.ref x2), .val (.ref x3)] [(.ref x3), (.ref a1)]))
  obtain ⟨T124, h124, X124, e124, W124, st124⟩ := putF X118 hx hZ hown (host := "") (Or.inl (hw _ (List.mem_of_getElem? (i := 22) rfl))) Via.refl e118 F121 F119 (Or.inr ⟨(hw _ (List.mem_of_getElem? (i := 23) rfl)), rfl, hnm⟩) (hw _ (List.mem_of_getElem? (i := 3) rfl)) (ty := (.object "java/lang/String")) (by decide) rfl rfl (g := (mkF m 22 #[.val (.ref a1), .val (.ref x0), .val (.ref x1), .val (.ref x2), .val (.ref x3)] [(.ref x3), (.ref a1)])) rfl rfl (hb hby d1_22)
  refine Go.step st124 ?_
  have N124 := Fr.snoc X124 N118 g_a1
  have F125 : Exa Z h124 a1 "com/example/patient_courier/patientcourier/delivery/AttemptResult" := (F119.wr W124)
  have F126 : Fld Z h124 a1 "com/example/patient_courier/patientcourier/delivery/AttemptResult" "status" "Ljava/lang/Integer;" (.ref x0) := (F120.other W124 (Or.inr (slot_ne (Or.inr (hw _ (List.mem_of_getElem? (i := 17) rfl))) (Or.inr (hw _ (List.mem_of_getElem? (i := 23) rfl))) (by decide) (t := (.object "java/lang/Integer")) (t' := (.object "java/lang/String")) (by decide) (by decide))))
  have Z127 : n0 ≤ h124.size := (Nat.le_trans Z122 (Nat.le_of_eq W124.size.symm))
  have K128 : Keep h0 h124 [a1] := (K123.wr W124 (Or.inl (List.mem_of_getElem? (i := 0) rfl)))
  show Go p.tables e below _ (T124.setTop (mkF m 25 #[.val (.ref a1), .val (.ref x0), .val (.ref x1), .val (.ref x2), .val (.ref x3)] []))
  obtain ⟨fs, hr, hrun, hended, hW, hsame⟩ := X124.leave (v := none) (fun _ => rfl)
  refine ⟨_, _, X124.returnOut hx Bd.returns (hb hby d1_25) hr, hrun, hended, _, _, rfl, ?_, ⟨_, rfl⟩, hW, hsame.mono (by decide) (by decide)⟩
  show Qrmi_rrrr Z a1 x0 x1 x2 x3 u0 u1 u2 u3 h0 n0 _ T124.heap _
  rw [e124]
  refine ⟨?_, N124, K128, F125, F126⟩
  rfl
theorem ef_rmi_nnrn (m : MethodId) (a1 : Addr) (x2 : Addr) (u0 : Value) (u1 : Value) (u2 : Value) (u3 : Value) : entryFrame m #[(.ref a1), .null, .null, (.ref x2), .null] 5 = mkF m 0 #[.val (.ref a1), .val .null, .val .null, .val (.ref x2), .val .null] [] := by first | (simp [entryFrame, mkF, argsToLocals, Value.category]; done) | rfl
def Qrmi_nnrn (Z : State) (a1 : Addr) (x2 : Addr) (u0 : Value) (u1 : Value) (u2 : Value) (u3 : Value) (h0 : Heap) (n0 : Nat) (v : Option Value) (h : Heap) (L : List Loc) : Prop := v = none ∧ Fr n0 L ∧ Keep h0 h [a1] ∧ Exa Z h a1 "com/example/patient_courier/patientcourier/delivery/AttemptResult" ∧ Fld Z h a1 "com/example/patient_courier/patientcourier/delivery/AttemptResult" "status" "Ljava/lang/Integer;" .null
set_option maxRecDepth 65536 in
set_option maxHeartbeats 40000000 in
theorem rmi_nnrn (l : Launch) (Z : State) (a0 : Array Value) (hw : ∀ d ∈ tables_1, d.before a0 Z = true) (ws : List Jvm.Cond) (a1 : Addr) (x2 : Addr) (u0 : Value) (u1 : Value) (u2 : Value) (u3 : Value) (h0 : Heap) (n0 : Nat) (Z0 : n0 ≤ h0.size) (E1 : Exa Z h0 a1 "com/example/patient_courier/patientcourier/delivery/AttemptResult") (F0 : Fld Z h0 a1 "com/example/patient_courier/patientcourier/delivery/AttemptResult" "status" "Ljava/lang/Integer;" u0) (F1 : Fld Z h0 a1 "com/example/patient_courier/patientcourier/delivery/AttemptResult" "error" "Ljava/lang/String;" u1) (F2 : Fld Z h0 a1 "com/example/patient_courier/patientcourier/delivery/AttemptResult" "preview" "[B" u2) (F3 : Fld Z h0 a1 "com/example/patient_courier/patientcourier/delivery/AttemptResult" "retryAfter" "Ljava/lang/String;" u3) (g_a1 : n0 ≤ a1) :
    MetFree l (⟨"com/example/patient_courier/patientcourier/delivery/AttemptResult", "<init>", "(Ljava/lang/Integer;Ljava/lang/String;[BLjava/lang/String;)V"⟩ : MethodName) (head1 (Jvm.Cond.code (⟨"com/example/patient_courier/patientcourier/delivery/AttemptResult", "<init>", "(Ljava/lang/Integer;Ljava/lang/String;[BLjava/lang/String;)V"⟩ : MethodName) prog_19_method_1_code 5 none :: ws) ({ frames := 2, cells := 0, slots := 0, locals := 24 } : Room)) (fun a U => a = #[(.ref a1), .null, .null, (.ref x2), .null] ∧ Z.Warmed39 U.vm ∧ U.heap = h0) (fun _ _ _ _ _ => True) (fun _ U o U' => ∃ v L, o = .returned v ∧ Qrmi_nnrn Z a1 x2 u0 u1 u2 u3 h0 n0 v U'.heap L ∧ FrameEnd U o U' L ({ frames := 2, cells := 0, slots := 0, locals := 24 } : Room).cells ({ frames := 2, cells := 0, slots := 0, locals := 24 } : Room).slots) := by
  refine MetFree.of_bodySF (plainFor_of_name pn_3) hisR ?_
  intro p e s m args below meth c s₁ Bd hml0 hP hK
  obtain ⟨rfl, hZ, hh⟩ := hP
  have hx := Bd.exec
  have hby := Bd.bytes
  have hml : c.maxLocals = 5 := hml0
  have hown : s.vm.findClass "com/example/patient_courier/patientcourier/delivery/AttemptResult" = some m.cls := findClass_of_methodNamed Bd.named
  have hnm := (name_of_methodNamed Bd.named Bd.method).1
  have X0 : Stand p l e ({ frames := 2, cells := 0, slots := 0, locals := 24 } : Room) s m #[(.ref a1), .null, .null, (.ref x2), .null] below meth c s₁ [] 0 0 := Stand.of_body Bd
  have e0 : s₁.heap = h0 := by rw [← hh, Bd.state]; rfl
  have N0 := Fr.nil n0
  show Go p.tables e below (fun o U' => ∃ v L, o = .returned v ∧ Qrmi_nnrn Z a1 x2 u0 u1 u2 u3 h0 n0 v U'.heap L ∧ FrameEnd s o U' L ({ frames := 2, cells := 0, slots := 0, locals := 24 } : Room).cells ({ frames := 2, cells := 0, slots := 0, locals := 24 } : Room).slots) _
  refine Go.step (fun t kt => castTop (ef_rmi_nnrn m a1 x2 u0 u1 u2 u3) kt) ?_
  show Go p.tables e below _ (s₁.setTop (mkF m 0 #[.val (.ref a1), .val .null, .val .null, .val (.ref x2), .val .null] []))
  have K101 : Keep h0 h0 [a1] := (Keep.refl h0 [a1])
  refine Go.step (fun _ kt => XS.aloadN X0.here hx rfl (hb hby d1_0) rfl rfl kt) ?_
  show Go p.tables e below _ (s₁.setTop (mkF m 1 #[.val (.ref a1), .val .null, .val .null, .val (.ref x2), .val .null] [(.ref a1)]))
  obtain ⟨_, _, ⟨T102, L102, k102, n102⟩, -, X102, ⟨Lc102, hQ102, l102, y102, z102⟩, st102⟩ := X0.specialBack hx (y := (⟨"java/lang/Record", "<init>", "()V"⟩ : MethodName)) rfl hown (mvT hZ (hw _ (List.mem_of_getElem? (i := 8) rfl))) (mvT hZ (hw _ (List.mem_of_getElem? (i := 9) rfl))) (mvT hZ (hw _ (List.mem_of_getElem? (i := 12) rfl))) (by decide) (backOf (W := 0) (rm2 l Z a0 hw [] a1  h0 n0 Z0  ) hZ (hw _ (List.mem_of_getElem? (i := 12) rfl)) (hw _ (List.mem_of_getElem? (i := 11) rfl)) (by decide) (by decide)) (g := (mkF m 1 #[.val (.ref a1), .val .null, .val .null, .val (.ref x2), .val .null] [(.ref a1)])) rfl (by rw [hml]; rfl) (Steps.refl _) (a := a1) (argsL := []) (rest := []) (lenOf pd_0 rfl) rfl (by show 2 * 0 + _ ≤ _; exact Nat.le_of_eq rfl) (hb hby d1_1) (fun _ _ => ⟨rfl, e0, (by decide : 0 + 0 ≤ _), (by decide : 0 + 0 ≤ _)⟩)
  dsimp only [Pt.U, Pt.locs, Pt.cells, Pt.slots] at X102 l102 y102 z102 st102 hQ102
  subst l102 y102 z102
  obtain ⟨rfl, N102q, eh102⟩ := hQ102
  have N102 := Fr.app N0 N102q
  refine Go.step (fun _ kt => st102.trans kt) ?_
  show Go p.tables e below _ (T102.setTop (mkF m 4 #[.val (.ref a1), .val .null, .val .null, .val (.ref x2), .val .null] []))
  refine Go.step (fun _ kt => XS.aloadN X102.here hx rfl (hb hby d1_4) rfl rfl kt) ?_
  show Go p.tables e below _ (T102.setTop (mkF m 5 #[.val (.ref a1), .val .null, .val .null, .val (.ref x2), .val .null] [(.ref a1)]))
  refine Go.step (fun _ kt => XS.aloadN X102.here hx rfl (hb hby d1_5) rfl rfl kt) ?_
  show Go p.tables e below _ (T102.setTop (mkF m 6 #[.val (.ref a1), .val .null, .val .null, .val (.ref x2), .val .null] [.null, (.ref a1)]))
  obtain ⟨T103, h103, X103, e103, W103, st103⟩ := putF X102 hx hZ hown (host := "") (Or.inl (hw _ (List.mem_of_getElem? (i := 16) rfl))) Via.refl eh102 F0 E1 (Or.inr ⟨(hw _ (List.mem_of_getElem? (i := 17) rfl)), rfl, hnm⟩) (hw _ (List.mem_of_getElem? (i := 3) rfl)) (ty := (.object "java/lang/Integer")) (by decide) rfl rfl (g := (mkF m 6 #[.val (.ref a1), .val .null, .val .null, .val (.ref x2), .val .null] [.null, (.ref a1)])) rfl rfl (hb hby d1_6)
  refine Go.step st103 ?_
  have N103 := Fr.snoc X103 N102 g_a1
  have F104 : Exa Z h103 a1 "com/example/patient_courier/patientcourier/delivery/AttemptResult" := (E1.wr W103)
  have F105 : Fld Z h103 a1 "com/example/patient_courier/patientcourier/delivery/AttemptResult" "status" "Ljava/lang/Integer;" .null := (F0.same W103)
  have F106 : Fld Z h103 a1 "com/example/patient_courier/patientcourier/delivery/AttemptResult" "error" "Ljava/lang/String;" u1 := (F1.other W103 (Or.inr (slot_ne (Or.inr (hw _ (List.mem_of_getElem? (i := 19) rfl))) (Or.inr (hw _ (List.mem_of_getElem? (i := 17) rfl))) (by decide) (t := (.object "java/lang/String")) (t' := (.object "java/lang/Integer")) (by decide) (by decide))))
  have F107 : Fld Z h103 a1 "com/example/patient_courier/patientcourier/delivery/AttemptResult" "preview" "[B" u2 := (F2.other W103 (Or.inr (slot_ne (Or.inr (hw _ (List.mem_of_getElem? (i := 21) rfl))) (Or.inr (hw _ (List.mem_of_getElem? (i := 17) rfl))) (by decide) (t := (.array .byte)) (t' := (.object "java/lang/Integer")) (by decide) (by decide))))
  have F108 : Fld Z h103 a1 "com/example/patient_courier/patientcourier/delivery/AttemptResult" "retryAfter" "Ljava/lang/String;" u3 := (F3.other W103 (Or.inr (slot_ne (Or.inr (hw _ (List.mem_of_getElem? (i := 23) rfl))) (Or.inr (hw _ (List.mem_of_getElem? (i := 17) rfl))) (by decide) (t := (.object "java/lang/String")) (t' := (.object "java/lang/Integer")) (by decide) (by decide))))
  have Z109 : n0 ≤ h103.size := (Nat.le_trans Z0 (Nat.le_of_eq W103.size.symm))
  have K110 : Keep h0 h103 [a1] := (K101.wr W103 (Or.inl (List.mem_of_getElem? (i := 0) rfl)))
  show Go p.tables e below _ (T103.setTop (mkF m 9 #[.val (.ref a1), .val .null, .val .null, .val (.ref x2), .val .null] []))
  refine Go.step (fun _ kt => XS.aloadN X103.here hx rfl (hb hby d1_9) rfl rfl kt) ?_
  show Go p.tables e below _ (T103.setTop (mkF m 10 #[.val (.ref a1), .val .null, .val .null, .val (.ref x2), .val .null] [(.ref a1)]))
  refine Go.step (fun _ kt => XS.aloadN X103.here hx rfl (hb hby d1_10) rfl rfl kt) ?_
  show Go p.tables e below _ (T103.setTop (mkF m 11 #[.val (.ref a1), .val .null, .val .null, .val (.ref x2), .val .null] [.null, (.ref a1)]))
  obtain ⟨T111, h111, X111, e111, W111, st111⟩ := putF X103 hx hZ hown (host := "") (Or.inl (hw _ (List.mem_of_getElem? (i := 18) rfl))) Via.refl e103 F106 F104 (Or.inr ⟨(hw _ (List.mem_of_getElem? (i := 19) rfl)), rfl, hnm⟩) (hw _ (List.mem_of_getElem? (i := 3) rfl)) (ty := (.object "java/lang/String")) (by decide) rfl rfl (g := (mkF m 11 #[.val (.ref a1), .val .null, .val .null, .val (.ref x2), .val .null] [.null, (.ref a1)])) rfl rfl (hb hby d1_11)
  refine Go.step st111 ?_
  have N111 := Fr.snoc X111 N103 g_a1
  have F112 : Exa Z h111 a1 "com/example/patient_courier/patientcourier/delivery/AttemptResult" := (F104.wr W111)
  have F113 : Fld Z h111 a1 "com/example/patient_courier/patientcourier/delivery/AttemptResult" "status" "Ljava/lang/Integer;" .null := (F105.other W111 (Or.inr (slot_ne (Or.inr (hw _ (List.mem_of_getElem? (i := 17) rfl))) (Or.inr (hw _ (List.mem_of_getElem? (i := 19) rfl))) (by decide) (t := (.object "java/lang/Integer")) (t' := (.object "java/lang/String")) (by decide) (by decide))))
  have F114 : Fld Z h111 a1 "com/example/patient_courier/patientcourier/delivery/AttemptResult" "preview" "[B" u2 := (F107.other W111 (Or.inr (slot_ne (Or.inr (hw _ (List.mem_of_getElem? (i := 21) rfl))) (Or.inr (hw _ (List.mem_of_getElem? (i := 19) rfl))) (by decide) (t := (.array .byte)) (t' := (.object "java/lang/String")) (by decide) (by decide))))
  have F115 : Fld Z h111 a1 "com/example/patient_courier/patientcourier/delivery/AttemptResult" "retryAfter" "Ljava/lang/String;" u3 := (F108.other W111 (Or.inr (slot_ne (Or.inr (hw _ (List.mem_of_getElem? (i := 23) rfl))) (Or.inr (hw _ (List.mem_of_getElem? (i := 19) rfl))) (by decide) (t := (.object "java/lang/String")) (t' := (.object "java/lang/String")) (by decide) (by decide))))
  have Z116 : n0 ≤ h111.size := (Nat.le_trans Z109 (Nat.le_of_eq W111.size.symm))
  have K117 : Keep h0 h111 [a1] := (K110.wr W111 (Or.inl (List.mem_of_getElem? (i := 0) rfl)))
  show Go p.tables e below _ (T111.setTop (mkF m 14 #[.val (.ref a1), .val .null, .val .null, .val (.ref x2), .val .null] []))
  refine Go.step (fun _ kt => XS.aloadN X111.here hx rfl (hb hby d1_14) rfl rfl kt) ?_
  show Go p.tables e below _ (T111.setTop (mkF m 15 #[.val (.ref a1), .val .null, .val .null, .val (.ref x2), .val .null] [(.ref a1)]))
  refine Go.step (fun _ kt => XS.aloadN X111.here hx rfl (hb hby d1_15) rfl rfl kt) ?_
  show Go p.tables e below _ (T111.setTop (mkF m 16 #[.val (.ref a1), .val .null, .val .null, .val (.ref x2), .val .null] [(.ref x2), (.ref a1)]))
  obtain ⟨T118, h118, X118, e118, W118, st118⟩ := putF X111 hx hZ hown (host := "") (Or.inl (hw _ (List.mem_of_getElem? (i := 20) rfl))) Via.refl e111 F114 F112 (Or.inr ⟨(hw _ (List.mem_of_getElem? (i := 21) rfl)), rfl, hnm⟩) (hw _ (List.mem_of_getElem? (i := 3) rfl)) (ty := (.array .byte)) (by decide) rfl rfl (g := (mkF m 16 #[.val (.ref a1), .val .null, .val .null, .val (.ref x2), .val .null] [(.ref x2), (.ref a1)])) rfl rfl (hb hby d1_16)
  refine Go.step st118 ?_
  have N118 := Fr.snoc X118 N111 g_a1
  have F119 : Exa Z h118 a1 "com/example/patient_courier/patientcourier/delivery/AttemptResult" := (F112.wr W118)
  have F120 : Fld Z h118 a1 "com/example/patient_courier/patientcourier/delivery/AttemptResult" "status" "Ljava/lang/Integer;" .null := (F113.other W118 (Or.inr (slot_ne (Or.inr (hw _ (List.mem_of_getElem? (i := 17) rfl))) (Or.inr (hw _ (List.mem_of_getElem? (i := 21) rfl))) (by decide) (t := (.object "java/lang/Integer")) (t' := (.array .byte)) (by decide) (by decide))))
  have F121 : Fld Z h118 a1 "com/example/patient_courier/patientcourier/delivery/AttemptResult" "retryAfter" "Ljava/lang/String;" u3 := (F115.other W118 (Or.inr (slot_ne (Or.inr (hw _ (List.mem_of_getElem? (i := 23) rfl))) (Or.inr (hw _ (List.mem_of_getElem? (i := 21) rfl))) (by decide) (t := (.object "java/lang/String")) (t' := (.array .byte)) (by decide) (by decide))))
  have Z122 : n0 ≤ h118.size := (Nat.le_trans Z116 (Nat.le_of_eq W118.size.symm))
  have K123 : Keep h0 h118 [a1] := (K117.wr W118 (Or.inl (List.mem_of_getElem? (i := 0) rfl)))
  show Go p.tables e below _ (T118.setTop (mkF m 19 #[.val (.ref a1), .val .null, .val .null, .val (.ref x2), .val .null] []))
  refine Go.step (fun _ kt => XS.aloadN X118.here hx rfl (hb hby d1_19) rfl rfl kt) ?_
  show Go p.tables e below _ (T118.setTop (mkF m 20 #[.val (.ref a1), .val .null, .val .null, .val (.ref x2), .val .null] [(.ref a1)]))
  refine Go.step (fun _ kt => XS.aload X118.here hx rfl (hb hby d1_20) rfl rfl kt) ?_
  show Go p.tables e below _ (T118.setTop (mkF m 22 #[.val (.ref a1), .val .null, .val .null, .val (.ref x2), .val .null] [.null, (.ref a1)]))
  obtain ⟨T124, h124, X124, e124, W124, st124⟩ := putF X118 hx hZ hown (host := "") (Or.inl (hw _ (List.mem_of_getElem? (i := 22) rfl))) Via.refl e118 F121 F119 (Or.inr ⟨(hw _ (List.mem_of_getElem? (i := 23) rfl)), rfl, hnm⟩) (hw _ (List.mem_of_getElem? (i := 3) rfl)) (ty := (.object "java/lang/String")) (by decide) rfl rfl (g := (mkF m 22 #[.val (.ref a1), .val .null, .val .null, .val (.ref x2), .val .null] [.null, (.ref a1)])) rfl rfl (hb hby d1_22)
  refine Go.step st124 ?_
  have N124 := Fr.snoc X124 N118 g_a1
  have F125 : Exa Z h124 a1 "com/example/patient_courier/patientcourier/delivery/AttemptResult" := (F119.wr W124)
  have F126 : Fld Z h124 a1 "com/example/patient_courier/patientcourier/delivery/AttemptResult" "status" "Ljava/lang/Integer;" .null := (F120.other W124 (Or.inr (slot_ne (Or.inr (hw _ (List.mem_of_getElem? (i := 17) rfl))) (Or.inr (hw _ (List.mem_of_getElem? (i := 23) rfl))) (by decide) (t := (.object "java/lang/Integer")) (t' := (.object "java/lang/String")) (by decide) (by decide))))
  have Z127 : n0 ≤ h124.size := (Nat.le_trans Z122 (Nat.le_of_eq W124.size.symm))
  have K128 : Keep h0 h124 [a1] := (K123.wr W124 (Or.inl (List.mem_of_getElem? (i := 0) rfl)))
  show Go p.tables e below _ (T124.setTop (mkF m 25 #[.val (.ref a1), .val .null, .val .null, .val (.ref x2), .val .null] []))
  obtain ⟨fs, hr, hrun, hended, hW, hsame⟩ := X124.leave (v := none) (fun _ => rfl)
  refine ⟨_, _, X124.returnOut hx Bd.returns (hb hby d1_25) hr, hrun, hended, _, _, rfl, ?_, ⟨_, rfl⟩, hW, hsame.mono (by decide) (by decide)⟩
  show Qrmi_nnrn Z a1 x2 u0 u1 u2 u3 h0 n0 _ T124.heap _
  rw [e124]
  refine ⟨?_, N124, K128, F125, F126⟩
  rfl
theorem ef_rmi_nnrr (m : MethodId) (a1 : Addr) (x2 : Addr) (x3 : Addr) (u0 : Value) (u1 : Value) (u2 : Value) (u3 : Value) : entryFrame m #[(.ref a1), .null, .null, (.ref x2), (.ref x3)] 5 = mkF m 0 #[.val (.ref a1), .val .null, .val .null, .val (.ref x2), .val (.ref x3)] [] := by first | (simp [entryFrame, mkF, argsToLocals, Value.category]; done) | rfl
def Qrmi_nnrr (Z : State) (a1 : Addr) (x2 : Addr) (x3 : Addr) (u0 : Value) (u1 : Value) (u2 : Value) (u3 : Value) (h0 : Heap) (n0 : Nat) (v : Option Value) (h : Heap) (L : List Loc) : Prop := v = none ∧ Fr n0 L ∧ Keep h0 h [a1] ∧ Exa Z h a1 "com/example/patient_courier/patientcourier/delivery/AttemptResult" ∧ Fld Z h a1 "com/example/patient_courier/patientcourier/delivery/AttemptResult" "status" "Ljava/lang/Integer;" .null
set_option maxRecDepth 65536 in
set_option maxHeartbeats 40000000 in
theorem rmi_nnrr (l : Launch) (Z : State) (a0 : Array Value) (hw : ∀ d ∈ tables_1, d.before a0 Z = true) (ws : List Jvm.Cond) (a1 : Addr) (x2 : Addr) (x3 : Addr) (u0 : Value) (u1 : Value) (u2 : Value) (u3 : Value) (h0 : Heap) (n0 : Nat) (Z0 : n0 ≤ h0.size) (E1 : Exa Z h0 a1 "com/example/patient_courier/patientcourier/delivery/AttemptResult") (F0 : Fld Z h0 a1 "com/example/patient_courier/patientcourier/delivery/AttemptResult" "status" "Ljava/lang/Integer;" u0) (F1 : Fld Z h0 a1 "com/example/patient_courier/patientcourier/delivery/AttemptResult" "error" "Ljava/lang/String;" u1) (F2 : Fld Z h0 a1 "com/example/patient_courier/patientcourier/delivery/AttemptResult" "preview" "[B" u2) (F3 : Fld Z h0 a1 "com/example/patient_courier/patientcourier/delivery/AttemptResult" "retryAfter" "Ljava/lang/String;" u3) (g_a1 : n0 ≤ a1) :
    MetFree l (⟨"com/example/patient_courier/patientcourier/delivery/AttemptResult", "<init>", "(Ljava/lang/Integer;Ljava/lang/String;[BLjava/lang/String;)V"⟩ : MethodName) (head1 (Jvm.Cond.code (⟨"com/example/patient_courier/patientcourier/delivery/AttemptResult", "<init>", "(Ljava/lang/Integer;Ljava/lang/String;[BLjava/lang/String;)V"⟩ : MethodName) prog_19_method_1_code 5 none :: ws) ({ frames := 2, cells := 0, slots := 0, locals := 24 } : Room)) (fun a U => a = #[(.ref a1), .null, .null, (.ref x2), (.ref x3)] ∧ Z.Warmed39 U.vm ∧ U.heap = h0) (fun _ _ _ _ _ => True) (fun _ U o U' => ∃ v L, o = .returned v ∧ Qrmi_nnrr Z a1 x2 x3 u0 u1 u2 u3 h0 n0 v U'.heap L ∧ FrameEnd U o U' L ({ frames := 2, cells := 0, slots := 0, locals := 24 } : Room).cells ({ frames := 2, cells := 0, slots := 0, locals := 24 } : Room).slots) := by
  refine MetFree.of_bodySF (plainFor_of_name pn_3) hisR ?_
  intro p e s m args below meth c s₁ Bd hml0 hP hK
  obtain ⟨rfl, hZ, hh⟩ := hP
  have hx := Bd.exec
  have hby := Bd.bytes
  have hml : c.maxLocals = 5 := hml0
  have hown : s.vm.findClass "com/example/patient_courier/patientcourier/delivery/AttemptResult" = some m.cls := findClass_of_methodNamed Bd.named
  have hnm := (name_of_methodNamed Bd.named Bd.method).1
  have X0 : Stand p l e ({ frames := 2, cells := 0, slots := 0, locals := 24 } : Room) s m #[(.ref a1), .null, .null, (.ref x2), (.ref x3)] below meth c s₁ [] 0 0 := Stand.of_body Bd
  have e0 : s₁.heap = h0 := by rw [← hh, Bd.state]; rfl
  have N0 := Fr.nil n0
  show Go p.tables e below (fun o U' => ∃ v L, o = .returned v ∧ Qrmi_nnrr Z a1 x2 x3 u0 u1 u2 u3 h0 n0 v U'.heap L ∧ FrameEnd s o U' L ({ frames := 2, cells := 0, slots := 0, locals := 24 } : Room).cells ({ frames := 2, cells := 0, slots := 0, locals := 24 } : Room).slots) _
  refine Go.step (fun t kt => castTop (ef_rmi_nnrr m a1 x2 x3 u0 u1 u2 u3) kt) ?_
  show Go p.tables e below _ (s₁.setTop (mkF m 0 #[.val (.ref a1), .val .null, .val .null, .val (.ref x2), .val (.ref x3)] []))
  have K101 : Keep h0 h0 [a1] := (Keep.refl h0 [a1])
  refine Go.step (fun _ kt => XS.aloadN X0.here hx rfl (hb hby d1_0) rfl rfl kt) ?_
  show Go p.tables e below _ (s₁.setTop (mkF m 1 #[.val (.ref a1), .val .null, .val .null, .val (.ref x2), .val (.ref x3)] [(.ref a1)]))
  obtain ⟨_, _, ⟨T102, L102, k102, n102⟩, -, X102, ⟨Lc102, hQ102, l102, y102, z102⟩, st102⟩ := X0.specialBack hx (y := (⟨"java/lang/Record", "<init>", "()V"⟩ : MethodName)) rfl hown (mvT hZ (hw _ (List.mem_of_getElem? (i := 8) rfl))) (mvT hZ (hw _ (List.mem_of_getElem? (i := 9) rfl))) (mvT hZ (hw _ (List.mem_of_getElem? (i := 12) rfl))) (by decide) (backOf (W := 0) (rm2 l Z a0 hw [] a1  h0 n0 Z0  ) hZ (hw _ (List.mem_of_getElem? (i := 12) rfl)) (hw _ (List.mem_of_getElem? (i := 11) rfl)) (by decide) (by decide)) (g := (mkF m 1 #[.val (.ref a1), .val .null, .val .null, .val (.ref x2), .val (.ref x3)] [(.ref a1)])) rfl (by rw [hml]; rfl) (Steps.refl _) (a := a1) (argsL := []) (rest := []) (lenOf pd_0 rfl) rfl (by show 2 * 0 + _ ≤ _; exact Nat.le_of_eq rfl) (hb hby d1_1) (fun _ _ => ⟨rfl, e0, (by decide : 0 + 0 ≤ _), (by decide : 0 + 0 ≤ _)⟩)
  dsimp only [Pt.U, Pt.locs, Pt.cells, Pt.slots] at X102 l102 y102 z102 st102 hQ102
  subst l102 y102 z102
  obtain ⟨rfl, N102q, eh102⟩ := hQ102
  have N102 := Fr.app N0 N102q
  refine Go.step (fun _ kt => st102.trans kt) ?_
  show Go p.tables e below _ (T102.setTop (mkF m 4 #[.val (.ref a1), .val .null, .val .null, .val (.ref x2), .val (.ref x3)] []))
  refine Go.step (fun _ kt => XS.aloadN X102.here hx rfl (hb hby d1_4) rfl rfl kt) ?_
  show Go p.tables e below _ (T102.setTop (mkF m 5 #[.val (.ref a1), .val .null, .val .null, .val (.ref x2), .val (.ref x3)] [(.ref a1)]))
  refine Go.step (fun _ kt => XS.aloadN X102.here hx rfl (hb hby d1_5) rfl rfl kt) ?_
  show Go p.tables e below _ (T102.setTop (mkF m 6 #[.val (.ref a1), .val .null, .val .null, .val (.ref x2), .val (.ref x3)] [.null, (.ref a1)]))
  obtain ⟨T103, h103, X103, e103, W103, st103⟩ := putF X102 hx hZ hown (host := "") (Or.inl (hw _ (List.mem_of_getElem? (i := 16) rfl))) Via.refl eh102 F0 E1 (Or.inr ⟨(hw _ (List.mem_of_getElem? (i := 17) rfl)), rfl, hnm⟩) (hw _ (List.mem_of_getElem? (i := 3) rfl)) (ty := (.object "java/lang/Integer")) (by decide) rfl rfl (g := (mkF m 6 #[.val (.ref a1), .val .null, .val .null, .val (.ref x2), .val (.ref x3)] [.null, (.ref a1)])) rfl rfl (hb hby d1_6)
  refine Go.step st103 ?_
  have N103 := Fr.snoc X103 N102 g_a1
  have F104 : Exa Z h103 a1 "com/example/patient_courier/patientcourier/delivery/AttemptResult" := (E1.wr W103)
  have F105 : Fld Z h103 a1 "com/example/patient_courier/patientcourier/delivery/AttemptResult" "status" "Ljava/lang/Integer;" .null := (F0.same W103)
  have F106 : Fld Z h103 a1 "com/example/patient_courier/patientcourier/delivery/AttemptResult" "error" "Ljava/lang/String;" u1 := (F1.other W103 (Or.inr (slot_ne (Or.inr (hw _ (List.mem_of_getElem? (i := 19) rfl))) (Or.inr (hw _ (List.mem_of_getElem? (i := 17) rfl))) (by decide) (t := (.object "java/lang/String")) (t' := (.object "java/lang/Integer")) (by decide) (by decide))))
  have F107 : Fld Z h103 a1 "com/example/patient_courier/patientcourier/delivery/AttemptResult" "preview" "[B" u2 := (F2.other W103 (Or.inr (slot_ne (Or.inr (hw _ (List.mem_of_getElem? (i := 21) rfl))) (Or.inr (hw _ (List.mem_of_getElem? (i := 17) rfl))) (by decide) (t := (.array .byte)) (t' := (.object "java/lang/Integer")) (by decide) (by decide))))
  have F108 : Fld Z h103 a1 "com/example/patient_courier/patientcourier/delivery/AttemptResult" "retryAfter" "Ljava/lang/String;" u3 := (F3.other W103 (Or.inr (slot_ne (Or.inr (hw _ (List.mem_of_getElem? (i := 23) rfl))) (Or.inr (hw _ (List.mem_of_getElem? (i := 17) rfl))) (by decide) (t := (.object "java/lang/String")) (t' := (.object "java/lang/Integer")) (by decide) (by decide))))
  have Z109 : n0 ≤ h103.size := (Nat.le_trans Z0 (Nat.le_of_eq W103.size.symm))
  have K110 : Keep h0 h103 [a1] := (K101.wr W103 (Or.inl (List.mem_of_getElem? (i := 0) rfl)))
  show Go p.tables e below _ (T103.setTop (mkF m 9 #[.val (.ref a1), .val .null, .val .null, .val (.ref x2), .val (.ref x3)] []))
  refine Go.step (fun _ kt => XS.aloadN X103.here hx rfl (hb hby d1_9) rfl rfl kt) ?_
  show Go p.tables e below _ (T103.setTop (mkF m 10 #[.val (.ref a1), .val .null, .val .null, .val (.ref x2), .val (.ref x3)] [(.ref a1)]))
  refine Go.step (fun _ kt => XS.aloadN X103.here hx rfl (hb hby d1_10) rfl rfl kt) ?_
  show Go p.tables e below _ (T103.setTop (mkF m 11 #[.val (.ref a1), .val .null, .val .null, .val (.ref x2), .val (.ref x3)] [.null, (.ref a1)]))
  obtain ⟨T111, h111, X111, e111, W111, st111⟩ := putF X103 hx hZ hown (host := "") (Or.inl (hw _ (List.mem_of_getElem? (i := 18) rfl))) Via.refl e103 F106 F104 (Or.inr ⟨(hw _ (List.mem_of_getElem? (i := 19) rfl)), rfl, hnm⟩) (hw _ (List.mem_of_getElem? (i := 3) rfl)) (ty := (.object "java/lang/String")) (by decide) rfl rfl (g := (mkF m 11 #[.val (.ref a1), .val .null, .val .null, .val (.ref x2), .val (.ref x3)] [.null, (.ref a1)])) rfl rfl (hb hby d1_11)
  refine Go.step st111 ?_
  have N111 := Fr.snoc X111 N103 g_a1
  have F112 : Exa Z h111 a1 "com/example/patient_courier/patientcourier/delivery/AttemptResult" := (F104.wr W111)
  have F113 : Fld Z h111 a1 "com/example/patient_courier/patientcourier/delivery/AttemptResult" "status" "Ljava/lang/Integer;" .null := (F105.other W111 (Or.inr (slot_ne (Or.inr (hw _ (List.mem_of_getElem? (i := 17) rfl))) (Or.inr (hw _ (List.mem_of_getElem? (i := 19) rfl))) (by decide) (t := (.object "java/lang/Integer")) (t' := (.object "java/lang/String")) (by decide) (by decide))))
  have F114 : Fld Z h111 a1 "com/example/patient_courier/patientcourier/delivery/AttemptResult" "preview" "[B" u2 := (F107.other W111 (Or.inr (slot_ne (Or.inr (hw _ (List.mem_of_getElem? (i := 21) rfl))) (Or.inr (hw _ (List.mem_of_getElem? (i := 19) rfl))) (by decide) (t := (.array .byte)) (t' := (.object "java/lang/String")) (by decide) (by decide))))
  have F115 : Fld Z h111 a1 "com/example/patient_courier/patientcourier/delivery/AttemptResult" "retryAfter" "Ljava/lang/String;" u3 := (F108.other W111 (Or.inr (slot_ne (Or.inr (hw _ (List.mem_of_getElem? (i := 23) rfl))) (Or.inr (hw _ (List.mem_of_getElem? (i := 19) rfl))) (by decide) (t := (.object "java/lang/String")) (t' := (.object "java/lang/String")) (by decide) (by decide))))
  have Z116 : n0 ≤ h111.size := (Nat.le_trans Z109 (Nat.le_of_eq W111.size.symm))
  have K117 : Keep h0 h111 [a1] := (K110.wr W111 (Or.inl (List.mem_of_getElem? (i := 0) rfl)))
  show Go p.tables e below _ (T111.setTop (mkF m 14 #[.val (.ref a1), .val .null, .val .null, .val (.ref x2), .val (.ref x3)] []))
  refine Go.step (fun _ kt => XS.aloadN X111.here hx rfl (hb hby d1_14) rfl rfl kt) ?_
  show Go p.tables e below _ (T111.setTop (mkF m 15 #[.val (.ref a1), .val .null, .val .null, .val (.ref x2), .val (.ref x3)] [(.ref a1)]))
  refine Go.step (fun _ kt => XS.aloadN X111.here hx rfl (hb hby d1_15) rfl rfl kt) ?_
  show Go p.tables e below _ (T111.setTop (mkF m 16 #[.val (.ref a1), .val .null, .val .null, .val (.ref x2), .val (.ref x3)] [(.ref x2), (.ref a1)]))
  obtain ⟨T118, h118, X118, e118, W118, st118⟩ := putF X111 hx hZ hown (host := "") (Or.inl (hw _ (List.mem_of_getElem? (i := 20) rfl))) Via.refl e111 F114 F112 (Or.inr ⟨(hw _ (List.mem_of_getElem? (i := 21) rfl)), rfl, hnm⟩) (hw _ (List.mem_of_getElem? (i := 3) rfl)) (ty := (.array .byte)) (by decide) rfl rfl (g := (mkF m 16 #[.val (.ref a1), .val .null, .val .null, .val (.ref x2), .val (.ref x3)] [(.ref x2), (.ref a1)])) rfl rfl (hb hby d1_16)
  refine Go.step st118 ?_
  have N118 := Fr.snoc X118 N111 g_a1
  have F119 : Exa Z h118 a1 "com/example/patient_courier/patientcourier/delivery/AttemptResult" := (F112.wr W118)
  have F120 : Fld Z h118 a1 "com/example/patient_courier/patientcourier/delivery/AttemptResult" "status" "Ljava/lang/Integer;" .null := (F113.other W118 (Or.inr (slot_ne (Or.inr (hw _ (List.mem_of_getElem? (i := 17) rfl))) (Or.inr (hw _ (List.mem_of_getElem? (i := 21) rfl))) (by decide) (t := (.object "java/lang/Integer")) (t' := (.array .byte)) (by decide) (by decide))))
  have F121 : Fld Z h118 a1 "com/example/patient_courier/patientcourier/delivery/AttemptResult" "retryAfter" "Ljava/lang/String;" u3 := (F115.other W118 (Or.inr (slot_ne (Or.inr (hw _ (List.mem_of_getElem? (i := 23) rfl))) (Or.inr (hw _ (List.mem_of_getElem? (i := 21) rfl))) (by decide) (t := (.object "java/lang/String")) (t' := (.array .byte)) (by decide) (by decide))))
  have Z122 : n0 ≤ h118.size := (Nat.le_trans Z116 (Nat.le_of_eq W118.size.symm))
  have K123 : Keep h0 h118 [a1] := (K117.wr W118 (Or.inl (List.mem_of_getElem? (i := 0) rfl)))
  show Go p.tables e below _ (T118.setTop (mkF m 19 #[.val (.ref a1), .val .null, .val .null, .val (.ref x2), .val (.ref x3)] []))
  refine Go.step (fun _ kt => XS.aloadN X118.here hx rfl (hb hby d1_19) rfl rfl kt) ?_
  show Go p.tables e below _ (T118.setTop (mkF m 20 #[.val (.ref a1), .val .null, .val .null, .val (.ref x2), .val (.ref x3)] [(.ref a1)]))
  refine Go.step (fun _ kt => XS.aload X118.here hx rfl (hb hby d1_20) rfl rfl kt) ?_
  show Go p.tables e below _ (T118.setTop (mkF m 22 #[.val (.ref a1), .val .null, .val .null, .val (.ref x2), .val (.ref x3)] [(.ref x3), (.ref a1)]))
  obtain ⟨T124, h124, X124, e124, W124, st124⟩ := putF X118 hx hZ hown (host := "") (Or.inl (hw _ (List.mem_of_getElem? (i := 22) rfl))) Via.refl e118 F121 F119 (Or.inr ⟨(hw _ (List.mem_of_getElem? (i := 23) rfl)), rfl, hnm⟩) (hw _ (List.mem_of_getElem? (i := 3) rfl)) (ty := (.object "java/lang/String")) (by decide) rfl rfl (g := (mkF m 22 #[.val (.ref a1), .val .null, .val .null, .val (.ref x2), .val (.ref x3)] [(.ref x3), (.ref a1)])) rfl rfl (hb hby d1_22)
  refine Go.step st124 ?_
  have N124 := Fr.snoc X124 N118 g_a1
  have F125 : Exa Z h124 a1 "com/example/patient_courier/patientcourier/delivery/AttemptResult" := (F119.wr W124)
  have F126 : Fld Z h124 a1 "com/example/patient_courier/patientcourier/delivery/AttemptResult" "status" "Ljava/lang/Integer;" .null := (F120.other W124 (Or.inr (slot_ne (Or.inr (hw _ (List.mem_of_getElem? (i := 17) rfl))) (Or.inr (hw _ (List.mem_of_getElem? (i := 23) rfl))) (by decide) (t := (.object "java/lang/Integer")) (t' := (.object "java/lang/String")) (by decide) (by decide))))
  have Z127 : n0 ≤ h124.size := (Nat.le_trans Z122 (Nat.le_of_eq W124.size.symm))
  have K128 : Keep h0 h124 [a1] := (K123.wr W124 (Or.inl (List.mem_of_getElem? (i := 0) rfl)))
  show Go p.tables e below _ (T124.setTop (mkF m 25 #[.val (.ref a1), .val .null, .val .null, .val (.ref x2), .val (.ref x3)] []))
  obtain ⟨fs, hr, hrun, hended, hW, hsame⟩ := X124.leave (v := none) (fun _ => rfl)
  refine ⟨_, _, X124.returnOut hx Bd.returns (hb hby d1_25) hr, hrun, hended, _, _, rfl, ?_, ⟨_, rfl⟩, hW, hsame.mono (by decide) (by decide)⟩
  show Qrmi_nnrr Z a1 x2 x3 u0 u1 u2 u3 h0 n0 _ T124.heap _
  rw [e124]
  refine ⟨?_, N124, K128, F125, F126⟩
  rfl
theorem ef_rmi_nrrn (m : MethodId) (a1 : Addr) (x1 : Addr) (x2 : Addr) (u0 : Value) (u1 : Value) (u2 : Value) (u3 : Value) : entryFrame m #[(.ref a1), .null, (.ref x1), (.ref x2), .null] 5 = mkF m 0 #[.val (.ref a1), .val .null, .val (.ref x1), .val (.ref x2), .val .null] [] := by first | (simp [entryFrame, mkF, argsToLocals, Value.category]; done) | rfl
def Qrmi_nrrn (Z : State) (a1 : Addr) (x1 : Addr) (x2 : Addr) (u0 : Value) (u1 : Value) (u2 : Value) (u3 : Value) (h0 : Heap) (n0 : Nat) (v : Option Value) (h : Heap) (L : List Loc) : Prop := v = none ∧ Fr n0 L ∧ Keep h0 h [a1] ∧ Exa Z h a1 "com/example/patient_courier/patientcourier/delivery/AttemptResult" ∧ Fld Z h a1 "com/example/patient_courier/patientcourier/delivery/AttemptResult" "status" "Ljava/lang/Integer;" .null
set_option maxRecDepth 65536 in
set_option maxHeartbeats 40000000 in
theorem rmi_nrrn (l : Launch) (Z : State) (a0 : Array Value) (hw : ∀ d ∈ tables_1, d.before a0 Z = true) (ws : List Jvm.Cond) (a1 : Addr) (x1 : Addr) (x2 : Addr) (u0 : Value) (u1 : Value) (u2 : Value) (u3 : Value) (h0 : Heap) (n0 : Nat) (Z0 : n0 ≤ h0.size) (E1 : Exa Z h0 a1 "com/example/patient_courier/patientcourier/delivery/AttemptResult") (F0 : Fld Z h0 a1 "com/example/patient_courier/patientcourier/delivery/AttemptResult" "status" "Ljava/lang/Integer;" u0) (F1 : Fld Z h0 a1 "com/example/patient_courier/patientcourier/delivery/AttemptResult" "error" "Ljava/lang/String;" u1) (F2 : Fld Z h0 a1 "com/example/patient_courier/patientcourier/delivery/AttemptResult" "preview" "[B" u2) (F3 : Fld Z h0 a1 "com/example/patient_courier/patientcourier/delivery/AttemptResult" "retryAfter" "Ljava/lang/String;" u3) (g_a1 : n0 ≤ a1) :
    MetFree l (⟨"com/example/patient_courier/patientcourier/delivery/AttemptResult", "<init>", "(Ljava/lang/Integer;Ljava/lang/String;[BLjava/lang/String;)V"⟩ : MethodName) (head1 (Jvm.Cond.code (⟨"com/example/patient_courier/patientcourier/delivery/AttemptResult", "<init>", "(Ljava/lang/Integer;Ljava/lang/String;[BLjava/lang/String;)V"⟩ : MethodName) prog_19_method_1_code 5 none :: ws) ({ frames := 2, cells := 0, slots := 0, locals := 24 } : Room)) (fun a U => a = #[(.ref a1), .null, (.ref x1), (.ref x2), .null] ∧ Z.Warmed39 U.vm ∧ U.heap = h0) (fun _ _ _ _ _ => True) (fun _ U o U' => ∃ v L, o = .returned v ∧ Qrmi_nrrn Z a1 x1 x2 u0 u1 u2 u3 h0 n0 v U'.heap L ∧ FrameEnd U o U' L ({ frames := 2, cells := 0, slots := 0, locals := 24 } : Room).cells ({ frames := 2, cells := 0, slots := 0, locals := 24 } : Room).slots) := by
  refine MetFree.of_bodySF (plainFor_of_name pn_3) hisR ?_
  intro p e s m args below meth c s₁ Bd hml0 hP hK
  obtain ⟨rfl, hZ, hh⟩ := hP
  have hx := Bd.exec
  have hby := Bd.bytes
  have hml : c.maxLocals = 5 := hml0
  have hown : s.vm.findClass "com/example/patient_courier/patientcourier/delivery/AttemptResult" = some m.cls := findClass_of_methodNamed Bd.named
  have hnm := (name_of_methodNamed Bd.named Bd.method).1
  have X0 : Stand p l e ({ frames := 2, cells := 0, slots := 0, locals := 24 } : Room) s m #[(.ref a1), .null, (.ref x1), (.ref x2), .null] below meth c s₁ [] 0 0 := Stand.of_body Bd
  have e0 : s₁.heap = h0 := by rw [← hh, Bd.state]; rfl
  have N0 := Fr.nil n0
  show Go p.tables e below (fun o U' => ∃ v L, o = .returned v ∧ Qrmi_nrrn Z a1 x1 x2 u0 u1 u2 u3 h0 n0 v U'.heap L ∧ FrameEnd s o U' L ({ frames := 2, cells := 0, slots := 0, locals := 24 } : Room).cells ({ frames := 2, cells := 0, slots := 0, locals := 24 } : Room).slots) _
  refine Go.step (fun t kt => castTop (ef_rmi_nrrn m a1 x1 x2 u0 u1 u2 u3) kt) ?_
  show Go p.tables e below _ (s₁.setTop (mkF m 0 #[.val (.ref a1), .val .null, .val (.ref x1), .val (.ref x2), .val .null] []))
  have K101 : Keep h0 h0 [a1] := (Keep.refl h0 [a1])
  refine Go.step (fun _ kt => XS.aloadN X0.here hx rfl (hb hby d1_0) rfl rfl kt) ?_
  show Go p.tables e below _ (s₁.setTop (mkF m 1 #[.val (.ref a1), .val .null, .val (.ref x1), .val (.ref x2), .val .null] [(.ref a1)]))
  obtain ⟨_, _, ⟨T102, L102, k102, n102⟩, -, X102, ⟨Lc102, hQ102, l102, y102, z102⟩, st102⟩ := X0.specialBack hx (y := (⟨"java/lang/Record", "<init>", "()V"⟩ : MethodName)) rfl hown (mvT hZ (hw _ (List.mem_of_getElem? (i := 8) rfl))) (mvT hZ (hw _ (List.mem_of_getElem? (i := 9) rfl))) (mvT hZ (hw _ (List.mem_of_getElem? (i := 12) rfl))) (by decide) (backOf (W := 0) (rm2 l Z a0 hw [] a1  h0 n0 Z0  ) hZ (hw _ (List.mem_of_getElem? (i := 12) rfl)) (hw _ (List.mem_of_getElem? (i := 11) rfl)) (by decide) (by decide)) (g := (mkF m 1 #[.val (.ref a1), .val .null, .val (.ref x1), .val (.ref x2), .val .null] [(.ref a1)])) rfl (by rw [hml]; rfl) (Steps.refl _) (a := a1) (argsL := []) (rest := []) (lenOf pd_0 rfl) rfl (by show 2 * 0 + _ ≤ _; exact Nat.le_of_eq rfl) (hb hby d1_1) (fun _ _ => ⟨rfl, e0, (by decide : 0 + 0 ≤ _), (by decide : 0 + 0 ≤ _)⟩)
  dsimp only [Pt.U, Pt.locs, Pt.cells, Pt.slots] at X102 l102 y102 z102 st102 hQ102
  subst l102 y102 z102
  obtain ⟨rfl, N102q, eh102⟩ := hQ102
  have N102 := Fr.app N0 N102q
  refine Go.step (fun _ kt => st102.trans kt) ?_
  show Go p.tables e below _ (T102.setTop (mkF m 4 #[.val (.ref a1), .val .null, .val (.ref x1), .val (.ref x2), .val .null] []))
  refine Go.step (fun _ kt => XS.aloadN X102.here hx rfl (hb hby d1_4) rfl rfl kt) ?_
  show Go p.tables e below _ (T102.setTop (mkF m 5 #[.val (.ref a1), .val .null, .val (.ref x1), .val (.ref x2), .val .null] [(.ref a1)]))
  refine Go.step (fun _ kt => XS.aloadN X102.here hx rfl (hb hby d1_5) rfl rfl kt) ?_
  show Go p.tables e below _ (T102.setTop (mkF m 6 #[.val (.ref a1), .val .null, .val (.ref x1), .val (.ref x2), .val .null] [.null, (.ref a1)]))
  obtain ⟨T103, h103, X103, e103, W103, st103⟩ := putF X102 hx hZ hown (host := "") (Or.inl (hw _ (List.mem_of_getElem? (i := 16) rfl))) Via.refl eh102 F0 E1 (Or.inr ⟨(hw _ (List.mem_of_getElem? (i := 17) rfl)), rfl, hnm⟩) (hw _ (List.mem_of_getElem? (i := 3) rfl)) (ty := (.object "java/lang/Integer")) (by decide) rfl rfl (g := (mkF m 6 #[.val (.ref a1), .val .null, .val (.ref x1), .val (.ref x2), .val .null] [.null, (.ref a1)])) rfl rfl (hb hby d1_6)
  refine Go.step st103 ?_
  have N103 := Fr.snoc X103 N102 g_a1
  have F104 : Exa Z h103 a1 "com/example/patient_courier/patientcourier/delivery/AttemptResult" := (E1.wr W103)
  have F105 : Fld Z h103 a1 "com/example/patient_courier/patientcourier/delivery/AttemptResult" "status" "Ljava/lang/Integer;" .null := (F0.same W103)
  have F106 : Fld Z h103 a1 "com/example/patient_courier/patientcourier/delivery/AttemptResult" "error" "Ljava/lang/String;" u1 := (F1.other W103 (Or.inr (slot_ne (Or.inr (hw _ (List.mem_of_getElem? (i := 19) rfl))) (Or.inr (hw _ (List.mem_of_getElem? (i := 17) rfl))) (by decide) (t := (.object "java/lang/String")) (t' := (.object "java/lang/Integer")) (by decide) (by decide))))
  have F107 : Fld Z h103 a1 "com/example/patient_courier/patientcourier/delivery/AttemptResult" "preview" "[B" u2 := (F2.other W103 (Or.inr (slot_ne (Or.inr (hw _ (List.mem_of_getElem? (i := 21) rfl))) (Or.inr (hw _ (List.mem_of_getElem? (i := 17) rfl))) (by decide) (t := (.array .byte)) (t' := (.object "java/lang/Integer")) (by decide) (by decide))))
  have F108 : Fld Z h103 a1 "com/example/patient_courier/patientcourier/delivery/AttemptResult" "retryAfter" "Ljava/lang/String;" u3 := (F3.other W103 (Or.inr (slot_ne (Or.inr (hw _ (List.mem_of_getElem? (i := 23) rfl))) (Or.inr (hw _ (List.mem_of_getElem? (i := 17) rfl))) (by decide) (t := (.object "java/lang/String")) (t' := (.object "java/lang/Integer")) (by decide) (by decide))))
  have Z109 : n0 ≤ h103.size := (Nat.le_trans Z0 (Nat.le_of_eq W103.size.symm))
  have K110 : Keep h0 h103 [a1] := (K101.wr W103 (Or.inl (List.mem_of_getElem? (i := 0) rfl)))
  show Go p.tables e below _ (T103.setTop (mkF m 9 #[.val (.ref a1), .val .null, .val (.ref x1), .val (.ref x2), .val .null] []))
  refine Go.step (fun _ kt => XS.aloadN X103.here hx rfl (hb hby d1_9) rfl rfl kt) ?_
  show Go p.tables e below _ (T103.setTop (mkF m 10 #[.val (.ref a1), .val .null, .val (.ref x1), .val (.ref x2), .val .null] [(.ref a1)]))
  refine Go.step (fun _ kt => XS.aloadN X103.here hx rfl (hb hby d1_10) rfl rfl kt) ?_
  show Go p.tables e below _ (T103.setTop (mkF m 11 #[.val (.ref a1), .val .null, .val (.ref x1), .val (.ref x2), .val .null] [(.ref x1), (.ref a1)]))
  obtain ⟨T111, h111, X111, e111, W111, st111⟩ := putF X103 hx hZ hown (host := "") (Or.inl (hw _ (List.mem_of_getElem? (i := 18) rfl))) Via.refl e103 F106 F104 (Or.inr ⟨(hw _ (List.mem_of_getElem? (i := 19) rfl)), rfl, hnm⟩) (hw _ (List.mem_of_getElem? (i := 3) rfl)) (ty := (.object "java/lang/String")) (by decide) rfl rfl (g := (mkF m 11 #[.val (.ref a1), .val .null, .val (.ref x1), .val (.ref x2), .val .null] [(.ref x1), (.ref a1)])) rfl rfl (hb hby d1_11)
  refine Go.step st111 ?_
  have N111 := Fr.snoc X111 N103 g_a1
  have F112 : Exa Z h111 a1 "com/example/patient_courier/patientcourier/delivery/AttemptResult" := (F104.wr W111)
  have F113 : Fld Z h111 a1 "com/example/patient_courier/patientcourier/delivery/AttemptResult" "status" "Ljava/lang/Integer;" .null := (F105.other W111 (Or.inr (slot_ne (Or.inr (hw _ (List.mem_of_getElem? (i := 17) rfl))) (Or.inr (hw _ (List.mem_of_getElem? (i := 19) rfl))) (by decide) (t := (.object "java/lang/Integer")) (t' := (.object "java/lang/String")) (by decide) (by decide))))
  have F114 : Fld Z h111 a1 "com/example/patient_courier/patientcourier/delivery/AttemptResult" "preview" "[B" u2 := (F107.other W111 (Or.inr (slot_ne (Or.inr (hw _ (List.mem_of_getElem? (i := 21) rfl))) (Or.inr (hw _ (List.mem_of_getElem? (i := 19) rfl))) (by decide) (t := (.array .byte)) (t' := (.object "java/lang/String")) (by decide) (by decide))))
  have F115 : Fld Z h111 a1 "com/example/patient_courier/patientcourier/delivery/AttemptResult" "retryAfter" "Ljava/lang/String;" u3 := (F108.other W111 (Or.inr (slot_ne (Or.inr (hw _ (List.mem_of_getElem? (i := 23) rfl))) (Or.inr (hw _ (List.mem_of_getElem? (i := 19) rfl))) (by decide) (t := (.object "java/lang/String")) (t' := (.object "java/lang/String")) (by decide) (by decide))))
  have Z116 : n0 ≤ h111.size := (Nat.le_trans Z109 (Nat.le_of_eq W111.size.symm))
  have K117 : Keep h0 h111 [a1] := (K110.wr W111 (Or.inl (List.mem_of_getElem? (i := 0) rfl)))
  show Go p.tables e below _ (T111.setTop (mkF m 14 #[.val (.ref a1), .val .null, .val (.ref x1), .val (.ref x2), .val .null] []))
  refine Go.step (fun _ kt => XS.aloadN X111.here hx rfl (hb hby d1_14) rfl rfl kt) ?_
  show Go p.tables e below _ (T111.setTop (mkF m 15 #[.val (.ref a1), .val .null, .val (.ref x1), .val (.ref x2), .val .null] [(.ref a1)]))
  refine Go.step (fun _ kt => XS.aloadN X111.here hx rfl (hb hby d1_15) rfl rfl kt) ?_
  show Go p.tables e below _ (T111.setTop (mkF m 16 #[.val (.ref a1), .val .null, .val (.ref x1), .val (.ref x2), .val .null] [(.ref x2), (.ref a1)]))
  obtain ⟨T118, h118, X118, e118, W118, st118⟩ := putF X111 hx hZ hown (host := "") (Or.inl (hw _ (List.mem_of_getElem? (i := 20) rfl))) Via.refl e111 F114 F112 (Or.inr ⟨(hw _ (List.mem_of_getElem? (i := 21) rfl)), rfl, hnm⟩) (hw _ (List.mem_of_getElem? (i := 3) rfl)) (ty := (.array .byte)) (by decide) rfl rfl (g := (mkF m 16 #[.val (.ref a1), .val .null, .val (.ref x1), .val (.ref x2), .val .null] [(.ref x2), (.ref a1)])) rfl rfl (hb hby d1_16)
  refine Go.step st118 ?_
  have N118 := Fr.snoc X118 N111 g_a1
  have F119 : Exa Z h118 a1 "com/example/patient_courier/patientcourier/delivery/AttemptResult" := (F112.wr W118)
  have F120 : Fld Z h118 a1 "com/example/patient_courier/patientcourier/delivery/AttemptResult" "status" "Ljava/lang/Integer;" .null := (F113.other W118 (Or.inr (slot_ne (Or.inr (hw _ (List.mem_of_getElem? (i := 17) rfl))) (Or.inr (hw _ (List.mem_of_getElem? (i := 21) rfl))) (by decide) (t := (.object "java/lang/Integer")) (t' := (.array .byte)) (by decide) (by decide))))
  have F121 : Fld Z h118 a1 "com/example/patient_courier/patientcourier/delivery/AttemptResult" "retryAfter" "Ljava/lang/String;" u3 := (F115.other W118 (Or.inr (slot_ne (Or.inr (hw _ (List.mem_of_getElem? (i := 23) rfl))) (Or.inr (hw _ (List.mem_of_getElem? (i := 21) rfl))) (by decide) (t := (.object "java/lang/String")) (t' := (.array .byte)) (by decide) (by decide))))
  have Z122 : n0 ≤ h118.size := (Nat.le_trans Z116 (Nat.le_of_eq W118.size.symm))
  have K123 : Keep h0 h118 [a1] := (K117.wr W118 (Or.inl (List.mem_of_getElem? (i := 0) rfl)))
  show Go p.tables e below _ (T118.setTop (mkF m 19 #[.val (.ref a1), .val .null, .val (.ref x1), .val (.ref x2), .val .null] []))
  refine Go.step (fun _ kt => XS.aloadN X118.here hx rfl (hb hby d1_19) rfl rfl kt) ?_
  show Go p.tables e below _ (T118.setTop (mkF m 20 #[.val (.ref a1), .val .null, .val (.ref x1), .val (.ref x2), .val .null] [(.ref a1)]))
  refine Go.step (fun _ kt => XS.aload X118.here hx rfl (hb hby d1_20) rfl rfl kt) ?_
  show Go p.tables e below _ (T118.setTop (mkF m 22 #[.val (.ref a1), .val .null, .val (.ref x1), .val (.ref x2), .val .null] [.null, (.ref a1)]))
  obtain ⟨T124, h124, X124, e124, W124, st124⟩ := putF X118 hx hZ hown (host := "") (Or.inl (hw _ (List.mem_of_getElem? (i := 22) rfl))) Via.refl e118 F121 F119 (Or.inr ⟨(hw _ (List.mem_of_getElem? (i := 23) rfl)), rfl, hnm⟩) (hw _ (List.mem_of_getElem? (i := 3) rfl)) (ty := (.object "java/lang/String")) (by decide) rfl rfl (g := (mkF m 22 #[.val (.ref a1), .val .null, .val (.ref x1), .val (.ref x2), .val .null] [.null, (.ref a1)])) rfl rfl (hb hby d1_22)
  refine Go.step st124 ?_
  have N124 := Fr.snoc X124 N118 g_a1
  have F125 : Exa Z h124 a1 "com/example/patient_courier/patientcourier/delivery/AttemptResult" := (F119.wr W124)
  have F126 : Fld Z h124 a1 "com/example/patient_courier/patientcourier/delivery/AttemptResult" "status" "Ljava/lang/Integer;" .null := (F120.other W124 (Or.inr (slot_ne (Or.inr (hw _ (List.mem_of_getElem? (i := 17) rfl))) (Or.inr (hw _ (List.mem_of_getElem? (i := 23) rfl))) (by decide) (t := (.object "java/lang/Integer")) (t' := (.object "java/lang/String")) (by decide) (by decide))))
  have Z127 : n0 ≤ h124.size := (Nat.le_trans Z122 (Nat.le_of_eq W124.size.symm))
  have K128 : Keep h0 h124 [a1] := (K123.wr W124 (Or.inl (List.mem_of_getElem? (i := 0) rfl)))
  show Go p.tables e below _ (T124.setTop (mkF m 25 #[.val (.ref a1), .val .null, .val (.ref x1), .val (.ref x2), .val .null] []))
  obtain ⟨fs, hr, hrun, hended, hW, hsame⟩ := X124.leave (v := none) (fun _ => rfl)
  refine ⟨_, _, X124.returnOut hx Bd.returns (hb hby d1_25) hr, hrun, hended, _, _, rfl, ?_, ⟨_, rfl⟩, hW, hsame.mono (by decide) (by decide)⟩
  show Qrmi_nrrn Z a1 x1 x2 u0 u1 u2 u3 h0 n0 _ T124.heap _
  rw [e124]
  refine ⟨?_, N124, K128, F125, F126⟩
  rfl
theorem ef_rmi_nrrr (m : MethodId) (a1 : Addr) (x1 : Addr) (x2 : Addr) (x3 : Addr) (u0 : Value) (u1 : Value) (u2 : Value) (u3 : Value) : entryFrame m #[(.ref a1), .null, (.ref x1), (.ref x2), (.ref x3)] 5 = mkF m 0 #[.val (.ref a1), .val .null, .val (.ref x1), .val (.ref x2), .val (.ref x3)] [] := by first | (simp [entryFrame, mkF, argsToLocals, Value.category]; done) | rfl
def Qrmi_nrrr (Z : State) (a1 : Addr) (x1 : Addr) (x2 : Addr) (x3 : Addr) (u0 : Value) (u1 : Value) (u2 : Value) (u3 : Value) (h0 : Heap) (n0 : Nat) (v : Option Value) (h : Heap) (L : List Loc) : Prop := v = none ∧ Fr n0 L ∧ Keep h0 h [a1] ∧ Exa Z h a1 "com/example/patient_courier/patientcourier/delivery/AttemptResult" ∧ Fld Z h a1 "com/example/patient_courier/patientcourier/delivery/AttemptResult" "status" "Ljava/lang/Integer;" .null
set_option maxRecDepth 65536 in
set_option maxHeartbeats 40000000 in
theorem rmi_nrrr (l : Launch) (Z : State) (a0 : Array Value) (hw : ∀ d ∈ tables_1, d.before a0 Z = true) (ws : List Jvm.Cond) (a1 : Addr) (x1 : Addr) (x2 : Addr) (x3 : Addr) (u0 : Value) (u1 : Value) (u2 : Value) (u3 : Value) (h0 : Heap) (n0 : Nat) (Z0 : n0 ≤ h0.size) (E1 : Exa Z h0 a1 "com/example/patient_courier/patientcourier/delivery/AttemptResult") (F0 : Fld Z h0 a1 "com/example/patient_courier/patientcourier/delivery/AttemptResult" "status" "Ljava/lang/Integer;" u0) (F1 : Fld Z h0 a1 "com/example/patient_courier/patientcourier/delivery/AttemptResult" "error" "Ljava/lang/String;" u1) (F2 : Fld Z h0 a1 "com/example/patient_courier/patientcourier/delivery/AttemptResult" "preview" "[B" u2) (F3 : Fld Z h0 a1 "com/example/patient_courier/patientcourier/delivery/AttemptResult" "retryAfter" "Ljava/lang/String;" u3) (g_a1 : n0 ≤ a1) :
    MetFree l (⟨"com/example/patient_courier/patientcourier/delivery/AttemptResult", "<init>", "(Ljava/lang/Integer;Ljava/lang/String;[BLjava/lang/String;)V"⟩ : MethodName) (head1 (Jvm.Cond.code (⟨"com/example/patient_courier/patientcourier/delivery/AttemptResult", "<init>", "(Ljava/lang/Integer;Ljava/lang/String;[BLjava/lang/String;)V"⟩ : MethodName) prog_19_method_1_code 5 none :: ws) ({ frames := 2, cells := 0, slots := 0, locals := 24 } : Room)) (fun a U => a = #[(.ref a1), .null, (.ref x1), (.ref x2), (.ref x3)] ∧ Z.Warmed39 U.vm ∧ U.heap = h0) (fun _ _ _ _ _ => True) (fun _ U o U' => ∃ v L, o = .returned v ∧ Qrmi_nrrr Z a1 x1 x2 x3 u0 u1 u2 u3 h0 n0 v U'.heap L ∧ FrameEnd U o U' L ({ frames := 2, cells := 0, slots := 0, locals := 24 } : Room).cells ({ frames := 2, cells := 0, slots := 0, locals := 24 } : Room).slots) := by
  refine MetFree.of_bodySF (plainFor_of_name pn_3) hisR ?_
  intro p e s m args below meth c s₁ Bd hml0 hP hK
  obtain ⟨rfl, hZ, hh⟩ := hP
  have hx := Bd.exec
  have hby := Bd.bytes
  have hml : c.maxLocals = 5 := hml0
  have hown : s.vm.findClass "com/example/patient_courier/patientcourier/delivery/AttemptResult" = some m.cls := findClass_of_methodNamed Bd.named
  have hnm := (name_of_methodNamed Bd.named Bd.method).1
  have X0 : Stand p l e ({ frames := 2, cells := 0, slots := 0, locals := 24 } : Room) s m #[(.ref a1), .null, (.ref x1), (.ref x2), (.ref x3)] below meth c s₁ [] 0 0 := Stand.of_body Bd
  have e0 : s₁.heap = h0 := by rw [← hh, Bd.state]; rfl
  have N0 := Fr.nil n0
  show Go p.tables e below (fun o U' => ∃ v L, o = .returned v ∧ Qrmi_nrrr Z a1 x1 x2 x3 u0 u1 u2 u3 h0 n0 v U'.heap L ∧ FrameEnd s o U' L ({ frames := 2, cells := 0, slots := 0, locals := 24 } : Room).cells ({ frames := 2, cells := 0, slots := 0, locals := 24 } : Room).slots) _
  refine Go.step (fun t kt => castTop (ef_rmi_nrrr m a1 x1 x2 x3 u0 u1 u2 u3) kt) ?_
  show Go p.tables e below _ (s₁.setTop (mkF m 0 #[.val (.ref a1), .val .null, .val (.ref x1), .val (.ref x2), .val (.ref x3)] []))
  have K101 : Keep h0 h0 [a1] := (Keep.refl h0 [a1])
  refine Go.step (fun _ kt => XS.aloadN X0.here hx rfl (hb hby d1_0) rfl rfl kt) ?_
  show Go p.tables e below _ (s₁.setTop (mkF m 1 #[.val (.ref a1), .val .null, .val (.ref x1), .val (.ref x2), .val (.ref x3)] [(.ref a1)]))
  obtain ⟨_, _, ⟨T102, L102, k102, n102⟩, -, X102, ⟨Lc102, hQ102, l102, y102, z102⟩, st102⟩ := X0.specialBack hx (y := (⟨"java/lang/Record", "<init>", "()V"⟩ : MethodName)) rfl hown (mvT hZ (hw _ (List.mem_of_getElem? (i := 8) rfl))) (mvT hZ (hw _ (List.mem_of_getElem? (i := 9) rfl))) (mvT hZ (hw _ (List.mem_of_getElem? (i := 12) rfl))) (by decide) (backOf (W := 0) (rm2 l Z a0 hw [] a1  h0 n0 Z0  ) hZ (hw _ (List.mem_of_getElem? (i := 12) rfl)) (hw _ (List.mem_of_getElem? (i := 11) rfl)) (by decide) (by decide)) (g := (mkF m 1 #[.val (.ref a1), .val .null, .val (.ref x1), .val (.ref x2), .val (.ref x3)] [(.ref a1)])) rfl (by rw [hml]; rfl) (Steps.refl _) (a := a1) (argsL := []) (rest := []) (lenOf pd_0 rfl) rfl (by show 2 * 0 + _ ≤ _; exact Nat.le_of_eq rfl) (hb hby d1_1) (fun _ _ => ⟨rfl, e0, (by decide : 0 + 0 ≤ _), (by decide : 0 + 0 ≤ _)⟩)
  dsimp only [Pt.U, Pt.locs, Pt.cells, Pt.slots] at X102 l102 y102 z102 st102 hQ102
  subst l102 y102 z102
  obtain ⟨rfl, N102q, eh102⟩ := hQ102
  have N102 := Fr.app N0 N102q
  refine Go.step (fun _ kt => st102.trans kt) ?_
  show Go p.tables e below _ (T102.setTop (mkF m 4 #[.val (.ref a1), .val .null, .val (.ref x1), .val (.ref x2), .val (.ref x3)] []))
  refine Go.step (fun _ kt => XS.aloadN X102.here hx rfl (hb hby d1_4) rfl rfl kt) ?_
  show Go p.tables e below _ (T102.setTop (mkF m 5 #[.val (.ref a1), .val .null, .val (.ref x1), .val (.ref x2), .val (.ref x3)] [(.ref a1)]))
  refine Go.step (fun _ kt => XS.aloadN X102.here hx rfl (hb hby d1_5) rfl rfl kt) ?_
  show Go p.tables e below _ (T102.setTop (mkF m 6 #[.val (.ref a1), .val .null, .val (.ref x1), .val (.ref x2), .val (.ref x3)] [.null, (.ref a1)]))
  obtain ⟨T103, h103, X103, e103, W103, st103⟩ := putF X102 hx hZ hown (host := "") (Or.inl (hw _ (List.mem_of_getElem? (i := 16) rfl))) Via.refl eh102 F0 E1 (Or.inr ⟨(hw _ (List.mem_of_getElem? (i := 17) rfl)), rfl, hnm⟩) (hw _ (List.mem_of_getElem? (i := 3) rfl)) (ty := (.object "java/lang/Integer")) (by decide) rfl rfl (g := (mkF m 6 #[.val (.ref a1), .val .null, .val (.ref x1), .val (.ref x2), .val (.ref x3)] [.null, (.ref a1)])) rfl rfl (hb hby d1_6)
  refine Go.step st103 ?_
  have N103 := Fr.snoc X103 N102 g_a1
  have F104 : Exa Z h103 a1 "com/example/patient_courier/patientcourier/delivery/AttemptResult" := (E1.wr W103)
  have F105 : Fld Z h103 a1 "com/example/patient_courier/patientcourier/delivery/AttemptResult" "status" "Ljava/lang/Integer;" .null := (F0.same W103)
  have F106 : Fld Z h103 a1 "com/example/patient_courier/patientcourier/delivery/AttemptResult" "error" "Ljava/lang/String;" u1 := (F1.other W103 (Or.inr (slot_ne (Or.inr (hw _ (List.mem_of_getElem? (i := 19) rfl))) (Or.inr (hw _ (List.mem_of_getElem? (i := 17) rfl))) (by decide) (t := (.object "java/lang/String")) (t' := (.object "java/lang/Integer")) (by decide) (by decide))))
  have F107 : Fld Z h103 a1 "com/example/patient_courier/patientcourier/delivery/AttemptResult" "preview" "[B" u2 := (F2.other W103 (Or.inr (slot_ne (Or.inr (hw _ (List.mem_of_getElem? (i := 21) rfl))) (Or.inr (hw _ (List.mem_of_getElem? (i := 17) rfl))) (by decide) (t := (.array .byte)) (t' := (.object "java/lang/Integer")) (by decide) (by decide))))
  have F108 : Fld Z h103 a1 "com/example/patient_courier/patientcourier/delivery/AttemptResult" "retryAfter" "Ljava/lang/String;" u3 := (F3.other W103 (Or.inr (slot_ne (Or.inr (hw _ (List.mem_of_getElem? (i := 23) rfl))) (Or.inr (hw _ (List.mem_of_getElem? (i := 17) rfl))) (by decide) (t := (.object "java/lang/String")) (t' := (.object "java/lang/Integer")) (by decide) (by decide))))
  have Z109 : n0 ≤ h103.size := (Nat.le_trans Z0 (Nat.le_of_eq W103.size.symm))
  have K110 : Keep h0 h103 [a1] := (K101.wr W103 (Or.inl (List.mem_of_getElem? (i := 0) rfl)))
  show Go p.tables e below _ (T103.setTop (mkF m 9 #[.val (.ref a1), .val .null, .val (.ref x1), .val (.ref x2), .val (.ref x3)] []))
  refine Go.step (fun _ kt => XS.aloadN X103.here hx rfl (hb hby d1_9) rfl rfl kt) ?_
  show Go p.tables e below _ (T103.setTop (mkF m 10 #[.val (.ref a1), .val .null, .val (.ref x1), .val (.ref x2), .val (.ref x3)] [(.ref a1)]))
  refine Go.step (fun _ kt => XS.aloadN X103.here hx rfl (hb hby d1_10) rfl rfl kt) ?_
  show Go p.tables e below _ (T103.setTop (mkF m 11 #[.val (.ref a1), .val .null, .val (.ref x1), .val (.ref x2), .val (.ref x3)] [(.ref x1), (.ref a1)]))
  obtain ⟨T111, h111, X111, e111, W111, st111⟩ := putF X103 hx hZ hown (host := "") (Or.inl (hw _ (List.mem_of_getElem? (i := 18) rfl))) Via.refl e103 F106 F104 (Or.inr ⟨(hw _ (List.mem_of_getElem? (i := 19) rfl)), rfl, hnm⟩) (hw _ (List.mem_of_getElem? (i := 3) rfl)) (ty := (.object "java/lang/String")) (by decide) rfl rfl (g := (mkF m 11 #[.val (.ref a1), .val .null, .val (.ref x1), .val (.ref x2), .val (.ref x3)] [(.ref x1), (.ref a1)])) rfl rfl (hb hby d1_11)
  refine Go.step st111 ?_
  have N111 := Fr.snoc X111 N103 g_a1
  have F112 : Exa Z h111 a1 "com/example/patient_courier/patientcourier/delivery/AttemptResult" := (F104.wr W111)
  have F113 : Fld Z h111 a1 "com/example/patient_courier/patientcourier/delivery/AttemptResult" "status" "Ljava/lang/Integer;" .null := (F105.other W111 (Or.inr (slot_ne (Or.inr (hw _ (List.mem_of_getElem? (i := 17) rfl))) (Or.inr (hw _ (List.mem_of_getElem? (i := 19) rfl))) (by decide) (t := (.object "java/lang/Integer")) (t' := (.object "java/lang/String")) (by decide) (by decide))))
  have F114 : Fld Z h111 a1 "com/example/patient_courier/patientcourier/delivery/AttemptResult" "preview" "[B" u2 := (F107.other W111 (Or.inr (slot_ne (Or.inr (hw _ (List.mem_of_getElem? (i := 21) rfl))) (Or.inr (hw _ (List.mem_of_getElem? (i := 19) rfl))) (by decide) (t := (.array .byte)) (t' := (.object "java/lang/String")) (by decide) (by decide))))
  have F115 : Fld Z h111 a1 "com/example/patient_courier/patientcourier/delivery/AttemptResult" "retryAfter" "Ljava/lang/String;" u3 := (F108.other W111 (Or.inr (slot_ne (Or.inr (hw _ (List.mem_of_getElem? (i := 23) rfl))) (Or.inr (hw _ (List.mem_of_getElem? (i := 19) rfl))) (by decide) (t := (.object "java/lang/String")) (t' := (.object "java/lang/String")) (by decide) (by decide))))
  have Z116 : n0 ≤ h111.size := (Nat.le_trans Z109 (Nat.le_of_eq W111.size.symm))
  have K117 : Keep h0 h111 [a1] := (K110.wr W111 (Or.inl (List.mem_of_getElem? (i := 0) rfl)))
  show Go p.tables e below _ (T111.setTop (mkF m 14 #[.val (.ref a1), .val .null, .val (.ref x1), .val (.ref x2), .val (.ref x3)] []))
  refine Go.step (fun _ kt => XS.aloadN X111.here hx rfl (hb hby d1_14) rfl rfl kt) ?_
  show Go p.tables e below _ (T111.setTop (mkF m 15 #[.val (.ref a1), .val .null, .val (.ref x1), .val (.ref x2), .val (.ref x3)] [(.ref a1)]))
  refine Go.step (fun _ kt => XS.aloadN X111.here hx rfl (hb hby d1_15) rfl rfl kt) ?_
  show Go p.tables e below _ (T111.setTop (mkF m 16 #[.val (.ref a1), .val .null, .val (.ref x1), .val (.ref x2), .val (.ref x3)] [(.ref x2), (.ref a1)]))
  obtain ⟨T118, h118, X118, e118, W118, st118⟩ := putF X111 hx hZ hown (host := "") (Or.inl (hw _ (List.mem_of_getElem? (i := 20) rfl))) Via.refl e111 F114 F112 (Or.inr ⟨(hw _ (List.mem_of_getElem? (i := 21) rfl)), rfl, hnm⟩) (hw _ (List.mem_of_getElem? (i := 3) rfl)) (ty := (.array .byte)) (by decide) rfl rfl (g := (mkF m 16 #[.val (.ref a1), .val .null, .val (.ref x1), .val (.ref x2), .val (.ref x3)] [(.ref x2), (.ref a1)])) rfl rfl (hb hby d1_16)
  refine Go.step st118 ?_
  have N118 := Fr.snoc X118 N111 g_a1
  have F119 : Exa Z h118 a1 "com/example/patient_courier/patientcourier/delivery/AttemptResult" := (F112.wr W118)
  have F120 : Fld Z h118 a1 "com/example/patient_courier/patientcourier/delivery/AttemptResult" "status" "Ljava/lang/Integer;" .null := (F113.other W118 (Or.inr (slot_ne (Or.inr (hw _ (List.mem_of_getElem? (i := 17) rfl))) (Or.inr (hw _ (List.mem_of_getElem? (i := 21) rfl))) (by decide) (t := (.object "java/lang/Integer")) (t' := (.array .byte)) (by decide) (by decide))))
  have F121 : Fld Z h118 a1 "com/example/patient_courier/patientcourier/delivery/AttemptResult" "retryAfter" "Ljava/lang/String;" u3 := (F115.other W118 (Or.inr (slot_ne (Or.inr (hw _ (List.mem_of_getElem? (i := 23) rfl))) (Or.inr (hw _ (List.mem_of_getElem? (i := 21) rfl))) (by decide) (t := (.object "java/lang/String")) (t' := (.array .byte)) (by decide) (by decide))))
  have Z122 : n0 ≤ h118.size := (Nat.le_trans Z116 (Nat.le_of_eq W118.size.symm))
  have K123 : Keep h0 h118 [a1] := (K117.wr W118 (Or.inl (List.mem_of_getElem? (i := 0) rfl)))
  show Go p.tables e below _ (T118.setTop (mkF m 19 #[.val (.ref a1), .val .null, .val (.ref x1), .val (.ref x2), .val (.ref x3)] []))
  refine Go.step (fun _ kt => XS.aloadN X118.here hx rfl (hb hby d1_19) rfl rfl kt) ?_
  show Go p.tables e below _ (T118.setTop (mkF m 20 #[.val (.ref a1), .val .null, .val (.ref x1), .val (.ref x2), .val (.ref x3)] [(.ref a1)]))
  refine Go.step (fun _ kt => XS.aload X118.here hx rfl (hb hby d1_20) rfl rfl kt) ?_
  show Go p.tables e below _ (T118.setTop (mkF m 22 #[.val (.ref a1), .val .null, .val (.ref x1), .val (.ref x2), .val (.ref x3)] [(.ref x3), (.ref a1)]))
  obtain ⟨T124, h124, X124, e124, W124, st124⟩ := putF X118 hx hZ hown (host := "") (Or.inl (hw _ (List.mem_of_getElem? (i := 22) rfl))) Via.refl e118 F121 F119 (Or.inr ⟨(hw _ (List.mem_of_getElem? (i := 23) rfl)), rfl, hnm⟩) (hw _ (List.mem_of_getElem? (i := 3) rfl)) (ty := (.object "java/lang/String")) (by decide) rfl rfl (g := (mkF m 22 #[.val (.ref a1), .val .null, .val (.ref x1), .val (.ref x2), .val (.ref x3)] [(.ref x3), (.ref a1)])) rfl rfl (hb hby d1_22)
  refine Go.step st124 ?_
  have N124 := Fr.snoc X124 N118 g_a1
  have F125 : Exa Z h124 a1 "com/example/patient_courier/patientcourier/delivery/AttemptResult" := (F119.wr W124)
  have F126 : Fld Z h124 a1 "com/example/patient_courier/patientcourier/delivery/AttemptResult" "status" "Ljava/lang/Integer;" .null := (F120.other W124 (Or.inr (slot_ne (Or.inr (hw _ (List.mem_of_getElem? (i := 17) rfl))) (Or.inr (hw _ (List.mem_of_getElem? (i := 23) rfl))) (by decide) (t := (.object "java/lang/Integer")) (t' := (.object "java/lang/String")) (by decide) (by decide))))
  have Z127 : n0 ≤ h124.size := (Nat.le_trans Z122 (Nat.le_of_eq W124.size.symm))
  have K128 : Keep h0 h124 [a1] := (K123.wr W124 (Or.inl (List.mem_of_getElem? (i := 0) rfl)))
  show Go p.tables e below _ (T124.setTop (mkF m 25 #[.val (.ref a1), .val .null, .val (.ref x1), .val (.ref x2), .val (.ref x3)] []))
  obtain ⟨fs, hr, hrun, hended, hW, hsame⟩ := X124.leave (v := none) (fun _ => rfl)
  refine ⟨_, _, X124.returnOut hx Bd.returns (hb hby d1_25) hr, hrun, hended, _, _, rfl, ?_, ⟨_, rfl⟩, hW, hsame.mono (by decide) (by decide)⟩
  show Qrmi_nrrr Z a1 x1 x2 x3 u0 u1 u2 u3 h0 n0 _ T124.heap _
  rw [e124]
  refine ⟨?_, N124, K128, F125, F126⟩
  rfl
theorem pn_4 : plainName "com/example/patient_courier/patientcourier/delivery/AttemptResultDeliveredPinLaw" = true := by first | (simp [plainName, overriddenIn]; done) | decide +kernel
theorem ef_rm0 (m : MethodId) (p1 : Int32) (p2 : Int32) (ca : Addr) (cc : Cell) : entryFrame m #[(.int p1), (.int p2)] maxLocals = mkF m 0 #[.val (.int p1), .val (.int p2), .unset, .unset, .unset, .unset, .unset, .unset, .unset, .unset] [] := by first | (simp [entryFrame, mkF, argsToLocals, Value.category, maxLocals]; done) | rfl
def Qrm0 (Z : State) (p1 : Int32) (p2 : Int32) (ca : Addr) (cc : Cell) (h0 : Heap) (n0 : Nat) (v : Option Value) (h : Heap) (L : List Loc) : Prop := v = some (.int 1) ∧ Fr n0 L
set_option maxRecDepth 65536 in
set_option maxHeartbeats 40000000 in
theorem rm0 (l : Launch) (Z : State) (a0 : Array Value) (hw : ∀ d ∈ tables_1, d.before a0 Z = true) (ws : List Jvm.Cond) (p1 : Int32) (p2 : Int32) (ca : Addr) (cc : Cell) (h0 : Heap) (n0 : Nat) (Z0 : n0 ≤ h0.size) (S_high : Sta Z h0 "java/lang/Integer$IntegerCache" "high" "I" (.int (127 : Int32))) (S_cache : Sta Z h0 "java/lang/Integer$IntegerCache" "cache" "[Ljava/lang/Integer;" (.ref ca)) (Bx : Bxs Z ca cc "java/lang/Integer" "I" (256 : Int32) (fun j => .int (j - 128))) (O0 : Ext Z.heap h0) :
    MetFree l x (head1 (Jvm.Cond.code x code maxLocals ret :: ws) room_1) (fun a U => a = #[(.int p1), (.int p2)] ∧ Z.Warmed39 U.vm ∧ U.heap = h0) (fun _ _ _ _ _ => True) (fun _ U o U' => ∃ v L, o = .returned v ∧ Qrm0 Z p1 p2 ca cc h0 n0 v U'.heap L ∧ ReturnedEndW U o U' L room_1.cells room_1.slots) := by
  refine MetFree.of_bodySF (plainFor_of_name pn_4) hisR ?_
  intro p e s m args below meth c s₁ Bd hml0 hP hK
  obtain ⟨rfl, hZ, hh⟩ := hP
  have hx := Bd.exec
  have hby := Bd.bytes
  have hml : c.maxLocals = 10 := hml0
  have hown : s.vm.findClass "com/example/patient_courier/patientcourier/delivery/AttemptResultDeliveredPinLaw" = some m.cls := findClass_of_methodNamed Bd.named
  have hnm := (name_of_methodNamed Bd.named Bd.method).1
  have X0 : Stand p l e room_1 (s.setVm s.vm) m #[(.int p1), (.int p2)] below meth c s₁ [] 0 0 := Stand.of_body Bd
  have e0 : s₁.heap = h0 := by rw [← hh, Bd.state]; rfl
  have N0 := Fr.nil n0
  have hS0 : s.Since s.vm s.heap.size := (State.WarmedH.refl s).since _
  have hk0 : s.heap.size ≤ h0.size := Nat.le_of_eq (congrArg Array.size hh)
  show Go p.tables e below (fun o U' => ∃ v L, o = .returned v ∧ Qrm0 Z p1 p2 ca cc h0 n0 v U'.heap L ∧ ReturnedEndW s o U' L room_1.cells room_1.slots) _
  refine Go.step (fun t kt => castTop (ef_rm0 m p1 p2 ca cc) kt) ?_
  show Go p.tables e below _ (s₁.setTop (mkF m 0 #[.val (.int p1), .val (.int p2), .unset, .unset, .unset, .unset, .unset, .unset, .unset, .unset] []))
  have J21 : ∀ (cd : Int32), Go p.tables e below (fun o U' => ∃ v L, o = .returned v ∧ Qrm0 Z p1 p2 ca cc h0 n0 v U'.heap L ∧ ReturnedEndW s o U' L room_1.cells room_1.slots) (s₁.setTop (mkF m 21 #[.val (.int p1), .val (.int p2), .unset, .unset, .unset, .unset, .unset, .unset, .unset, .unset] [(.int cd)])) := by
    intro cd
    show Go p.tables e below _ (s₁.setTop (mkF m 21 #[.val (.int p1), .val (.int p2), .unset, .unset, .unset, .unset, .unset, .unset, .unset, .unset] [(.int cd)]))
    refine Go.step (fun _ kt => XS.istoreN X0.here hx rfl (hb hby at_21) rfl (l' := #[.val (.int p1), .val (.int p2), .val (.int cd), .unset, .unset, .unset, .unset, .unset, .unset, .unset]) rfl kt) ?_
    show Go p.tables e below _ (s₁.setTop (mkF m 22 #[.val (.int p1), .val (.int p2), .val (.int cd), .unset, .unset, .unset, .unset, .unset, .unset, .unset] []))
    refine Go.step (fun _ kt => XS.iloadN X0.here hx rfl (hb hby at_22) rfl kt) ?_
    show Go p.tables e below _ (s₁.setTop (mkF m 23 #[.val (.int p1), .val (.int p2), .val (.int cd), .unset, .unset, .unset, .unset, .unset, .unset, .unset] [(.int p2)]))
    refine Go.step (fun _ kt => XS.iconst X0.here hx rfl (hb hby at_23) kt) ?_
    show Go p.tables e below _ (s₁.setTop (mkF m 24 #[.val (.int p1), .val (.int p2), .val (.int cd), .unset, .unset, .unset, .unset, .unset, .unset, .unset] [(.int (1 : Int32)), (.int p2)]))
    refine Go.step (fun _ kt => XS.iand X0.here hx rfl (hb hby at_24) rfl kt) ?_
    show Go p.tables e below _ (s₁.setTop (mkF m 25 #[.val (.int p1), .val (.int p2), .val (.int cd), .unset, .unset, .unset, .unset, .unset, .unset, .unset] [(.int (p2 &&& (1 : Int32)))]))
    by_cases hc25_101 : (p2 &&& (1 : Int32)) = (0 : Int32)
    · refine Go.step (fun _ kt => XS.ifYes X0.here hx rfl (pc0 := 25) (pc' := 32) rfl (hb hby at_25) rfl ((if0 _ _).trans (teq hc25_101).1) (by decide) (by decide) kt) ?_
      show Go p.tables e below _ (s₁.setTop (mkF m 32 #[.val (.int p1), .val (.int p2), .val (.int cd), .unset, .unset, .unset, .unset, .unset, .unset, .unset] []))
      refine Go.step (fun _ kt => XS.iconst X0.here hx rfl (hb hby at_32) kt) ?_
      show Go p.tables e below _ (s₁.setTop (mkF m 33 #[.val (.int p1), .val (.int p2), .val (.int cd), .unset, .unset, .unset, .unset, .unset, .unset, .unset] [(.int (0 : Int32))]))
      refine Go.step (fun _ kt => XS.istoreN X0.here hx rfl (hb hby at_33) rfl (l' := #[.val (.int p1), .val (.int p2), .val (.int cd), .val (.int (0 : Int32)), .unset, .unset, .unset, .unset, .unset, .unset]) rfl kt) ?_
      show Go p.tables e below _ (s₁.setTop (mkF m 34 #[.val (.int p1), .val (.int p2), .val (.int cd), .val (.int (0 : Int32)), .unset, .unset, .unset, .unset, .unset, .unset] []))
      refine Go.step (fun _ kt => XS.iloadN X0.here hx rfl (hb hby at_34) rfl kt) ?_
      show Go p.tables e below _ (s₁.setTop (mkF m 35 #[.val (.int p1), .val (.int p2), .val (.int cd), .val (.int (0 : Int32)), .unset, .unset, .unset, .unset, .unset, .unset] [(.int (0 : Int32))]))
      refine Go.step (fun _ kt => XS.ifYes X0.here hx rfl (pc0 := 35) (pc' := 42) rfl (hb hby at_35) rfl ((if0 _ _).trans (teq (by decide : (0 : Int32) = (0 : Int32))).1) (by decide) (by decide) kt) ?_
      show Go p.tables e below _ (s₁.setTop (mkF m 42 #[.val (.int p1), .val (.int p2), .val (.int cd), .val (.int (0 : Int32)), .unset, .unset, .unset, .unset, .unset, .unset] []))
      refine Go.step (fun _ kt => XS.iloadN X0.here hx rfl (hb hby at_42) rfl kt) ?_
      show Go p.tables e below _ (s₁.setTop (mkF m 43 #[.val (.int p1), .val (.int p2), .val (.int cd), .val (.int (0 : Int32)), .unset, .unset, .unset, .unset, .unset, .unset] [(.int cd)]))
      obtain ⟨_, _, ⟨T102, L102, k102, n102⟩, -, X102, ⟨Lc102, hQ102, l102, y102, z102⟩, st102⟩ := Jvm.LawKit.callS X0 hx (y := (⟨"java/lang/Integer", "valueOf", "(I)Ljava/lang/Integer;"⟩ : MethodName)) hown (mvT hZ (hw _ (List.mem_of_getElem? (i := 29) rfl))) (mvT hZ (hw _ (List.mem_of_getElem? (i := 30) rfl))) (mvT hZ (hw _ (List.mem_of_getElem? (i := 31) rfl))) (mvT hZ (hw _ (List.mem_of_getElem? (i := 32) rfl))) (by decide) (backOf (W := 0) (rm5 l Z a0 hw [] cd ca cc h0 n0 Z0 S_high S_cache Bx O0) hZ (hw _ (List.mem_of_getElem? (i := 32) rfl)) (hw _ (List.mem_of_getElem? (i := 31) rfl)) (by decide) (by decide)) (g := (mkF m 43 #[.val (.int p1), .val (.int p2), .val (.int cd), .val (.int (0 : Int32)), .unset, .unset, .unset, .unset, .unset, .unset] [(.int cd)])) rfl (by rw [hml]; rfl) (argsL := [(.int cd)]) (rest := []) (lenOf pd_3 rfl) rfl (by show 2 * 0 + _ ≤ _; exact Nat.le_of_eq rfl) (hb hby at_43) (fun _ _ => ⟨rfl, e0, (by decide : 0 + 1 ≤ _), (by decide : 0 + 1 ≤ _)⟩)
      dsimp only [Pt.U, Pt.locs, Pt.cells, Pt.slots] at X102 l102 y102 z102 st102 hQ102
      subst l102 y102 z102
      obtain ⟨b102r, rfl, N102q, Kq102, P103, P104⟩ := hQ102
      have Z105 : n0 ≤ T102.heap.size := (Nat.le_trans Z0 Kq102.1)
      have hk106 : _ ≤ T102.heap.size := (Nat.le_trans hk0 Kq102.1)
      have N102 := Fr.app N0 N102q
      refine Go.step st102 ?_
      show Go p.tables e below _ (T102.setTop (mkF m 46 #[.val (.int p1), .val (.int p2), .val (.int cd), .val (.int (0 : Int32)), .unset, .unset, .unset, .unset, .unset, .unset] [(.ref b102r)]))
      refine Go.step (fun _ kt => XS.astore X102.here hx rfl (hb hby at_46) rfl rfl (l' := #[.val (.int p1), .val (.int p2), .val (.int cd), .val (.int (0 : Int32)), .val (.ref b102r), .unset, .unset, .unset, .unset, .unset]) rfl kt) ?_
      show Go p.tables e below _ (T102.setTop (mkF m 48 #[.val (.int p1), .val (.int p2), .val (.int cd), .val (.int (0 : Int32)), .val (.ref b102r), .unset, .unset, .unset, .unset, .unset] []))
      refine Go.step (fun _ kt => XS.iloadN X102.here hx rfl (hb hby at_48) rfl kt) ?_
      show Go p.tables e below _ (T102.setTop (mkF m 49 #[.val (.int p1), .val (.int p2), .val (.int cd), .val (.int (0 : Int32)), .val (.ref b102r), .unset, .unset, .unset, .unset, .unset] [(.int p2)]))
      refine Go.step (fun _ kt => XS.iconst X102.here hx rfl (hb hby at_49) kt) ?_
      show Go p.tables e below _ (T102.setTop (mkF m 50 #[.val (.int p1), .val (.int p2), .val (.int cd), .val (.int (0 : Int32)), .val (.ref b102r), .unset, .unset, .unset, .unset, .unset] [(.int (4 : Int32)), (.int p2)]))
      refine Go.step (fun _ kt => XS.iand X102.here hx rfl (hb hby at_50) rfl kt) ?_
      show Go p.tables e below _ (T102.setTop (mkF m 51 #[.val (.int p1), .val (.int p2), .val (.int cd), .val (.int (0 : Int32)), .val (.ref b102r), .unset, .unset, .unset, .unset, .unset] [(.int (p2 &&& (4 : Int32)))]))
      by_cases hc51_107 : (p2 &&& (4 : Int32)) = (0 : Int32)
      · refine Go.step (fun _ kt => XS.ifYes X102.here hx rfl (pc0 := 51) (pc' := 59) rfl (hb hby at_51) rfl ((if0 _ _).trans (teq hc51_107).1) (by decide) (by decide) kt) ?_
        show Go p.tables e below _ (T102.setTop (mkF m 59 #[.val (.int p1), .val (.int p2), .val (.int cd), .val (.int (0 : Int32)), .val (.ref b102r), .unset, .unset, .unset, .unset, .unset] []))
        refine Go.step (fun _ kt => XS.aconstNull X102.here hx rfl (hb hby at_59) kt) ?_
        show Go p.tables e below _ (T102.setTop (mkF m 60 #[.val (.int p1), .val (.int p2), .val (.int cd), .val (.int (0 : Int32)), .val (.ref b102r), .unset, .unset, .unset, .unset, .unset] [.null]))
        refine Go.step (fun _ kt => XS.astore X102.here hx rfl (hb hby at_60) rfl rfl (l' := #[.val (.int p1), .val (.int p2), .val (.int cd), .val (.int (0 : Int32)), .val (.ref b102r), .val .null, .unset, .unset, .unset, .unset]) rfl kt) ?_
        show Go p.tables e below _ (T102.setTop (mkF m 62 #[.val (.int p1), .val (.int p2), .val (.int cd), .val (.int (0 : Int32)), .val (.ref b102r), .val .null, .unset, .unset, .unset, .unset] []))
        refine Go.step (fun _ kt => XS.iloadN X102.here hx rfl (hb hby at_62) rfl kt) ?_
        show Go p.tables e below _ (T102.setTop (mkF m 63 #[.val (.int p1), .val (.int p2), .val (.int cd), .val (.int (0 : Int32)), .val (.ref b102r), .val .null, .unset, .unset, .unset, .unset] [(.int p2)]))
        refine Go.step (fun _ kt => XS.iconst X102.here hx rfl (hb hby at_63) kt) ?_
        show Go p.tables e below _ (T102.setTop (mkF m 64 #[.val (.int p1), .val (.int p2), .val (.int cd), .val (.int (0 : Int32)), .val (.ref b102r), .val .null, .unset, .unset, .unset, .unset] [(.int (3 : Int32)), (.int p2)]))
        refine Go.step (fun _ kt => XS.iushr X102.here hx rfl (hb hby at_64) rfl kt) ?_
        show Go p.tables e below _ (T102.setTop (mkF m 65 #[.val (.int p1), .val (.int p2), .val (.int cd), .val (.int (0 : Int32)), .val (.ref b102r), .val .null, .unset, .unset, .unset, .unset] [(.int ((p2.toUInt32 >>> ((3 : Int32) &&& 31).toUInt32).toInt32))]))
        refine Go.step (fun _ kt => XS.iconst X102.here hx rfl (hb hby at_65) kt) ?_
        show Go p.tables e below _ (T102.setTop (mkF m 66 #[.val (.int p1), .val (.int p2), .val (.int cd), .val (.int (0 : Int32)), .val (.ref b102r), .val .null, .unset, .unset, .unset, .unset] [(.int (3 : Int32)), (.int ((p2.toUInt32 >>> ((3 : Int32) &&& 31).toUInt32).toInt32))]))
        refine Go.step (fun _ kt => XS.iand X102.here hx rfl (hb hby at_66) rfl kt) ?_
        show Go p.tables e below _ (T102.setTop (mkF m 67 #[.val (.int p1), .val (.int p2), .val (.int cd), .val (.int (0 : Int32)), .val (.ref b102r), .val .null, .unset, .unset, .unset, .unset] [(.int (((p2.toUInt32 >>> ((3 : Int32) &&& 31).toUInt32).toInt32) &&& (3 : Int32)))]))
        obtain ⟨ln, e_ln⟩ : ∃ nm_, nm_ = (((p2.toUInt32 >>> ((3 : Int32) &&& 31).toUInt32).toInt32) &&& (3 : Int32)) := ⟨_, rfl⟩
        rw [← e_ln]
        show Go p.tables e below _ (T102.setTop (mkF m 67 #[.val (.int p1), .val (.int p2), .val (.int cd), .val (.int (0 : Int32)), .val (.ref b102r), .val .null, .unset, .unset, .unset, .unset] [(.int ln)]))
        obtain ⟨T108, h108, k108, X108, e108, E108, A108, st108⟩ := newP X102 hx hZ (hw _ (List.mem_of_getElem? (i := 1) rfl)) rfl (g := (mkF m 67 #[.val (.int p1), .val (.int p2), .val (.int cd), .val (.int (0 : Int32)), .val (.ref b102r), .val .null, .unset, .unset, .unset, .unset] [(.int ln)])) rfl (hb hby at_67) rfl (by rw [e_ln]; exact (own_cap _).1) (cap := 3) (by rw [e_ln]; exact (own_cap _).2) (by decide) (by decide) (by decide)
        obtain ⟨b108, g108⟩ : ∃ z, z = T102.heap.size := ⟨_, rfl⟩
        rw [← g108] at A108 st108
        refine Go.step st108 ?_
        have ne_b102r_b108 : b102r ≠ b108 := Nat.ne_of_lt (Nat.lt_of_lt_of_le P103.lt (Nat.le_of_eq g108.symm))
        have g_b108 : n0 ≤ b108 := Nat.le_trans Z105 (Nat.le_of_eq g108.symm)
        have F109 : Exa Z h108 b102r "java/lang/Integer" := (P103.ext E108)
        have F110 : Fld Z h108 b102r "java/lang/Integer" "value" "I" (.int cd) := (P104.ext E108)
        have Z111 : n0 ≤ h108.size := (Nat.le_trans Z105 E108.1)
        have hk112 : _ ≤ h108.size := (Nat.le_trans hk106 E108.1)
        have V113 : Arv Z h108 b108 k108 .byte ln [(.int (0 : Int32)), (.int (0 : Int32)), (.int (0 : Int32))] (.int (0 : Int32)) := (Arv.new A108 (by rw [e_ln]; exact (own_cap _).1)).pad (pad_rep [] (.int (0 : Int32)) 3)
        show Go p.tables e below _ (T108.setTop (mkF m 69 #[.val (.int p1), .val (.int p2), .val (.int cd), .val (.int (0 : Int32)), .val (.ref b102r), .val .null, .unset, .unset, .unset, .unset] [(.ref b108)]))
        refine Go.step (fun _ kt => XS.astore X108.here hx rfl (hb hby at_69) rfl rfl (l' := #[.val (.int p1), .val (.int p2), .val (.int cd), .val (.int (0 : Int32)), .val (.ref b102r), .val .null, .val (.ref b108), .unset, .unset, .unset]) rfl kt) ?_
        show Go p.tables e below _ (T108.setTop (mkF m 71 #[.val (.int p1), .val (.int p2), .val (.int cd), .val (.int (0 : Int32)), .val (.ref b102r), .val .null, .val (.ref b108), .unset, .unset, .unset] []))
        refine Go.step (fun _ kt => XS.iloadN X108.here hx rfl (hb hby at_71) rfl kt) ?_
        show Go p.tables e below _ (T108.setTop (mkF m 72 #[.val (.int p1), .val (.int p2), .val (.int cd), .val (.int (0 : Int32)), .val (.ref b102r), .val .null, .val (.ref b108), .unset, .unset, .unset] [(.int p2)]))
        refine Go.step (fun _ kt => XS.bipush X108.here hx rfl (hb hby at_72) kt) ?_
        show Go p.tables e below _ (T108.setTop (mkF m 74 #[.val (.int p1), .val (.int p2), .val (.int cd), .val (.int (0 : Int32)), .val (.ref b102r), .val .null, .val (.ref b108), .unset, .unset, .unset] [(.int (32 : Int32)), (.int p2)]))
        refine Go.step (fun _ kt => XS.iand X108.here hx rfl (hb hby at_74) rfl kt) ?_
        show Go p.tables e below _ (T108.setTop (mkF m 75 #[.val (.int p1), .val (.int p2), .val (.int cd), .val (.int (0 : Int32)), .val (.ref b102r), .val .null, .val (.ref b108), .unset, .unset, .unset] [(.int (p2 &&& (32 : Int32)))]))
        by_cases hc75_114 : (p2 &&& (32 : Int32)) = (0 : Int32)
        · refine Go.step (fun _ kt => XS.ifYes X108.here hx rfl (pc0 := 75) (pc' := 83) rfl (hb hby at_75) rfl ((if0 _ _).trans (teq hc75_114).1) (by decide) (by decide) kt) ?_
          show Go p.tables e below _ (T108.setTop (mkF m 83 #[.val (.int p1), .val (.int p2), .val (.int cd), .val (.int (0 : Int32)), .val (.ref b102r), .val .null, .val (.ref b108), .unset, .unset, .unset] []))
          refine Go.step (fun _ kt => XS.aconstNull X108.here hx rfl (hb hby at_83) kt) ?_
          show Go p.tables e below _ (T108.setTop (mkF m 84 #[.val (.int p1), .val (.int p2), .val (.int cd), .val (.int (0 : Int32)), .val (.ref b102r), .val .null, .val (.ref b108), .unset, .unset, .unset] [.null]))
          refine Go.step (fun _ kt => XS.astore X108.here hx rfl (hb hby at_84) rfl rfl (l' := #[.val (.int p1), .val (.int p2), .val (.int cd), .val (.int (0 : Int32)), .val (.ref b102r), .val .null, .val (.ref b108), .val .null, .unset, .unset]) rfl kt) ?_
          show Go p.tables e below _ (T108.setTop (mkF m 86 #[.val (.int p1), .val (.int p2), .val (.int cd), .val (.int (0 : Int32)), .val (.ref b102r), .val .null, .val (.ref b108), .val .null, .unset, .unset] []))
          obtain ⟨T115, h115, X115, e115, E115, A115, D115, -, st115⟩ := newO X108 hx hZ hown (hw _ (List.mem_of_getElem? (i := 2) rfl)) (hw _ (List.mem_of_getElem? (i := 3) rfl)) (hw _ (List.mem_of_getElem? (i := 4) rfl)) e108 (g := (mkF m 86 #[.val (.int p1), .val (.int p2), .val (.int cd), .val (.int (0 : Int32)), .val (.ref b102r), .val .null, .val (.ref b108), .val .null, .unset, .unset] [])) rfl (hb hby at_86) (by decide) (by decide)
          obtain ⟨b115, g115⟩ : ∃ z, z = h108.size := ⟨_, rfl⟩
          rw [← g115] at A115 D115 st115
          refine Go.step st115 ?_
          have ne_b102r_b115 : b102r ≠ b115 := Nat.ne_of_lt (Nat.lt_of_lt_of_le F109.lt (Nat.le_of_eq g115.symm))
          have ne_b108_b115 : b108 ≠ b115 := Nat.ne_of_lt (Nat.lt_of_lt_of_le V113.lt (Nat.le_of_eq g115.symm))
          have g_b115 : n0 ≤ b115 := Nat.le_trans Z111 (Nat.le_of_eq g115.symm)
          have F116 : Exa Z h115 b102r "java/lang/Integer" := (F109.ext E115)
          have F117 : Fld Z h115 b102r "java/lang/Integer" "value" "I" (.int cd) := (F110.ext E115)
          have F118 : Arv Z h115 b108 k108 .byte ln [(.int (0 : Int32)), (.int (0 : Int32)), (.int (0 : Int32))] (.int (0 : Int32)) := (V113.ext E115)
          have Z119 : n0 ≤ h115.size := (Nat.le_trans Z111 E115.1)
          have hk120 : _ ≤ h115.size := (Nat.le_trans hk112 E115.1)
          have F121 : Fld Z h115 b115 "com/example/patient_courier/patientcourier/delivery/AttemptResult" "status" "Ljava/lang/Integer;" .null := D115 (Or.inr (hw _ (List.mem_of_getElem? (i := 17) rfl))) (ty := (.object "java/lang/Integer")) (by decide)
          have F122 : Fld Z h115 b115 "com/example/patient_courier/patientcourier/delivery/AttemptResult" "error" "Ljava/lang/String;" .null := D115 (Or.inr (hw _ (List.mem_of_getElem? (i := 19) rfl))) (ty := (.object "java/lang/String")) (by decide)
          have F123 : Fld Z h115 b115 "com/example/patient_courier/patientcourier/delivery/AttemptResult" "preview" "[B" .null := D115 (Or.inr (hw _ (List.mem_of_getElem? (i := 21) rfl))) (ty := (.array .byte)) (by decide)
          have F124 : Fld Z h115 b115 "com/example/patient_courier/patientcourier/delivery/AttemptResult" "retryAfter" "Ljava/lang/String;" .null := D115 (Or.inr (hw _ (List.mem_of_getElem? (i := 23) rfl))) (ty := (.object "java/lang/String")) (by decide)
          show Go p.tables e below _ (T115.setTop (mkF m 89 #[.val (.int p1), .val (.int p2), .val (.int cd), .val (.int (0 : Int32)), .val (.ref b102r), .val .null, .val (.ref b108), .val .null, .unset, .unset] [(.ref b115)]))
          refine Go.step (fun _ kt => XS.dup X115.here hx rfl (hb hby at_89) rfl rfl kt) ?_
          show Go p.tables e below _ (T115.setTop (mkF m 90 #[.val (.int p1), .val (.int p2), .val (.int cd), .val (.int (0 : Int32)), .val (.ref b102r), .val .null, .val (.ref b108), .val .null, .unset, .unset] [(.ref b115), (.ref b115)]))
          refine Go.step (fun _ kt => XS.aload X115.here hx rfl (hb hby at_90) rfl rfl kt) ?_
          show Go p.tables e below _ (T115.setTop (mkF m 92 #[.val (.int p1), .val (.int p2), .val (.int cd), .val (.int (0 : Int32)), .val (.ref b102r), .val .null, .val (.ref b108), .val .null, .unset, .unset] [(.ref b102r), (.ref b115), (.ref b115)]))
          refine Go.step (fun _ kt => XS.aload X115.here hx rfl (hb hby at_92) rfl rfl kt) ?_
          show Go p.tables e below _ (T115.setTop (mkF m 94 #[.val (.int p1), .val (.int p2), .val (.int cd), .val (.int (0 : Int32)), .val (.ref b102r), .val .null, .val (.ref b108), .val .null, .unset, .unset] [.null, (.ref b102r), (.ref b115), (.ref b115)]))
          refine Go.step (fun _ kt => XS.aload X115.here hx rfl (hb hby at_94) rfl rfl kt) ?_
          show Go p.tables e below _ (T115.setTop (mkF m 96 #[.val (.int p1), .val (.int p2), .val (.int cd), .val (.int (0 : Int32)), .val (.ref b102r), .val .null, .val (.ref b108), .val .null, .unset, .unset] [(.ref b108), .null, (.ref b102r), (.ref b115), (.ref b115)]))
          refine Go.step (fun _ kt => XS.aload X115.here hx rfl (hb hby at_96) rfl rfl kt) ?_
          show Go p.tables e below _ (T115.setTop (mkF m 98 #[.val (.int p1), .val (.int p2), .val (.int cd), .val (.int (0 : Int32)), .val (.ref b102r), .val .null, .val (.ref b108), .val .null, .unset, .unset] [.null, (.ref b108), .null, (.ref b102r), (.ref b115), (.ref b115)]))
          obtain ⟨_, _, ⟨T125, L125, k125, n125⟩, -, X125, ⟨Lc125, hQ125, l125, y125, z125⟩, st125⟩ := X115.specialBack hx (y := (⟨"com/example/patient_courier/patientcourier/delivery/AttemptResult", "<init>", "(Ljava/lang/Integer;Ljava/lang/String;[BLjava/lang/String;)V"⟩ : MethodName)) rfl hown (mvT hZ (hw _ (List.mem_of_getElem? (i := 5) rfl))) (mvT hZ (hw _ (List.mem_of_getElem? (i := 6) rfl))) (mvT hZ (hw _ (List.mem_of_getElem? (i := 7) rfl))) (by decide) (backOf (W := 1) (rmi_rnrn l Z a0 hw [] b115 b102r b108 .null .null .null .null h115 n0 Z119 A115 F121 F122 F123 F124 g_b115) hZ (hw _ (List.mem_of_getElem? (i := 7) rfl)) (hw _ (List.mem_of_getElem? (i := 4) rfl)) (by decide) (by decide)) (g := (mkF m 98 #[.val (.int p1), .val (.int p2), .val (.int cd), .val (.int (0 : Int32)), .val (.ref b102r), .val .null, .val (.ref b108), .val .null, .unset, .unset] [.null, (.ref b108), .null, (.ref b102r), (.ref b115), (.ref b115)])) rfl (by rw [hml]; rfl) (Steps.refl _) (a := b115) (argsL := [(.ref b102r), .null, (.ref b108), .null]) (rest := [(.ref b115)]) (lenOf pd_4 rfl) rfl (by show 2 * 0 + _ ≤ _; exact Nat.le_of_eq rfl) (hb hby at_98) (fun _ _ => ⟨rfl, e115, (by decide : 3 + 0 ≤ _), (by decide : 8 + 0 ≤ _)⟩)
          dsimp only [Pt.U, Pt.locs, Pt.cells, Pt.slots] at X125 l125 y125 z125 st125 hQ125
          subst l125 y125 z125
          obtain ⟨rfl, N125q, Kq125, P126, P127⟩ := hQ125
          have F128 : Exa Z T125.heap b102r "java/lang/Integer" := (F116.keep Kq125)
          have F129 : Fld Z T125.heap b102r "java/lang/Integer" "value" "I" (.int cd) := (F117.keep Kq125 (fun q => ne_b102r_b115 (List.mem_singleton.mp q)))
          have F130 : Arv Z T125.heap b108 k108 .byte ln [(.int (0 : Int32)), (.int (0 : Int32)), (.int (0 : Int32))] (.int (0 : Int32)) := (F118.keep Kq125 (fun q => ne_b108_b115 (List.mem_singleton.mp q)))
          have F131 : Exa Z T125.heap b115 "com/example/patient_courier/patientcourier/delivery/AttemptResult" := (A115.keep Kq125)
          have Z132 : n0 ≤ T125.heap.size := (Nat.le_trans Z119 Kq125.1)
          have hk133 : _ ≤ T125.heap.size := (Nat.le_trans hk120 Kq125.1)
          have N125 := Fr.app N102 N125q
          refine Go.step (fun _ kt => st125.trans kt) ?_
          show Go p.tables e below _ (T125.setTop (mkF m 101 #[.val (.int p1), .val (.int p2), .val (.int cd), .val (.int (0 : Int32)), .val (.ref b102r), .val .null, .val (.ref b108), .val .null, .unset, .unset] [(.ref b115)]))
          refine Go.step (fun _ kt => XS.astore X125.here hx rfl (hb hby at_101) rfl rfl (l' := #[.val (.int p1), .val (.int p2), .val (.int cd), .val (.int (0 : Int32)), .val (.ref b102r), .val .null, .val (.ref b108), .val .null, .val (.ref b115), .unset]) rfl kt) ?_
          show Go p.tables e below _ (T125.setTop (mkF m 103 #[.val (.int p1), .val (.int p2), .val (.int cd), .val (.int (0 : Int32)), .val (.ref b102r), .val .null, .val (.ref b108), .val .null, .val (.ref b115), .unset] []))
          refine Go.step (fun _ kt => XS.iloadN X125.here hx rfl (hb hby at_103) rfl kt) ?_
          show Go p.tables e below _ (T125.setTop (mkF m 104 #[.val (.int p1), .val (.int p2), .val (.int cd), .val (.int (0 : Int32)), .val (.ref b102r), .val .null, .val (.ref b108), .val .null, .val (.ref b115), .unset] [(.int (0 : Int32))]))
          refine Go.step (fun _ kt => XS.ifNo X125.here hx rfl (hb hby at_104) rfl ((if0 _ _).trans (teq (by decide : (0 : Int32) = (0 : Int32))).2) kt) ?_
          show Go p.tables e below _ (T125.setTop (mkF m 107 #[.val (.int p1), .val (.int p2), .val (.int cd), .val (.int (0 : Int32)), .val (.ref b102r), .val .null, .val (.ref b108), .val .null, .val (.ref b115), .unset] []))
          refine Go.step (fun _ kt => XS.iloadN X125.here hx rfl (hb hby at_107) rfl kt) ?_
          show Go p.tables e below _ (T125.setTop (mkF m 108 #[.val (.int p1), .val (.int p2), .val (.int cd), .val (.int (0 : Int32)), .val (.ref b102r), .val .null, .val (.ref b108), .val .null, .val (.ref b115), .unset] [(.int cd)]))
          refine Go.step (fun _ kt => XS.bipush X125.here hx rfl (hb hby at_108) kt) ?_
          show Go p.tables e below _ (T125.setTop (mkF m 110 #[.val (.int p1), .val (.int p2), .val (.int cd), .val (.int (0 : Int32)), .val (.ref b102r), .val .null, .val (.ref b108), .val .null, .val (.ref b115), .unset] [(.int (100 : Int32)), (.int cd)]))
          refine Go.step (fun _ kt => XS.idiv X125.here hx rfl (hb hby at_110) rfl (by decide) kt) ?_
          show Go p.tables e below _ (T125.setTop (mkF m 111 #[.val (.int p1), .val (.int p2), .val (.int cd), .val (.int (0 : Int32)), .val (.ref b102r), .val .null, .val (.ref b108), .val .null, .val (.ref b115), .unset] [(.int (cd / (100 : Int32)))]))
          refine Go.step (fun _ kt => XS.iconst X125.here hx rfl (hb hby at_111) kt) ?_
          show Go p.tables e below _ (T125.setTop (mkF m 112 #[.val (.int p1), .val (.int p2), .val (.int cd), .val (.int (0 : Int32)), .val (.ref b102r), .val .null, .val (.ref b108), .val .null, .val (.ref b115), .unset] [(.int (2 : Int32)), (.int (cd / (100 : Int32)))]))
          by_cases hc112_134 : (cd / (100 : Int32)) = (2 : Int32)
          · refine Go.step (fun _ kt => XS.icmpNo X125.here hx rfl (hb hby at_112) rfl (teq hc112_134).2 kt) ?_
            show Go p.tables e below _ (T125.setTop (mkF m 115 #[.val (.int p1), .val (.int p2), .val (.int cd), .val (.int (0 : Int32)), .val (.ref b102r), .val .null, .val (.ref b108), .val .null, .val (.ref b115), .unset] []))
            refine Go.step (fun _ kt => XS.iconst X125.here hx rfl (hb hby at_115) kt) ?_
            show Go p.tables e below _ (T125.setTop (mkF m 116 #[.val (.int p1), .val (.int p2), .val (.int cd), .val (.int (0 : Int32)), .val (.ref b102r), .val .null, .val (.ref b108), .val .null, .val (.ref b115), .unset] [(.int (1 : Int32))]))
            refine Go.step (fun _ kt => XS.goto X125.here hx rfl (pc0 := 116) (pc' := 120) rfl (hb hby at_116) (by decide) (by decide) kt) ?_
            show Go p.tables e below _ (T125.setTop (mkF m 120 #[.val (.int p1), .val (.int p2), .val (.int cd), .val (.int (0 : Int32)), .val (.ref b102r), .val .null, .val (.ref b108), .val .null, .val (.ref b115), .unset] [(.int (1 : Int32))]))
            refine Go.step (fun _ kt => XS.istore X125.here hx rfl (hb hby at_120) rfl (l' := #[.val (.int p1), .val (.int p2), .val (.int cd), .val (.int (0 : Int32)), .val (.ref b102r), .val .null, .val (.ref b108), .val .null, .val (.ref b115), .val (.int (1 : Int32))]) rfl kt) ?_
            show Go p.tables e below _ (T125.setTop (mkF m 122 #[.val (.int p1), .val (.int p2), .val (.int cd), .val (.int (0 : Int32)), .val (.ref b102r), .val .null, .val (.ref b108), .val .null, .val (.ref b115), .val (.int (1 : Int32))] []))
            refine Go.step (fun _ kt => XS.aload X125.here hx rfl (hb hby at_122) rfl rfl kt) ?_
            show Go p.tables e below _ (T125.setTop (mkF m 124 #[.val (.int p1), .val (.int p2), .val (.int cd), .val (.int (0 : Int32)), .val (.ref b102r), .val .null, .val (.ref b108), .val .null, .val (.ref b115), .val (.int (1 : Int32))] [(.ref b115)]))
            obtain ⟨cq135, kq135, q135a, q135b, q135c⟩ := isOf hZ rfl P126
            obtain ⟨_, _, ⟨T135, L135, k135, n135⟩, -, X135, ⟨Lc135, hQ135, l135, y135, z135⟩, st135⟩ := X125.virtualBack hx (y := (⟨"com/example/patient_courier/patientcourier/delivery/AttemptResult", "delivered", "()Z"⟩ : MethodName)) (z := (⟨"com/example/patient_courier/patientcourier/delivery/AttemptResult", "delivered", "()Z"⟩ : MethodName)) hown (mvT hZ (hw _ (List.mem_of_getElem? (i := 24) rfl))) (mvT hZ (hw _ (List.mem_of_getElem? (i := 25) rfl))) (notFace_of_selects (args := #[]) (mvT hZ (hw _ (List.mem_of_getElem? (i := 27) rfl)))) (mvT hZ (hw _ (List.mem_of_getElem? (i := 27) rfl))) (mvT hZ (hw _ (List.mem_of_getElem? (i := 26) rfl))) (by decide) (backOf (W := 0) (rmds l Z a0 hw [] b115 b102r cd T125.heap n0 Z132 P127 F128 F129 ) hZ (hw _ (List.mem_of_getElem? (i := 28) rfl)) (hw _ (List.mem_of_getElem? (i := 4) rfl)) (by decide) (by decide)) q135a q135c (g := (mkF m 124 #[.val (.int p1), .val (.int p2), .val (.int cd), .val (.int (0 : Int32)), .val (.ref b102r), .val .null, .val (.ref b108), .val .null, .val (.ref b115), .val (.int (1 : Int32))] [(.ref b115)])) rfl (by rw [hml]; rfl) (Steps.refl _) (argsL := []) (rest := []) (lenOf pd_5 rfl) rfl (by show 2 * 0 + _ ≤ _; exact Nat.le_of_eq rfl) (hb hby at_124) (fun _ _ => ⟨rfl, rfl, (by decide : 3 + 0 ≤ _), (by decide : 8 + 0 ≤ _)⟩)
            dsimp only [Pt.U, Pt.locs, Pt.cells, Pt.slots] at X135 l135 y135 z135 st135 hQ135
            subst l135 y135 z135
            obtain ⟨rfl, N135q, eh135⟩ := hQ135
            have N135 := Fr.app N125 N135q
            refine Go.step (fun _ kt => st135.trans kt) ?_
            show Go p.tables e below _ (T135.setTop (mkF m 127 #[.val (.int p1), .val (.int p2), .val (.int cd), .val (.int (0 : Int32)), .val (.ref b102r), .val .null, .val (.ref b108), .val .null, .val (.ref b115), .val (.int (1 : Int32))] [(.int (own_del cd))]))
            have q136 : (own_del cd) = (1 : Int32) := (own_dl cd).1 hc112_134
            rw [q136]
            show Go p.tables e below _ (T135.setTop (mkF m 127 #[.val (.int p1), .val (.int p2), .val (.int cd), .val (.int (0 : Int32)), .val (.ref b102r), .val .null, .val (.ref b108), .val .null, .val (.ref b115), .val (.int (1 : Int32))] [(.int (1 : Int32))]))
            refine Go.step (fun _ kt => XS.iload X135.here hx rfl (hb hby at_127) rfl kt) ?_
            show Go p.tables e below _ (T135.setTop (mkF m 129 #[.val (.int p1), .val (.int p2), .val (.int cd), .val (.int (0 : Int32)), .val (.ref b102r), .val .null, .val (.ref b108), .val .null, .val (.ref b115), .val (.int (1 : Int32))] [(.int (1 : Int32)), (.int (1 : Int32))]))
            refine Go.step (fun _ kt => XS.icmpNo X135.here hx rfl (hb hby at_129) rfl (teq (by decide : (1 : Int32) = (1 : Int32))).2 kt) ?_
            show Go p.tables e below _ (T135.setTop (mkF m 132 #[.val (.int p1), .val (.int p2), .val (.int cd), .val (.int (0 : Int32)), .val (.ref b102r), .val .null, .val (.ref b108), .val .null, .val (.ref b115), .val (.int (1 : Int32))] []))
            refine Go.step (fun _ kt => XS.iconst X135.here hx rfl (hb hby at_132) kt) ?_
            show Go p.tables e below _ (T135.setTop (mkF m 133 #[.val (.int p1), .val (.int p2), .val (.int cd), .val (.int (0 : Int32)), .val (.ref b102r), .val .null, .val (.ref b108), .val .null, .val (.ref b115), .val (.int (1 : Int32))] [(.int (1 : Int32))]))
            refine Go.step (fun _ kt => XS.goto X135.here hx rfl (pc0 := 133) (pc' := 137) rfl (hb hby at_133) (by decide) (by decide) kt) ?_
            show Go p.tables e below _ (T135.setTop (mkF m 137 #[.val (.int p1), .val (.int p2), .val (.int cd), .val (.int (0 : Int32)), .val (.ref b102r), .val .null, .val (.ref b108), .val .null, .val (.ref b115), .val (.int (1 : Int32))] [(.int (1 : Int32))]))
            obtain ⟨fs, hr, hrun, hended, hRW⟩ := X135.leaveW hS0 (by rw [eh135]; exact hk133) (v := some (.int (1 : Int32))) (fun h => by rw [Bd.returns] at h; cases h)
            refine ⟨_, _, retN X135 hx (t := .boolean) Bd.returns (by simp) (hb hby at_137) hr, hrun, hended, _, _, rfl, ?_, hRW.1, hRW.2.1, hRW.2.2.1, hRW.2.2.2.mono (by decide) (by decide)⟩
            show Qrm0 Z p1 p2 ca cc h0 n0 _ T135.heap _
            rw [eh135]
            exact ⟨rfl, N135⟩
          · refine Go.step (fun _ kt => XS.icmpYes X125.here hx rfl (pc0 := 112) (pc' := 119) rfl (hb hby at_112) rfl (feq hc112_134).2 (by decide) (by decide) kt) ?_
            show Go p.tables e below _ (T125.setTop (mkF m 119 #[.val (.int p1), .val (.int p2), .val (.int cd), .val (.int (0 : Int32)), .val (.ref b102r), .val .null, .val (.ref b108), .val .null, .val (.ref b115), .unset] []))
            refine Go.step (fun _ kt => XS.iconst X125.here hx rfl (hb hby at_119) kt) ?_
            show Go p.tables e below _ (T125.setTop (mkF m 120 #[.val (.int p1), .val (.int p2), .val (.int cd), .val (.int (0 : Int32)), .val (.ref b102r), .val .null, .val (.ref b108), .val .null, .val (.ref b115), .unset] [(.int (0 : Int32))]))
            refine Go.step (fun _ kt => XS.istore X125.here hx rfl (hb hby at_120) rfl (l' := #[.val (.int p1), .val (.int p2), .val (.int cd), .val (.int (0 : Int32)), .val (.ref b102r), .val .null, .val (.ref b108), .val .null, .val (.ref b115), .val (.int (0 : Int32))]) rfl kt) ?_
            show Go p.tables e below _ (T125.setTop (mkF m 122 #[.val (.int p1), .val (.int p2), .val (.int cd), .val (.int (0 : Int32)), .val (.ref b102r), .val .null, .val (.ref b108), .val .null, .val (.ref b115), .val (.int (0 : Int32))] []))
            refine Go.step (fun _ kt => XS.aload X125.here hx rfl (hb hby at_122) rfl rfl kt) ?_
            show Go p.tables e below _ (T125.setTop (mkF m 124 #[.val (.int p1), .val (.int p2), .val (.int cd), .val (.int (0 : Int32)), .val (.ref b102r), .val .null, .val (.ref b108), .val .null, .val (.ref b115), .val (.int (0 : Int32))] [(.ref b115)]))
            obtain ⟨cq137, kq137, q137a, q137b, q137c⟩ := isOf hZ rfl P126
            obtain ⟨_, _, ⟨T137, L137, k137, n137⟩, -, X137, ⟨Lc137, hQ137, l137, y137, z137⟩, st137⟩ := X125.virtualBack hx (y := (⟨"com/example/patient_courier/patientcourier/delivery/AttemptResult", "delivered", "()Z"⟩ : MethodName)) (z := (⟨"com/example/patient_courier/patientcourier/delivery/AttemptResult", "delivered", "()Z"⟩ : MethodName)) hown (mvT hZ (hw _ (List.mem_of_getElem? (i := 24) rfl))) (mvT hZ (hw _ (List.mem_of_getElem? (i := 25) rfl))) (notFace_of_selects (args := #[]) (mvT hZ (hw _ (List.mem_of_getElem? (i := 27) rfl)))) (mvT hZ (hw _ (List.mem_of_getElem? (i := 27) rfl))) (mvT hZ (hw _ (List.mem_of_getElem? (i := 26) rfl))) (by decide) (backOf (W := 0) (rmds l Z a0 hw [] b115 b102r cd T125.heap n0 Z132 P127 F128 F129 ) hZ (hw _ (List.mem_of_getElem? (i := 28) rfl)) (hw _ (List.mem_of_getElem? (i := 4) rfl)) (by decide) (by decide)) q137a q137c (g := (mkF m 124 #[.val (.int p1), .val (.int p2), .val (.int cd), .val (.int (0 : Int32)), .val (.ref b102r), .val .null, .val (.ref b108), .val .null, .val (.ref b115), .val (.int (0 : Int32))] [(.ref b115)])) rfl (by rw [hml]; rfl) (Steps.refl _) (argsL := []) (rest := []) (lenOf pd_5 rfl) rfl (by show 2 * 0 + _ ≤ _; exact Nat.le_of_eq rfl) (hb hby at_124) (fun _ _ => ⟨rfl, rfl, (by decide : 3 + 0 ≤ _), (by decide : 8 + 0 ≤ _)⟩)
            dsimp only [Pt.U, Pt.locs, Pt.cells, Pt.slots] at X137 l137 y137 z137 st137 hQ137
            subst l137 y137 z137
            obtain ⟨rfl, N137q, eh137⟩ := hQ137
            have N137 := Fr.app N125 N137q
            refine Go.step (fun _ kt => st137.trans kt) ?_
            show Go p.tables e below _ (T137.setTop (mkF m 127 #[.val (.int p1), .val (.int p2), .val (.int cd), .val (.int (0 : Int32)), .val (.ref b102r), .val .null, .val (.ref b108), .val .null, .val (.ref b115), .val (.int (0 : Int32))] [(.int (own_del cd))]))
            have q138 : (own_del cd) = (0 : Int32) := (own_dl cd).2 hc112_134
            rw [q138]
            show Go p.tables e below _ (T137.setTop (mkF m 127 #[.val (.int p1), .val (.int p2), .val (.int cd), .val (.int (0 : Int32)), .val (.ref b102r), .val .null, .val (.ref b108), .val .null, .val (.ref b115), .val (.int (0 : Int32))] [(.int (0 : Int32))]))
            refine Go.step (fun _ kt => XS.iload X137.here hx rfl (hb hby at_127) rfl kt) ?_
            show Go p.tables e below _ (T137.setTop (mkF m 129 #[.val (.int p1), .val (.int p2), .val (.int cd), .val (.int (0 : Int32)), .val (.ref b102r), .val .null, .val (.ref b108), .val .null, .val (.ref b115), .val (.int (0 : Int32))] [(.int (0 : Int32)), (.int (0 : Int32))]))
            refine Go.step (fun _ kt => XS.icmpNo X137.here hx rfl (hb hby at_129) rfl (teq (by decide : (0 : Int32) = (0 : Int32))).2 kt) ?_
            show Go p.tables e below _ (T137.setTop (mkF m 132 #[.val (.int p1), .val (.int p2), .val (.int cd), .val (.int (0 : Int32)), .val (.ref b102r), .val .null, .val (.ref b108), .val .null, .val (.ref b115), .val (.int (0 : Int32))] []))
            refine Go.step (fun _ kt => XS.iconst X137.here hx rfl (hb hby at_132) kt) ?_
            show Go p.tables e below _ (T137.setTop (mkF m 133 #[.val (.int p1), .val (.int p2), .val (.int cd), .val (.int (0 : Int32)), .val (.ref b102r), .val .null, .val (.ref b108), .val .null, .val (.ref b115), .val (.int (0 : Int32))] [(.int (1 : Int32))]))
            refine Go.step (fun _ kt => XS.goto X137.here hx rfl (pc0 := 133) (pc' := 137) rfl (hb hby at_133) (by decide) (by decide) kt) ?_
            show Go p.tables e below _ (T137.setTop (mkF m 137 #[.val (.int p1), .val (.int p2), .val (.int cd), .val (.int (0 : Int32)), .val (.ref b102r), .val .null, .val (.ref b108), .val .null, .val (.ref b115), .val (.int (0 : Int32))] [(.int (1 : Int32))]))
            obtain ⟨fs, hr, hrun, hended, hRW⟩ := X137.leaveW hS0 (by rw [eh137]; exact hk133) (v := some (.int (1 : Int32))) (fun h => by rw [Bd.returns] at h; cases h)
            refine ⟨_, _, retN X137 hx (t := .boolean) Bd.returns (by simp) (hb hby at_137) hr, hrun, hended, _, _, rfl, ?_, hRW.1, hRW.2.1, hRW.2.2.1, hRW.2.2.2.mono (by decide) (by decide)⟩
            show Qrm0 Z p1 p2 ca cc h0 n0 _ T137.heap _
            rw [eh137]
            exact ⟨rfl, N137⟩
        · refine Go.step (fun _ kt => XS.ifNo X108.here hx rfl (hb hby at_75) rfl ((if0 _ _).trans (feq hc75_114).1) kt) ?_
          show Go p.tables e below _ (T108.setTop (mkF m 78 #[.val (.int p1), .val (.int p2), .val (.int cd), .val (.int (0 : Int32)), .val (.ref b102r), .val .null, .val (.ref b108), .unset, .unset, .unset] []))
          obtain ⟨b139, T139, h139, k139, X139, e139, E139, hS139, hk139, hZ, hown, st139⟩ := ldcS (s := s) X108 hx hZ hown (hw _ (List.mem_of_getElem? (i := 63) rfl)) (own_wS hw) e108 hS0 hk112 (g := (mkF m 78 #[.val (.int p1), .val (.int p2), .val (.int cd), .val (.int (0 : Int32)), .val (.ref b102r), .val .null, .val (.ref b108), .unset, .unset, .unset] [])) rfl (hb hby at_78) (n := 12) (by decide) (by decide) (by decide) (by decide)
          refine Go.step st139 ?_
          have F140 : Exa Z h139 b102r "java/lang/Integer" := (F109.ext E139)
          have F141 : Fld Z h139 b102r "java/lang/Integer" "value" "I" (.int cd) := (F110.ext E139)
          have F142 : Arv Z h139 b108 k108 .byte ln [(.int (0 : Int32)), (.int (0 : Int32)), (.int (0 : Int32))] (.int (0 : Int32)) := (V113.ext E139)
          have Z143 : n0 ≤ h139.size := (Nat.le_trans Z111 E139.1)
          have hk144 : _ ≤ h139.size := (Nat.le_trans hk112 E139.1)
          show Go p.tables e below _ (T139.setTop (mkF m 80 #[.val (.int p1), .val (.int p2), .val (.int cd), .val (.int (0 : Int32)), .val (.ref b102r), .val .null, .val (.ref b108), .unset, .unset, .unset] [(.ref b139)]))
          refine Go.step (fun _ kt => XS.goto X139.here hx rfl (pc0 := 80) (pc' := 84) rfl (hb hby at_80) (by decide) (by decide) kt) ?_
          show Go p.tables e below _ (T139.setTop (mkF m 84 #[.val (.int p1), .val (.int p2), .val (.int cd), .val (.int (0 : Int32)), .val (.ref b102r), .val .null, .val (.ref b108), .unset, .unset, .unset] [(.ref b139)]))
          refine Go.step (fun _ kt => XS.astore X139.here hx rfl (hb hby at_84) rfl rfl (l' := #[.val (.int p1), .val (.int p2), .val (.int cd), .val (.int (0 : Int32)), .val (.ref b102r), .val .null, .val (.ref b108), .val (.ref b139), .unset, .unset]) rfl kt) ?_
          show Go p.tables e below _ (T139.setTop (mkF m 86 #[.val (.int p1), .val (.int p2), .val (.int cd), .val (.int (0 : Int32)), .val (.ref b102r), .val .null, .val (.ref b108), .val (.ref b139), .unset, .unset] []))
          obtain ⟨T145, h145, X145, e145, E145, A145, D145, -, st145⟩ := newO X139 hx hZ hown (hw _ (List.mem_of_getElem? (i := 2) rfl)) (hw _ (List.mem_of_getElem? (i := 3) rfl)) (hw _ (List.mem_of_getElem? (i := 4) rfl)) e139 (g := (mkF m 86 #[.val (.int p1), .val (.int p2), .val (.int cd), .val (.int (0 : Int32)), .val (.ref b102r), .val .null, .val (.ref b108), .val (.ref b139), .unset, .unset] [])) rfl (hb hby at_86) (by decide) (by decide)
          obtain ⟨b145, g145⟩ : ∃ z, z = h139.size := ⟨_, rfl⟩
          rw [← g145] at A145 D145 st145
          refine Go.step st145 ?_
          have ne_b102r_b145 : b102r ≠ b145 := Nat.ne_of_lt (Nat.lt_of_lt_of_le F140.lt (Nat.le_of_eq g145.symm))
          have ne_b108_b145 : b108 ≠ b145 := Nat.ne_of_lt (Nat.lt_of_lt_of_le F142.lt (Nat.le_of_eq g145.symm))
          have g_b145 : n0 ≤ b145 := Nat.le_trans Z143 (Nat.le_of_eq g145.symm)
          have F146 : Exa Z h145 b102r "java/lang/Integer" := (F140.ext E145)
          have F147 : Fld Z h145 b102r "java/lang/Integer" "value" "I" (.int cd) := (F141.ext E145)
          have F148 : Arv Z h145 b108 k108 .byte ln [(.int (0 : Int32)), (.int (0 : Int32)), (.int (0 : Int32))] (.int (0 : Int32)) := (F142.ext E145)
          have Z149 : n0 ≤ h145.size := (Nat.le_trans Z143 E145.1)
          have hk150 : _ ≤ h145.size := (Nat.le_trans hk139 E145.1)
          have F151 : Fld Z h145 b145 "com/example/patient_courier/patientcourier/delivery/AttemptResult" "status" "Ljava/lang/Integer;" .null := D145 (Or.inr (hw _ (List.mem_of_getElem? (i := 17) rfl))) (ty := (.object "java/lang/Integer")) (by decide)
          have F152 : Fld Z h145 b145 "com/example/patient_courier/patientcourier/delivery/AttemptResult" "error" "Ljava/lang/String;" .null := D145 (Or.inr (hw _ (List.mem_of_getElem? (i := 19) rfl))) (ty := (.object "java/lang/String")) (by decide)
          have F153 : Fld Z h145 b145 "com/example/patient_courier/patientcourier/delivery/AttemptResult" "preview" "[B" .null := D145 (Or.inr (hw _ (List.mem_of_getElem? (i := 21) rfl))) (ty := (.array .byte)) (by decide)
          have F154 : Fld Z h145 b145 "com/example/patient_courier/patientcourier/delivery/AttemptResult" "retryAfter" "Ljava/lang/String;" .null := D145 (Or.inr (hw _ (List.mem_of_getElem? (i := 23) rfl))) (ty := (.object "java/lang/String")) (by decide)
          show Go p.tables e below _ (T145.setTop (mkF m 89 #[.val (.int p1), .val (.int p2), .val (.int cd), .val (.int (0 : Int32)), .val (.ref b102r), .val .null, .val (.ref b108), .val (.ref b139), .unset, .unset] [(.ref b145)]))
          refine Go.step (fun _ kt => XS.dup X145.here hx rfl (hb hby at_89) rfl rfl kt) ?_
          show Go p.tables e below _ (T145.setTop (mkF m 90 #[.val (.int p1), .val (.int p2), .val (.int cd), .val (.int (0 : Int32)), .val (.ref b102r), .val .null, .val (.ref b108), .val (.ref b139), .unset, .unset] [(.ref b145), (.ref b145)]))
          refine Go.step (fun _ kt => XS.aload X145.here hx rfl (hb hby at_90) rfl rfl kt) ?_
          show Go p.tables e below _ (T145.setTop (mkF m 92 #[.val (.int p1), .val (.int p2), .val (.int cd), .val (.int (0 : Int32)), .val (.ref b102r), .val .null, .val (.ref b108), .val (.ref b139), .unset, .unset] [(.ref b102r), (.ref b145), (.ref b145)]))
          refine Go.step (fun _ kt => XS.aload X145.here hx rfl (hb hby at_92) rfl rfl kt) ?_
          show Go p.tables e below _ (T145.setTop (mkF m 94 #[.val (.int p1), .val (.int p2), .val (.int cd), .val (.int (0 : Int32)), .val (.ref b102r), .val .null, .val (.ref b108), .val (.ref b139), .unset, .unset] [.null, (.ref b102r), (.ref b145), (.ref b145)]))
          refine Go.step (fun _ kt => XS.aload X145.here hx rfl (hb hby at_94) rfl rfl kt) ?_
          show Go p.tables e below _ (T145.setTop (mkF m 96 #[.val (.int p1), .val (.int p2), .val (.int cd), .val (.int (0 : Int32)), .val (.ref b102r), .val .null, .val (.ref b108), .val (.ref b139), .unset, .unset] [(.ref b108), .null, (.ref b102r), (.ref b145), (.ref b145)]))
          refine Go.step (fun _ kt => XS.aload X145.here hx rfl (hb hby at_96) rfl rfl kt) ?_
          show Go p.tables e below _ (T145.setTop (mkF m 98 #[.val (.int p1), .val (.int p2), .val (.int cd), .val (.int (0 : Int32)), .val (.ref b102r), .val .null, .val (.ref b108), .val (.ref b139), .unset, .unset] [(.ref b139), (.ref b108), .null, (.ref b102r), (.ref b145), (.ref b145)]))
          obtain ⟨_, _, ⟨T155, L155, k155, n155⟩, -, X155, ⟨Lc155, hQ155, l155, y155, z155⟩, st155⟩ := X145.specialBack hx (y := (⟨"com/example/patient_courier/patientcourier/delivery/AttemptResult", "<init>", "(Ljava/lang/Integer;Ljava/lang/String;[BLjava/lang/String;)V"⟩ : MethodName)) rfl hown (mvT hZ (hw _ (List.mem_of_getElem? (i := 5) rfl))) (mvT hZ (hw _ (List.mem_of_getElem? (i := 6) rfl))) (mvT hZ (hw _ (List.mem_of_getElem? (i := 7) rfl))) (by decide) (backOf (W := 1) (rmi_rnrr l Z a0 hw [] b145 b102r b108 b139 .null .null .null .null h145 n0 Z149 A145 F151 F152 F153 F154 g_b145) hZ (hw _ (List.mem_of_getElem? (i := 7) rfl)) (hw _ (List.mem_of_getElem? (i := 4) rfl)) (by decide) (by decide)) (g := (mkF m 98 #[.val (.int p1), .val (.int p2), .val (.int cd), .val (.int (0 : Int32)), .val (.ref b102r), .val .null, .val (.ref b108), .val (.ref b139), .unset, .unset] [(.ref b139), (.ref b108), .null, (.ref b102r), (.ref b145), (.ref b145)])) rfl (by rw [hml]; rfl) (Steps.refl _) (a := b145) (argsL := [(.ref b102r), .null, (.ref b108), (.ref b139)]) (rest := [(.ref b145)]) (lenOf pd_4 rfl) rfl (by show 2 * 0 + _ ≤ _; exact Nat.le_of_eq rfl) (hb hby at_98) (fun _ _ => ⟨rfl, e145, (by decide : 5 + 0 ≤ _), (by decide : 24 + 0 ≤ _)⟩)
          dsimp only [Pt.U, Pt.locs, Pt.cells, Pt.slots] at X155 l155 y155 z155 st155 hQ155
          subst l155 y155 z155
          obtain ⟨rfl, N155q, Kq155, P156, P157⟩ := hQ155
          have F158 : Exa Z T155.heap b102r "java/lang/Integer" := (F146.keep Kq155)
          have F159 : Fld Z T155.heap b102r "java/lang/Integer" "value" "I" (.int cd) := (F147.keep Kq155 (fun q => ne_b102r_b145 (List.mem_singleton.mp q)))
          have F160 : Arv Z T155.heap b108 k108 .byte ln [(.int (0 : Int32)), (.int (0 : Int32)), (.int (0 : Int32))] (.int (0 : Int32)) := (F148.keep Kq155 (fun q => ne_b108_b145 (List.mem_singleton.mp q)))
          have F161 : Exa Z T155.heap b145 "com/example/patient_courier/patientcourier/delivery/AttemptResult" := (A145.keep Kq155)
          have Z162 : n0 ≤ T155.heap.size := (Nat.le_trans Z149 Kq155.1)
          have hk163 : _ ≤ T155.heap.size := (Nat.le_trans hk150 Kq155.1)
          have N155 := Fr.app N102 N155q
          refine Go.step (fun _ kt => st155.trans kt) ?_
          show Go p.tables e below _ (T155.setTop (mkF m 101 #[.val (.int p1), .val (.int p2), .val (.int cd), .val (.int (0 : Int32)), .val (.ref b102r), .val .null, .val (.ref b108), .val (.ref b139), .unset, .unset] [(.ref b145)]))
          refine Go.step (fun _ kt => XS.astore X155.here hx rfl (hb hby at_101) rfl rfl (l' := #[.val (.int p1), .val (.int p2), .val (.int cd), .val (.int (0 : Int32)), .val (.ref b102r), .val .null, .val (.ref b108), .val (.ref b139), .val (.ref b145), .unset]) rfl kt) ?_
          show Go p.tables e below _ (T155.setTop (mkF m 103 #[.val (.int p1), .val (.int p2), .val (.int cd), .val (.int (0 : Int32)), .val (.ref b102r), .val .null, .val (.ref b108), .val (.ref b139), .val (.ref b145), .unset] []))
          refine Go.step (fun _ kt => XS.iloadN X155.here hx rfl (hb hby at_103) rfl kt) ?_
          show Go p.tables e below _ (T155.setTop (mkF m 104 #[.val (.int p1), .val (.int p2), .val (.int cd), .val (.int (0 : Int32)), .val (.ref b102r), .val .null, .val (.ref b108), .val (.ref b139), .val (.ref b145), .unset] [(.int (0 : Int32))]))
          refine Go.step (fun _ kt => XS.ifNo X155.here hx rfl (hb hby at_104) rfl ((if0 _ _).trans (teq (by decide : (0 : Int32) = (0 : Int32))).2) kt) ?_
          show Go p.tables e below _ (T155.setTop (mkF m 107 #[.val (.int p1), .val (.int p2), .val (.int cd), .val (.int (0 : Int32)), .val (.ref b102r), .val .null, .val (.ref b108), .val (.ref b139), .val (.ref b145), .unset] []))
          refine Go.step (fun _ kt => XS.iloadN X155.here hx rfl (hb hby at_107) rfl kt) ?_
          show Go p.tables e below _ (T155.setTop (mkF m 108 #[.val (.int p1), .val (.int p2), .val (.int cd), .val (.int (0 : Int32)), .val (.ref b102r), .val .null, .val (.ref b108), .val (.ref b139), .val (.ref b145), .unset] [(.int cd)]))
          refine Go.step (fun _ kt => XS.bipush X155.here hx rfl (hb hby at_108) kt) ?_
          show Go p.tables e below _ (T155.setTop (mkF m 110 #[.val (.int p1), .val (.int p2), .val (.int cd), .val (.int (0 : Int32)), .val (.ref b102r), .val .null, .val (.ref b108), .val (.ref b139), .val (.ref b145), .unset] [(.int (100 : Int32)), (.int cd)]))
          refine Go.step (fun _ kt => XS.idiv X155.here hx rfl (hb hby at_110) rfl (by decide) kt) ?_
          show Go p.tables e below _ (T155.setTop (mkF m 111 #[.val (.int p1), .val (.int p2), .val (.int cd), .val (.int (0 : Int32)), .val (.ref b102r), .val .null, .val (.ref b108), .val (.ref b139), .val (.ref b145), .unset] [(.int (cd / (100 : Int32)))]))
          refine Go.step (fun _ kt => XS.iconst X155.here hx rfl (hb hby at_111) kt) ?_
          show Go p.tables e below _ (T155.setTop (mkF m 112 #[.val (.int p1), .val (.int p2), .val (.int cd), .val (.int (0 : Int32)), .val (.ref b102r), .val .null, .val (.ref b108), .val (.ref b139), .val (.ref b145), .unset] [(.int (2 : Int32)), (.int (cd / (100 : Int32)))]))
          by_cases hc112_164 : (cd / (100 : Int32)) = (2 : Int32)
          · refine Go.step (fun _ kt => XS.icmpNo X155.here hx rfl (hb hby at_112) rfl (teq hc112_164).2 kt) ?_
            show Go p.tables e below _ (T155.setTop (mkF m 115 #[.val (.int p1), .val (.int p2), .val (.int cd), .val (.int (0 : Int32)), .val (.ref b102r), .val .null, .val (.ref b108), .val (.ref b139), .val (.ref b145), .unset] []))
            refine Go.step (fun _ kt => XS.iconst X155.here hx rfl (hb hby at_115) kt) ?_
            show Go p.tables e below _ (T155.setTop (mkF m 116 #[.val (.int p1), .val (.int p2), .val (.int cd), .val (.int (0 : Int32)), .val (.ref b102r), .val .null, .val (.ref b108), .val (.ref b139), .val (.ref b145), .unset] [(.int (1 : Int32))]))
            refine Go.step (fun _ kt => XS.goto X155.here hx rfl (pc0 := 116) (pc' := 120) rfl (hb hby at_116) (by decide) (by decide) kt) ?_
            show Go p.tables e below _ (T155.setTop (mkF m 120 #[.val (.int p1), .val (.int p2), .val (.int cd), .val (.int (0 : Int32)), .val (.ref b102r), .val .null, .val (.ref b108), .val (.ref b139), .val (.ref b145), .unset] [(.int (1 : Int32))]))
            refine Go.step (fun _ kt => XS.istore X155.here hx rfl (hb hby at_120) rfl (l' := #[.val (.int p1), .val (.int p2), .val (.int cd), .val (.int (0 : Int32)), .val (.ref b102r), .val .null, .val (.ref b108), .val (.ref b139), .val (.ref b145), .val (.int (1 : Int32))]) rfl kt) ?_
            show Go p.tables e below _ (T155.setTop (mkF m 122 #[.val (.int p1), .val (.int p2), .val (.int cd), .val (.int (0 : Int32)), .val (.ref b102r), .val .null, .val (.ref b108), .val (.ref b139), .val (.ref b145), .val (.int (1 : Int32))] []))
            refine Go.step (fun _ kt => XS.aload X155.here hx rfl (hb hby at_122) rfl rfl kt) ?_
            show Go p.tables e below _ (T155.setTop (mkF m 124 #[.val (.int p1), .val (.int p2), .val (.int cd), .val (.int (0 : Int32)), .val (.ref b102r), .val .null, .val (.ref b108), .val (.ref b139), .val (.ref b145), .val (.int (1 : Int32))] [(.ref b145)]))
            obtain ⟨cq165, kq165, q165a, q165b, q165c⟩ := isOf hZ rfl P156
            obtain ⟨_, _, ⟨T165, L165, k165, n165⟩, -, X165, ⟨Lc165, hQ165, l165, y165, z165⟩, st165⟩ := X155.virtualBack hx (y := (⟨"com/example/patient_courier/patientcourier/delivery/AttemptResult", "delivered", "()Z"⟩ : MethodName)) (z := (⟨"com/example/patient_courier/patientcourier/delivery/AttemptResult", "delivered", "()Z"⟩ : MethodName)) hown (mvT hZ (hw _ (List.mem_of_getElem? (i := 24) rfl))) (mvT hZ (hw _ (List.mem_of_getElem? (i := 25) rfl))) (notFace_of_selects (args := #[]) (mvT hZ (hw _ (List.mem_of_getElem? (i := 27) rfl)))) (mvT hZ (hw _ (List.mem_of_getElem? (i := 27) rfl))) (mvT hZ (hw _ (List.mem_of_getElem? (i := 26) rfl))) (by decide) (backOf (W := 0) (rmds l Z a0 hw [] b145 b102r cd T155.heap n0 Z162 P157 F158 F159 ) hZ (hw _ (List.mem_of_getElem? (i := 28) rfl)) (hw _ (List.mem_of_getElem? (i := 4) rfl)) (by decide) (by decide)) q165a q165c (g := (mkF m 124 #[.val (.int p1), .val (.int p2), .val (.int cd), .val (.int (0 : Int32)), .val (.ref b102r), .val .null, .val (.ref b108), .val (.ref b139), .val (.ref b145), .val (.int (1 : Int32))] [(.ref b145)])) rfl (by rw [hml]; rfl) (Steps.refl _) (argsL := []) (rest := []) (lenOf pd_5 rfl) rfl (by show 2 * 0 + _ ≤ _; exact Nat.le_of_eq rfl) (hb hby at_124) (fun _ _ => ⟨rfl, rfl, (by decide : 5 + 0 ≤ _), (by decide : 24 + 0 ≤ _)⟩)
            dsimp only [Pt.U, Pt.locs, Pt.cells, Pt.slots] at X165 l165 y165 z165 st165 hQ165
            subst l165 y165 z165
            obtain ⟨rfl, N165q, eh165⟩ := hQ165
            have N165 := Fr.app N155 N165q
            refine Go.step (fun _ kt => st165.trans kt) ?_
            show Go p.tables e below _ (T165.setTop (mkF m 127 #[.val (.int p1), .val (.int p2), .val (.int cd), .val (.int (0 : Int32)), .val (.ref b102r), .val .null, .val (.ref b108), .val (.ref b139), .val (.ref b145), .val (.int (1 : Int32))] [(.int (own_del cd))]))
            have q166 : (own_del cd) = (1 : Int32) := (own_dl cd).1 hc112_164
            rw [q166]
            show Go p.tables e below _ (T165.setTop (mkF m 127 #[.val (.int p1), .val (.int p2), .val (.int cd), .val (.int (0 : Int32)), .val (.ref b102r), .val .null, .val (.ref b108), .val (.ref b139), .val (.ref b145), .val (.int (1 : Int32))] [(.int (1 : Int32))]))
            refine Go.step (fun _ kt => XS.iload X165.here hx rfl (hb hby at_127) rfl kt) ?_
            show Go p.tables e below _ (T165.setTop (mkF m 129 #[.val (.int p1), .val (.int p2), .val (.int cd), .val (.int (0 : Int32)), .val (.ref b102r), .val .null, .val (.ref b108), .val (.ref b139), .val (.ref b145), .val (.int (1 : Int32))] [(.int (1 : Int32)), (.int (1 : Int32))]))
            refine Go.step (fun _ kt => XS.icmpNo X165.here hx rfl (hb hby at_129) rfl (teq (by decide : (1 : Int32) = (1 : Int32))).2 kt) ?_
            show Go p.tables e below _ (T165.setTop (mkF m 132 #[.val (.int p1), .val (.int p2), .val (.int cd), .val (.int (0 : Int32)), .val (.ref b102r), .val .null, .val (.ref b108), .val (.ref b139), .val (.ref b145), .val (.int (1 : Int32))] []))
            refine Go.step (fun _ kt => XS.iconst X165.here hx rfl (hb hby at_132) kt) ?_
            show Go p.tables e below _ (T165.setTop (mkF m 133 #[.val (.int p1), .val (.int p2), .val (.int cd), .val (.int (0 : Int32)), .val (.ref b102r), .val .null, .val (.ref b108), .val (.ref b139), .val (.ref b145), .val (.int (1 : Int32))] [(.int (1 : Int32))]))
            refine Go.step (fun _ kt => XS.goto X165.here hx rfl (pc0 := 133) (pc' := 137) rfl (hb hby at_133) (by decide) (by decide) kt) ?_
            show Go p.tables e below _ (T165.setTop (mkF m 137 #[.val (.int p1), .val (.int p2), .val (.int cd), .val (.int (0 : Int32)), .val (.ref b102r), .val .null, .val (.ref b108), .val (.ref b139), .val (.ref b145), .val (.int (1 : Int32))] [(.int (1 : Int32))]))
            obtain ⟨fs, hr, hrun, hended, hRW⟩ := X165.leaveW hS139 (by rw [eh165]; exact hk163) (v := some (.int (1 : Int32))) (fun h => by rw [Bd.returns] at h; cases h)
            refine ⟨_, _, retN X165 hx (t := .boolean) Bd.returns (by simp) (hb hby at_137) hr, hrun, hended, _, _, rfl, ?_, hRW.1, hRW.2.1, hRW.2.2.1, hRW.2.2.2.mono (by decide) (by decide)⟩
            show Qrm0 Z p1 p2 ca cc h0 n0 _ T165.heap _
            rw [eh165]
            exact ⟨rfl, N165⟩
          · refine Go.step (fun _ kt => XS.icmpYes X155.here hx rfl (pc0 := 112) (pc' := 119) rfl (hb hby at_112) rfl (feq hc112_164).2 (by decide) (by decide) kt) ?_
            show Go p.tables e below _ (T155.setTop (mkF m 119 #[.val (.int p1), .val (.int p2), .val (.int cd), .val (.int (0 : Int32)), .val (.ref b102r), .val .null, .val (.ref b108), .val (.ref b139), .val (.ref b145), .unset] []))
            refine Go.step (fun _ kt => XS.iconst X155.here hx rfl (hb hby at_119) kt) ?_
            show Go p.tables e below _ (T155.setTop (mkF m 120 #[.val (.int p1), .val (.int p2), .val (.int cd), .val (.int (0 : Int32)), .val (.ref b102r), .val .null, .val (.ref b108), .val (.ref b139), .val (.ref b145), .unset] [(.int (0 : Int32))]))
            refine Go.step (fun _ kt => XS.istore X155.here hx rfl (hb hby at_120) rfl (l' := #[.val (.int p1), .val (.int p2), .val (.int cd), .val (.int (0 : Int32)), .val (.ref b102r), .val .null, .val (.ref b108), .val (.ref b139), .val (.ref b145), .val (.int (0 : Int32))]) rfl kt) ?_
            show Go p.tables e below _ (T155.setTop (mkF m 122 #[.val (.int p1), .val (.int p2), .val (.int cd), .val (.int (0 : Int32)), .val (.ref b102r), .val .null, .val (.ref b108), .val (.ref b139), .val (.ref b145), .val (.int (0 : Int32))] []))
            refine Go.step (fun _ kt => XS.aload X155.here hx rfl (hb hby at_122) rfl rfl kt) ?_
            show Go p.tables e below _ (T155.setTop (mkF m 124 #[.val (.int p1), .val (.int p2), .val (.int cd), .val (.int (0 : Int32)), .val (.ref b102r), .val .null, .val (.ref b108), .val (.ref b139), .val (.ref b145), .val (.int (0 : Int32))] [(.ref b145)]))
            obtain ⟨cq167, kq167, q167a, q167b, q167c⟩ := isOf hZ rfl P156
            obtain ⟨_, _, ⟨T167, L167, k167, n167⟩, -, X167, ⟨Lc167, hQ167, l167, y167, z167⟩, st167⟩ := X155.virtualBack hx (y := (⟨"com/example/patient_courier/patientcourier/delivery/AttemptResult", "delivered", "()Z"⟩ : MethodName)) (z := (⟨"com/example/patient_courier/patientcourier/delivery/AttemptResult", "delivered", "()Z"⟩ : MethodName)) hown (mvT hZ (hw _ (List.mem_of_getElem? (i := 24) rfl))) (mvT hZ (hw _ (List.mem_of_getElem? (i := 25) rfl))) (notFace_of_selects (args := #[]) (mvT hZ (hw _ (List.mem_of_getElem? (i := 27) rfl)))) (mvT hZ (hw _ (List.mem_of_getElem? (i := 27) rfl))) (mvT hZ (hw _ (List.mem_of_getElem? (i := 26) rfl))) (by decide) (backOf (W := 0) (rmds l Z a0 hw [] b145 b102r cd T155.heap n0 Z162 P157 F158 F159 ) hZ (hw _ (List.mem_of_getElem? (i := 28) rfl)) (hw _ (List.mem_of_getElem? (i := 4) rfl)) (by decide) (by decide)) q167a q167c (g := (mkF m 124 #[.val (.int p1), .val (.int p2), .val (.int cd), .val (.int (0 : Int32)), .val (.ref b102r), .val .null, .val (.ref b108), .val (.ref b139), .val (.ref b145), .val (.int (0 : Int32))] [(.ref b145)])) rfl (by rw [hml]; rfl) (Steps.refl _) (argsL := []) (rest := []) (lenOf pd_5 rfl) rfl (by show 2 * 0 + _ ≤ _; exact Nat.le_of_eq rfl) (hb hby at_124) (fun _ _ => ⟨rfl, rfl, (by decide : 5 + 0 ≤ _), (by decide : 24 + 0 ≤ _)⟩)
            dsimp only [Pt.U, Pt.locs, Pt.cells, Pt.slots] at X167 l167 y167 z167 st167 hQ167
            subst l167 y167 z167
            obtain ⟨rfl, N167q, eh167⟩ := hQ167
            have N167 := Fr.app N155 N167q
            refine Go.step (fun _ kt => st167.trans kt) ?_
            show Go p.tables e below _ (T167.setTop (mkF m 127 #[.val (.int p1), .val (.int p2), .val (.int cd), .val (.int (0 : Int32)), .val (.ref b102r), .val .null, .val (.ref b108), .val (.ref b139), .val (.ref b145), .val (.int (0 : Int32))] [(.int (own_del cd))]))
            have q168 : (own_del cd) = (0 : Int32) := (own_dl cd).2 hc112_164
            rw [q168]
            show Go p.tables e below _ (T167.setTop (mkF m 127 #[.val (.int p1), .val (.int p2), .val (.int cd), .val (.int (0 : Int32)), .val (.ref b102r), .val .null, .val (.ref b108), .val (.ref b139), .val (.ref b145), .val (.int (0 : Int32))] [(.int (0 : Int32))]))
            refine Go.step (fun _ kt => XS.iload X167.here hx rfl (hb hby at_127) rfl kt) ?_
            show Go p.tables e below _ (T167.setTop (mkF m 129 #[.val (.int p1), .val (.int p2), .val (.int cd), .val (.int (0 : Int32)), .val (.ref b102r), .val .null, .val (.ref b108), .val (.ref b139), .val (.ref b145), .val (.int (0 : Int32))] [(.int (0 : Int32)), (.int (0 : Int32))]))
            refine Go.step (fun _ kt => XS.icmpNo X167.here hx rfl (hb hby at_129) rfl (teq (by decide : (0 : Int32) = (0 : Int32))).2 kt) ?_
            show Go p.tables e below _ (T167.setTop (mkF m 132 #[.val (.int p1), .val (.int p2), .val (.int cd), .val (.int (0 : Int32)), .val (.ref b102r), .val .null, .val (.ref b108), .val (.ref b139), .val (.ref b145), .val (.int (0 : Int32))] []))
            refine Go.step (fun _ kt => XS.iconst X167.here hx rfl (hb hby at_132) kt) ?_
            show Go p.tables e below _ (T167.setTop (mkF m 133 #[.val (.int p1), .val (.int p2), .val (.int cd), .val (.int (0 : Int32)), .val (.ref b102r), .val .null, .val (.ref b108), .val (.ref b139), .val (.ref b145), .val (.int (0 : Int32))] [(.int (1 : Int32))]))
            refine Go.step (fun _ kt => XS.goto X167.here hx rfl (pc0 := 133) (pc' := 137) rfl (hb hby at_133) (by decide) (by decide) kt) ?_
            show Go p.tables e below _ (T167.setTop (mkF m 137 #[.val (.int p1), .val (.int p2), .val (.int cd), .val (.int (0 : Int32)), .val (.ref b102r), .val .null, .val (.ref b108), .val (.ref b139), .val (.ref b145), .val (.int (0 : Int32))] [(.int (1 : Int32))]))
            obtain ⟨fs, hr, hrun, hended, hRW⟩ := X167.leaveW hS139 (by rw [eh167]; exact hk163) (v := some (.int (1 : Int32))) (fun h => by rw [Bd.returns] at h; cases h)
            refine ⟨_, _, retN X167 hx (t := .boolean) Bd.returns (by simp) (hb hby at_137) hr, hrun, hended, _, _, rfl, ?_, hRW.1, hRW.2.1, hRW.2.2.1, hRW.2.2.2.mono (by decide) (by decide)⟩
            show Qrm0 Z p1 p2 ca cc h0 n0 _ T167.heap _
            rw [eh167]
            exact ⟨rfl, N167⟩
      · refine Go.step (fun _ kt => XS.ifNo X102.here hx rfl (hb hby at_51) rfl ((if0 _ _).trans (feq hc51_107).1) kt) ?_
        show Go p.tables e below _ (T102.setTop (mkF m 54 #[.val (.int p1), .val (.int p2), .val (.int cd), .val (.int (0 : Int32)), .val (.ref b102r), .unset, .unset, .unset, .unset, .unset] []))
        obtain ⟨b169, T169, h169, k169, X169, e169, E169, hS169, hk169, hZ, hown, st169⟩ := ldcS (s := s) X102 hx hZ hown (hw _ (List.mem_of_getElem? (i := 48) rfl)) (own_wS hw) rfl hS0 hk106 (g := (mkF m 54 #[.val (.int p1), .val (.int p2), .val (.int cd), .val (.int (0 : Int32)), .val (.ref b102r), .unset, .unset, .unset, .unset, .unset] [])) rfl (hb hby at_54) (n := 28) (by decide) (by decide) (by decide) (by decide)
        refine Go.step st169 ?_
        have F170 : Exa Z h169 b102r "java/lang/Integer" := (P103.ext E169)
        have F171 : Fld Z h169 b102r "java/lang/Integer" "value" "I" (.int cd) := (P104.ext E169)
        have Z172 : n0 ≤ h169.size := (Nat.le_trans Z105 E169.1)
        have hk173 : _ ≤ h169.size := (Nat.le_trans hk106 E169.1)
        show Go p.tables e below _ (T169.setTop (mkF m 56 #[.val (.int p1), .val (.int p2), .val (.int cd), .val (.int (0 : Int32)), .val (.ref b102r), .unset, .unset, .unset, .unset, .unset] [(.ref b169)]))
        refine Go.step (fun _ kt => XS.goto X169.here hx rfl (pc0 := 56) (pc' := 60) rfl (hb hby at_56) (by decide) (by decide) kt) ?_
        show Go p.tables e below _ (T169.setTop (mkF m 60 #[.val (.int p1), .val (.int p2), .val (.int cd), .val (.int (0 : Int32)), .val (.ref b102r), .unset, .unset, .unset, .unset, .unset] [(.ref b169)]))
        refine Go.step (fun _ kt => XS.astore X169.here hx rfl (hb hby at_60) rfl rfl (l' := #[.val (.int p1), .val (.int p2), .val (.int cd), .val (.int (0 : Int32)), .val (.ref b102r), .val (.ref b169), .unset, .unset, .unset, .unset]) rfl kt) ?_
        show Go p.tables e below _ (T169.setTop (mkF m 62 #[.val (.int p1), .val (.int p2), .val (.int cd), .val (.int (0 : Int32)), .val (.ref b102r), .val (.ref b169), .unset, .unset, .unset, .unset] []))
        refine Go.step (fun _ kt => XS.iloadN X169.here hx rfl (hb hby at_62) rfl kt) ?_
        show Go p.tables e below _ (T169.setTop (mkF m 63 #[.val (.int p1), .val (.int p2), .val (.int cd), .val (.int (0 : Int32)), .val (.ref b102r), .val (.ref b169), .unset, .unset, .unset, .unset] [(.int p2)]))
        refine Go.step (fun _ kt => XS.iconst X169.here hx rfl (hb hby at_63) kt) ?_
        show Go p.tables e below _ (T169.setTop (mkF m 64 #[.val (.int p1), .val (.int p2), .val (.int cd), .val (.int (0 : Int32)), .val (.ref b102r), .val (.ref b169), .unset, .unset, .unset, .unset] [(.int (3 : Int32)), (.int p2)]))
        refine Go.step (fun _ kt => XS.iushr X169.here hx rfl (hb hby at_64) rfl kt) ?_
        show Go p.tables e below _ (T169.setTop (mkF m 65 #[.val (.int p1), .val (.int p2), .val (.int cd), .val (.int (0 : Int32)), .val (.ref b102r), .val (.ref b169), .unset, .unset, .unset, .unset] [(.int ((p2.toUInt32 >>> ((3 : Int32) &&& 31).toUInt32).toInt32))]))
        refine Go.step (fun _ kt => XS.iconst X169.here hx rfl (hb hby at_65) kt) ?_
        show Go p.tables e below _ (T169.setTop (mkF m 66 #[.val (.int p1), .val (.int p2), .val (.int cd), .val (.int (0 : Int32)), .val (.ref b102r), .val (.ref b169), .unset, .unset, .unset, .unset] [(.int (3 : Int32)), (.int ((p2.toUInt32 >>> ((3 : Int32) &&& 31).toUInt32).toInt32))]))
        refine Go.step (fun _ kt => XS.iand X169.here hx rfl (hb hby at_66) rfl kt) ?_
        show Go p.tables e below _ (T169.setTop (mkF m 67 #[.val (.int p1), .val (.int p2), .val (.int cd), .val (.int (0 : Int32)), .val (.ref b102r), .val (.ref b169), .unset, .unset, .unset, .unset] [(.int (((p2.toUInt32 >>> ((3 : Int32) &&& 31).toUInt32).toInt32) &&& (3 : Int32)))]))
        obtain ⟨ln, e_ln⟩ : ∃ nm_, nm_ = (((p2.toUInt32 >>> ((3 : Int32) &&& 31).toUInt32).toInt32) &&& (3 : Int32)) := ⟨_, rfl⟩
        rw [← e_ln]
        show Go p.tables e below _ (T169.setTop (mkF m 67 #[.val (.int p1), .val (.int p2), .val (.int cd), .val (.int (0 : Int32)), .val (.ref b102r), .val (.ref b169), .unset, .unset, .unset, .unset] [(.int ln)]))
        obtain ⟨T174, h174, k174, X174, e174, E174, A174, st174⟩ := newP X169 hx hZ (hw _ (List.mem_of_getElem? (i := 1) rfl)) e169 (g := (mkF m 67 #[.val (.int p1), .val (.int p2), .val (.int cd), .val (.int (0 : Int32)), .val (.ref b102r), .val (.ref b169), .unset, .unset, .unset, .unset] [(.int ln)])) rfl (hb hby at_67) rfl (by rw [e_ln]; exact (own_cap _).1) (cap := 3) (by rw [e_ln]; exact (own_cap _).2) (by decide) (by decide) (by decide)
        obtain ⟨b174, g174⟩ : ∃ z, z = h169.size := ⟨_, rfl⟩
        rw [← g174] at A174 st174
        refine Go.step st174 ?_
        have ne_b102r_b174 : b102r ≠ b174 := Nat.ne_of_lt (Nat.lt_of_lt_of_le F170.lt (Nat.le_of_eq g174.symm))
        have g_b174 : n0 ≤ b174 := Nat.le_trans Z172 (Nat.le_of_eq g174.symm)
        have F175 : Exa Z h174 b102r "java/lang/Integer" := (F170.ext E174)
        have F176 : Fld Z h174 b102r "java/lang/Integer" "value" "I" (.int cd) := (F171.ext E174)
        have Z177 : n0 ≤ h174.size := (Nat.le_trans Z172 E174.1)
        have hk178 : _ ≤ h174.size := (Nat.le_trans hk169 E174.1)
        have V179 : Arv Z h174 b174 k174 .byte ln [(.int (0 : Int32)), (.int (0 : Int32)), (.int (0 : Int32))] (.int (0 : Int32)) := (Arv.new A174 (by rw [e_ln]; exact (own_cap _).1)).pad (pad_rep [] (.int (0 : Int32)) 3)
        show Go p.tables e below _ (T174.setTop (mkF m 69 #[.val (.int p1), .val (.int p2), .val (.int cd), .val (.int (0 : Int32)), .val (.ref b102r), .val (.ref b169), .unset, .unset, .unset, .unset] [(.ref b174)]))
        refine Go.step (fun _ kt => XS.astore X174.here hx rfl (hb hby at_69) rfl rfl (l' := #[.val (.int p1), .val (.int p2), .val (.int cd), .val (.int (0 : Int32)), .val (.ref b102r), .val (.ref b169), .val (.ref b174), .unset, .unset, .unset]) rfl kt) ?_
        show Go p.tables e below _ (T174.setTop (mkF m 71 #[.val (.int p1), .val (.int p2), .val (.int cd), .val (.int (0 : Int32)), .val (.ref b102r), .val (.ref b169), .val (.ref b174), .unset, .unset, .unset] []))
        refine Go.step (fun _ kt => XS.iloadN X174.here hx rfl (hb hby at_71) rfl kt) ?_
        show Go p.tables e below _ (T174.setTop (mkF m 72 #[.val (.int p1), .val (.int p2), .val (.int cd), .val (.int (0 : Int32)), .val (.ref b102r), .val (.ref b169), .val (.ref b174), .unset, .unset, .unset] [(.int p2)]))
        refine Go.step (fun _ kt => XS.bipush X174.here hx rfl (hb hby at_72) kt) ?_
        show Go p.tables e below _ (T174.setTop (mkF m 74 #[.val (.int p1), .val (.int p2), .val (.int cd), .val (.int (0 : Int32)), .val (.ref b102r), .val (.ref b169), .val (.ref b174), .unset, .unset, .unset] [(.int (32 : Int32)), (.int p2)]))
        refine Go.step (fun _ kt => XS.iand X174.here hx rfl (hb hby at_74) rfl kt) ?_
        show Go p.tables e below _ (T174.setTop (mkF m 75 #[.val (.int p1), .val (.int p2), .val (.int cd), .val (.int (0 : Int32)), .val (.ref b102r), .val (.ref b169), .val (.ref b174), .unset, .unset, .unset] [(.int (p2 &&& (32 : Int32)))]))
        by_cases hc75_180 : (p2 &&& (32 : Int32)) = (0 : Int32)
        · refine Go.step (fun _ kt => XS.ifYes X174.here hx rfl (pc0 := 75) (pc' := 83) rfl (hb hby at_75) rfl ((if0 _ _).trans (teq hc75_180).1) (by decide) (by decide) kt) ?_
          show Go p.tables e below _ (T174.setTop (mkF m 83 #[.val (.int p1), .val (.int p2), .val (.int cd), .val (.int (0 : Int32)), .val (.ref b102r), .val (.ref b169), .val (.ref b174), .unset, .unset, .unset] []))
          refine Go.step (fun _ kt => XS.aconstNull X174.here hx rfl (hb hby at_83) kt) ?_
          show Go p.tables e below _ (T174.setTop (mkF m 84 #[.val (.int p1), .val (.int p2), .val (.int cd), .val (.int (0 : Int32)), .val (.ref b102r), .val (.ref b169), .val (.ref b174), .unset, .unset, .unset] [.null]))
          refine Go.step (fun _ kt => XS.astore X174.here hx rfl (hb hby at_84) rfl rfl (l' := #[.val (.int p1), .val (.int p2), .val (.int cd), .val (.int (0 : Int32)), .val (.ref b102r), .val (.ref b169), .val (.ref b174), .val .null, .unset, .unset]) rfl kt) ?_
          show Go p.tables e below _ (T174.setTop (mkF m 86 #[.val (.int p1), .val (.int p2), .val (.int cd), .val (.int (0 : Int32)), .val (.ref b102r), .val (.ref b169), .val (.ref b174), .val .null, .unset, .unset] []))
          obtain ⟨T181, h181, X181, e181, E181, A181, D181, -, st181⟩ := newO X174 hx hZ hown (hw _ (List.mem_of_getElem? (i := 2) rfl)) (hw _ (List.mem_of_getElem? (i := 3) rfl)) (hw _ (List.mem_of_getElem? (i := 4) rfl)) e174 (g := (mkF m 86 #[.val (.int p1), .val (.int p2), .val (.int cd), .val (.int (0 : Int32)), .val (.ref b102r), .val (.ref b169), .val (.ref b174), .val .null, .unset, .unset] [])) rfl (hb hby at_86) (by decide) (by decide)
          obtain ⟨b181, g181⟩ : ∃ z, z = h174.size := ⟨_, rfl⟩
          rw [← g181] at A181 D181 st181
          refine Go.step st181 ?_
          have ne_b102r_b181 : b102r ≠ b181 := Nat.ne_of_lt (Nat.lt_of_lt_of_le F175.lt (Nat.le_of_eq g181.symm))
          have ne_b174_b181 : b174 ≠ b181 := Nat.ne_of_lt (Nat.lt_of_lt_of_le V179.lt (Nat.le_of_eq g181.symm))
          have g_b181 : n0 ≤ b181 := Nat.le_trans Z177 (Nat.le_of_eq g181.symm)
          have F182 : Exa Z h181 b102r "java/lang/Integer" := (F175.ext E181)
          have F183 : Fld Z h181 b102r "java/lang/Integer" "value" "I" (.int cd) := (F176.ext E181)
          have F184 : Arv Z h181 b174 k174 .byte ln [(.int (0 : Int32)), (.int (0 : Int32)), (.int (0 : Int32))] (.int (0 : Int32)) := (V179.ext E181)
          have Z185 : n0 ≤ h181.size := (Nat.le_trans Z177 E181.1)
          have hk186 : _ ≤ h181.size := (Nat.le_trans hk178 E181.1)
          have F187 : Fld Z h181 b181 "com/example/patient_courier/patientcourier/delivery/AttemptResult" "status" "Ljava/lang/Integer;" .null := D181 (Or.inr (hw _ (List.mem_of_getElem? (i := 17) rfl))) (ty := (.object "java/lang/Integer")) (by decide)
          have F188 : Fld Z h181 b181 "com/example/patient_courier/patientcourier/delivery/AttemptResult" "error" "Ljava/lang/String;" .null := D181 (Or.inr (hw _ (List.mem_of_getElem? (i := 19) rfl))) (ty := (.object "java/lang/String")) (by decide)
          have F189 : Fld Z h181 b181 "com/example/patient_courier/patientcourier/delivery/AttemptResult" "preview" "[B" .null := D181 (Or.inr (hw _ (List.mem_of_getElem? (i := 21) rfl))) (ty := (.array .byte)) (by decide)
          have F190 : Fld Z h181 b181 "com/example/patient_courier/patientcourier/delivery/AttemptResult" "retryAfter" "Ljava/lang/String;" .null := D181 (Or.inr (hw _ (List.mem_of_getElem? (i := 23) rfl))) (ty := (.object "java/lang/String")) (by decide)
          show Go p.tables e below _ (T181.setTop (mkF m 89 #[.val (.int p1), .val (.int p2), .val (.int cd), .val (.int (0 : Int32)), .val (.ref b102r), .val (.ref b169), .val (.ref b174), .val .null, .unset, .unset] [(.ref b181)]))
          refine Go.step (fun _ kt => XS.dup X181.here hx rfl (hb hby at_89) rfl rfl kt) ?_
          show Go p.tables e below _ (T181.setTop (mkF m 90 #[.val (.int p1), .val (.int p2), .val (.int cd), .val (.int (0 : Int32)), .val (.ref b102r), .val (.ref b169), .val (.ref b174), .val .null, .unset, .unset] [(.ref b181), (.ref b181)]))
          refine Go.step (fun _ kt => XS.aload X181.here hx rfl (hb hby at_90) rfl rfl kt) ?_
          show Go p.tables e below _ (T181.setTop (mkF m 92 #[.val (.int p1), .val (.int p2), .val (.int cd), .val (.int (0 : Int32)), .val (.ref b102r), .val (.ref b169), .val (.ref b174), .val .null, .unset, .unset] [(.ref b102r), (.ref b181), (.ref b181)]))
          refine Go.step (fun _ kt => XS.aload X181.here hx rfl (hb hby at_92) rfl rfl kt) ?_
          show Go p.tables e below _ (T181.setTop (mkF m 94 #[.val (.int p1), .val (.int p2), .val (.int cd), .val (.int (0 : Int32)), .val (.ref b102r), .val (.ref b169), .val (.ref b174), .val .null, .unset, .unset] [(.ref b169), (.ref b102r), (.ref b181), (.ref b181)]))
          refine Go.step (fun _ kt => XS.aload X181.here hx rfl (hb hby at_94) rfl rfl kt) ?_
          show Go p.tables e below _ (T181.setTop (mkF m 96 #[.val (.int p1), .val (.int p2), .val (.int cd), .val (.int (0 : Int32)), .val (.ref b102r), .val (.ref b169), .val (.ref b174), .val .null, .unset, .unset] [(.ref b174), (.ref b169), (.ref b102r), (.ref b181), (.ref b181)]))
          refine Go.step (fun _ kt => XS.aload X181.here hx rfl (hb hby at_96) rfl rfl kt) ?_
          show Go p.tables e below _ (T181.setTop (mkF m 98 #[.val (.int p1), .val (.int p2), .val (.int cd), .val (.int (0 : Int32)), .val (.ref b102r), .val (.ref b169), .val (.ref b174), .val .null, .unset, .unset] [.null, (.ref b174), (.ref b169), (.ref b102r), (.ref b181), (.ref b181)]))
          obtain ⟨_, _, ⟨T191, L191, k191, n191⟩, -, X191, ⟨Lc191, hQ191, l191, y191, z191⟩, st191⟩ := X181.specialBack hx (y := (⟨"com/example/patient_courier/patientcourier/delivery/AttemptResult", "<init>", "(Ljava/lang/Integer;Ljava/lang/String;[BLjava/lang/String;)V"⟩ : MethodName)) rfl hown (mvT hZ (hw _ (List.mem_of_getElem? (i := 5) rfl))) (mvT hZ (hw _ (List.mem_of_getElem? (i := 6) rfl))) (mvT hZ (hw _ (List.mem_of_getElem? (i := 7) rfl))) (by decide) (backOf (W := 1) (rmi_rrrn l Z a0 hw [] b181 b102r b169 b174 .null .null .null .null h181 n0 Z185 A181 F187 F188 F189 F190 g_b181) hZ (hw _ (List.mem_of_getElem? (i := 7) rfl)) (hw _ (List.mem_of_getElem? (i := 4) rfl)) (by decide) (by decide)) (g := (mkF m 98 #[.val (.int p1), .val (.int p2), .val (.int cd), .val (.int (0 : Int32)), .val (.ref b102r), .val (.ref b169), .val (.ref b174), .val .null, .unset, .unset] [.null, (.ref b174), (.ref b169), (.ref b102r), (.ref b181), (.ref b181)])) rfl (by rw [hml]; rfl) (Steps.refl _) (a := b181) (argsL := [(.ref b102r), (.ref b169), (.ref b174), .null]) (rest := [(.ref b181)]) (lenOf pd_4 rfl) rfl (by show 2 * 0 + _ ≤ _; exact Nat.le_of_eq rfl) (hb hby at_98) (fun _ _ => ⟨rfl, e181, (by decide : 5 + 0 ≤ _), (by decide : 40 + 0 ≤ _)⟩)
          dsimp only [Pt.U, Pt.locs, Pt.cells, Pt.slots] at X191 l191 y191 z191 st191 hQ191
          subst l191 y191 z191
          obtain ⟨rfl, N191q, Kq191, P192, P193⟩ := hQ191
          have F194 : Exa Z T191.heap b102r "java/lang/Integer" := (F182.keep Kq191)
          have F195 : Fld Z T191.heap b102r "java/lang/Integer" "value" "I" (.int cd) := (F183.keep Kq191 (fun q => ne_b102r_b181 (List.mem_singleton.mp q)))
          have F196 : Arv Z T191.heap b174 k174 .byte ln [(.int (0 : Int32)), (.int (0 : Int32)), (.int (0 : Int32))] (.int (0 : Int32)) := (F184.keep Kq191 (fun q => ne_b174_b181 (List.mem_singleton.mp q)))
          have F197 : Exa Z T191.heap b181 "com/example/patient_courier/patientcourier/delivery/AttemptResult" := (A181.keep Kq191)
          have Z198 : n0 ≤ T191.heap.size := (Nat.le_trans Z185 Kq191.1)
          have hk199 : _ ≤ T191.heap.size := (Nat.le_trans hk186 Kq191.1)
          have N191 := Fr.app N102 N191q
          refine Go.step (fun _ kt => st191.trans kt) ?_
          show Go p.tables e below _ (T191.setTop (mkF m 101 #[.val (.int p1), .val (.int p2), .val (.int cd), .val (.int (0 : Int32)), .val (.ref b102r), .val (.ref b169), .val (.ref b174), .val .null, .unset, .unset] [(.ref b181)]))
          refine Go.step (fun _ kt => XS.astore X191.here hx rfl (hb hby at_101) rfl rfl (l' := #[.val (.int p1), .val (.int p2), .val (.int cd), .val (.int (0 : Int32)), .val (.ref b102r), .val (.ref b169), .val (.ref b174), .val .null, .val (.ref b181), .unset]) rfl kt) ?_
          show Go p.tables e below _ (T191.setTop (mkF m 103 #[.val (.int p1), .val (.int p2), .val (.int cd), .val (.int (0 : Int32)), .val (.ref b102r), .val (.ref b169), .val (.ref b174), .val .null, .val (.ref b181), .unset] []))
          refine Go.step (fun _ kt => XS.iloadN X191.here hx rfl (hb hby at_103) rfl kt) ?_
          show Go p.tables e below _ (T191.setTop (mkF m 104 #[.val (.int p1), .val (.int p2), .val (.int cd), .val (.int (0 : Int32)), .val (.ref b102r), .val (.ref b169), .val (.ref b174), .val .null, .val (.ref b181), .unset] [(.int (0 : Int32))]))
          refine Go.step (fun _ kt => XS.ifNo X191.here hx rfl (hb hby at_104) rfl ((if0 _ _).trans (teq (by decide : (0 : Int32) = (0 : Int32))).2) kt) ?_
          show Go p.tables e below _ (T191.setTop (mkF m 107 #[.val (.int p1), .val (.int p2), .val (.int cd), .val (.int (0 : Int32)), .val (.ref b102r), .val (.ref b169), .val (.ref b174), .val .null, .val (.ref b181), .unset] []))
          refine Go.step (fun _ kt => XS.iloadN X191.here hx rfl (hb hby at_107) rfl kt) ?_
          show Go p.tables e below _ (T191.setTop (mkF m 108 #[.val (.int p1), .val (.int p2), .val (.int cd), .val (.int (0 : Int32)), .val (.ref b102r), .val (.ref b169), .val (.ref b174), .val .null, .val (.ref b181), .unset] [(.int cd)]))
          refine Go.step (fun _ kt => XS.bipush X191.here hx rfl (hb hby at_108) kt) ?_
          show Go p.tables e below _ (T191.setTop (mkF m 110 #[.val (.int p1), .val (.int p2), .val (.int cd), .val (.int (0 : Int32)), .val (.ref b102r), .val (.ref b169), .val (.ref b174), .val .null, .val (.ref b181), .unset] [(.int (100 : Int32)), (.int cd)]))
          refine Go.step (fun _ kt => XS.idiv X191.here hx rfl (hb hby at_110) rfl (by decide) kt) ?_
          show Go p.tables e below _ (T191.setTop (mkF m 111 #[.val (.int p1), .val (.int p2), .val (.int cd), .val (.int (0 : Int32)), .val (.ref b102r), .val (.ref b169), .val (.ref b174), .val .null, .val (.ref b181), .unset] [(.int (cd / (100 : Int32)))]))
          refine Go.step (fun _ kt => XS.iconst X191.here hx rfl (hb hby at_111) kt) ?_
          show Go p.tables e below _ (T191.setTop (mkF m 112 #[.val (.int p1), .val (.int p2), .val (.int cd), .val (.int (0 : Int32)), .val (.ref b102r), .val (.ref b169), .val (.ref b174), .val .null, .val (.ref b181), .unset] [(.int (2 : Int32)), (.int (cd / (100 : Int32)))]))
          by_cases hc112_200 : (cd / (100 : Int32)) = (2 : Int32)
          · refine Go.step (fun _ kt => XS.icmpNo X191.here hx rfl (hb hby at_112) rfl (teq hc112_200).2 kt) ?_
            show Go p.tables e below _ (T191.setTop (mkF m 115 #[.val (.int p1), .val (.int p2), .val (.int cd), .val (.int (0 : Int32)), .val (.ref b102r), .val (.ref b169), .val (.ref b174), .val .null, .val (.ref b181), .unset] []))
            refine Go.step (fun _ kt => XS.iconst X191.here hx rfl (hb hby at_115) kt) ?_
            show Go p.tables e below _ (T191.setTop (mkF m 116 #[.val (.int p1), .val (.int p2), .val (.int cd), .val (.int (0 : Int32)), .val (.ref b102r), .val (.ref b169), .val (.ref b174), .val .null, .val (.ref b181), .unset] [(.int (1 : Int32))]))
            refine Go.step (fun _ kt => XS.goto X191.here hx rfl (pc0 := 116) (pc' := 120) rfl (hb hby at_116) (by decide) (by decide) kt) ?_
            show Go p.tables e below _ (T191.setTop (mkF m 120 #[.val (.int p1), .val (.int p2), .val (.int cd), .val (.int (0 : Int32)), .val (.ref b102r), .val (.ref b169), .val (.ref b174), .val .null, .val (.ref b181), .unset] [(.int (1 : Int32))]))
            refine Go.step (fun _ kt => XS.istore X191.here hx rfl (hb hby at_120) rfl (l' := #[.val (.int p1), .val (.int p2), .val (.int cd), .val (.int (0 : Int32)), .val (.ref b102r), .val (.ref b169), .val (.ref b174), .val .null, .val (.ref b181), .val (.int (1 : Int32))]) rfl kt) ?_
            show Go p.tables e below _ (T191.setTop (mkF m 122 #[.val (.int p1), .val (.int p2), .val (.int cd), .val (.int (0 : Int32)), .val (.ref b102r), .val (.ref b169), .val (.ref b174), .val .null, .val (.ref b181), .val (.int (1 : Int32))] []))
            refine Go.step (fun _ kt => XS.aload X191.here hx rfl (hb hby at_122) rfl rfl kt) ?_
            show Go p.tables e below _ (T191.setTop (mkF m 124 #[.val (.int p1), .val (.int p2), .val (.int cd), .val (.int (0 : Int32)), .val (.ref b102r), .val (.ref b169), .val (.ref b174), .val .null, .val (.ref b181), .val (.int (1 : Int32))] [(.ref b181)]))
            obtain ⟨cq201, kq201, q201a, q201b, q201c⟩ := isOf hZ rfl P192
            obtain ⟨_, _, ⟨T201, L201, k201, n201⟩, -, X201, ⟨Lc201, hQ201, l201, y201, z201⟩, st201⟩ := X191.virtualBack hx (y := (⟨"com/example/patient_courier/patientcourier/delivery/AttemptResult", "delivered", "()Z"⟩ : MethodName)) (z := (⟨"com/example/patient_courier/patientcourier/delivery/AttemptResult", "delivered", "()Z"⟩ : MethodName)) hown (mvT hZ (hw _ (List.mem_of_getElem? (i := 24) rfl))) (mvT hZ (hw _ (List.mem_of_getElem? (i := 25) rfl))) (notFace_of_selects (args := #[]) (mvT hZ (hw _ (List.mem_of_getElem? (i := 27) rfl)))) (mvT hZ (hw _ (List.mem_of_getElem? (i := 27) rfl))) (mvT hZ (hw _ (List.mem_of_getElem? (i := 26) rfl))) (by decide) (backOf (W := 0) (rmds l Z a0 hw [] b181 b102r cd T191.heap n0 Z198 P193 F194 F195 ) hZ (hw _ (List.mem_of_getElem? (i := 28) rfl)) (hw _ (List.mem_of_getElem? (i := 4) rfl)) (by decide) (by decide)) q201a q201c (g := (mkF m 124 #[.val (.int p1), .val (.int p2), .val (.int cd), .val (.int (0 : Int32)), .val (.ref b102r), .val (.ref b169), .val (.ref b174), .val .null, .val (.ref b181), .val (.int (1 : Int32))] [(.ref b181)])) rfl (by rw [hml]; rfl) (Steps.refl _) (argsL := []) (rest := []) (lenOf pd_5 rfl) rfl (by show 2 * 0 + _ ≤ _; exact Nat.le_of_eq rfl) (hb hby at_124) (fun _ _ => ⟨rfl, rfl, (by decide : 5 + 0 ≤ _), (by decide : 40 + 0 ≤ _)⟩)
            dsimp only [Pt.U, Pt.locs, Pt.cells, Pt.slots] at X201 l201 y201 z201 st201 hQ201
            subst l201 y201 z201
            obtain ⟨rfl, N201q, eh201⟩ := hQ201
            have N201 := Fr.app N191 N201q
            refine Go.step (fun _ kt => st201.trans kt) ?_
            show Go p.tables e below _ (T201.setTop (mkF m 127 #[.val (.int p1), .val (.int p2), .val (.int cd), .val (.int (0 : Int32)), .val (.ref b102r), .val (.ref b169), .val (.ref b174), .val .null, .val (.ref b181), .val (.int (1 : Int32))] [(.int (own_del cd))]))
            have q202 : (own_del cd) = (1 : Int32) := (own_dl cd).1 hc112_200
            rw [q202]
            show Go p.tables e below _ (T201.setTop (mkF m 127 #[.val (.int p1), .val (.int p2), .val (.int cd), .val (.int (0 : Int32)), .val (.ref b102r), .val (.ref b169), .val (.ref b174), .val .null, .val (.ref b181), .val (.int (1 : Int32))] [(.int (1 : Int32))]))
            refine Go.step (fun _ kt => XS.iload X201.here hx rfl (hb hby at_127) rfl kt) ?_
            show Go p.tables e below _ (T201.setTop (mkF m 129 #[.val (.int p1), .val (.int p2), .val (.int cd), .val (.int (0 : Int32)), .val (.ref b102r), .val (.ref b169), .val (.ref b174), .val .null, .val (.ref b181), .val (.int (1 : Int32))] [(.int (1 : Int32)), (.int (1 : Int32))]))
            refine Go.step (fun _ kt => XS.icmpNo X201.here hx rfl (hb hby at_129) rfl (teq (by decide : (1 : Int32) = (1 : Int32))).2 kt) ?_
            show Go p.tables e below _ (T201.setTop (mkF m 132 #[.val (.int p1), .val (.int p2), .val (.int cd), .val (.int (0 : Int32)), .val (.ref b102r), .val (.ref b169), .val (.ref b174), .val .null, .val (.ref b181), .val (.int (1 : Int32))] []))
            refine Go.step (fun _ kt => XS.iconst X201.here hx rfl (hb hby at_132) kt) ?_
            show Go p.tables e below _ (T201.setTop (mkF m 133 #[.val (.int p1), .val (.int p2), .val (.int cd), .val (.int (0 : Int32)), .val (.ref b102r), .val (.ref b169), .val (.ref b174), .val .null, .val (.ref b181), .val (.int (1 : Int32))] [(.int (1 : Int32))]))
            refine Go.step (fun _ kt => XS.goto X201.here hx rfl (pc0 := 133) (pc' := 137) rfl (hb hby at_133) (by decide) (by decide) kt) ?_
            show Go p.tables e below _ (T201.setTop (mkF m 137 #[.val (.int p1), .val (.int p2), .val (.int cd), .val (.int (0 : Int32)), .val (.ref b102r), .val (.ref b169), .val (.ref b174), .val .null, .val (.ref b181), .val (.int (1 : Int32))] [(.int (1 : Int32))]))
            obtain ⟨fs, hr, hrun, hended, hRW⟩ := X201.leaveW hS169 (by rw [eh201]; exact hk199) (v := some (.int (1 : Int32))) (fun h => by rw [Bd.returns] at h; cases h)
            refine ⟨_, _, retN X201 hx (t := .boolean) Bd.returns (by simp) (hb hby at_137) hr, hrun, hended, _, _, rfl, ?_, hRW.1, hRW.2.1, hRW.2.2.1, hRW.2.2.2.mono (by decide) (by decide)⟩
            show Qrm0 Z p1 p2 ca cc h0 n0 _ T201.heap _
            rw [eh201]
            exact ⟨rfl, N201⟩
          · refine Go.step (fun _ kt => XS.icmpYes X191.here hx rfl (pc0 := 112) (pc' := 119) rfl (hb hby at_112) rfl (feq hc112_200).2 (by decide) (by decide) kt) ?_
            show Go p.tables e below _ (T191.setTop (mkF m 119 #[.val (.int p1), .val (.int p2), .val (.int cd), .val (.int (0 : Int32)), .val (.ref b102r), .val (.ref b169), .val (.ref b174), .val .null, .val (.ref b181), .unset] []))
            refine Go.step (fun _ kt => XS.iconst X191.here hx rfl (hb hby at_119) kt) ?_
            show Go p.tables e below _ (T191.setTop (mkF m 120 #[.val (.int p1), .val (.int p2), .val (.int cd), .val (.int (0 : Int32)), .val (.ref b102r), .val (.ref b169), .val (.ref b174), .val .null, .val (.ref b181), .unset] [(.int (0 : Int32))]))
            refine Go.step (fun _ kt => XS.istore X191.here hx rfl (hb hby at_120) rfl (l' := #[.val (.int p1), .val (.int p2), .val (.int cd), .val (.int (0 : Int32)), .val (.ref b102r), .val (.ref b169), .val (.ref b174), .val .null, .val (.ref b181), .val (.int (0 : Int32))]) rfl kt) ?_
            show Go p.tables e below _ (T191.setTop (mkF m 122 #[.val (.int p1), .val (.int p2), .val (.int cd), .val (.int (0 : Int32)), .val (.ref b102r), .val (.ref b169), .val (.ref b174), .val .null, .val (.ref b181), .val (.int (0 : Int32))] []))
            refine Go.step (fun _ kt => XS.aload X191.here hx rfl (hb hby at_122) rfl rfl kt) ?_
            show Go p.tables e below _ (T191.setTop (mkF m 124 #[.val (.int p1), .val (.int p2), .val (.int cd), .val (.int (0 : Int32)), .val (.ref b102r), .val (.ref b169), .val (.ref b174), .val .null, .val (.ref b181), .val (.int (0 : Int32))] [(.ref b181)]))
            obtain ⟨cq203, kq203, q203a, q203b, q203c⟩ := isOf hZ rfl P192
            obtain ⟨_, _, ⟨T203, L203, k203, n203⟩, -, X203, ⟨Lc203, hQ203, l203, y203, z203⟩, st203⟩ := X191.virtualBack hx (y := (⟨"com/example/patient_courier/patientcourier/delivery/AttemptResult", "delivered", "()Z"⟩ : MethodName)) (z := (⟨"com/example/patient_courier/patientcourier/delivery/AttemptResult", "delivered", "()Z"⟩ : MethodName)) hown (mvT hZ (hw _ (List.mem_of_getElem? (i := 24) rfl))) (mvT hZ (hw _ (List.mem_of_getElem? (i := 25) rfl))) (notFace_of_selects (args := #[]) (mvT hZ (hw _ (List.mem_of_getElem? (i := 27) rfl)))) (mvT hZ (hw _ (List.mem_of_getElem? (i := 27) rfl))) (mvT hZ (hw _ (List.mem_of_getElem? (i := 26) rfl))) (by decide) (backOf (W := 0) (rmds l Z a0 hw [] b181 b102r cd T191.heap n0 Z198 P193 F194 F195 ) hZ (hw _ (List.mem_of_getElem? (i := 28) rfl)) (hw _ (List.mem_of_getElem? (i := 4) rfl)) (by decide) (by decide)) q203a q203c (g := (mkF m 124 #[.val (.int p1), .val (.int p2), .val (.int cd), .val (.int (0 : Int32)), .val (.ref b102r), .val (.ref b169), .val (.ref b174), .val .null, .val (.ref b181), .val (.int (0 : Int32))] [(.ref b181)])) rfl (by rw [hml]; rfl) (Steps.refl _) (argsL := []) (rest := []) (lenOf pd_5 rfl) rfl (by show 2 * 0 + _ ≤ _; exact Nat.le_of_eq rfl) (hb hby at_124) (fun _ _ => ⟨rfl, rfl, (by decide : 5 + 0 ≤ _), (by decide : 40 + 0 ≤ _)⟩)
            dsimp only [Pt.U, Pt.locs, Pt.cells, Pt.slots] at X203 l203 y203 z203 st203 hQ203
            subst l203 y203 z203
            obtain ⟨rfl, N203q, eh203⟩ := hQ203
            have N203 := Fr.app N191 N203q
            refine Go.step (fun _ kt => st203.trans kt) ?_
            show Go p.tables e below _ (T203.setTop (mkF m 127 #[.val (.int p1), .val (.int p2), .val (.int cd), .val (.int (0 : Int32)), .val (.ref b102r), .val (.ref b169), .val (.ref b174), .val .null, .val (.ref b181), .val (.int (0 : Int32))] [(.int (own_del cd))]))
            have q204 : (own_del cd) = (0 : Int32) := (own_dl cd).2 hc112_200
            rw [q204]
            show Go p.tables e below _ (T203.setTop (mkF m 127 #[.val (.int p1), .val (.int p2), .val (.int cd), .val (.int (0 : Int32)), .val (.ref b102r), .val (.ref b169), .val (.ref b174), .val .null, .val (.ref b181), .val (.int (0 : Int32))] [(.int (0 : Int32))]))
            refine Go.step (fun _ kt => XS.iload X203.here hx rfl (hb hby at_127) rfl kt) ?_
            show Go p.tables e below _ (T203.setTop (mkF m 129 #[.val (.int p1), .val (.int p2), .val (.int cd), .val (.int (0 : Int32)), .val (.ref b102r), .val (.ref b169), .val (.ref b174), .val .null, .val (.ref b181), .val (.int (0 : Int32))] [(.int (0 : Int32)), (.int (0 : Int32))]))
            refine Go.step (fun _ kt => XS.icmpNo X203.here hx rfl (hb hby at_129) rfl (teq (by decide : (0 : Int32) = (0 : Int32))).2 kt) ?_
            show Go p.tables e below _ (T203.setTop (mkF m 132 #[.val (.int p1), .val (.int p2), .val (.int cd), .val (.int (0 : Int32)), .val (.ref b102r), .val (.ref b169), .val (.ref b174), .val .null, .val (.ref b181), .val (.int (0 : Int32))] []))
            refine Go.step (fun _ kt => XS.iconst X203.here hx rfl (hb hby at_132) kt) ?_
            show Go p.tables e below _ (T203.setTop (mkF m 133 #[.val (.int p1), .val (.int p2), .val (.int cd), .val (.int (0 : Int32)), .val (.ref b102r), .val (.ref b169), .val (.ref b174), .val .null, .val (.ref b181), .val (.int (0 : Int32))] [(.int (1 : Int32))]))
            refine Go.step (fun _ kt => XS.goto X203.here hx rfl (pc0 := 133) (pc' := 137) rfl (hb hby at_133) (by decide) (by decide) kt) ?_
            show Go p.tables e below _ (T203.setTop (mkF m 137 #[.val (.int p1), .val (.int p2), .val (.int cd), .val (.int (0 : Int32)), .val (.ref b102r), .val (.ref b169), .val (.ref b174), .val .null, .val (.ref b181), .val (.int (0 : Int32))] [(.int (1 : Int32))]))
            obtain ⟨fs, hr, hrun, hended, hRW⟩ := X203.leaveW hS169 (by rw [eh203]; exact hk199) (v := some (.int (1 : Int32))) (fun h => by rw [Bd.returns] at h; cases h)
            refine ⟨_, _, retN X203 hx (t := .boolean) Bd.returns (by simp) (hb hby at_137) hr, hrun, hended, _, _, rfl, ?_, hRW.1, hRW.2.1, hRW.2.2.1, hRW.2.2.2.mono (by decide) (by decide)⟩
            show Qrm0 Z p1 p2 ca cc h0 n0 _ T203.heap _
            rw [eh203]
            exact ⟨rfl, N203⟩
        · refine Go.step (fun _ kt => XS.ifNo X174.here hx rfl (hb hby at_75) rfl ((if0 _ _).trans (feq hc75_180).1) kt) ?_
          show Go p.tables e below _ (T174.setTop (mkF m 78 #[.val (.int p1), .val (.int p2), .val (.int cd), .val (.int (0 : Int32)), .val (.ref b102r), .val (.ref b169), .val (.ref b174), .unset, .unset, .unset] []))
          obtain ⟨b205, T205, h205, k205, X205, e205, E205, hS205, hk205, hZ, hown, st205⟩ := ldcS (s := s) X174 hx hZ hown (hw _ (List.mem_of_getElem? (i := 63) rfl)) (own_wS hw) e174 hS169 hk178 (g := (mkF m 78 #[.val (.int p1), .val (.int p2), .val (.int cd), .val (.int (0 : Int32)), .val (.ref b102r), .val (.ref b169), .val (.ref b174), .unset, .unset, .unset] [])) rfl (hb hby at_78) (n := 12) (by decide) (by decide) (by decide) (by decide)
          refine Go.step st205 ?_
          have F206 : Exa Z h205 b102r "java/lang/Integer" := (F175.ext E205)
          have F207 : Fld Z h205 b102r "java/lang/Integer" "value" "I" (.int cd) := (F176.ext E205)
          have F208 : Arv Z h205 b174 k174 .byte ln [(.int (0 : Int32)), (.int (0 : Int32)), (.int (0 : Int32))] (.int (0 : Int32)) := (V179.ext E205)
          have Z209 : n0 ≤ h205.size := (Nat.le_trans Z177 E205.1)
          have hk210 : _ ≤ h205.size := (Nat.le_trans hk178 E205.1)
          show Go p.tables e below _ (T205.setTop (mkF m 80 #[.val (.int p1), .val (.int p2), .val (.int cd), .val (.int (0 : Int32)), .val (.ref b102r), .val (.ref b169), .val (.ref b174), .unset, .unset, .unset] [(.ref b205)]))
          refine Go.step (fun _ kt => XS.goto X205.here hx rfl (pc0 := 80) (pc' := 84) rfl (hb hby at_80) (by decide) (by decide) kt) ?_
          show Go p.tables e below _ (T205.setTop (mkF m 84 #[.val (.int p1), .val (.int p2), .val (.int cd), .val (.int (0 : Int32)), .val (.ref b102r), .val (.ref b169), .val (.ref b174), .unset, .unset, .unset] [(.ref b205)]))
          refine Go.step (fun _ kt => XS.astore X205.here hx rfl (hb hby at_84) rfl rfl (l' := #[.val (.int p1), .val (.int p2), .val (.int cd), .val (.int (0 : Int32)), .val (.ref b102r), .val (.ref b169), .val (.ref b174), .val (.ref b205), .unset, .unset]) rfl kt) ?_
          show Go p.tables e below _ (T205.setTop (mkF m 86 #[.val (.int p1), .val (.int p2), .val (.int cd), .val (.int (0 : Int32)), .val (.ref b102r), .val (.ref b169), .val (.ref b174), .val (.ref b205), .unset, .unset] []))
          obtain ⟨T211, h211, X211, e211, E211, A211, D211, -, st211⟩ := newO X205 hx hZ hown (hw _ (List.mem_of_getElem? (i := 2) rfl)) (hw _ (List.mem_of_getElem? (i := 3) rfl)) (hw _ (List.mem_of_getElem? (i := 4) rfl)) e205 (g := (mkF m 86 #[.val (.int p1), .val (.int p2), .val (.int cd), .val (.int (0 : Int32)), .val (.ref b102r), .val (.ref b169), .val (.ref b174), .val (.ref b205), .unset, .unset] [])) rfl (hb hby at_86) (by decide) (by decide)
          obtain ⟨b211, g211⟩ : ∃ z, z = h205.size := ⟨_, rfl⟩
          rw [← g211] at A211 D211 st211
          refine Go.step st211 ?_
          have ne_b102r_b211 : b102r ≠ b211 := Nat.ne_of_lt (Nat.lt_of_lt_of_le F206.lt (Nat.le_of_eq g211.symm))
          have ne_b174_b211 : b174 ≠ b211 := Nat.ne_of_lt (Nat.lt_of_lt_of_le F208.lt (Nat.le_of_eq g211.symm))
          have g_b211 : n0 ≤ b211 := Nat.le_trans Z209 (Nat.le_of_eq g211.symm)
          have F212 : Exa Z h211 b102r "java/lang/Integer" := (F206.ext E211)
          have F213 : Fld Z h211 b102r "java/lang/Integer" "value" "I" (.int cd) := (F207.ext E211)
          have F214 : Arv Z h211 b174 k174 .byte ln [(.int (0 : Int32)), (.int (0 : Int32)), (.int (0 : Int32))] (.int (0 : Int32)) := (F208.ext E211)
          have Z215 : n0 ≤ h211.size := (Nat.le_trans Z209 E211.1)
          have hk216 : _ ≤ h211.size := (Nat.le_trans hk205 E211.1)
          have F217 : Fld Z h211 b211 "com/example/patient_courier/patientcourier/delivery/AttemptResult" "status" "Ljava/lang/Integer;" .null := D211 (Or.inr (hw _ (List.mem_of_getElem? (i := 17) rfl))) (ty := (.object "java/lang/Integer")) (by decide)
          have F218 : Fld Z h211 b211 "com/example/patient_courier/patientcourier/delivery/AttemptResult" "error" "Ljava/lang/String;" .null := D211 (Or.inr (hw _ (List.mem_of_getElem? (i := 19) rfl))) (ty := (.object "java/lang/String")) (by decide)
          have F219 : Fld Z h211 b211 "com/example/patient_courier/patientcourier/delivery/AttemptResult" "preview" "[B" .null := D211 (Or.inr (hw _ (List.mem_of_getElem? (i := 21) rfl))) (ty := (.array .byte)) (by decide)
          have F220 : Fld Z h211 b211 "com/example/patient_courier/patientcourier/delivery/AttemptResult" "retryAfter" "Ljava/lang/String;" .null := D211 (Or.inr (hw _ (List.mem_of_getElem? (i := 23) rfl))) (ty := (.object "java/lang/String")) (by decide)
          show Go p.tables e below _ (T211.setTop (mkF m 89 #[.val (.int p1), .val (.int p2), .val (.int cd), .val (.int (0 : Int32)), .val (.ref b102r), .val (.ref b169), .val (.ref b174), .val (.ref b205), .unset, .unset] [(.ref b211)]))
          refine Go.step (fun _ kt => XS.dup X211.here hx rfl (hb hby at_89) rfl rfl kt) ?_
          show Go p.tables e below _ (T211.setTop (mkF m 90 #[.val (.int p1), .val (.int p2), .val (.int cd), .val (.int (0 : Int32)), .val (.ref b102r), .val (.ref b169), .val (.ref b174), .val (.ref b205), .unset, .unset] [(.ref b211), (.ref b211)]))
          refine Go.step (fun _ kt => XS.aload X211.here hx rfl (hb hby at_90) rfl rfl kt) ?_
          show Go p.tables e below _ (T211.setTop (mkF m 92 #[.val (.int p1), .val (.int p2), .val (.int cd), .val (.int (0 : Int32)), .val (.ref b102r), .val (.ref b169), .val (.ref b174), .val (.ref b205), .unset, .unset] [(.ref b102r), (.ref b211), (.ref b211)]))
          refine Go.step (fun _ kt => XS.aload X211.here hx rfl (hb hby at_92) rfl rfl kt) ?_
          show Go p.tables e below _ (T211.setTop (mkF m 94 #[.val (.int p1), .val (.int p2), .val (.int cd), .val (.int (0 : Int32)), .val (.ref b102r), .val (.ref b169), .val (.ref b174), .val (.ref b205), .unset, .unset] [(.ref b169), (.ref b102r), (.ref b211), (.ref b211)]))
          refine Go.step (fun _ kt => XS.aload X211.here hx rfl (hb hby at_94) rfl rfl kt) ?_
          show Go p.tables e below _ (T211.setTop (mkF m 96 #[.val (.int p1), .val (.int p2), .val (.int cd), .val (.int (0 : Int32)), .val (.ref b102r), .val (.ref b169), .val (.ref b174), .val (.ref b205), .unset, .unset] [(.ref b174), (.ref b169), (.ref b102r), (.ref b211), (.ref b211)]))
          refine Go.step (fun _ kt => XS.aload X211.here hx rfl (hb hby at_96) rfl rfl kt) ?_
          show Go p.tables e below _ (T211.setTop (mkF m 98 #[.val (.int p1), .val (.int p2), .val (.int cd), .val (.int (0 : Int32)), .val (.ref b102r), .val (.ref b169), .val (.ref b174), .val (.ref b205), .unset, .unset] [(.ref b205), (.ref b174), (.ref b169), (.ref b102r), (.ref b211), (.ref b211)]))
          obtain ⟨_, _, ⟨T221, L221, k221, n221⟩, -, X221, ⟨Lc221, hQ221, l221, y221, z221⟩, st221⟩ := X211.specialBack hx (y := (⟨"com/example/patient_courier/patientcourier/delivery/AttemptResult", "<init>", "(Ljava/lang/Integer;Ljava/lang/String;[BLjava/lang/String;)V"⟩ : MethodName)) rfl hown (mvT hZ (hw _ (List.mem_of_getElem? (i := 5) rfl))) (mvT hZ (hw _ (List.mem_of_getElem? (i := 6) rfl))) (mvT hZ (hw _ (List.mem_of_getElem? (i := 7) rfl))) (by decide) (backOf (W := 1) (rmi_rrrr l Z a0 hw [] b211 b102r b169 b174 b205 .null .null .null .null h211 n0 Z215 A211 F217 F218 F219 F220 g_b211) hZ (hw _ (List.mem_of_getElem? (i := 7) rfl)) (hw _ (List.mem_of_getElem? (i := 4) rfl)) (by decide) (by decide)) (g := (mkF m 98 #[.val (.int p1), .val (.int p2), .val (.int cd), .val (.int (0 : Int32)), .val (.ref b102r), .val (.ref b169), .val (.ref b174), .val (.ref b205), .unset, .unset] [(.ref b205), (.ref b174), (.ref b169), (.ref b102r), (.ref b211), (.ref b211)])) rfl (by rw [hml]; rfl) (Steps.refl _) (a := b211) (argsL := [(.ref b102r), (.ref b169), (.ref b174), (.ref b205)]) (rest := [(.ref b211)]) (lenOf pd_4 rfl) rfl (by show 2 * 0 + _ ≤ _; exact Nat.le_of_eq rfl) (hb hby at_98) (fun _ _ => ⟨rfl, e211, (by decide : 7 + 0 ≤ _), (by decide : 56 + 0 ≤ _)⟩)
          dsimp only [Pt.U, Pt.locs, Pt.cells, Pt.slots] at X221 l221 y221 z221 st221 hQ221
          subst l221 y221 z221
          obtain ⟨rfl, N221q, Kq221, P222, P223⟩ := hQ221
          have F224 : Exa Z T221.heap b102r "java/lang/Integer" := (F212.keep Kq221)
          have F225 : Fld Z T221.heap b102r "java/lang/Integer" "value" "I" (.int cd) := (F213.keep Kq221 (fun q => ne_b102r_b211 (List.mem_singleton.mp q)))
          have F226 : Arv Z T221.heap b174 k174 .byte ln [(.int (0 : Int32)), (.int (0 : Int32)), (.int (0 : Int32))] (.int (0 : Int32)) := (F214.keep Kq221 (fun q => ne_b174_b211 (List.mem_singleton.mp q)))
          have F227 : Exa Z T221.heap b211 "com/example/patient_courier/patientcourier/delivery/AttemptResult" := (A211.keep Kq221)
          have Z228 : n0 ≤ T221.heap.size := (Nat.le_trans Z215 Kq221.1)
          have hk229 : _ ≤ T221.heap.size := (Nat.le_trans hk216 Kq221.1)
          have N221 := Fr.app N102 N221q
          refine Go.step (fun _ kt => st221.trans kt) ?_
          show Go p.tables e below _ (T221.setTop (mkF m 101 #[.val (.int p1), .val (.int p2), .val (.int cd), .val (.int (0 : Int32)), .val (.ref b102r), .val (.ref b169), .val (.ref b174), .val (.ref b205), .unset, .unset] [(.ref b211)]))
          refine Go.step (fun _ kt => XS.astore X221.here hx rfl (hb hby at_101) rfl rfl (l' := #[.val (.int p1), .val (.int p2), .val (.int cd), .val (.int (0 : Int32)), .val (.ref b102r), .val (.ref b169), .val (.ref b174), .val (.ref b205), .val (.ref b211), .unset]) rfl kt) ?_
          show Go p.tables e below _ (T221.setTop (mkF m 103 #[.val (.int p1), .val (.int p2), .val (.int cd), .val (.int (0 : Int32)), .val (.ref b102r), .val (.ref b169), .val (.ref b174), .val (.ref b205), .val (.ref b211), .unset] []))
          refine Go.step (fun _ kt => XS.iloadN X221.here hx rfl (hb hby at_103) rfl kt) ?_
          show Go p.tables e below _ (T221.setTop (mkF m 104 #[.val (.int p1), .val (.int p2), .val (.int cd), .val (.int (0 : Int32)), .val (.ref b102r), .val (.ref b169), .val (.ref b174), .val (.ref b205), .val (.ref b211), .unset] [(.int (0 : Int32))]))
          refine Go.step (fun _ kt => XS.ifNo X221.here hx rfl (hb hby at_104) rfl ((if0 _ _).trans (teq (by decide : (0 : Int32) = (0 : Int32))).2) kt) ?_
          show Go p.tables e below _ (T221.setTop (mkF m 107 #[.val (.int p1), .val (.int p2), .val (.int cd), .val (.int (0 : Int32)), .val (.ref b102r), .val (.ref b169), .val (.ref b174), .val (.ref b205), .val (.ref b211), .unset] []))
          refine Go.step (fun _ kt => XS.iloadN X221.here hx rfl (hb hby at_107) rfl kt) ?_
          show Go p.tables e below _ (T221.setTop (mkF m 108 #[.val (.int p1), .val (.int p2), .val (.int cd), .val (.int (0 : Int32)), .val (.ref b102r), .val (.ref b169), .val (.ref b174), .val (.ref b205), .val (.ref b211), .unset] [(.int cd)]))
          refine Go.step (fun _ kt => XS.bipush X221.here hx rfl (hb hby at_108) kt) ?_
          show Go p.tables e below _ (T221.setTop (mkF m 110 #[.val (.int p1), .val (.int p2), .val (.int cd), .val (.int (0 : Int32)), .val (.ref b102r), .val (.ref b169), .val (.ref b174), .val (.ref b205), .val (.ref b211), .unset] [(.int (100 : Int32)), (.int cd)]))
          refine Go.step (fun _ kt => XS.idiv X221.here hx rfl (hb hby at_110) rfl (by decide) kt) ?_
          show Go p.tables e below _ (T221.setTop (mkF m 111 #[.val (.int p1), .val (.int p2), .val (.int cd), .val (.int (0 : Int32)), .val (.ref b102r), .val (.ref b169), .val (.ref b174), .val (.ref b205), .val (.ref b211), .unset] [(.int (cd / (100 : Int32)))]))
          refine Go.step (fun _ kt => XS.iconst X221.here hx rfl (hb hby at_111) kt) ?_
          show Go p.tables e below _ (T221.setTop (mkF m 112 #[.val (.int p1), .val (.int p2), .val (.int cd), .val (.int (0 : Int32)), .val (.ref b102r), .val (.ref b169), .val (.ref b174), .val (.ref b205), .val (.ref b211), .unset] [(.int (2 : Int32)), (.int (cd / (100 : Int32)))]))
          by_cases hc112_230 : (cd / (100 : Int32)) = (2 : Int32)
          · refine Go.step (fun _ kt => XS.icmpNo X221.here hx rfl (hb hby at_112) rfl (teq hc112_230).2 kt) ?_
            show Go p.tables e below _ (T221.setTop (mkF m 115 #[.val (.int p1), .val (.int p2), .val (.int cd), .val (.int (0 : Int32)), .val (.ref b102r), .val (.ref b169), .val (.ref b174), .val (.ref b205), .val (.ref b211), .unset] []))
            refine Go.step (fun _ kt => XS.iconst X221.here hx rfl (hb hby at_115) kt) ?_
            show Go p.tables e below _ (T221.setTop (mkF m 116 #[.val (.int p1), .val (.int p2), .val (.int cd), .val (.int (0 : Int32)), .val (.ref b102r), .val (.ref b169), .val (.ref b174), .val (.ref b205), .val (.ref b211), .unset] [(.int (1 : Int32))]))
            refine Go.step (fun _ kt => XS.goto X221.here hx rfl (pc0 := 116) (pc' := 120) rfl (hb hby at_116) (by decide) (by decide) kt) ?_
            show Go p.tables e below _ (T221.setTop (mkF m 120 #[.val (.int p1), .val (.int p2), .val (.int cd), .val (.int (0 : Int32)), .val (.ref b102r), .val (.ref b169), .val (.ref b174), .val (.ref b205), .val (.ref b211), .unset] [(.int (1 : Int32))]))
            refine Go.step (fun _ kt => XS.istore X221.here hx rfl (hb hby at_120) rfl (l' := #[.val (.int p1), .val (.int p2), .val (.int cd), .val (.int (0 : Int32)), .val (.ref b102r), .val (.ref b169), .val (.ref b174), .val (.ref b205), .val (.ref b211), .val (.int (1 : Int32))]) rfl kt) ?_
            show Go p.tables e below _ (T221.setTop (mkF m 122 #[.val (.int p1), .val (.int p2), .val (.int cd), .val (.int (0 : Int32)), .val (.ref b102r), .val (.ref b169), .val (.ref b174), .val (.ref b205), .val (.ref b211), .val (.int (1 : Int32))] []))
            refine Go.step (fun _ kt => XS.aload X221.here hx rfl (hb hby at_122) rfl rfl kt) ?_
            show Go p.tables e below _ (T221.setTop (mkF m 124 #[.val (.int p1), .val (.int p2), .val (.int cd), .val (.int (0 : Int32)), .val (.ref b102r), .val (.ref b169), .val (.ref b174), .val (.ref b205), .val (.ref b211), .val (.int (1 : Int32))] [(.ref b211)]))
            obtain ⟨cq231, kq231, q231a, q231b, q231c⟩ := isOf hZ rfl P222
            obtain ⟨_, _, ⟨T231, L231, k231, n231⟩, -, X231, ⟨Lc231, hQ231, l231, y231, z231⟩, st231⟩ := X221.virtualBack hx (y := (⟨"com/example/patient_courier/patientcourier/delivery/AttemptResult", "delivered", "()Z"⟩ : MethodName)) (z := (⟨"com/example/patient_courier/patientcourier/delivery/AttemptResult", "delivered", "()Z"⟩ : MethodName)) hown (mvT hZ (hw _ (List.mem_of_getElem? (i := 24) rfl))) (mvT hZ (hw _ (List.mem_of_getElem? (i := 25) rfl))) (notFace_of_selects (args := #[]) (mvT hZ (hw _ (List.mem_of_getElem? (i := 27) rfl)))) (mvT hZ (hw _ (List.mem_of_getElem? (i := 27) rfl))) (mvT hZ (hw _ (List.mem_of_getElem? (i := 26) rfl))) (by decide) (backOf (W := 0) (rmds l Z a0 hw [] b211 b102r cd T221.heap n0 Z228 P223 F224 F225 ) hZ (hw _ (List.mem_of_getElem? (i := 28) rfl)) (hw _ (List.mem_of_getElem? (i := 4) rfl)) (by decide) (by decide)) q231a q231c (g := (mkF m 124 #[.val (.int p1), .val (.int p2), .val (.int cd), .val (.int (0 : Int32)), .val (.ref b102r), .val (.ref b169), .val (.ref b174), .val (.ref b205), .val (.ref b211), .val (.int (1 : Int32))] [(.ref b211)])) rfl (by rw [hml]; rfl) (Steps.refl _) (argsL := []) (rest := []) (lenOf pd_5 rfl) rfl (by show 2 * 0 + _ ≤ _; exact Nat.le_of_eq rfl) (hb hby at_124) (fun _ _ => ⟨rfl, rfl, (by decide : 7 + 0 ≤ _), (by decide : 56 + 0 ≤ _)⟩)
            dsimp only [Pt.U, Pt.locs, Pt.cells, Pt.slots] at X231 l231 y231 z231 st231 hQ231
            subst l231 y231 z231
            obtain ⟨rfl, N231q, eh231⟩ := hQ231
            have N231 := Fr.app N221 N231q
            refine Go.step (fun _ kt => st231.trans kt) ?_
            show Go p.tables e below _ (T231.setTop (mkF m 127 #[.val (.int p1), .val (.int p2), .val (.int cd), .val (.int (0 : Int32)), .val (.ref b102r), .val (.ref b169), .val (.ref b174), .val (.ref b205), .val (.ref b211), .val (.int (1 : Int32))] [(.int (own_del cd))]))
            have q232 : (own_del cd) = (1 : Int32) := (own_dl cd).1 hc112_230
            rw [q232]
            show Go p.tables e below _ (T231.setTop (mkF m 127 #[.val (.int p1), .val (.int p2), .val (.int cd), .val (.int (0 : Int32)), .val (.ref b102r), .val (.ref b169), .val (.ref b174), .val (.ref b205), .val (.ref b211), .val (.int (1 : Int32))] [(.int (1 : Int32))]))
            refine Go.step (fun _ kt => XS.iload X231.here hx rfl (hb hby at_127) rfl kt) ?_
            show Go p.tables e below _ (T231.setTop (mkF m 129 #[.val (.int p1), .val (.int p2), .val (.int cd), .val (.int (0 : Int32)), .val (.ref b102r), .val (.ref b169), .val (.ref b174), .val (.ref b205), .val (.ref b211), .val (.int (1 : Int32))] [(.int (1 : Int32)), (.int (1 : Int32))]))
            refine Go.step (fun _ kt => XS.icmpNo X231.here hx rfl (hb hby at_129) rfl (teq (by decide : (1 : Int32) = (1 : Int32))).2 kt) ?_
            show Go p.tables e below _ (T231.setTop (mkF m 132 #[.val (.int p1), .val (.int p2), .val (.int cd), .val (.int (0 : Int32)), .val (.ref b102r), .val (.ref b169), .val (.ref b174), .val (.ref b205), .val (.ref b211), .val (.int (1 : Int32))] []))
            refine Go.step (fun _ kt => XS.iconst X231.here hx rfl (hb hby at_132) kt) ?_
            show Go p.tables e below _ (T231.setTop (mkF m 133 #[.val (.int p1), .val (.int p2), .val (.int cd), .val (.int (0 : Int32)), .val (.ref b102r), .val (.ref b169), .val (.ref b174), .val (.ref b205), .val (.ref b211), .val (.int (1 : Int32))] [(.int (1 : Int32))]))
            refine Go.step (fun _ kt => XS.goto X231.here hx rfl (pc0 := 133) (pc' := 137) rfl (hb hby at_133) (by decide) (by decide) kt) ?_
            show Go p.tables e below _ (T231.setTop (mkF m 137 #[.val (.int p1), .val (.int p2), .val (.int cd), .val (.int (0 : Int32)), .val (.ref b102r), .val (.ref b169), .val (.ref b174), .val (.ref b205), .val (.ref b211), .val (.int (1 : Int32))] [(.int (1 : Int32))]))
            obtain ⟨fs, hr, hrun, hended, hRW⟩ := X231.leaveW hS205 (by rw [eh231]; exact hk229) (v := some (.int (1 : Int32))) (fun h => by rw [Bd.returns] at h; cases h)
            refine ⟨_, _, retN X231 hx (t := .boolean) Bd.returns (by simp) (hb hby at_137) hr, hrun, hended, _, _, rfl, ?_, hRW.1, hRW.2.1, hRW.2.2.1, hRW.2.2.2.mono (by decide) (by decide)⟩
            show Qrm0 Z p1 p2 ca cc h0 n0 _ T231.heap _
            rw [eh231]
            exact ⟨rfl, N231⟩
          · refine Go.step (fun _ kt => XS.icmpYes X221.here hx rfl (pc0 := 112) (pc' := 119) rfl (hb hby at_112) rfl (feq hc112_230).2 (by decide) (by decide) kt) ?_
            show Go p.tables e below _ (T221.setTop (mkF m 119 #[.val (.int p1), .val (.int p2), .val (.int cd), .val (.int (0 : Int32)), .val (.ref b102r), .val (.ref b169), .val (.ref b174), .val (.ref b205), .val (.ref b211), .unset] []))
            refine Go.step (fun _ kt => XS.iconst X221.here hx rfl (hb hby at_119) kt) ?_
            show Go p.tables e below _ (T221.setTop (mkF m 120 #[.val (.int p1), .val (.int p2), .val (.int cd), .val (.int (0 : Int32)), .val (.ref b102r), .val (.ref b169), .val (.ref b174), .val (.ref b205), .val (.ref b211), .unset] [(.int (0 : Int32))]))
            refine Go.step (fun _ kt => XS.istore X221.here hx rfl (hb hby at_120) rfl (l' := #[.val (.int p1), .val (.int p2), .val (.int cd), .val (.int (0 : Int32)), .val (.ref b102r), .val (.ref b169), .val (.ref b174), .val (.ref b205), .val (.ref b211), .val (.int (0 : Int32))]) rfl kt) ?_
            show Go p.tables e below _ (T221.setTop (mkF m 122 #[.val (.int p1), .val (.int p2), .val (.int cd), .val (.int (0 : Int32)), .val (.ref b102r), .val (.ref b169), .val (.ref b174), .val (.ref b205), .val (.ref b211), .val (.int (0 : Int32))] []))
            refine Go.step (fun _ kt => XS.aload X221.here hx rfl (hb hby at_122) rfl rfl kt) ?_
            show Go p.tables e below _ (T221.setTop (mkF m 124 #[.val (.int p1), .val (.int p2), .val (.int cd), .val (.int (0 : Int32)), .val (.ref b102r), .val (.ref b169), .val (.ref b174), .val (.ref b205), .val (.ref b211), .val (.int (0 : Int32))] [(.ref b211)]))
            obtain ⟨cq233, kq233, q233a, q233b, q233c⟩ := isOf hZ rfl P222
            obtain ⟨_, _, ⟨T233, L233, k233, n233⟩, -, X233, ⟨Lc233, hQ233, l233, y233, z233⟩, st233⟩ := X221.virtualBack hx (y := (⟨"com/example/patient_courier/patientcourier/delivery/AttemptResult", "delivered", "()Z"⟩ : MethodName)) (z := (⟨"com/example/patient_courier/patientcourier/delivery/AttemptResult", "delivered", "()Z"⟩ : MethodName)) hown (mvT hZ (hw _ (List.mem_of_getElem? (i := 24) rfl))) (mvT hZ (hw _ (List.mem_of_getElem? (i := 25) rfl))) (notFace_of_selects (args := #[]) (mvT hZ (hw _ (List.mem_of_getElem? (i := 27) rfl)))) (mvT hZ (hw _ (List.mem_of_getElem? (i := 27) rfl))) (mvT hZ (hw _ (List.mem_of_getElem? (i := 26) rfl))) (by decide) (backOf (W := 0) (rmds l Z a0 hw [] b211 b102r cd T221.heap n0 Z228 P223 F224 F225 ) hZ (hw _ (List.mem_of_getElem? (i := 28) rfl)) (hw _ (List.mem_of_getElem? (i := 4) rfl)) (by decide) (by decide)) q233a q233c (g := (mkF m 124 #[.val (.int p1), .val (.int p2), .val (.int cd), .val (.int (0 : Int32)), .val (.ref b102r), .val (.ref b169), .val (.ref b174), .val (.ref b205), .val (.ref b211), .val (.int (0 : Int32))] [(.ref b211)])) rfl (by rw [hml]; rfl) (Steps.refl _) (argsL := []) (rest := []) (lenOf pd_5 rfl) rfl (by show 2 * 0 + _ ≤ _; exact Nat.le_of_eq rfl) (hb hby at_124) (fun _ _ => ⟨rfl, rfl, (by decide : 7 + 0 ≤ _), (by decide : 56 + 0 ≤ _)⟩)
            dsimp only [Pt.U, Pt.locs, Pt.cells, Pt.slots] at X233 l233 y233 z233 st233 hQ233
            subst l233 y233 z233
            obtain ⟨rfl, N233q, eh233⟩ := hQ233
            have N233 := Fr.app N221 N233q
            refine Go.step (fun _ kt => st233.trans kt) ?_
            show Go p.tables e below _ (T233.setTop (mkF m 127 #[.val (.int p1), .val (.int p2), .val (.int cd), .val (.int (0 : Int32)), .val (.ref b102r), .val (.ref b169), .val (.ref b174), .val (.ref b205), .val (.ref b211), .val (.int (0 : Int32))] [(.int (own_del cd))]))
            have q234 : (own_del cd) = (0 : Int32) := (own_dl cd).2 hc112_230
            rw [q234]
            show Go p.tables e below _ (T233.setTop (mkF m 127 #[.val (.int p1), .val (.int p2), .val (.int cd), .val (.int (0 : Int32)), .val (.ref b102r), .val (.ref b169), .val (.ref b174), .val (.ref b205), .val (.ref b211), .val (.int (0 : Int32))] [(.int (0 : Int32))]))
            refine Go.step (fun _ kt => XS.iload X233.here hx rfl (hb hby at_127) rfl kt) ?_
            show Go p.tables e below _ (T233.setTop (mkF m 129 #[.val (.int p1), .val (.int p2), .val (.int cd), .val (.int (0 : Int32)), .val (.ref b102r), .val (.ref b169), .val (.ref b174), .val (.ref b205), .val (.ref b211), .val (.int (0 : Int32))] [(.int (0 : Int32)), (.int (0 : Int32))]))
            refine Go.step (fun _ kt => XS.icmpNo X233.here hx rfl (hb hby at_129) rfl (teq (by decide : (0 : Int32) = (0 : Int32))).2 kt) ?_
            show Go p.tables e below _ (T233.setTop (mkF m 132 #[.val (.int p1), .val (.int p2), .val (.int cd), .val (.int (0 : Int32)), .val (.ref b102r), .val (.ref b169), .val (.ref b174), .val (.ref b205), .val (.ref b211), .val (.int (0 : Int32))] []))
            refine Go.step (fun _ kt => XS.iconst X233.here hx rfl (hb hby at_132) kt) ?_
            show Go p.tables e below _ (T233.setTop (mkF m 133 #[.val (.int p1), .val (.int p2), .val (.int cd), .val (.int (0 : Int32)), .val (.ref b102r), .val (.ref b169), .val (.ref b174), .val (.ref b205), .val (.ref b211), .val (.int (0 : Int32))] [(.int (1 : Int32))]))
            refine Go.step (fun _ kt => XS.goto X233.here hx rfl (pc0 := 133) (pc' := 137) rfl (hb hby at_133) (by decide) (by decide) kt) ?_
            show Go p.tables e below _ (T233.setTop (mkF m 137 #[.val (.int p1), .val (.int p2), .val (.int cd), .val (.int (0 : Int32)), .val (.ref b102r), .val (.ref b169), .val (.ref b174), .val (.ref b205), .val (.ref b211), .val (.int (0 : Int32))] [(.int (1 : Int32))]))
            obtain ⟨fs, hr, hrun, hended, hRW⟩ := X233.leaveW hS205 (by rw [eh233]; exact hk229) (v := some (.int (1 : Int32))) (fun h => by rw [Bd.returns] at h; cases h)
            refine ⟨_, _, retN X233 hx (t := .boolean) Bd.returns (by simp) (hb hby at_137) hr, hrun, hended, _, _, rfl, ?_, hRW.1, hRW.2.1, hRW.2.2.1, hRW.2.2.2.mono (by decide) (by decide)⟩
            show Qrm0 Z p1 p2 ca cc h0 n0 _ T233.heap _
            rw [eh233]
            exact ⟨rfl, N233⟩
    · refine Go.step (fun _ kt => XS.ifNo X0.here hx rfl (hb hby at_25) rfl ((if0 _ _).trans (feq hc25_101).1) kt) ?_
      show Go p.tables e below _ (s₁.setTop (mkF m 28 #[.val (.int p1), .val (.int p2), .val (.int cd), .unset, .unset, .unset, .unset, .unset, .unset, .unset] []))
      refine Go.step (fun _ kt => XS.iconst X0.here hx rfl (hb hby at_28) kt) ?_
      show Go p.tables e below _ (s₁.setTop (mkF m 29 #[.val (.int p1), .val (.int p2), .val (.int cd), .unset, .unset, .unset, .unset, .unset, .unset, .unset] [(.int (1 : Int32))]))
      refine Go.step (fun _ kt => XS.goto X0.here hx rfl (pc0 := 29) (pc' := 33) rfl (hb hby at_29) (by decide) (by decide) kt) ?_
      show Go p.tables e below _ (s₁.setTop (mkF m 33 #[.val (.int p1), .val (.int p2), .val (.int cd), .unset, .unset, .unset, .unset, .unset, .unset, .unset] [(.int (1 : Int32))]))
      refine Go.step (fun _ kt => XS.istoreN X0.here hx rfl (hb hby at_33) rfl (l' := #[.val (.int p1), .val (.int p2), .val (.int cd), .val (.int (1 : Int32)), .unset, .unset, .unset, .unset, .unset, .unset]) rfl kt) ?_
      show Go p.tables e below _ (s₁.setTop (mkF m 34 #[.val (.int p1), .val (.int p2), .val (.int cd), .val (.int (1 : Int32)), .unset, .unset, .unset, .unset, .unset, .unset] []))
      refine Go.step (fun _ kt => XS.iloadN X0.here hx rfl (hb hby at_34) rfl kt) ?_
      show Go p.tables e below _ (s₁.setTop (mkF m 35 #[.val (.int p1), .val (.int p2), .val (.int cd), .val (.int (1 : Int32)), .unset, .unset, .unset, .unset, .unset, .unset] [(.int (1 : Int32))]))
      refine Go.step (fun _ kt => XS.ifNo X0.here hx rfl (hb hby at_35) rfl ((if0 _ _).trans (feq (by decide : ¬ ((1 : Int32) = (0 : Int32)))).1) kt) ?_
      show Go p.tables e below _ (s₁.setTop (mkF m 38 #[.val (.int p1), .val (.int p2), .val (.int cd), .val (.int (1 : Int32)), .unset, .unset, .unset, .unset, .unset, .unset] []))
      refine Go.step (fun _ kt => XS.aconstNull X0.here hx rfl (hb hby at_38) kt) ?_
      show Go p.tables e below _ (s₁.setTop (mkF m 39 #[.val (.int p1), .val (.int p2), .val (.int cd), .val (.int (1 : Int32)), .unset, .unset, .unset, .unset, .unset, .unset] [.null]))
      refine Go.step (fun _ kt => XS.goto X0.here hx rfl (pc0 := 39) (pc' := 46) rfl (hb hby at_39) (by decide) (by decide) kt) ?_
      show Go p.tables e below _ (s₁.setTop (mkF m 46 #[.val (.int p1), .val (.int p2), .val (.int cd), .val (.int (1 : Int32)), .unset, .unset, .unset, .unset, .unset, .unset] [.null]))
      refine Go.step (fun _ kt => XS.astore X0.here hx rfl (hb hby at_46) rfl rfl (l' := #[.val (.int p1), .val (.int p2), .val (.int cd), .val (.int (1 : Int32)), .val .null, .unset, .unset, .unset, .unset, .unset]) rfl kt) ?_
      show Go p.tables e below _ (s₁.setTop (mkF m 48 #[.val (.int p1), .val (.int p2), .val (.int cd), .val (.int (1 : Int32)), .val .null, .unset, .unset, .unset, .unset, .unset] []))
      refine Go.step (fun _ kt => XS.iloadN X0.here hx rfl (hb hby at_48) rfl kt) ?_
      show Go p.tables e below _ (s₁.setTop (mkF m 49 #[.val (.int p1), .val (.int p2), .val (.int cd), .val (.int (1 : Int32)), .val .null, .unset, .unset, .unset, .unset, .unset] [(.int p2)]))
      refine Go.step (fun _ kt => XS.iconst X0.here hx rfl (hb hby at_49) kt) ?_
      show Go p.tables e below _ (s₁.setTop (mkF m 50 #[.val (.int p1), .val (.int p2), .val (.int cd), .val (.int (1 : Int32)), .val .null, .unset, .unset, .unset, .unset, .unset] [(.int (4 : Int32)), (.int p2)]))
      refine Go.step (fun _ kt => XS.iand X0.here hx rfl (hb hby at_50) rfl kt) ?_
      show Go p.tables e below _ (s₁.setTop (mkF m 51 #[.val (.int p1), .val (.int p2), .val (.int cd), .val (.int (1 : Int32)), .val .null, .unset, .unset, .unset, .unset, .unset] [(.int (p2 &&& (4 : Int32)))]))
      by_cases hc51_235 : (p2 &&& (4 : Int32)) = (0 : Int32)
      · refine Go.step (fun _ kt => XS.ifYes X0.here hx rfl (pc0 := 51) (pc' := 59) rfl (hb hby at_51) rfl ((if0 _ _).trans (teq hc51_235).1) (by decide) (by decide) kt) ?_
        show Go p.tables e below _ (s₁.setTop (mkF m 59 #[.val (.int p1), .val (.int p2), .val (.int cd), .val (.int (1 : Int32)), .val .null, .unset, .unset, .unset, .unset, .unset] []))
        refine Go.step (fun _ kt => XS.aconstNull X0.here hx rfl (hb hby at_59) kt) ?_
        show Go p.tables e below _ (s₁.setTop (mkF m 60 #[.val (.int p1), .val (.int p2), .val (.int cd), .val (.int (1 : Int32)), .val .null, .unset, .unset, .unset, .unset, .unset] [.null]))
        refine Go.step (fun _ kt => XS.astore X0.here hx rfl (hb hby at_60) rfl rfl (l' := #[.val (.int p1), .val (.int p2), .val (.int cd), .val (.int (1 : Int32)), .val .null, .val .null, .unset, .unset, .unset, .unset]) rfl kt) ?_
        show Go p.tables e below _ (s₁.setTop (mkF m 62 #[.val (.int p1), .val (.int p2), .val (.int cd), .val (.int (1 : Int32)), .val .null, .val .null, .unset, .unset, .unset, .unset] []))
        refine Go.step (fun _ kt => XS.iloadN X0.here hx rfl (hb hby at_62) rfl kt) ?_
        show Go p.tables e below _ (s₁.setTop (mkF m 63 #[.val (.int p1), .val (.int p2), .val (.int cd), .val (.int (1 : Int32)), .val .null, .val .null, .unset, .unset, .unset, .unset] [(.int p2)]))
        refine Go.step (fun _ kt => XS.iconst X0.here hx rfl (hb hby at_63) kt) ?_
        show Go p.tables e below _ (s₁.setTop (mkF m 64 #[.val (.int p1), .val (.int p2), .val (.int cd), .val (.int (1 : Int32)), .val .null, .val .null, .unset, .unset, .unset, .unset] [(.int (3 : Int32)), (.int p2)]))
        refine Go.step (fun _ kt => XS.iushr X0.here hx rfl (hb hby at_64) rfl kt) ?_
        show Go p.tables e below _ (s₁.setTop (mkF m 65 #[.val (.int p1), .val (.int p2), .val (.int cd), .val (.int (1 : Int32)), .val .null, .val .null, .unset, .unset, .unset, .unset] [(.int ((p2.toUInt32 >>> ((3 : Int32) &&& 31).toUInt32).toInt32))]))
        refine Go.step (fun _ kt => XS.iconst X0.here hx rfl (hb hby at_65) kt) ?_
        show Go p.tables e below _ (s₁.setTop (mkF m 66 #[.val (.int p1), .val (.int p2), .val (.int cd), .val (.int (1 : Int32)), .val .null, .val .null, .unset, .unset, .unset, .unset] [(.int (3 : Int32)), (.int ((p2.toUInt32 >>> ((3 : Int32) &&& 31).toUInt32).toInt32))]))
        refine Go.step (fun _ kt => XS.iand X0.here hx rfl (hb hby at_66) rfl kt) ?_
        show Go p.tables e below _ (s₁.setTop (mkF m 67 #[.val (.int p1), .val (.int p2), .val (.int cd), .val (.int (1 : Int32)), .val .null, .val .null, .unset, .unset, .unset, .unset] [(.int (((p2.toUInt32 >>> ((3 : Int32) &&& 31).toUInt32).toInt32) &&& (3 : Int32)))]))
        obtain ⟨ln, e_ln⟩ : ∃ nm_, nm_ = (((p2.toUInt32 >>> ((3 : Int32) &&& 31).toUInt32).toInt32) &&& (3 : Int32)) := ⟨_, rfl⟩
        rw [← e_ln]
        show Go p.tables e below _ (s₁.setTop (mkF m 67 #[.val (.int p1), .val (.int p2), .val (.int cd), .val (.int (1 : Int32)), .val .null, .val .null, .unset, .unset, .unset, .unset] [(.int ln)]))
        obtain ⟨T236, h236, k236, X236, e236, E236, A236, st236⟩ := newP X0 hx hZ (hw _ (List.mem_of_getElem? (i := 1) rfl)) e0 (g := (mkF m 67 #[.val (.int p1), .val (.int p2), .val (.int cd), .val (.int (1 : Int32)), .val .null, .val .null, .unset, .unset, .unset, .unset] [(.int ln)])) rfl (hb hby at_67) rfl (by rw [e_ln]; exact (own_cap _).1) (cap := 3) (by rw [e_ln]; exact (own_cap _).2) (by decide) (by decide) (by decide)
        obtain ⟨b236, g236⟩ : ∃ z, z = h0.size := ⟨_, rfl⟩
        rw [← g236] at A236 st236
        refine Go.step st236 ?_
        have g_b236 : n0 ≤ b236 := Nat.le_trans Z0 (Nat.le_of_eq g236.symm)
        have F237 : Sta Z h236 "java/lang/Integer$IntegerCache" "high" "I" (.int (127 : Int32)) := (S_high.ext E236)
        have F238 : Sta Z h236 "java/lang/Integer$IntegerCache" "cache" "[Ljava/lang/Integer;" (.ref ca) := (S_cache.ext E236)
        have Z239 : n0 ≤ h236.size := (Nat.le_trans Z0 E236.1)
        have hk240 : _ ≤ h236.size := (Nat.le_trans hk0 E236.1)
        have V241 : Arv Z h236 b236 k236 .byte ln [(.int (0 : Int32)), (.int (0 : Int32)), (.int (0 : Int32))] (.int (0 : Int32)) := (Arv.new A236 (by rw [e_ln]; exact (own_cap _).1)).pad (pad_rep [] (.int (0 : Int32)) 3)
        show Go p.tables e below _ (T236.setTop (mkF m 69 #[.val (.int p1), .val (.int p2), .val (.int cd), .val (.int (1 : Int32)), .val .null, .val .null, .unset, .unset, .unset, .unset] [(.ref b236)]))
        refine Go.step (fun _ kt => XS.astore X236.here hx rfl (hb hby at_69) rfl rfl (l' := #[.val (.int p1), .val (.int p2), .val (.int cd), .val (.int (1 : Int32)), .val .null, .val .null, .val (.ref b236), .unset, .unset, .unset]) rfl kt) ?_
        show Go p.tables e below _ (T236.setTop (mkF m 71 #[.val (.int p1), .val (.int p2), .val (.int cd), .val (.int (1 : Int32)), .val .null, .val .null, .val (.ref b236), .unset, .unset, .unset] []))
        refine Go.step (fun _ kt => XS.iloadN X236.here hx rfl (hb hby at_71) rfl kt) ?_
        show Go p.tables e below _ (T236.setTop (mkF m 72 #[.val (.int p1), .val (.int p2), .val (.int cd), .val (.int (1 : Int32)), .val .null, .val .null, .val (.ref b236), .unset, .unset, .unset] [(.int p2)]))
        refine Go.step (fun _ kt => XS.bipush X236.here hx rfl (hb hby at_72) kt) ?_
        show Go p.tables e below _ (T236.setTop (mkF m 74 #[.val (.int p1), .val (.int p2), .val (.int cd), .val (.int (1 : Int32)), .val .null, .val .null, .val (.ref b236), .unset, .unset, .unset] [(.int (32 : Int32)), (.int p2)]))
        refine Go.step (fun _ kt => XS.iand X236.here hx rfl (hb hby at_74) rfl kt) ?_
        show Go p.tables e below _ (T236.setTop (mkF m 75 #[.val (.int p1), .val (.int p2), .val (.int cd), .val (.int (1 : Int32)), .val .null, .val .null, .val (.ref b236), .unset, .unset, .unset] [(.int (p2 &&& (32 : Int32)))]))
        by_cases hc75_242 : (p2 &&& (32 : Int32)) = (0 : Int32)
        · refine Go.step (fun _ kt => XS.ifYes X236.here hx rfl (pc0 := 75) (pc' := 83) rfl (hb hby at_75) rfl ((if0 _ _).trans (teq hc75_242).1) (by decide) (by decide) kt) ?_
          show Go p.tables e below _ (T236.setTop (mkF m 83 #[.val (.int p1), .val (.int p2), .val (.int cd), .val (.int (1 : Int32)), .val .null, .val .null, .val (.ref b236), .unset, .unset, .unset] []))
          refine Go.step (fun _ kt => XS.aconstNull X236.here hx rfl (hb hby at_83) kt) ?_
          show Go p.tables e below _ (T236.setTop (mkF m 84 #[.val (.int p1), .val (.int p2), .val (.int cd), .val (.int (1 : Int32)), .val .null, .val .null, .val (.ref b236), .unset, .unset, .unset] [.null]))
          refine Go.step (fun _ kt => XS.astore X236.here hx rfl (hb hby at_84) rfl rfl (l' := #[.val (.int p1), .val (.int p2), .val (.int cd), .val (.int (1 : Int32)), .val .null, .val .null, .val (.ref b236), .val .null, .unset, .unset]) rfl kt) ?_
          show Go p.tables e below _ (T236.setTop (mkF m 86 #[.val (.int p1), .val (.int p2), .val (.int cd), .val (.int (1 : Int32)), .val .null, .val .null, .val (.ref b236), .val .null, .unset, .unset] []))
          obtain ⟨T243, h243, X243, e243, E243, A243, D243, -, st243⟩ := newO X236 hx hZ hown (hw _ (List.mem_of_getElem? (i := 2) rfl)) (hw _ (List.mem_of_getElem? (i := 3) rfl)) (hw _ (List.mem_of_getElem? (i := 4) rfl)) e236 (g := (mkF m 86 #[.val (.int p1), .val (.int p2), .val (.int cd), .val (.int (1 : Int32)), .val .null, .val .null, .val (.ref b236), .val .null, .unset, .unset] [])) rfl (hb hby at_86) (by decide) (by decide)
          obtain ⟨b243, g243⟩ : ∃ z, z = h236.size := ⟨_, rfl⟩
          rw [← g243] at A243 D243 st243
          refine Go.step st243 ?_
          have ne_b236_b243 : b236 ≠ b243 := Nat.ne_of_lt (Nat.lt_of_lt_of_le V241.lt (Nat.le_of_eq g243.symm))
          have g_b243 : n0 ≤ b243 := Nat.le_trans Z239 (Nat.le_of_eq g243.symm)
          have F244 : Sta Z h243 "java/lang/Integer$IntegerCache" "high" "I" (.int (127 : Int32)) := (F237.ext E243)
          have F245 : Sta Z h243 "java/lang/Integer$IntegerCache" "cache" "[Ljava/lang/Integer;" (.ref ca) := (F238.ext E243)
          have F246 : Arv Z h243 b236 k236 .byte ln [(.int (0 : Int32)), (.int (0 : Int32)), (.int (0 : Int32))] (.int (0 : Int32)) := (V241.ext E243)
          have Z247 : n0 ≤ h243.size := (Nat.le_trans Z239 E243.1)
          have hk248 : _ ≤ h243.size := (Nat.le_trans hk240 E243.1)
          have F249 : Fld Z h243 b243 "com/example/patient_courier/patientcourier/delivery/AttemptResult" "status" "Ljava/lang/Integer;" .null := D243 (Or.inr (hw _ (List.mem_of_getElem? (i := 17) rfl))) (ty := (.object "java/lang/Integer")) (by decide)
          have F250 : Fld Z h243 b243 "com/example/patient_courier/patientcourier/delivery/AttemptResult" "error" "Ljava/lang/String;" .null := D243 (Or.inr (hw _ (List.mem_of_getElem? (i := 19) rfl))) (ty := (.object "java/lang/String")) (by decide)
          have F251 : Fld Z h243 b243 "com/example/patient_courier/patientcourier/delivery/AttemptResult" "preview" "[B" .null := D243 (Or.inr (hw _ (List.mem_of_getElem? (i := 21) rfl))) (ty := (.array .byte)) (by decide)
          have F252 : Fld Z h243 b243 "com/example/patient_courier/patientcourier/delivery/AttemptResult" "retryAfter" "Ljava/lang/String;" .null := D243 (Or.inr (hw _ (List.mem_of_getElem? (i := 23) rfl))) (ty := (.object "java/lang/String")) (by decide)
          show Go p.tables e below _ (T243.setTop (mkF m 89 #[.val (.int p1), .val (.int p2), .val (.int cd), .val (.int (1 : Int32)), .val .null, .val .null, .val (.ref b236), .val .null, .unset, .unset] [(.ref b243)]))
          refine Go.step (fun _ kt => XS.dup X243.here hx rfl (hb hby at_89) rfl rfl kt) ?_
          show Go p.tables e below _ (T243.setTop (mkF m 90 #[.val (.int p1), .val (.int p2), .val (.int cd), .val (.int (1 : Int32)), .val .null, .val .null, .val (.ref b236), .val .null, .unset, .unset] [(.ref b243), (.ref b243)]))
          refine Go.step (fun _ kt => XS.aload X243.here hx rfl (hb hby at_90) rfl rfl kt) ?_
          show Go p.tables e below _ (T243.setTop (mkF m 92 #[.val (.int p1), .val (.int p2), .val (.int cd), .val (.int (1 : Int32)), .val .null, .val .null, .val (.ref b236), .val .null, .unset, .unset] [.null, (.ref b243), (.ref b243)]))
          refine Go.step (fun _ kt => XS.aload X243.here hx rfl (hb hby at_92) rfl rfl kt) ?_
          show Go p.tables e below _ (T243.setTop (mkF m 94 #[.val (.int p1), .val (.int p2), .val (.int cd), .val (.int (1 : Int32)), .val .null, .val .null, .val (.ref b236), .val .null, .unset, .unset] [.null, .null, (.ref b243), (.ref b243)]))
          refine Go.step (fun _ kt => XS.aload X243.here hx rfl (hb hby at_94) rfl rfl kt) ?_
          show Go p.tables e below _ (T243.setTop (mkF m 96 #[.val (.int p1), .val (.int p2), .val (.int cd), .val (.int (1 : Int32)), .val .null, .val .null, .val (.ref b236), .val .null, .unset, .unset] [(.ref b236), .null, .null, (.ref b243), (.ref b243)]))
          refine Go.step (fun _ kt => XS.aload X243.here hx rfl (hb hby at_96) rfl rfl kt) ?_
          show Go p.tables e below _ (T243.setTop (mkF m 98 #[.val (.int p1), .val (.int p2), .val (.int cd), .val (.int (1 : Int32)), .val .null, .val .null, .val (.ref b236), .val .null, .unset, .unset] [.null, (.ref b236), .null, .null, (.ref b243), (.ref b243)]))
          obtain ⟨_, _, ⟨T253, L253, k253, n253⟩, -, X253, ⟨Lc253, hQ253, l253, y253, z253⟩, st253⟩ := X243.specialBack hx (y := (⟨"com/example/patient_courier/patientcourier/delivery/AttemptResult", "<init>", "(Ljava/lang/Integer;Ljava/lang/String;[BLjava/lang/String;)V"⟩ : MethodName)) rfl hown (mvT hZ (hw _ (List.mem_of_getElem? (i := 5) rfl))) (mvT hZ (hw _ (List.mem_of_getElem? (i := 6) rfl))) (mvT hZ (hw _ (List.mem_of_getElem? (i := 7) rfl))) (by decide) (backOf (W := 1) (rmi_nnrn l Z a0 hw [] b243 b236 .null .null .null .null h243 n0 Z247 A243 F249 F250 F251 F252 g_b243) hZ (hw _ (List.mem_of_getElem? (i := 7) rfl)) (hw _ (List.mem_of_getElem? (i := 4) rfl)) (by decide) (by decide)) (g := (mkF m 98 #[.val (.int p1), .val (.int p2), .val (.int cd), .val (.int (1 : Int32)), .val .null, .val .null, .val (.ref b236), .val .null, .unset, .unset] [.null, (.ref b236), .null, .null, (.ref b243), (.ref b243)])) rfl (by rw [hml]; rfl) (Steps.refl _) (a := b243) (argsL := [.null, .null, (.ref b236), .null]) (rest := [(.ref b243)]) (lenOf pd_4 rfl) rfl (by show 2 * 0 + _ ≤ _; exact Nat.le_of_eq rfl) (hb hby at_98) (fun _ _ => ⟨rfl, e243, (by decide : 2 + 0 ≤ _), (by decide : 7 + 0 ≤ _)⟩)
          dsimp only [Pt.U, Pt.locs, Pt.cells, Pt.slots] at X253 l253 y253 z253 st253 hQ253
          subst l253 y253 z253
          obtain ⟨rfl, N253q, Kq253, P254, P255⟩ := hQ253
          have F256 : Arv Z T253.heap b236 k236 .byte ln [(.int (0 : Int32)), (.int (0 : Int32)), (.int (0 : Int32))] (.int (0 : Int32)) := (F246.keep Kq253 (fun q => ne_b236_b243 (List.mem_singleton.mp q)))
          have F257 : Exa Z T253.heap b243 "com/example/patient_courier/patientcourier/delivery/AttemptResult" := (A243.keep Kq253)
          have Z258 : n0 ≤ T253.heap.size := (Nat.le_trans Z247 Kq253.1)
          have hk259 : _ ≤ T253.heap.size := (Nat.le_trans hk248 Kq253.1)
          have N253 := Fr.app N0 N253q
          refine Go.step (fun _ kt => st253.trans kt) ?_
          show Go p.tables e below _ (T253.setTop (mkF m 101 #[.val (.int p1), .val (.int p2), .val (.int cd), .val (.int (1 : Int32)), .val .null, .val .null, .val (.ref b236), .val .null, .unset, .unset] [(.ref b243)]))
          refine Go.step (fun _ kt => XS.astore X253.here hx rfl (hb hby at_101) rfl rfl (l' := #[.val (.int p1), .val (.int p2), .val (.int cd), .val (.int (1 : Int32)), .val .null, .val .null, .val (.ref b236), .val .null, .val (.ref b243), .unset]) rfl kt) ?_
          show Go p.tables e below _ (T253.setTop (mkF m 103 #[.val (.int p1), .val (.int p2), .val (.int cd), .val (.int (1 : Int32)), .val .null, .val .null, .val (.ref b236), .val .null, .val (.ref b243), .unset] []))
          refine Go.step (fun _ kt => XS.iloadN X253.here hx rfl (hb hby at_103) rfl kt) ?_
          show Go p.tables e below _ (T253.setTop (mkF m 104 #[.val (.int p1), .val (.int p2), .val (.int cd), .val (.int (1 : Int32)), .val .null, .val .null, .val (.ref b236), .val .null, .val (.ref b243), .unset] [(.int (1 : Int32))]))
          refine Go.step (fun _ kt => XS.ifYes X253.here hx rfl (pc0 := 104) (pc' := 119) rfl (hb hby at_104) rfl ((if0 _ _).trans (feq (by decide : ¬ ((1 : Int32) = (0 : Int32)))).2) (by decide) (by decide) kt) ?_
          show Go p.tables e below _ (T253.setTop (mkF m 119 #[.val (.int p1), .val (.int p2), .val (.int cd), .val (.int (1 : Int32)), .val .null, .val .null, .val (.ref b236), .val .null, .val (.ref b243), .unset] []))
          refine Go.step (fun _ kt => XS.iconst X253.here hx rfl (hb hby at_119) kt) ?_
          show Go p.tables e below _ (T253.setTop (mkF m 120 #[.val (.int p1), .val (.int p2), .val (.int cd), .val (.int (1 : Int32)), .val .null, .val .null, .val (.ref b236), .val .null, .val (.ref b243), .unset] [(.int (0 : Int32))]))
          refine Go.step (fun _ kt => XS.istore X253.here hx rfl (hb hby at_120) rfl (l' := #[.val (.int p1), .val (.int p2), .val (.int cd), .val (.int (1 : Int32)), .val .null, .val .null, .val (.ref b236), .val .null, .val (.ref b243), .val (.int (0 : Int32))]) rfl kt) ?_
          show Go p.tables e below _ (T253.setTop (mkF m 122 #[.val (.int p1), .val (.int p2), .val (.int cd), .val (.int (1 : Int32)), .val .null, .val .null, .val (.ref b236), .val .null, .val (.ref b243), .val (.int (0 : Int32))] []))
          refine Go.step (fun _ kt => XS.aload X253.here hx rfl (hb hby at_122) rfl rfl kt) ?_
          show Go p.tables e below _ (T253.setTop (mkF m 124 #[.val (.int p1), .val (.int p2), .val (.int cd), .val (.int (1 : Int32)), .val .null, .val .null, .val (.ref b236), .val .null, .val (.ref b243), .val (.int (0 : Int32))] [(.ref b243)]))
          obtain ⟨cq260, kq260, q260a, q260b, q260c⟩ := isOf hZ rfl P254
          obtain ⟨_, _, ⟨T260, L260, k260, n260⟩, -, X260, ⟨Lc260, hQ260, l260, y260, z260⟩, st260⟩ := X253.virtualBack hx (y := (⟨"com/example/patient_courier/patientcourier/delivery/AttemptResult", "delivered", "()Z"⟩ : MethodName)) (z := (⟨"com/example/patient_courier/patientcourier/delivery/AttemptResult", "delivered", "()Z"⟩ : MethodName)) hown (mvT hZ (hw _ (List.mem_of_getElem? (i := 24) rfl))) (mvT hZ (hw _ (List.mem_of_getElem? (i := 25) rfl))) (notFace_of_selects (args := #[]) (mvT hZ (hw _ (List.mem_of_getElem? (i := 27) rfl)))) (mvT hZ (hw _ (List.mem_of_getElem? (i := 27) rfl))) (mvT hZ (hw _ (List.mem_of_getElem? (i := 26) rfl))) (by decide) (backOf (W := 0) (rmdn l Z a0 hw [] b243  T253.heap n0 Z258 P255 ) hZ (hw _ (List.mem_of_getElem? (i := 28) rfl)) (hw _ (List.mem_of_getElem? (i := 4) rfl)) (by decide) (by decide)) q260a q260c (g := (mkF m 124 #[.val (.int p1), .val (.int p2), .val (.int cd), .val (.int (1 : Int32)), .val .null, .val .null, .val (.ref b236), .val .null, .val (.ref b243), .val (.int (0 : Int32))] [(.ref b243)])) rfl (by rw [hml]; rfl) (Steps.refl _) (argsL := []) (rest := []) (lenOf pd_5 rfl) rfl (by show 2 * 0 + _ ≤ _; exact Nat.le_of_eq rfl) (hb hby at_124) (fun _ _ => ⟨rfl, rfl, (by decide : 2 + 0 ≤ _), (by decide : 7 + 0 ≤ _)⟩)
          dsimp only [Pt.U, Pt.locs, Pt.cells, Pt.slots] at X260 l260 y260 z260 st260 hQ260
          subst l260 y260 z260
          obtain ⟨rfl, N260q, eh260⟩ := hQ260
          have N260 := Fr.app N253 N260q
          refine Go.step (fun _ kt => st260.trans kt) ?_
          show Go p.tables e below _ (T260.setTop (mkF m 127 #[.val (.int p1), .val (.int p2), .val (.int cd), .val (.int (1 : Int32)), .val .null, .val .null, .val (.ref b236), .val .null, .val (.ref b243), .val (.int (0 : Int32))] [(.int (0 : Int32))]))
          refine Go.step (fun _ kt => XS.iload X260.here hx rfl (hb hby at_127) rfl kt) ?_
          show Go p.tables e below _ (T260.setTop (mkF m 129 #[.val (.int p1), .val (.int p2), .val (.int cd), .val (.int (1 : Int32)), .val .null, .val .null, .val (.ref b236), .val .null, .val (.ref b243), .val (.int (0 : Int32))] [(.int (0 : Int32)), (.int (0 : Int32))]))
          refine Go.step (fun _ kt => XS.icmpNo X260.here hx rfl (hb hby at_129) rfl (teq (by decide : (0 : Int32) = (0 : Int32))).2 kt) ?_
          show Go p.tables e below _ (T260.setTop (mkF m 132 #[.val (.int p1), .val (.int p2), .val (.int cd), .val (.int (1 : Int32)), .val .null, .val .null, .val (.ref b236), .val .null, .val (.ref b243), .val (.int (0 : Int32))] []))
          refine Go.step (fun _ kt => XS.iconst X260.here hx rfl (hb hby at_132) kt) ?_
          show Go p.tables e below _ (T260.setTop (mkF m 133 #[.val (.int p1), .val (.int p2), .val (.int cd), .val (.int (1 : Int32)), .val .null, .val .null, .val (.ref b236), .val .null, .val (.ref b243), .val (.int (0 : Int32))] [(.int (1 : Int32))]))
          refine Go.step (fun _ kt => XS.goto X260.here hx rfl (pc0 := 133) (pc' := 137) rfl (hb hby at_133) (by decide) (by decide) kt) ?_
          show Go p.tables e below _ (T260.setTop (mkF m 137 #[.val (.int p1), .val (.int p2), .val (.int cd), .val (.int (1 : Int32)), .val .null, .val .null, .val (.ref b236), .val .null, .val (.ref b243), .val (.int (0 : Int32))] [(.int (1 : Int32))]))
          obtain ⟨fs, hr, hrun, hended, hRW⟩ := X260.leaveW hS0 (by rw [eh260]; exact hk259) (v := some (.int (1 : Int32))) (fun h => by rw [Bd.returns] at h; cases h)
          refine ⟨_, _, retN X260 hx (t := .boolean) Bd.returns (by simp) (hb hby at_137) hr, hrun, hended, _, _, rfl, ?_, hRW.1, hRW.2.1, hRW.2.2.1, hRW.2.2.2.mono (by decide) (by decide)⟩
          show Qrm0 Z p1 p2 ca cc h0 n0 _ T260.heap _
          rw [eh260]
          exact ⟨rfl, N260⟩
        · refine Go.step (fun _ kt => XS.ifNo X236.here hx rfl (hb hby at_75) rfl ((if0 _ _).trans (feq hc75_242).1) kt) ?_
          show Go p.tables e below _ (T236.setTop (mkF m 78 #[.val (.int p1), .val (.int p2), .val (.int cd), .val (.int (1 : Int32)), .val .null, .val .null, .val (.ref b236), .unset, .unset, .unset] []))
          obtain ⟨b261, T261, h261, k261, X261, e261, E261, hS261, hk261, hZ, hown, st261⟩ := ldcS (s := s) X236 hx hZ hown (hw _ (List.mem_of_getElem? (i := 63) rfl)) (own_wS hw) e236 hS0 hk240 (g := (mkF m 78 #[.val (.int p1), .val (.int p2), .val (.int cd), .val (.int (1 : Int32)), .val .null, .val .null, .val (.ref b236), .unset, .unset, .unset] [])) rfl (hb hby at_78) (n := 12) (by decide) (by decide) (by decide) (by decide)
          refine Go.step st261 ?_
          have F262 : Sta Z h261 "java/lang/Integer$IntegerCache" "high" "I" (.int (127 : Int32)) := (F237.ext E261)
          have F263 : Sta Z h261 "java/lang/Integer$IntegerCache" "cache" "[Ljava/lang/Integer;" (.ref ca) := (F238.ext E261)
          have F264 : Arv Z h261 b236 k236 .byte ln [(.int (0 : Int32)), (.int (0 : Int32)), (.int (0 : Int32))] (.int (0 : Int32)) := (V241.ext E261)
          have Z265 : n0 ≤ h261.size := (Nat.le_trans Z239 E261.1)
          have hk266 : _ ≤ h261.size := (Nat.le_trans hk240 E261.1)
          show Go p.tables e below _ (T261.setTop (mkF m 80 #[.val (.int p1), .val (.int p2), .val (.int cd), .val (.int (1 : Int32)), .val .null, .val .null, .val (.ref b236), .unset, .unset, .unset] [(.ref b261)]))
          refine Go.step (fun _ kt => XS.goto X261.here hx rfl (pc0 := 80) (pc' := 84) rfl (hb hby at_80) (by decide) (by decide) kt) ?_
          show Go p.tables e below _ (T261.setTop (mkF m 84 #[.val (.int p1), .val (.int p2), .val (.int cd), .val (.int (1 : Int32)), .val .null, .val .null, .val (.ref b236), .unset, .unset, .unset] [(.ref b261)]))
          refine Go.step (fun _ kt => XS.astore X261.here hx rfl (hb hby at_84) rfl rfl (l' := #[.val (.int p1), .val (.int p2), .val (.int cd), .val (.int (1 : Int32)), .val .null, .val .null, .val (.ref b236), .val (.ref b261), .unset, .unset]) rfl kt) ?_
          show Go p.tables e below _ (T261.setTop (mkF m 86 #[.val (.int p1), .val (.int p2), .val (.int cd), .val (.int (1 : Int32)), .val .null, .val .null, .val (.ref b236), .val (.ref b261), .unset, .unset] []))
          obtain ⟨T267, h267, X267, e267, E267, A267, D267, -, st267⟩ := newO X261 hx hZ hown (hw _ (List.mem_of_getElem? (i := 2) rfl)) (hw _ (List.mem_of_getElem? (i := 3) rfl)) (hw _ (List.mem_of_getElem? (i := 4) rfl)) e261 (g := (mkF m 86 #[.val (.int p1), .val (.int p2), .val (.int cd), .val (.int (1 : Int32)), .val .null, .val .null, .val (.ref b236), .val (.ref b261), .unset, .unset] [])) rfl (hb hby at_86) (by decide) (by decide)
          obtain ⟨b267, g267⟩ : ∃ z, z = h261.size := ⟨_, rfl⟩
          rw [← g267] at A267 D267 st267
          refine Go.step st267 ?_
          have ne_b236_b267 : b236 ≠ b267 := Nat.ne_of_lt (Nat.lt_of_lt_of_le F264.lt (Nat.le_of_eq g267.symm))
          have g_b267 : n0 ≤ b267 := Nat.le_trans Z265 (Nat.le_of_eq g267.symm)
          have F268 : Sta Z h267 "java/lang/Integer$IntegerCache" "high" "I" (.int (127 : Int32)) := (F262.ext E267)
          have F269 : Sta Z h267 "java/lang/Integer$IntegerCache" "cache" "[Ljava/lang/Integer;" (.ref ca) := (F263.ext E267)
          have F270 : Arv Z h267 b236 k236 .byte ln [(.int (0 : Int32)), (.int (0 : Int32)), (.int (0 : Int32))] (.int (0 : Int32)) := (F264.ext E267)
          have Z271 : n0 ≤ h267.size := (Nat.le_trans Z265 E267.1)
          have hk272 : _ ≤ h267.size := (Nat.le_trans hk261 E267.1)
          have F273 : Fld Z h267 b267 "com/example/patient_courier/patientcourier/delivery/AttemptResult" "status" "Ljava/lang/Integer;" .null := D267 (Or.inr (hw _ (List.mem_of_getElem? (i := 17) rfl))) (ty := (.object "java/lang/Integer")) (by decide)
          have F274 : Fld Z h267 b267 "com/example/patient_courier/patientcourier/delivery/AttemptResult" "error" "Ljava/lang/String;" .null := D267 (Or.inr (hw _ (List.mem_of_getElem? (i := 19) rfl))) (ty := (.object "java/lang/String")) (by decide)
          have F275 : Fld Z h267 b267 "com/example/patient_courier/patientcourier/delivery/AttemptResult" "preview" "[B" .null := D267 (Or.inr (hw _ (List.mem_of_getElem? (i := 21) rfl))) (ty := (.array .byte)) (by decide)
          have F276 : Fld Z h267 b267 "com/example/patient_courier/patientcourier/delivery/AttemptResult" "retryAfter" "Ljava/lang/String;" .null := D267 (Or.inr (hw _ (List.mem_of_getElem? (i := 23) rfl))) (ty := (.object "java/lang/String")) (by decide)
          show Go p.tables e below _ (T267.setTop (mkF m 89 #[.val (.int p1), .val (.int p2), .val (.int cd), .val (.int (1 : Int32)), .val .null, .val .null, .val (.ref b236), .val (.ref b261), .unset, .unset] [(.ref b267)]))
          refine Go.step (fun _ kt => XS.dup X267.here hx rfl (hb hby at_89) rfl rfl kt) ?_
          show Go p.tables e below _ (T267.setTop (mkF m 90 #[.val (.int p1), .val (.int p2), .val (.int cd), .val (.int (1 : Int32)), .val .null, .val .null, .val (.ref b236), .val (.ref b261), .unset, .unset] [(.ref b267), (.ref b267)]))
          refine Go.step (fun _ kt => XS.aload X267.here hx rfl (hb hby at_90) rfl rfl kt) ?_
          show Go p.tables e below _ (T267.setTop (mkF m 92 #[.val (.int p1), .val (.int p2), .val (.int cd), .val (.int (1 : Int32)), .val .null, .val .null, .val (.ref b236), .val (.ref b261), .unset, .unset] [.null, (.ref b267), (.ref b267)]))
          refine Go.step (fun _ kt => XS.aload X267.here hx rfl (hb hby at_92) rfl rfl kt) ?_
          show Go p.tables e below _ (T267.setTop (mkF m 94 #[.val (.int p1), .val (.int p2), .val (.int cd), .val (.int (1 : Int32)), .val .null, .val .null, .val (.ref b236), .val (.ref b261), .unset, .unset] [.null, .null, (.ref b267), (.ref b267)]))
          refine Go.step (fun _ kt => XS.aload X267.here hx rfl (hb hby at_94) rfl rfl kt) ?_
          show Go p.tables e below _ (T267.setTop (mkF m 96 #[.val (.int p1), .val (.int p2), .val (.int cd), .val (.int (1 : Int32)), .val .null, .val .null, .val (.ref b236), .val (.ref b261), .unset, .unset] [(.ref b236), .null, .null, (.ref b267), (.ref b267)]))
          refine Go.step (fun _ kt => XS.aload X267.here hx rfl (hb hby at_96) rfl rfl kt) ?_
          show Go p.tables e below _ (T267.setTop (mkF m 98 #[.val (.int p1), .val (.int p2), .val (.int cd), .val (.int (1 : Int32)), .val .null, .val .null, .val (.ref b236), .val (.ref b261), .unset, .unset] [(.ref b261), (.ref b236), .null, .null, (.ref b267), (.ref b267)]))
          obtain ⟨_, _, ⟨T277, L277, k277, n277⟩, -, X277, ⟨Lc277, hQ277, l277, y277, z277⟩, st277⟩ := X267.specialBack hx (y := (⟨"com/example/patient_courier/patientcourier/delivery/AttemptResult", "<init>", "(Ljava/lang/Integer;Ljava/lang/String;[BLjava/lang/String;)V"⟩ : MethodName)) rfl hown (mvT hZ (hw _ (List.mem_of_getElem? (i := 5) rfl))) (mvT hZ (hw _ (List.mem_of_getElem? (i := 6) rfl))) (mvT hZ (hw _ (List.mem_of_getElem? (i := 7) rfl))) (by decide) (backOf (W := 1) (rmi_nnrr l Z a0 hw [] b267 b236 b261 .null .null .null .null h267 n0 Z271 A267 F273 F274 F275 F276 g_b267) hZ (hw _ (List.mem_of_getElem? (i := 7) rfl)) (hw _ (List.mem_of_getElem? (i := 4) rfl)) (by decide) (by decide)) (g := (mkF m 98 #[.val (.int p1), .val (.int p2), .val (.int cd), .val (.int (1 : Int32)), .val .null, .val .null, .val (.ref b236), .val (.ref b261), .unset, .unset] [(.ref b261), (.ref b236), .null, .null, (.ref b267), (.ref b267)])) rfl (by rw [hml]; rfl) (Steps.refl _) (a := b267) (argsL := [.null, .null, (.ref b236), (.ref b261)]) (rest := [(.ref b267)]) (lenOf pd_4 rfl) rfl (by show 2 * 0 + _ ≤ _; exact Nat.le_of_eq rfl) (hb hby at_98) (fun _ _ => ⟨rfl, e267, (by decide : 4 + 0 ≤ _), (by decide : 23 + 0 ≤ _)⟩)
          dsimp only [Pt.U, Pt.locs, Pt.cells, Pt.slots] at X277 l277 y277 z277 st277 hQ277
          subst l277 y277 z277
          obtain ⟨rfl, N277q, Kq277, P278, P279⟩ := hQ277
          have F280 : Arv Z T277.heap b236 k236 .byte ln [(.int (0 : Int32)), (.int (0 : Int32)), (.int (0 : Int32))] (.int (0 : Int32)) := (F270.keep Kq277 (fun q => ne_b236_b267 (List.mem_singleton.mp q)))
          have F281 : Exa Z T277.heap b267 "com/example/patient_courier/patientcourier/delivery/AttemptResult" := (A267.keep Kq277)
          have Z282 : n0 ≤ T277.heap.size := (Nat.le_trans Z271 Kq277.1)
          have hk283 : _ ≤ T277.heap.size := (Nat.le_trans hk272 Kq277.1)
          have N277 := Fr.app N0 N277q
          refine Go.step (fun _ kt => st277.trans kt) ?_
          show Go p.tables e below _ (T277.setTop (mkF m 101 #[.val (.int p1), .val (.int p2), .val (.int cd), .val (.int (1 : Int32)), .val .null, .val .null, .val (.ref b236), .val (.ref b261), .unset, .unset] [(.ref b267)]))
          refine Go.step (fun _ kt => XS.astore X277.here hx rfl (hb hby at_101) rfl rfl (l' := #[.val (.int p1), .val (.int p2), .val (.int cd), .val (.int (1 : Int32)), .val .null, .val .null, .val (.ref b236), .val (.ref b261), .val (.ref b267), .unset]) rfl kt) ?_
          show Go p.tables e below _ (T277.setTop (mkF m 103 #[.val (.int p1), .val (.int p2), .val (.int cd), .val (.int (1 : Int32)), .val .null, .val .null, .val (.ref b236), .val (.ref b261), .val (.ref b267), .unset] []))
          refine Go.step (fun _ kt => XS.iloadN X277.here hx rfl (hb hby at_103) rfl kt) ?_
          show Go p.tables e below _ (T277.setTop (mkF m 104 #[.val (.int p1), .val (.int p2), .val (.int cd), .val (.int (1 : Int32)), .val .null, .val .null, .val (.ref b236), .val (.ref b261), .val (.ref b267), .unset] [(.int (1 : Int32))]))
          refine Go.step (fun _ kt => XS.ifYes X277.here hx rfl (pc0 := 104) (pc' := 119) rfl (hb hby at_104) rfl ((if0 _ _).trans (feq (by decide : ¬ ((1 : Int32) = (0 : Int32)))).2) (by decide) (by decide) kt) ?_
          show Go p.tables e below _ (T277.setTop (mkF m 119 #[.val (.int p1), .val (.int p2), .val (.int cd), .val (.int (1 : Int32)), .val .null, .val .null, .val (.ref b236), .val (.ref b261), .val (.ref b267), .unset] []))
          refine Go.step (fun _ kt => XS.iconst X277.here hx rfl (hb hby at_119) kt) ?_
          show Go p.tables e below _ (T277.setTop (mkF m 120 #[.val (.int p1), .val (.int p2), .val (.int cd), .val (.int (1 : Int32)), .val .null, .val .null, .val (.ref b236), .val (.ref b261), .val (.ref b267), .unset] [(.int (0 : Int32))]))
          refine Go.step (fun _ kt => XS.istore X277.here hx rfl (hb hby at_120) rfl (l' := #[.val (.int p1), .val (.int p2), .val (.int cd), .val (.int (1 : Int32)), .val .null, .val .null, .val (.ref b236), .val (.ref b261), .val (.ref b267), .val (.int (0 : Int32))]) rfl kt) ?_
          show Go p.tables e below _ (T277.setTop (mkF m 122 #[.val (.int p1), .val (.int p2), .val (.int cd), .val (.int (1 : Int32)), .val .null, .val .null, .val (.ref b236), .val (.ref b261), .val (.ref b267), .val (.int (0 : Int32))] []))
          refine Go.step (fun _ kt => XS.aload X277.here hx rfl (hb hby at_122) rfl rfl kt) ?_
          show Go p.tables e below _ (T277.setTop (mkF m 124 #[.val (.int p1), .val (.int p2), .val (.int cd), .val (.int (1 : Int32)), .val .null, .val .null, .val (.ref b236), .val (.ref b261), .val (.ref b267), .val (.int (0 : Int32))] [(.ref b267)]))
          obtain ⟨cq284, kq284, q284a, q284b, q284c⟩ := isOf hZ rfl P278
          obtain ⟨_, _, ⟨T284, L284, k284, n284⟩, -, X284, ⟨Lc284, hQ284, l284, y284, z284⟩, st284⟩ := X277.virtualBack hx (y := (⟨"com/example/patient_courier/patientcourier/delivery/AttemptResult", "delivered", "()Z"⟩ : MethodName)) (z := (⟨"com/example/patient_courier/patientcourier/delivery/AttemptResult", "delivered", "()Z"⟩ : MethodName)) hown (mvT hZ (hw _ (List.mem_of_getElem? (i := 24) rfl))) (mvT hZ (hw _ (List.mem_of_getElem? (i := 25) rfl))) (notFace_of_selects (args := #[]) (mvT hZ (hw _ (List.mem_of_getElem? (i := 27) rfl)))) (mvT hZ (hw _ (List.mem_of_getElem? (i := 27) rfl))) (mvT hZ (hw _ (List.mem_of_getElem? (i := 26) rfl))) (by decide) (backOf (W := 0) (rmdn l Z a0 hw [] b267  T277.heap n0 Z282 P279 ) hZ (hw _ (List.mem_of_getElem? (i := 28) rfl)) (hw _ (List.mem_of_getElem? (i := 4) rfl)) (by decide) (by decide)) q284a q284c (g := (mkF m 124 #[.val (.int p1), .val (.int p2), .val (.int cd), .val (.int (1 : Int32)), .val .null, .val .null, .val (.ref b236), .val (.ref b261), .val (.ref b267), .val (.int (0 : Int32))] [(.ref b267)])) rfl (by rw [hml]; rfl) (Steps.refl _) (argsL := []) (rest := []) (lenOf pd_5 rfl) rfl (by show 2 * 0 + _ ≤ _; exact Nat.le_of_eq rfl) (hb hby at_124) (fun _ _ => ⟨rfl, rfl, (by decide : 4 + 0 ≤ _), (by decide : 23 + 0 ≤ _)⟩)
          dsimp only [Pt.U, Pt.locs, Pt.cells, Pt.slots] at X284 l284 y284 z284 st284 hQ284
          subst l284 y284 z284
          obtain ⟨rfl, N284q, eh284⟩ := hQ284
          have N284 := Fr.app N277 N284q
          refine Go.step (fun _ kt => st284.trans kt) ?_
          show Go p.tables e below _ (T284.setTop (mkF m 127 #[.val (.int p1), .val (.int p2), .val (.int cd), .val (.int (1 : Int32)), .val .null, .val .null, .val (.ref b236), .val (.ref b261), .val (.ref b267), .val (.int (0 : Int32))] [(.int (0 : Int32))]))
          refine Go.step (fun _ kt => XS.iload X284.here hx rfl (hb hby at_127) rfl kt) ?_
          show Go p.tables e below _ (T284.setTop (mkF m 129 #[.val (.int p1), .val (.int p2), .val (.int cd), .val (.int (1 : Int32)), .val .null, .val .null, .val (.ref b236), .val (.ref b261), .val (.ref b267), .val (.int (0 : Int32))] [(.int (0 : Int32)), (.int (0 : Int32))]))
          refine Go.step (fun _ kt => XS.icmpNo X284.here hx rfl (hb hby at_129) rfl (teq (by decide : (0 : Int32) = (0 : Int32))).2 kt) ?_
          show Go p.tables e below _ (T284.setTop (mkF m 132 #[.val (.int p1), .val (.int p2), .val (.int cd), .val (.int (1 : Int32)), .val .null, .val .null, .val (.ref b236), .val (.ref b261), .val (.ref b267), .val (.int (0 : Int32))] []))
          refine Go.step (fun _ kt => XS.iconst X284.here hx rfl (hb hby at_132) kt) ?_
          show Go p.tables e below _ (T284.setTop (mkF m 133 #[.val (.int p1), .val (.int p2), .val (.int cd), .val (.int (1 : Int32)), .val .null, .val .null, .val (.ref b236), .val (.ref b261), .val (.ref b267), .val (.int (0 : Int32))] [(.int (1 : Int32))]))
          refine Go.step (fun _ kt => XS.goto X284.here hx rfl (pc0 := 133) (pc' := 137) rfl (hb hby at_133) (by decide) (by decide) kt) ?_
          show Go p.tables e below _ (T284.setTop (mkF m 137 #[.val (.int p1), .val (.int p2), .val (.int cd), .val (.int (1 : Int32)), .val .null, .val .null, .val (.ref b236), .val (.ref b261), .val (.ref b267), .val (.int (0 : Int32))] [(.int (1 : Int32))]))
          obtain ⟨fs, hr, hrun, hended, hRW⟩ := X284.leaveW hS261 (by rw [eh284]; exact hk283) (v := some (.int (1 : Int32))) (fun h => by rw [Bd.returns] at h; cases h)
          refine ⟨_, _, retN X284 hx (t := .boolean) Bd.returns (by simp) (hb hby at_137) hr, hrun, hended, _, _, rfl, ?_, hRW.1, hRW.2.1, hRW.2.2.1, hRW.2.2.2.mono (by decide) (by decide)⟩
          show Qrm0 Z p1 p2 ca cc h0 n0 _ T284.heap _
          rw [eh284]
          exact ⟨rfl, N284⟩
      · refine Go.step (fun _ kt => XS.ifNo X0.here hx rfl (hb hby at_51) rfl ((if0 _ _).trans (feq hc51_235).1) kt) ?_
        show Go p.tables e below _ (s₁.setTop (mkF m 54 #[.val (.int p1), .val (.int p2), .val (.int cd), .val (.int (1 : Int32)), .val .null, .unset, .unset, .unset, .unset, .unset] []))
        obtain ⟨b285, T285, h285, k285, X285, e285, E285, hS285, hk285, hZ, hown, st285⟩ := ldcS (s := s) X0 hx hZ hown (hw _ (List.mem_of_getElem? (i := 48) rfl)) (own_wS hw) e0 hS0 hk0 (g := (mkF m 54 #[.val (.int p1), .val (.int p2), .val (.int cd), .val (.int (1 : Int32)), .val .null, .unset, .unset, .unset, .unset, .unset] [])) rfl (hb hby at_54) (n := 28) (by decide) (by decide) (by decide) (by decide)
        refine Go.step st285 ?_
        have F286 : Sta Z h285 "java/lang/Integer$IntegerCache" "high" "I" (.int (127 : Int32)) := (S_high.ext E285)
        have F287 : Sta Z h285 "java/lang/Integer$IntegerCache" "cache" "[Ljava/lang/Integer;" (.ref ca) := (S_cache.ext E285)
        have Z288 : n0 ≤ h285.size := (Nat.le_trans Z0 E285.1)
        have hk289 : _ ≤ h285.size := (Nat.le_trans hk0 E285.1)
        show Go p.tables e below _ (T285.setTop (mkF m 56 #[.val (.int p1), .val (.int p2), .val (.int cd), .val (.int (1 : Int32)), .val .null, .unset, .unset, .unset, .unset, .unset] [(.ref b285)]))
        refine Go.step (fun _ kt => XS.goto X285.here hx rfl (pc0 := 56) (pc' := 60) rfl (hb hby at_56) (by decide) (by decide) kt) ?_
        show Go p.tables e below _ (T285.setTop (mkF m 60 #[.val (.int p1), .val (.int p2), .val (.int cd), .val (.int (1 : Int32)), .val .null, .unset, .unset, .unset, .unset, .unset] [(.ref b285)]))
        refine Go.step (fun _ kt => XS.astore X285.here hx rfl (hb hby at_60) rfl rfl (l' := #[.val (.int p1), .val (.int p2), .val (.int cd), .val (.int (1 : Int32)), .val .null, .val (.ref b285), .unset, .unset, .unset, .unset]) rfl kt) ?_
        show Go p.tables e below _ (T285.setTop (mkF m 62 #[.val (.int p1), .val (.int p2), .val (.int cd), .val (.int (1 : Int32)), .val .null, .val (.ref b285), .unset, .unset, .unset, .unset] []))
        refine Go.step (fun _ kt => XS.iloadN X285.here hx rfl (hb hby at_62) rfl kt) ?_
        show Go p.tables e below _ (T285.setTop (mkF m 63 #[.val (.int p1), .val (.int p2), .val (.int cd), .val (.int (1 : Int32)), .val .null, .val (.ref b285), .unset, .unset, .unset, .unset] [(.int p2)]))
        refine Go.step (fun _ kt => XS.iconst X285.here hx rfl (hb hby at_63) kt) ?_
        show Go p.tables e below _ (T285.setTop (mkF m 64 #[.val (.int p1), .val (.int p2), .val (.int cd), .val (.int (1 : Int32)), .val .null, .val (.ref b285), .unset, .unset, .unset, .unset] [(.int (3 : Int32)), (.int p2)]))
        refine Go.step (fun _ kt => XS.iushr X285.here hx rfl (hb hby at_64) rfl kt) ?_
        show Go p.tables e below _ (T285.setTop (mkF m 65 #[.val (.int p1), .val (.int p2), .val (.int cd), .val (.int (1 : Int32)), .val .null, .val (.ref b285), .unset, .unset, .unset, .unset] [(.int ((p2.toUInt32 >>> ((3 : Int32) &&& 31).toUInt32).toInt32))]))
        refine Go.step (fun _ kt => XS.iconst X285.here hx rfl (hb hby at_65) kt) ?_
        show Go p.tables e below _ (T285.setTop (mkF m 66 #[.val (.int p1), .val (.int p2), .val (.int cd), .val (.int (1 : Int32)), .val .null, .val (.ref b285), .unset, .unset, .unset, .unset] [(.int (3 : Int32)), (.int ((p2.toUInt32 >>> ((3 : Int32) &&& 31).toUInt32).toInt32))]))
        refine Go.step (fun _ kt => XS.iand X285.here hx rfl (hb hby at_66) rfl kt) ?_
        show Go p.tables e below _ (T285.setTop (mkF m 67 #[.val (.int p1), .val (.int p2), .val (.int cd), .val (.int (1 : Int32)), .val .null, .val (.ref b285), .unset, .unset, .unset, .unset] [(.int (((p2.toUInt32 >>> ((3 : Int32) &&& 31).toUInt32).toInt32) &&& (3 : Int32)))]))
        obtain ⟨ln, e_ln⟩ : ∃ nm_, nm_ = (((p2.toUInt32 >>> ((3 : Int32) &&& 31).toUInt32).toInt32) &&& (3 : Int32)) := ⟨_, rfl⟩
        rw [← e_ln]
        show Go p.tables e below _ (T285.setTop (mkF m 67 #[.val (.int p1), .val (.int p2), .val (.int cd), .val (.int (1 : Int32)), .val .null, .val (.ref b285), .unset, .unset, .unset, .unset] [(.int ln)]))
        obtain ⟨T290, h290, k290, X290, e290, E290, A290, st290⟩ := newP X285 hx hZ (hw _ (List.mem_of_getElem? (i := 1) rfl)) e285 (g := (mkF m 67 #[.val (.int p1), .val (.int p2), .val (.int cd), .val (.int (1 : Int32)), .val .null, .val (.ref b285), .unset, .unset, .unset, .unset] [(.int ln)])) rfl (hb hby at_67) rfl (by rw [e_ln]; exact (own_cap _).1) (cap := 3) (by rw [e_ln]; exact (own_cap _).2) (by decide) (by decide) (by decide)
        obtain ⟨b290, g290⟩ : ∃ z, z = h285.size := ⟨_, rfl⟩
        rw [← g290] at A290 st290
        refine Go.step st290 ?_
        have g_b290 : n0 ≤ b290 := Nat.le_trans Z288 (Nat.le_of_eq g290.symm)
        have F291 : Sta Z h290 "java/lang/Integer$IntegerCache" "high" "I" (.int (127 : Int32)) := (F286.ext E290)
        have F292 : Sta Z h290 "java/lang/Integer$IntegerCache" "cache" "[Ljava/lang/Integer;" (.ref ca) := (F287.ext E290)
        have Z293 : n0 ≤ h290.size := (Nat.le_trans Z288 E290.1)
        have hk294 : _ ≤ h290.size := (Nat.le_trans hk285 E290.1)
        have V295 : Arv Z h290 b290 k290 .byte ln [(.int (0 : Int32)), (.int (0 : Int32)), (.int (0 : Int32))] (.int (0 : Int32)) := (Arv.new A290 (by rw [e_ln]; exact (own_cap _).1)).pad (pad_rep [] (.int (0 : Int32)) 3)
        show Go p.tables e below _ (T290.setTop (mkF m 69 #[.val (.int p1), .val (.int p2), .val (.int cd), .val (.int (1 : Int32)), .val .null, .val (.ref b285), .unset, .unset, .unset, .unset] [(.ref b290)]))
        refine Go.step (fun _ kt => XS.astore X290.here hx rfl (hb hby at_69) rfl rfl (l' := #[.val (.int p1), .val (.int p2), .val (.int cd), .val (.int (1 : Int32)), .val .null, .val (.ref b285), .val (.ref b290), .unset, .unset, .unset]) rfl kt) ?_
        show Go p.tables e below _ (T290.setTop (mkF m 71 #[.val (.int p1), .val (.int p2), .val (.int cd), .val (.int (1 : Int32)), .val .null, .val (.ref b285), .val (.ref b290), .unset, .unset, .unset] []))
        refine Go.step (fun _ kt => XS.iloadN X290.here hx rfl (hb hby at_71) rfl kt) ?_
        show Go p.tables e below _ (T290.setTop (mkF m 72 #[.val (.int p1), .val (.int p2), .val (.int cd), .val (.int (1 : Int32)), .val .null, .val (.ref b285), .val (.ref b290), .unset, .unset, .unset] [(.int p2)]))
        refine Go.step (fun _ kt => XS.bipush X290.here hx rfl (hb hby at_72) kt) ?_
        show Go p.tables e below _ (T290.setTop (mkF m 74 #[.val (.int p1), .val (.int p2), .val (.int cd), .val (.int (1 : Int32)), .val .null, .val (.ref b285), .val (.ref b290), .unset, .unset, .unset] [(.int (32 : Int32)), (.int p2)]))
        refine Go.step (fun _ kt => XS.iand X290.here hx rfl (hb hby at_74) rfl kt) ?_
        show Go p.tables e below _ (T290.setTop (mkF m 75 #[.val (.int p1), .val (.int p2), .val (.int cd), .val (.int (1 : Int32)), .val .null, .val (.ref b285), .val (.ref b290), .unset, .unset, .unset] [(.int (p2 &&& (32 : Int32)))]))
        by_cases hc75_296 : (p2 &&& (32 : Int32)) = (0 : Int32)
        · refine Go.step (fun _ kt => XS.ifYes X290.here hx rfl (pc0 := 75) (pc' := 83) rfl (hb hby at_75) rfl ((if0 _ _).trans (teq hc75_296).1) (by decide) (by decide) kt) ?_
          show Go p.tables e below _ (T290.setTop (mkF m 83 #[.val (.int p1), .val (.int p2), .val (.int cd), .val (.int (1 : Int32)), .val .null, .val (.ref b285), .val (.ref b290), .unset, .unset, .unset] []))
          refine Go.step (fun _ kt => XS.aconstNull X290.here hx rfl (hb hby at_83) kt) ?_
          show Go p.tables e below _ (T290.setTop (mkF m 84 #[.val (.int p1), .val (.int p2), .val (.int cd), .val (.int (1 : Int32)), .val .null, .val (.ref b285), .val (.ref b290), .unset, .unset, .unset] [.null]))
          refine Go.step (fun _ kt => XS.astore X290.here hx rfl (hb hby at_84) rfl rfl (l' := #[.val (.int p1), .val (.int p2), .val (.int cd), .val (.int (1 : Int32)), .val .null, .val (.ref b285), .val (.ref b290), .val .null, .unset, .unset]) rfl kt) ?_
          show Go p.tables e below _ (T290.setTop (mkF m 86 #[.val (.int p1), .val (.int p2), .val (.int cd), .val (.int (1 : Int32)), .val .null, .val (.ref b285), .val (.ref b290), .val .null, .unset, .unset] []))
          obtain ⟨T297, h297, X297, e297, E297, A297, D297, -, st297⟩ := newO X290 hx hZ hown (hw _ (List.mem_of_getElem? (i := 2) rfl)) (hw _ (List.mem_of_getElem? (i := 3) rfl)) (hw _ (List.mem_of_getElem? (i := 4) rfl)) e290 (g := (mkF m 86 #[.val (.int p1), .val (.int p2), .val (.int cd), .val (.int (1 : Int32)), .val .null, .val (.ref b285), .val (.ref b290), .val .null, .unset, .unset] [])) rfl (hb hby at_86) (by decide) (by decide)
          obtain ⟨b297, g297⟩ : ∃ z, z = h290.size := ⟨_, rfl⟩
          rw [← g297] at A297 D297 st297
          refine Go.step st297 ?_
          have ne_b290_b297 : b290 ≠ b297 := Nat.ne_of_lt (Nat.lt_of_lt_of_le V295.lt (Nat.le_of_eq g297.symm))
          have g_b297 : n0 ≤ b297 := Nat.le_trans Z293 (Nat.le_of_eq g297.symm)
          have F298 : Sta Z h297 "java/lang/Integer$IntegerCache" "high" "I" (.int (127 : Int32)) := (F291.ext E297)
          have F299 : Sta Z h297 "java/lang/Integer$IntegerCache" "cache" "[Ljava/lang/Integer;" (.ref ca) := (F292.ext E297)
          have F300 : Arv Z h297 b290 k290 .byte ln [(.int (0 : Int32)), (.int (0 : Int32)), (.int (0 : Int32))] (.int (0 : Int32)) := (V295.ext E297)
          have Z301 : n0 ≤ h297.size := (Nat.le_trans Z293 E297.1)
          have hk302 : _ ≤ h297.size := (Nat.le_trans hk294 E297.1)
          have F303 : Fld Z h297 b297 "com/example/patient_courier/patientcourier/delivery/AttemptResult" "status" "Ljava/lang/Integer;" .null := D297 (Or.inr (hw _ (List.mem_of_getElem? (i := 17) rfl))) (ty := (.object "java/lang/Integer")) (by decide)
          have F304 : Fld Z h297 b297 "com/example/patient_courier/patientcourier/delivery/AttemptResult" "error" "Ljava/lang/String;" .null := D297 (Or.inr (hw _ (List.mem_of_getElem? (i := 19) rfl))) (ty := (.object "java/lang/String")) (by decide)
          have F305 : Fld Z h297 b297 "com/example/patient_courier/patientcourier/delivery/AttemptResult" "preview" "[B" .null := D297 (Or.inr (hw _ (List.mem_of_getElem? (i := 21) rfl))) (ty := (.array .byte)) (by decide)
          have F306 : Fld Z h297 b297 "com/example/patient_courier/patientcourier/delivery/AttemptResult" "retryAfter" "Ljava/lang/String;" .null := D297 (Or.inr (hw _ (List.mem_of_getElem? (i := 23) rfl))) (ty := (.object "java/lang/String")) (by decide)
          show Go p.tables e below _ (T297.setTop (mkF m 89 #[.val (.int p1), .val (.int p2), .val (.int cd), .val (.int (1 : Int32)), .val .null, .val (.ref b285), .val (.ref b290), .val .null, .unset, .unset] [(.ref b297)]))
          refine Go.step (fun _ kt => XS.dup X297.here hx rfl (hb hby at_89) rfl rfl kt) ?_
          show Go p.tables e below _ (T297.setTop (mkF m 90 #[.val (.int p1), .val (.int p2), .val (.int cd), .val (.int (1 : Int32)), .val .null, .val (.ref b285), .val (.ref b290), .val .null, .unset, .unset] [(.ref b297), (.ref b297)]))
          refine Go.step (fun _ kt => XS.aload X297.here hx rfl (hb hby at_90) rfl rfl kt) ?_
          show Go p.tables e below _ (T297.setTop (mkF m 92 #[.val (.int p1), .val (.int p2), .val (.int cd), .val (.int (1 : Int32)), .val .null, .val (.ref b285), .val (.ref b290), .val .null, .unset, .unset] [.null, (.ref b297), (.ref b297)]))
          refine Go.step (fun _ kt => XS.aload X297.here hx rfl (hb hby at_92) rfl rfl kt) ?_
          show Go p.tables e below _ (T297.setTop (mkF m 94 #[.val (.int p1), .val (.int p2), .val (.int cd), .val (.int (1 : Int32)), .val .null, .val (.ref b285), .val (.ref b290), .val .null, .unset, .unset] [(.ref b285), .null, (.ref b297), (.ref b297)]))
          refine Go.step (fun _ kt => XS.aload X297.here hx rfl (hb hby at_94) rfl rfl kt) ?_
          show Go p.tables e below _ (T297.setTop (mkF m 96 #[.val (.int p1), .val (.int p2), .val (.int cd), .val (.int (1 : Int32)), .val .null, .val (.ref b285), .val (.ref b290), .val .null, .unset, .unset] [(.ref b290), (.ref b285), .null, (.ref b297), (.ref b297)]))
          refine Go.step (fun _ kt => XS.aload X297.here hx rfl (hb hby at_96) rfl rfl kt) ?_
          show Go p.tables e below _ (T297.setTop (mkF m 98 #[.val (.int p1), .val (.int p2), .val (.int cd), .val (.int (1 : Int32)), .val .null, .val (.ref b285), .val (.ref b290), .val .null, .unset, .unset] [.null, (.ref b290), (.ref b285), .null, (.ref b297), (.ref b297)]))
          obtain ⟨_, _, ⟨T307, L307, k307, n307⟩, -, X307, ⟨Lc307, hQ307, l307, y307, z307⟩, st307⟩ := X297.specialBack hx (y := (⟨"com/example/patient_courier/patientcourier/delivery/AttemptResult", "<init>", "(Ljava/lang/Integer;Ljava/lang/String;[BLjava/lang/String;)V"⟩ : MethodName)) rfl hown (mvT hZ (hw _ (List.mem_of_getElem? (i := 5) rfl))) (mvT hZ (hw _ (List.mem_of_getElem? (i := 6) rfl))) (mvT hZ (hw _ (List.mem_of_getElem? (i := 7) rfl))) (by decide) (backOf (W := 1) (rmi_nrrn l Z a0 hw [] b297 b285 b290 .null .null .null .null h297 n0 Z301 A297 F303 F304 F305 F306 g_b297) hZ (hw _ (List.mem_of_getElem? (i := 7) rfl)) (hw _ (List.mem_of_getElem? (i := 4) rfl)) (by decide) (by decide)) (g := (mkF m 98 #[.val (.int p1), .val (.int p2), .val (.int cd), .val (.int (1 : Int32)), .val .null, .val (.ref b285), .val (.ref b290), .val .null, .unset, .unset] [.null, (.ref b290), (.ref b285), .null, (.ref b297), (.ref b297)])) rfl (by rw [hml]; rfl) (Steps.refl _) (a := b297) (argsL := [.null, (.ref b285), (.ref b290), .null]) (rest := [(.ref b297)]) (lenOf pd_4 rfl) rfl (by show 2 * 0 + _ ≤ _; exact Nat.le_of_eq rfl) (hb hby at_98) (fun _ _ => ⟨rfl, e297, (by decide : 4 + 0 ≤ _), (by decide : 39 + 0 ≤ _)⟩)
          dsimp only [Pt.U, Pt.locs, Pt.cells, Pt.slots] at X307 l307 y307 z307 st307 hQ307
          subst l307 y307 z307
          obtain ⟨rfl, N307q, Kq307, P308, P309⟩ := hQ307
          have F310 : Arv Z T307.heap b290 k290 .byte ln [(.int (0 : Int32)), (.int (0 : Int32)), (.int (0 : Int32))] (.int (0 : Int32)) := (F300.keep Kq307 (fun q => ne_b290_b297 (List.mem_singleton.mp q)))
          have F311 : Exa Z T307.heap b297 "com/example/patient_courier/patientcourier/delivery/AttemptResult" := (A297.keep Kq307)
          have Z312 : n0 ≤ T307.heap.size := (Nat.le_trans Z301 Kq307.1)
          have hk313 : _ ≤ T307.heap.size := (Nat.le_trans hk302 Kq307.1)
          have N307 := Fr.app N0 N307q
          refine Go.step (fun _ kt => st307.trans kt) ?_
          show Go p.tables e below _ (T307.setTop (mkF m 101 #[.val (.int p1), .val (.int p2), .val (.int cd), .val (.int (1 : Int32)), .val .null, .val (.ref b285), .val (.ref b290), .val .null, .unset, .unset] [(.ref b297)]))
          refine Go.step (fun _ kt => XS.astore X307.here hx rfl (hb hby at_101) rfl rfl (l' := #[.val (.int p1), .val (.int p2), .val (.int cd), .val (.int (1 : Int32)), .val .null, .val (.ref b285), .val (.ref b290), .val .null, .val (.ref b297), .unset]) rfl kt) ?_
          show Go p.tables e below _ (T307.setTop (mkF m 103 #[.val (.int p1), .val (.int p2), .val (.int cd), .val (.int (1 : Int32)), .val .null, .val (.ref b285), .val (.ref b290), .val .null, .val (.ref b297), .unset] []))
          refine Go.step (fun _ kt => XS.iloadN X307.here hx rfl (hb hby at_103) rfl kt) ?_
          show Go p.tables e below _ (T307.setTop (mkF m 104 #[.val (.int p1), .val (.int p2), .val (.int cd), .val (.int (1 : Int32)), .val .null, .val (.ref b285), .val (.ref b290), .val .null, .val (.ref b297), .unset] [(.int (1 : Int32))]))
          refine Go.step (fun _ kt => XS.ifYes X307.here hx rfl (pc0 := 104) (pc' := 119) rfl (hb hby at_104) rfl ((if0 _ _).trans (feq (by decide : ¬ ((1 : Int32) = (0 : Int32)))).2) (by decide) (by decide) kt) ?_
          show Go p.tables e below _ (T307.setTop (mkF m 119 #[.val (.int p1), .val (.int p2), .val (.int cd), .val (.int (1 : Int32)), .val .null, .val (.ref b285), .val (.ref b290), .val .null, .val (.ref b297), .unset] []))
          refine Go.step (fun _ kt => XS.iconst X307.here hx rfl (hb hby at_119) kt) ?_
          show Go p.tables e below _ (T307.setTop (mkF m 120 #[.val (.int p1), .val (.int p2), .val (.int cd), .val (.int (1 : Int32)), .val .null, .val (.ref b285), .val (.ref b290), .val .null, .val (.ref b297), .unset] [(.int (0 : Int32))]))
          refine Go.step (fun _ kt => XS.istore X307.here hx rfl (hb hby at_120) rfl (l' := #[.val (.int p1), .val (.int p2), .val (.int cd), .val (.int (1 : Int32)), .val .null, .val (.ref b285), .val (.ref b290), .val .null, .val (.ref b297), .val (.int (0 : Int32))]) rfl kt) ?_
          show Go p.tables e below _ (T307.setTop (mkF m 122 #[.val (.int p1), .val (.int p2), .val (.int cd), .val (.int (1 : Int32)), .val .null, .val (.ref b285), .val (.ref b290), .val .null, .val (.ref b297), .val (.int (0 : Int32))] []))
          refine Go.step (fun _ kt => XS.aload X307.here hx rfl (hb hby at_122) rfl rfl kt) ?_
          show Go p.tables e below _ (T307.setTop (mkF m 124 #[.val (.int p1), .val (.int p2), .val (.int cd), .val (.int (1 : Int32)), .val .null, .val (.ref b285), .val (.ref b290), .val .null, .val (.ref b297), .val (.int (0 : Int32))] [(.ref b297)]))
          obtain ⟨cq314, kq314, q314a, q314b, q314c⟩ := isOf hZ rfl P308
          obtain ⟨_, _, ⟨T314, L314, k314, n314⟩, -, X314, ⟨Lc314, hQ314, l314, y314, z314⟩, st314⟩ := X307.virtualBack hx (y := (⟨"com/example/patient_courier/patientcourier/delivery/AttemptResult", "delivered", "()Z"⟩ : MethodName)) (z := (⟨"com/example/patient_courier/patientcourier/delivery/AttemptResult", "delivered", "()Z"⟩ : MethodName)) hown (mvT hZ (hw _ (List.mem_of_getElem? (i := 24) rfl))) (mvT hZ (hw _ (List.mem_of_getElem? (i := 25) rfl))) (notFace_of_selects (args := #[]) (mvT hZ (hw _ (List.mem_of_getElem? (i := 27) rfl)))) (mvT hZ (hw _ (List.mem_of_getElem? (i := 27) rfl))) (mvT hZ (hw _ (List.mem_of_getElem? (i := 26) rfl))) (by decide) (backOf (W := 0) (rmdn l Z a0 hw [] b297  T307.heap n0 Z312 P309 ) hZ (hw _ (List.mem_of_getElem? (i := 28) rfl)) (hw _ (List.mem_of_getElem? (i := 4) rfl)) (by decide) (by decide)) q314a q314c (g := (mkF m 124 #[.val (.int p1), .val (.int p2), .val (.int cd), .val (.int (1 : Int32)), .val .null, .val (.ref b285), .val (.ref b290), .val .null, .val (.ref b297), .val (.int (0 : Int32))] [(.ref b297)])) rfl (by rw [hml]; rfl) (Steps.refl _) (argsL := []) (rest := []) (lenOf pd_5 rfl) rfl (by show 2 * 0 + _ ≤ _; exact Nat.le_of_eq rfl) (hb hby at_124) (fun _ _ => ⟨rfl, rfl, (by decide : 4 + 0 ≤ _), (by decide : 39 + 0 ≤ _)⟩)
          dsimp only [Pt.U, Pt.locs, Pt.cells, Pt.slots] at X314 l314 y314 z314 st314 hQ314
          subst l314 y314 z314
          obtain ⟨rfl, N314q, eh314⟩ := hQ314
          have N314 := Fr.app N307 N314q
          refine Go.step (fun _ kt => st314.trans kt) ?_
          show Go p.tables e below _ (T314.setTop (mkF m 127 #[.val (.int p1), .val (.int p2), .val (.int cd), .val (.int (1 : Int32)), .val .null, .val (.ref b285), .val (.ref b290), .val .null, .val (.ref b297), .val (.int (0 : Int32))] [(.int (0 : Int32))]))
          refine Go.step (fun _ kt => XS.iload X314.here hx rfl (hb hby at_127) rfl kt) ?_
          show Go p.tables e below _ (T314.setTop (mkF m 129 #[.val (.int p1), .val (.int p2), .val (.int cd), .val (.int (1 : Int32)), .val .null, .val (.ref b285), .val (.ref b290), .val .null, .val (.ref b297), .val (.int (0 : Int32))] [(.int (0 : Int32)), (.int (0 : Int32))]))
          refine Go.step (fun _ kt => XS.icmpNo X314.here hx rfl (hb hby at_129) rfl (teq (by decide : (0 : Int32) = (0 : Int32))).2 kt) ?_
          show Go p.tables e below _ (T314.setTop (mkF m 132 #[.val (.int p1), .val (.int p2), .val (.int cd), .val (.int (1 : Int32)), .val .null, .val (.ref b285), .val (.ref b290), .val .null, .val (.ref b297), .val (.int (0 : Int32))] []))
          refine Go.step (fun _ kt => XS.iconst X314.here hx rfl (hb hby at_132) kt) ?_
          show Go p.tables e below _ (T314.setTop (mkF m 133 #[.val (.int p1), .val (.int p2), .val (.int cd), .val (.int (1 : Int32)), .val .null, .val (.ref b285), .val (.ref b290), .val .null, .val (.ref b297), .val (.int (0 : Int32))] [(.int (1 : Int32))]))
          refine Go.step (fun _ kt => XS.goto X314.here hx rfl (pc0 := 133) (pc' := 137) rfl (hb hby at_133) (by decide) (by decide) kt) ?_
          show Go p.tables e below _ (T314.setTop (mkF m 137 #[.val (.int p1), .val (.int p2), .val (.int cd), .val (.int (1 : Int32)), .val .null, .val (.ref b285), .val (.ref b290), .val .null, .val (.ref b297), .val (.int (0 : Int32))] [(.int (1 : Int32))]))
          obtain ⟨fs, hr, hrun, hended, hRW⟩ := X314.leaveW hS285 (by rw [eh314]; exact hk313) (v := some (.int (1 : Int32))) (fun h => by rw [Bd.returns] at h; cases h)
          refine ⟨_, _, retN X314 hx (t := .boolean) Bd.returns (by simp) (hb hby at_137) hr, hrun, hended, _, _, rfl, ?_, hRW.1, hRW.2.1, hRW.2.2.1, hRW.2.2.2.mono (by decide) (by decide)⟩
          show Qrm0 Z p1 p2 ca cc h0 n0 _ T314.heap _
          rw [eh314]
          exact ⟨rfl, N314⟩
        · refine Go.step (fun _ kt => XS.ifNo X290.here hx rfl (hb hby at_75) rfl ((if0 _ _).trans (feq hc75_296).1) kt) ?_
          show Go p.tables e below _ (T290.setTop (mkF m 78 #[.val (.int p1), .val (.int p2), .val (.int cd), .val (.int (1 : Int32)), .val .null, .val (.ref b285), .val (.ref b290), .unset, .unset, .unset] []))
          obtain ⟨b315, T315, h315, k315, X315, e315, E315, hS315, hk315, hZ, hown, st315⟩ := ldcS (s := s) X290 hx hZ hown (hw _ (List.mem_of_getElem? (i := 63) rfl)) (own_wS hw) e290 hS285 hk294 (g := (mkF m 78 #[.val (.int p1), .val (.int p2), .val (.int cd), .val (.int (1 : Int32)), .val .null, .val (.ref b285), .val (.ref b290), .unset, .unset, .unset] [])) rfl (hb hby at_78) (n := 12) (by decide) (by decide) (by decide) (by decide)
          refine Go.step st315 ?_
          have F316 : Sta Z h315 "java/lang/Integer$IntegerCache" "high" "I" (.int (127 : Int32)) := (F291.ext E315)
          have F317 : Sta Z h315 "java/lang/Integer$IntegerCache" "cache" "[Ljava/lang/Integer;" (.ref ca) := (F292.ext E315)
          have F318 : Arv Z h315 b290 k290 .byte ln [(.int (0 : Int32)), (.int (0 : Int32)), (.int (0 : Int32))] (.int (0 : Int32)) := (V295.ext E315)
          have Z319 : n0 ≤ h315.size := (Nat.le_trans Z293 E315.1)
          have hk320 : _ ≤ h315.size := (Nat.le_trans hk294 E315.1)
          show Go p.tables e below _ (T315.setTop (mkF m 80 #[.val (.int p1), .val (.int p2), .val (.int cd), .val (.int (1 : Int32)), .val .null, .val (.ref b285), .val (.ref b290), .unset, .unset, .unset] [(.ref b315)]))
          refine Go.step (fun _ kt => XS.goto X315.here hx rfl (pc0 := 80) (pc' := 84) rfl (hb hby at_80) (by decide) (by decide) kt) ?_
          show Go p.tables e below _ (T315.setTop (mkF m 84 #[.val (.int p1), .val (.int p2), .val (.int cd), .val (.int (1 : Int32)), .val .null, .val (.ref b285), .val (.ref b290), .unset, .unset, .unset] [(.ref b315)]))
          refine Go.step (fun _ kt => XS.astore X315.here hx rfl (hb hby at_84) rfl rfl (l' := #[.val (.int p1), .val (.int p2), .val (.int cd), .val (.int (1 : Int32)), .val .null, .val (.ref b285), .val (.ref b290), .val (.ref b315), .unset, .unset]) rfl kt) ?_
          show Go p.tables e below _ (T315.setTop (mkF m 86 #[.val (.int p1), .val (.int p2), .val (.int cd), .val (.int (1 : Int32)), .val .null, .val (.ref b285), .val (.ref b290), .val (.ref b315), .unset, .unset] []))
          obtain ⟨T321, h321, X321, e321, E321, A321, D321, -, st321⟩ := newO X315 hx hZ hown (hw _ (List.mem_of_getElem? (i := 2) rfl)) (hw _ (List.mem_of_getElem? (i := 3) rfl)) (hw _ (List.mem_of_getElem? (i := 4) rfl)) e315 (g := (mkF m 86 #[.val (.int p1), .val (.int p2), .val (.int cd), .val (.int (1 : Int32)), .val .null, .val (.ref b285), .val (.ref b290), .val (.ref b315), .unset, .unset] [])) rfl (hb hby at_86) (by decide) (by decide)
          obtain ⟨b321, g321⟩ : ∃ z, z = h315.size := ⟨_, rfl⟩
          rw [← g321] at A321 D321 st321
          refine Go.step st321 ?_
          have ne_b290_b321 : b290 ≠ b321 := Nat.ne_of_lt (Nat.lt_of_lt_of_le F318.lt (Nat.le_of_eq g321.symm))
          have g_b321 : n0 ≤ b321 := Nat.le_trans Z319 (Nat.le_of_eq g321.symm)
          have F322 : Sta Z h321 "java/lang/Integer$IntegerCache" "high" "I" (.int (127 : Int32)) := (F316.ext E321)
          have F323 : Sta Z h321 "java/lang/Integer$IntegerCache" "cache" "[Ljava/lang/Integer;" (.ref ca) := (F317.ext E321)
          have F324 : Arv Z h321 b290 k290 .byte ln [(.int (0 : Int32)), (.int (0 : Int32)), (.int (0 : Int32))] (.int (0 : Int32)) := (F318.ext E321)
          have Z325 : n0 ≤ h321.size := (Nat.le_trans Z319 E321.1)
          have hk326 : _ ≤ h321.size := (Nat.le_trans hk315 E321.1)
          have F327 : Fld Z h321 b321 "com/example/patient_courier/patientcourier/delivery/AttemptResult" "status" "Ljava/lang/Integer;" .null := D321 (Or.inr (hw _ (List.mem_of_getElem? (i := 17) rfl))) (ty := (.object "java/lang/Integer")) (by decide)
          have F328 : Fld Z h321 b321 "com/example/patient_courier/patientcourier/delivery/AttemptResult" "error" "Ljava/lang/String;" .null := D321 (Or.inr (hw _ (List.mem_of_getElem? (i := 19) rfl))) (ty := (.object "java/lang/String")) (by decide)
          have F329 : Fld Z h321 b321 "com/example/patient_courier/patientcourier/delivery/AttemptResult" "preview" "[B" .null := D321 (Or.inr (hw _ (List.mem_of_getElem? (i := 21) rfl))) (ty := (.array .byte)) (by decide)
          have F330 : Fld Z h321 b321 "com/example/patient_courier/patientcourier/delivery/AttemptResult" "retryAfter" "Ljava/lang/String;" .null := D321 (Or.inr (hw _ (List.mem_of_getElem? (i := 23) rfl))) (ty := (.object "java/lang/String")) (by decide)
          show Go p.tables e below _ (T321.setTop (mkF m 89 #[.val (.int p1), .val (.int p2), .val (.int cd), .val (.int (1 : Int32)), .val .null, .val (.ref b285), .val (.ref b290), .val (.ref b315), .unset, .unset] [(.ref b321)]))
          refine Go.step (fun _ kt => XS.dup X321.here hx rfl (hb hby at_89) rfl rfl kt) ?_
          show Go p.tables e below _ (T321.setTop (mkF m 90 #[.val (.int p1), .val (.int p2), .val (.int cd), .val (.int (1 : Int32)), .val .null, .val (.ref b285), .val (.ref b290), .val (.ref b315), .unset, .unset] [(.ref b321), (.ref b321)]))
          refine Go.step (fun _ kt => XS.aload X321.here hx rfl (hb hby at_90) rfl rfl kt) ?_
          show Go p.tables e below _ (T321.setTop (mkF m 92 #[.val (.int p1), .val (.int p2), .val (.int cd), .val (.int (1 : Int32)), .val .null, .val (.ref b285), .val (.ref b290), .val (.ref b315), .unset, .unset] [.null, (.ref b321), (.ref b321)]))
          refine Go.step (fun _ kt => XS.aload X321.here hx rfl (hb hby at_92) rfl rfl kt) ?_
          show Go p.tables e below _ (T321.setTop (mkF m 94 #[.val (.int p1), .val (.int p2), .val (.int cd), .val (.int (1 : Int32)), .val .null, .val (.ref b285), .val (.ref b290), .val (.ref b315), .unset, .unset] [(.ref b285), .null, (.ref b321), (.ref b321)]))
          refine Go.step (fun _ kt => XS.aload X321.here hx rfl (hb hby at_94) rfl rfl kt) ?_
          show Go p.tables e below _ (T321.setTop (mkF m 96 #[.val (.int p1), .val (.int p2), .val (.int cd), .val (.int (1 : Int32)), .val .null, .val (.ref b285), .val (.ref b290), .val (.ref b315), .unset, .unset] [(.ref b290), (.ref b285), .null, (.ref b321), (.ref b321)]))
          refine Go.step (fun _ kt => XS.aload X321.here hx rfl (hb hby at_96) rfl rfl kt) ?_
          show Go p.tables e below _ (T321.setTop (mkF m 98 #[.val (.int p1), .val (.int p2), .val (.int cd), .val (.int (1 : Int32)), .val .null, .val (.ref b285), .val (.ref b290), .val (.ref b315), .unset, .unset] [(.ref b315), (.ref b290), (.ref b285), .null, (.ref b321), (.ref b321)]))
          obtain ⟨_, _, ⟨T331, L331, k331, n331⟩, -, X331, ⟨Lc331, hQ331, l331, y331, z331⟩, st331⟩ := X321.specialBack hx (y := (⟨"com/example/patient_courier/patientcourier/delivery/AttemptResult", "<init>", "(Ljava/lang/Integer;Ljava/lang/String;[BLjava/lang/String;)V"⟩ : MethodName)) rfl hown (mvT hZ (hw _ (List.mem_of_getElem? (i := 5) rfl))) (mvT hZ (hw _ (List.mem_of_getElem? (i := 6) rfl))) (mvT hZ (hw _ (List.mem_of_getElem? (i := 7) rfl))) (by decide) (backOf (W := 1) (rmi_nrrr l Z a0 hw [] b321 b285 b290 b315 .null .null .null .null h321 n0 Z325 A321 F327 F328 F329 F330 g_b321) hZ (hw _ (List.mem_of_getElem? (i := 7) rfl)) (hw _ (List.mem_of_getElem? (i := 4) rfl)) (by decide) (by decide)) (g := (mkF m 98 #[.val (.int p1), .val (.int p2), .val (.int cd), .val (.int (1 : Int32)), .val .null, .val (.ref b285), .val (.ref b290), .val (.ref b315), .unset, .unset] [(.ref b315), (.ref b290), (.ref b285), .null, (.ref b321), (.ref b321)])) rfl (by rw [hml]; rfl) (Steps.refl _) (a := b321) (argsL := [.null, (.ref b285), (.ref b290), (.ref b315)]) (rest := [(.ref b321)]) (lenOf pd_4 rfl) rfl (by show 2 * 0 + _ ≤ _; exact Nat.le_of_eq rfl) (hb hby at_98) (fun _ _ => ⟨rfl, e321, (by decide : 6 + 0 ≤ _), (by decide : 55 + 0 ≤ _)⟩)
          dsimp only [Pt.U, Pt.locs, Pt.cells, Pt.slots] at X331 l331 y331 z331 st331 hQ331
          subst l331 y331 z331
          obtain ⟨rfl, N331q, Kq331, P332, P333⟩ := hQ331
          have F334 : Arv Z T331.heap b290 k290 .byte ln [(.int (0 : Int32)), (.int (0 : Int32)), (.int (0 : Int32))] (.int (0 : Int32)) := (F324.keep Kq331 (fun q => ne_b290_b321 (List.mem_singleton.mp q)))
          have F335 : Exa Z T331.heap b321 "com/example/patient_courier/patientcourier/delivery/AttemptResult" := (A321.keep Kq331)
          have Z336 : n0 ≤ T331.heap.size := (Nat.le_trans Z325 Kq331.1)
          have hk337 : _ ≤ T331.heap.size := (Nat.le_trans hk326 Kq331.1)
          have N331 := Fr.app N0 N331q
          refine Go.step (fun _ kt => st331.trans kt) ?_
          show Go p.tables e below _ (T331.setTop (mkF m 101 #[.val (.int p1), .val (.int p2), .val (.int cd), .val (.int (1 : Int32)), .val .null, .val (.ref b285), .val (.ref b290), .val (.ref b315), .unset, .unset] [(.ref b321)]))
          refine Go.step (fun _ kt => XS.astore X331.here hx rfl (hb hby at_101) rfl rfl (l' := #[.val (.int p1), .val (.int p2), .val (.int cd), .val (.int (1 : Int32)), .val .null, .val (.ref b285), .val (.ref b290), .val (.ref b315), .val (.ref b321), .unset]) rfl kt) ?_
          show Go p.tables e below _ (T331.setTop (mkF m 103 #[.val (.int p1), .val (.int p2), .val (.int cd), .val (.int (1 : Int32)), .val .null, .val (.ref b285), .val (.ref b290), .val (.ref b315), .val (.ref b321), .unset] []))
          refine Go.step (fun _ kt => XS.iloadN X331.here hx rfl (hb hby at_103) rfl kt) ?_
          show Go p.tables e below _ (T331.setTop (mkF m 104 #[.val (.int p1), .val (.int p2), .val (.int cd), .val (.int (1 : Int32)), .val .null, .val (.ref b285), .val (.ref b290), .val (.ref b315), .val (.ref b321), .unset] [(.int (1 : Int32))]))
          refine Go.step (fun _ kt => XS.ifYes X331.here hx rfl (pc0 := 104) (pc' := 119) rfl (hb hby at_104) rfl ((if0 _ _).trans (feq (by decide : ¬ ((1 : Int32) = (0 : Int32)))).2) (by decide) (by decide) kt) ?_
          show Go p.tables e below _ (T331.setTop (mkF m 119 #[.val (.int p1), .val (.int p2), .val (.int cd), .val (.int (1 : Int32)), .val .null, .val (.ref b285), .val (.ref b290), .val (.ref b315), .val (.ref b321), .unset] []))
          refine Go.step (fun _ kt => XS.iconst X331.here hx rfl (hb hby at_119) kt) ?_
          show Go p.tables e below _ (T331.setTop (mkF m 120 #[.val (.int p1), .val (.int p2), .val (.int cd), .val (.int (1 : Int32)), .val .null, .val (.ref b285), .val (.ref b290), .val (.ref b315), .val (.ref b321), .unset] [(.int (0 : Int32))]))
          refine Go.step (fun _ kt => XS.istore X331.here hx rfl (hb hby at_120) rfl (l' := #[.val (.int p1), .val (.int p2), .val (.int cd), .val (.int (1 : Int32)), .val .null, .val (.ref b285), .val (.ref b290), .val (.ref b315), .val (.ref b321), .val (.int (0 : Int32))]) rfl kt) ?_
          show Go p.tables e below _ (T331.setTop (mkF m 122 #[.val (.int p1), .val (.int p2), .val (.int cd), .val (.int (1 : Int32)), .val .null, .val (.ref b285), .val (.ref b290), .val (.ref b315), .val (.ref b321), .val (.int (0 : Int32))] []))
          refine Go.step (fun _ kt => XS.aload X331.here hx rfl (hb hby at_122) rfl rfl kt) ?_
          show Go p.tables e below _ (T331.setTop (mkF m 124 #[.val (.int p1), .val (.int p2), .val (.int cd), .val (.int (1 : Int32)), .val .null, .val (.ref b285), .val (.ref b290), .val (.ref b315), .val (.ref b321), .val (.int (0 : Int32))] [(.ref b321)]))
          obtain ⟨cq338, kq338, q338a, q338b, q338c⟩ := isOf hZ rfl P332
          obtain ⟨_, _, ⟨T338, L338, k338, n338⟩, -, X338, ⟨Lc338, hQ338, l338, y338, z338⟩, st338⟩ := X331.virtualBack hx (y := (⟨"com/example/patient_courier/patientcourier/delivery/AttemptResult", "delivered", "()Z"⟩ : MethodName)) (z := (⟨"com/example/patient_courier/patientcourier/delivery/AttemptResult", "delivered", "()Z"⟩ : MethodName)) hown (mvT hZ (hw _ (List.mem_of_getElem? (i := 24) rfl))) (mvT hZ (hw _ (List.mem_of_getElem? (i := 25) rfl))) (notFace_of_selects (args := #[]) (mvT hZ (hw _ (List.mem_of_getElem? (i := 27) rfl)))) (mvT hZ (hw _ (List.mem_of_getElem? (i := 27) rfl))) (mvT hZ (hw _ (List.mem_of_getElem? (i := 26) rfl))) (by decide) (backOf (W := 0) (rmdn l Z a0 hw [] b321  T331.heap n0 Z336 P333 ) hZ (hw _ (List.mem_of_getElem? (i := 28) rfl)) (hw _ (List.mem_of_getElem? (i := 4) rfl)) (by decide) (by decide)) q338a q338c (g := (mkF m 124 #[.val (.int p1), .val (.int p2), .val (.int cd), .val (.int (1 : Int32)), .val .null, .val (.ref b285), .val (.ref b290), .val (.ref b315), .val (.ref b321), .val (.int (0 : Int32))] [(.ref b321)])) rfl (by rw [hml]; rfl) (Steps.refl _) (argsL := []) (rest := []) (lenOf pd_5 rfl) rfl (by show 2 * 0 + _ ≤ _; exact Nat.le_of_eq rfl) (hb hby at_124) (fun _ _ => ⟨rfl, rfl, (by decide : 6 + 0 ≤ _), (by decide : 55 + 0 ≤ _)⟩)
          dsimp only [Pt.U, Pt.locs, Pt.cells, Pt.slots] at X338 l338 y338 z338 st338 hQ338
          subst l338 y338 z338
          obtain ⟨rfl, N338q, eh338⟩ := hQ338
          have N338 := Fr.app N331 N338q
          refine Go.step (fun _ kt => st338.trans kt) ?_
          show Go p.tables e below _ (T338.setTop (mkF m 127 #[.val (.int p1), .val (.int p2), .val (.int cd), .val (.int (1 : Int32)), .val .null, .val (.ref b285), .val (.ref b290), .val (.ref b315), .val (.ref b321), .val (.int (0 : Int32))] [(.int (0 : Int32))]))
          refine Go.step (fun _ kt => XS.iload X338.here hx rfl (hb hby at_127) rfl kt) ?_
          show Go p.tables e below _ (T338.setTop (mkF m 129 #[.val (.int p1), .val (.int p2), .val (.int cd), .val (.int (1 : Int32)), .val .null, .val (.ref b285), .val (.ref b290), .val (.ref b315), .val (.ref b321), .val (.int (0 : Int32))] [(.int (0 : Int32)), (.int (0 : Int32))]))
          refine Go.step (fun _ kt => XS.icmpNo X338.here hx rfl (hb hby at_129) rfl (teq (by decide : (0 : Int32) = (0 : Int32))).2 kt) ?_
          show Go p.tables e below _ (T338.setTop (mkF m 132 #[.val (.int p1), .val (.int p2), .val (.int cd), .val (.int (1 : Int32)), .val .null, .val (.ref b285), .val (.ref b290), .val (.ref b315), .val (.ref b321), .val (.int (0 : Int32))] []))
          refine Go.step (fun _ kt => XS.iconst X338.here hx rfl (hb hby at_132) kt) ?_
          show Go p.tables e below _ (T338.setTop (mkF m 133 #[.val (.int p1), .val (.int p2), .val (.int cd), .val (.int (1 : Int32)), .val .null, .val (.ref b285), .val (.ref b290), .val (.ref b315), .val (.ref b321), .val (.int (0 : Int32))] [(.int (1 : Int32))]))
          refine Go.step (fun _ kt => XS.goto X338.here hx rfl (pc0 := 133) (pc' := 137) rfl (hb hby at_133) (by decide) (by decide) kt) ?_
          show Go p.tables e below _ (T338.setTop (mkF m 137 #[.val (.int p1), .val (.int p2), .val (.int cd), .val (.int (1 : Int32)), .val .null, .val (.ref b285), .val (.ref b290), .val (.ref b315), .val (.ref b321), .val (.int (0 : Int32))] [(.int (1 : Int32))]))
          obtain ⟨fs, hr, hrun, hended, hRW⟩ := X338.leaveW hS315 (by rw [eh338]; exact hk337) (v := some (.int (1 : Int32))) (fun h => by rw [Bd.returns] at h; cases h)
          refine ⟨_, _, retN X338 hx (t := .boolean) Bd.returns (by simp) (hb hby at_137) hr, hrun, hended, _, _, rfl, ?_, hRW.1, hRW.2.1, hRW.2.2.1, hRW.2.2.2.mono (by decide) (by decide)⟩
          show Qrm0 Z p1 p2 ca cc h0 n0 _ T338.heap _
          rw [eh338]
          exact ⟨rfl, N338⟩
  refine Go.step (fun _ kt => XS.iloadN X0.here hx rfl (hb hby at_0) rfl kt) ?_
  show Go p.tables e below _ (s₁.setTop (mkF m 1 #[.val (.int p1), .val (.int p2), .unset, .unset, .unset, .unset, .unset, .unset, .unset, .unset] [(.int p2)]))
  refine Go.step (fun _ kt => XS.iconst X0.here hx rfl (hb hby at_1) kt) ?_
  show Go p.tables e below _ (s₁.setTop (mkF m 2 #[.val (.int p1), .val (.int p2), .unset, .unset, .unset, .unset, .unset, .unset, .unset, .unset] [(.int (2 : Int32)), (.int p2)]))
  refine Go.step (fun _ kt => XS.iand X0.here hx rfl (hb hby at_2) rfl kt) ?_
  show Go p.tables e below _ (s₁.setTop (mkF m 3 #[.val (.int p1), .val (.int p2), .unset, .unset, .unset, .unset, .unset, .unset, .unset, .unset] [(.int (p2 &&& (2 : Int32)))]))
  by_cases hc3_339 : (p2 &&& (2 : Int32)) = (0 : Int32)
  · refine Go.step (fun _ kt => XS.ifYes X0.here hx rfl (pc0 := 3) (pc' := 20) rfl (hb hby at_3) rfl ((if0 _ _).trans (teq hc3_339).1) (by decide) (by decide) kt) ?_
    show Go p.tables e below _ (s₁.setTop (mkF m 20 #[.val (.int p1), .val (.int p2), .unset, .unset, .unset, .unset, .unset, .unset, .unset, .unset] []))
    refine Go.step (fun _ kt => XS.iloadN X0.here hx rfl (hb hby at_20) rfl kt) ?_
    show Go p.tables e below _ (s₁.setTop (mkF m 21 #[.val (.int p1), .val (.int p2), .unset, .unset, .unset, .unset, .unset, .unset, .unset, .unset] [(.int p1)]))
    exact J21 _
  · refine Go.step (fun _ kt => XS.ifNo X0.here hx rfl (hb hby at_3) rfl ((if0 _ _).trans (feq hc3_339).1) kt) ?_
    show Go p.tables e below _ (s₁.setTop (mkF m 6 #[.val (.int p1), .val (.int p2), .unset, .unset, .unset, .unset, .unset, .unset, .unset, .unset] []))
    refine Go.step (fun _ kt => XS.sipush X0.here hx rfl (hb hby at_6) kt) ?_
    show Go p.tables e below _ (s₁.setTop (mkF m 9 #[.val (.int p1), .val (.int p2), .unset, .unset, .unset, .unset, .unset, .unset, .unset, .unset] [(.int (190 : Int32))]))
    refine Go.step (fun _ kt => XS.iloadN X0.here hx rfl (hb hby at_9) rfl kt) ?_
    show Go p.tables e below _ (s₁.setTop (mkF m 10 #[.val (.int p1), .val (.int p2), .unset, .unset, .unset, .unset, .unset, .unset, .unset, .unset] [(.int p1), (.int (190 : Int32))]))
    refine Go.step (X0.ldcInt hx hown (mvT hZ (hw _ (List.mem_of_getElem? (i := 0) rfl))) (g := (mkF m 10 #[.val (.int p1), .val (.int p2), .unset, .unset, .unset, .unset, .unset, .unset, .unset, .unset] [(.int p1), (.int (190 : Int32))])) rfl (hb hby at_10)) ?_
    show Go p.tables e below _ (s₁.setTop (mkF m 12 #[.val (.int p1), .val (.int p2), .unset, .unset, .unset, .unset, .unset, .unset, .unset, .unset] [(.int (2147483647 : Int32)), (.int p1), (.int (190 : Int32))]))
    refine Go.step (fun _ kt => XS.iand X0.here hx rfl (hb hby at_12) rfl kt) ?_
    show Go p.tables e below _ (s₁.setTop (mkF m 13 #[.val (.int p1), .val (.int p2), .unset, .unset, .unset, .unset, .unset, .unset, .unset, .unset] [(.int (p1 &&& (2147483647 : Int32))), (.int (190 : Int32))]))
    refine Go.step (fun _ kt => XS.bipush X0.here hx rfl (hb hby at_13) kt) ?_
    show Go p.tables e below _ (s₁.setTop (mkF m 15 #[.val (.int p1), .val (.int p2), .unset, .unset, .unset, .unset, .unset, .unset, .unset, .unset] [(.int (120 : Int32)), (.int (p1 &&& (2147483647 : Int32))), (.int (190 : Int32))]))
    refine Go.step (fun _ kt => iremM (g := (mkF m 15 #[.val (.int p1), .val (.int p2), .unset, .unset, .unset, .unset, .unset, .unset, .unset, .unset] [(.int (120 : Int32)), (.int (p1 &&& (2147483647 : Int32))), (.int (190 : Int32))])) X0 hx rfl (hb hby at_15) rfl (by decide) kt) ?_
    show Go p.tables e below _ (s₁.setTop (mkF m 16 #[.val (.int p1), .val (.int p2), .unset, .unset, .unset, .unset, .unset, .unset, .unset, .unset] [(.int ((p1 &&& (2147483647 : Int32)) % (120 : Int32))), (.int (190 : Int32))]))
    refine Go.step (fun _ kt => XS.iadd X0.here hx rfl (hb hby at_16) rfl kt) ?_
    show Go p.tables e below _ (s₁.setTop (mkF m 17 #[.val (.int p1), .val (.int p2), .unset, .unset, .unset, .unset, .unset, .unset, .unset, .unset] [(.int ((190 : Int32) + ((p1 &&& (2147483647 : Int32)) % (120 : Int32))))]))
    refine Go.step (fun _ kt => XS.goto X0.here hx rfl (pc0 := 17) (pc' := 21) rfl (hb hby at_17) (by decide) (by decide) kt) ?_
    show Go p.tables e below _ (s₁.setTop (mkF m 21 #[.val (.int p1), .val (.int p2), .unset, .unset, .unset, .unset, .unset, .unset, .unset, .unset] [(.int ((190 : Int32) + ((p1 &&& (2147483647 : Int32)) % (120 : Int32))))]))
    exact J21 _
set_option maxRecDepth 65536 in
set_option maxHeartbeats 40000000 in
theorem comes_1 {Post : Tables → Env → Array Value → State → Outcome → State → Prop} (hpost : ∀ tb e args s v u, (limb_1_1.after args s (.returned v) u = true ∧ limb_1_2.after args s (.returned v) u = true ∧ True) → ReturnedEndW s (.returned v) u (Jvm.fieldLocs frame_1_writes args s ++ Jvm.arrayLocs frame_1_arrays args s ++ Jvm.staticLocs frame_1_statics s) 24 2176 → Post tb e args s (.returned v) u) :
    ArmFor flags0 classFile x code maxLocals ret World_1 tables_1 room_1 Calls_1 rest_1 Pre_1 Post := by
  intro l hfl _ _ p e ha hc hk s m args below hf hA hF happ hP
  obtain ⟨hcalls, hrest, hpre⟩ := hP
  obtain ⟨-, -, -, hnamed, -, -, -, hat⟩ := (Spec.applies_iff hf).mp happ
  obtain ⟨hg, hn⟩ := and_e (Cond.before_iff.mp (show (Jvm.Cond.and given_1 narrow_1).before args s = true from hpre))
  obtain ⟨hcount, hg1⟩ := and_e hg
  obtain ⟨ga0, hg2⟩ := and_e hg1
  have ga1 := hg2
  obtain ⟨w0, w1, rfl⟩ : ∃ w0 w1 : Value, args = #[w0, w1] := by
    have hs : args.size = 2 := by simpa [Cond.value, given_1] using hcount
    obtain ⟨L⟩ := args
    match L, hs with
    | [w0, w1], _ => exact ⟨w0, w1, rfl⟩
  have hw := fun d (hd : d ∈ tables_1) => atoms_spec (ws := Jvm.Cond.code x code maxLocals ret :: tables_1) hat d (List.mem_cons_of_mem _ hd)
  have hfit : Fit s := fun {y c} hc i hi => by
    obtain ⟨ha, rfl⟩ := Array.getElem?_eq_some_iff.mp hc
    have q := List.all_eq_true.mp ((Array.all_eq_true_iff_forall_mem.mp hF) _ (Array.getElem_mem ha)) i (List.mem_range.mpr hi)
    simpa [Array.getElem?_eq_getElem hi] using q
  obtain ⟨hsets, hown0⟩ := atoms_of _ (rest_1_c_eq ▸ (show rest_1_c.before _ s = true from hrest))
  have hr0 := Cond.before_iff.mp hown0
  obtain ⟨i0, ei0⟩ := is_v ga0
  obtain rfl : w0 = (.int i0) := Option.some.inj ei0
  obtain ⟨i1, ei1⟩ := is_v ga1
  obtain rfl : w1 = (.int i1) := Option.some.inj ei1
  have evH := own_eqI (Cond.before_iff.mp (hsets _ (List.mem_of_getElem? (i := 3) rfl)))
  have S_high : Sta s s.heap "java/lang/Integer$IntegerCache" "high" "I" (.int (127 : Int32)) := Sta.start evH (Or.inl (hsets _ (List.mem_of_getElem? (i := 1) rfl)))
  obtain ⟨ca, evC⟩ := arr_v (Cond.before_iff.mp (hsets _ (List.mem_of_getElem? (i := 4) rfl)))
  have S_cache : Sta s s.heap "java/lang/Integer$IntegerCache" "cache" "[Ljava/lang/Integer;" (.ref ca) := Sta.start evC (Or.inr ⟨(hw _ (List.mem_of_getElem? (i := 61) rfl)), (hsets _ (List.mem_of_getElem? (i := 2) rfl))⟩)
  obtain ⟨cc, ArC⟩ := Arr.start evC (Cond.before_iff.mp (hsets _ (List.mem_of_getElem? (i := 4) rfl)))
  obtain ⟨lq1, lq2⟩ := own_len (own_eqI (Cond.before_iff.mp (hsets _ (List.mem_of_getElem? (i := 6) rfl)))) evC ArC.1
  have Bx : Bxs s ca cc "java/lang/Integer" "I" (256 : Int32) (fun j => .int (j - 128)) := Bxs.start (fun _ => evC) ArC lq1 lq2 (by decide) (Cond.before_iff.mp (hsets _ (List.mem_of_getElem? (i := 7) rfl))) (fun X j nn h => eqv_i (by simp [Term.eval, (back32 nn).1]) h)
  obtain ⟨n, o, h1, h2, h3, _, L, rfl, ⟨rfl, N⟩, hq⟩ := rm0 l s _ hw tables_1 i0 i1 ca cc s.heap s.heap.size (Nat.le_refl _) S_high S_cache Bx ⟨Nat.le_refl _, fun _ _ h => h⟩ p e ha hc hk s m _ below hf ((Spec.applies_iff_loose hf).mp happ).1 ⟨rfl, State.Warmed39.refl s, rfl⟩ trivial
  refine ⟨n, _, h1, h2, h3, hpost _ _ _ _ _ _ ⟨Cond.after_iff.mpr rfl, Cond.after_iff.mpr (eq_i res_at (Term.int_eval (1)) rfl), trivial⟩ ⟨hq.1, hq.2.1, hq.2.2.1, (hq.2.2.2.sift fun y hy => Or.inr (N y hy)).mono (by decide) (by decide)⟩⟩
theorem main_1_1 : Claimed_1_1 := comes_1 fun _ _ _ _ _ _ h hF => ⟨h.1, hF⟩
theorem main_1_2 : Claimed_1_2 := comes_1 fun _ _ _ _ _ _ h hF => ⟨h.2.1, hF⟩
end Jvm.Pilot.@@N@@
namespace Jvm.Pilot.@@N@@
open Jvm Jvm.ClassFile Sem Op Lib Jvm.Free Jvm.Stand Jvm.Pilot.@@N@@.Jvm.D
/-! MADE BY PROGRAM (witnessworld.py) out of the Statement's table words and the real class files: 19 classes; the members and pool entries that the words name. The judged class is class 1, her method 1. -/
namespace start1
open Jvm.ClassFile
def u (s : String) : CpInfo := .utf8 (stringToUtf16 s)
/-- a pool by its gaps: so many unusable entries, then the entry; so many at the end -/
def gap : Nat → List CpInfo → List CpInfo
  | 0, r => r
  | n + 1, r => .unusable :: gap n r
def poolList (es : List (Nat × CpInfo)) (last : Nat) : List CpInfo := es.foldr (fun e r => gap e.1 (e.2 :: r)) (gap last [])
def pool (es : List (Nat × CpInfo)) (last : Nat) : Array CpInfo := ⟨poolList es last⟩
def fileOf (pool : Array CpInfo) (this : Nat) (attrs : Array Attribute := #[]) (ms : Array MethodInfo := #[]) (fl : Nat := 33) (sup : Nat := 0) (ifs : Array Nat := #[]) (fds : Array FieldInfo := #[]) : ClassFile where
  minorVersion := 0
  majorVersion := 65
  constantPool := pool
  accessFlags := fl
  thisClass := this
  superClass := sup
  interfaces := ifs
  fields := fds
  methods := ms
  attributes := attrs
def plain (name : String) (sup : Option ClassId) : Class where
  name := name
  kind := .ordinary
  loader := none
  accessFlags := 33
  super := sup
  interfaces := #[]
  cf := none
  fields := #[]
  methods := #[]
  instanceTypes := #[]
  staticTypes := #[]
  resolved := #[]
  callSites := []
  init := .initialized
  statics := none
  mirror := none

def pool0 : Array CpInfo := pool [(5, u "<init>"), (0, u "()V"), (1, .class_ 10), (1, u "java/lang/Object")] 113

def k0c0 : Code := { maxStack := 0, maxLocals := 1, code := object_method_1_code, exceptionTable := #[], attributes := #[] }
def k0m0 : Method := { name := "<init>", desc := "()V", sig := { parameters := [], returnType := none }, accessFlags := 1, code := some k0c0 }
/-- java/lang/Object -/
def k0 : Class := { plain "java/lang/Object" none with
  accessFlags := 33
  interfaces := #[]
  cf := some (fileOf pool0 8 #[] #[{ accessFlags := 1, nameIndex := 5, descriptorIndex := 6, attributes := #[] }] 33 0 #[] #[])
  fields := #[]
  methods := #[k0m0]
  instanceTypes := #[]
  staticTypes := #[]
  resolved := Array.replicate 124 none
  statics := none }

def pool1 : Array CpInfo := pool [(2, .class_ 4), (1, u "java/lang/Object"), (0, u "<init>"), (0, u "()V"), (0, .integer 2147483647), (0, .methodref 9 10), (0, .class_ 11), (0, .nameAndType 12 13), (0, u "java/lang/Integer"), (0, u "valueOf"), (0, u "(I)Ljava/lang/Integer;"), (0, .string 15), (0, u "timeout"), (0, .string 17), (0, u "120"), (0, .class_ 19), (0, u "com/example/patient_courier/patientcourier/delivery/AttemptResult"), (0, .methodref 18 21), (0, .nameAndType 5 22), (0, u "(Ljava/lang/Integer;Ljava/lang/String;[BLjava/lang/String;)V"), (0, .methodref 18 24), (0, .nameAndType 25 26), (0, u "delivered"), (0, u "()Z"), (0, .class_ 28), (0, u "com/example/patient_courier/patientcourier/delivery/AttemptResultDeliveredPinLaw"), (2, u "law"), (0, u "(II)Z")] 7

def k1m0 : Method := { name := "<init>", desc := "()V", sig := { parameters := [], returnType := none }, accessFlags := 1, code := none }
def k1c1 : Code := { maxStack := 6, maxLocals := 10, code := code, exceptionTable := #[], attributes := #[] }
def k1m1 : Method := { name := "law", desc := "(II)Z", sig := { parameters := [.int, .int], returnType := some .boolean }, accessFlags := 9, code := some k1c1 }
/-- com/example/patient_courier/patientcourier/delivery/AttemptResultDeliveredPinLaw -/
def k1 : Class := { plain "com/example/patient_courier/patientcourier/delivery/AttemptResultDeliveredPinLaw" (some 0) with
  accessFlags := 49
  interfaces := #[]
  cf := some (fileOf pool1 27 #[] #[{ accessFlags := 1, nameIndex := 5, descriptorIndex := 6, attributes := #[] }, { accessFlags := 9, nameIndex := 31, descriptorIndex := 32, attributes := #[] }] 49 2 #[] #[])
  fields := #[]
  methods := #[k1m0, k1m1]
  instanceTypes := #[]
  staticTypes := #[]
  resolved := Array.replicate 40 none
  statics := none }

def pool2 : Array CpInfo := pool [(1, .methodref 2 3), (0, .class_ 4), (0, .nameAndType 5 6), (0, u "java/lang/Object"), (0, u "<init>"), (0, u "()V"), (0, .class_ 8), (0, u "java/lang/Record")] 13

def k2c0 : Code := { maxStack := 1, maxLocals := 1, code := jdk_30_method_1_code, exceptionTable := #[], attributes := #[] }
def k2m0 : Method := { name := "<init>", desc := "()V", sig := { parameters := [], returnType := none }, accessFlags := 4, code := some k2c0 }
/-- java/lang/Record -/
def k2 : Class := { plain "java/lang/Record" (some 0) with
  accessFlags := 1057
  interfaces := #[]
  cf := some (fileOf pool2 7 #[] #[{ accessFlags := 4, nameIndex := 5, descriptorIndex := 6, attributes := #[] }] 1057 2 #[] #[])
  fields := #[]
  methods := #[k2m0]
  instanceTypes := #[]
  staticTypes := #[]
  resolved := Array.replicate 22 none
  statics := none }

def pool3 : Array CpInfo := pool [(1, .methodref 2 3), (0, .class_ 4), (0, .nameAndType 5 6), (0, u "java/lang/Record"), (0, u "<init>"), (0, u "()V"), (0, .fieldref 8 9), (0, .class_ 10), (0, .nameAndType 11 12), (0, u "com/example/patient_courier/patientcourier/delivery/AttemptResult"), (0, u "status"), (0, u "Ljava/lang/Integer;"), (0, .fieldref 8 14), (0, .nameAndType 15 16), (0, u "error"), (0, u "Ljava/lang/String;"), (0, .fieldref 8 18), (0, .nameAndType 19 20), (0, u "preview"), (0, u "[B"), (0, .fieldref 8 22), (0, .nameAndType 23 16), (0, u "retryAfter"), (1, .class_ 27), (1, u "java/lang/Integer"), (4, u "(Ljava/lang/Integer;Ljava/lang/String;[BLjava/lang/String;)V"), (0, .methodref 25 34), (0, .nameAndType 35 36), (0, u "intValue"), (0, u "()I"), (24, u "TIMEOUT"), (3, u "CONNECTION"), (2, u "FORBIDDEN_TARGET"), (9, u "delivered"), (0, u "()Z")] 33

def k3c0 : Code := { maxStack := 2, maxLocals := 5, code := prog_19_method_1_code, exceptionTable := #[], attributes := #[] }
def k3m0 : Method := { name := "<init>", desc := "(Ljava/lang/Integer;Ljava/lang/String;[BLjava/lang/String;)V", sig := { parameters := [(.object "java/lang/Integer"), (.object "java/lang/String"), (.array .byte), (.object "java/lang/String")], returnType := none }, accessFlags := 0, code := some k3c0 }
def k3c1 : Code := { maxStack := 2, maxLocals := 1, code := prog_19_method_4_code, exceptionTable := #[], attributes := #[] }
def k3m1 : Method := { name := "delivered", desc := "()Z", sig := { parameters := [], returnType := some .boolean }, accessFlags := 0, code := some k3c1 }
/-- com/example/patient_courier/patientcourier/delivery/AttemptResult -/
def k3 : Class := { plain "com/example/patient_courier/patientcourier/delivery/AttemptResult" (some 2) with
  accessFlags := 48
  interfaces := #[]
  cf := some (fileOf pool3 8 #[] #[{ accessFlags := 0, nameIndex := 5, descriptorIndex := 32, attributes := #[] }, { accessFlags := 0, nameIndex := 78, descriptorIndex := 79, attributes := #[] }] 48 2 #[] #[{ accessFlags := 18, nameIndex := 11, descriptorIndex := 12, attributes := #[] }, { accessFlags := 18, nameIndex := 15, descriptorIndex := 16, attributes := #[] }, { accessFlags := 18, nameIndex := 19, descriptorIndex := 20, attributes := #[] }, { accessFlags := 18, nameIndex := 23, descriptorIndex := 16, attributes := #[] }, { accessFlags := 24, nameIndex := 61, descriptorIndex := 16, attributes := #[] }, { accessFlags := 24, nameIndex := 65, descriptorIndex := 16, attributes := #[] }, { accessFlags := 24, nameIndex := 68, descriptorIndex := 16, attributes := #[] }])
  fields := #[{ name := "status", type := (.object "java/lang/Integer"), accessFlags := 18, slot := 0, constantValue := 0 }, { name := "error", type := (.object "java/lang/String"), accessFlags := 18, slot := 1, constantValue := 0 }, { name := "preview", type := (.array .byte), accessFlags := 18, slot := 2, constantValue := 0 }, { name := "retryAfter", type := (.object "java/lang/String"), accessFlags := 18, slot := 3, constantValue := 0 }, { name := "TIMEOUT", type := (.object "java/lang/String"), accessFlags := 24, slot := 0, constantValue := 0 }, { name := "CONNECTION", type := (.object "java/lang/String"), accessFlags := 24, slot := 1, constantValue := 0 }, { name := "FORBIDDEN_TARGET", type := (.object "java/lang/String"), accessFlags := 24, slot := 2, constantValue := 0 }]
  methods := #[k3m0, k3m1]
  instanceTypes := #[(.object "java/lang/Integer"), (.object "java/lang/String"), (.array .byte), (.object "java/lang/String")]
  staticTypes := #[(.object "java/lang/String"), (.object "java/lang/String"), (.object "java/lang/String")]
  resolved := Array.replicate 113 none
  statics := none }

def pool4 : Array CpInfo := pool [(1, .class_ 2), (0, u "java/io/Serializable"), (0, .class_ 4), (0, u "java/lang/Object")] 2

/-- java/io/Serializable -/
def k4 : Class := { plain "java/io/Serializable" (some 0) with
  accessFlags := 1537
  interfaces := #[]
  cf := some (fileOf pool4 1 #[] #[] 1537 3 #[] #[])
  fields := #[]
  methods := #[]
  instanceTypes := #[]
  staticTypes := #[]
  resolved := Array.replicate 7 none
  statics := none }

def pool5 : Array CpInfo := pool [(1, .methodref 2 3), (0, .class_ 4), (0, .nameAndType 5 6), (0, u "java/lang/Object"), (0, u "<init>"), (0, u "()V"), (1, .class_ 10), (1, u "java/lang/Number"), (2, .class_ 14), (0, u "java/io/Serializable"), (0, u "serialVersionUID"), (0, u "J")] 20

def k5c0 : Code := { maxStack := 1, maxLocals := 1, code := jdk_18_method_1_code, exceptionTable := #[], attributes := #[] }
def k5m0 : Method := { name := "<init>", desc := "()V", sig := { parameters := [], returnType := none }, accessFlags := 1, code := some k5c0 }
/-- java/lang/Number -/
def k5 : Class := { plain "java/lang/Number" (some 0) with
  accessFlags := 1057
  interfaces := #[4]
  cf := some (fileOf pool5 8 #[] #[{ accessFlags := 1, nameIndex := 5, descriptorIndex := 6, attributes := #[] }] 1057 2 #[13] #[{ accessFlags := 26, nameIndex := 15, descriptorIndex := 16, attributes := #[] }])
  fields := #[{ name := "serialVersionUID", type := .long, accessFlags := 26, slot := 0, constantValue := 0 }]
  methods := #[k5m0]
  instanceTypes := #[]
  staticTypes := #[.long]
  resolved := Array.replicate 37 none
  statics := none }

def pool6 : Array CpInfo := pool [(1, .class_ 2), (0, u "java/lang/Comparable"), (0, .class_ 4), (0, u "java/lang/Object")] 7

/-- java/lang/Comparable -/
def k6 : Class := { plain "java/lang/Comparable" (some 0) with
  accessFlags := 1537
  interfaces := #[]
  cf := some (fileOf pool6 1 #[] #[] 1537 3 #[] #[])
  fields := #[]
  methods := #[]
  instanceTypes := #[]
  staticTypes := #[]
  resolved := Array.replicate 12 none
  statics := none }

def pool7 : Array CpInfo := pool [(1, .class_ 2), (0, u "java/lang/constant/Constable"), (0, .class_ 4), (0, u "java/lang/Object")] 6

/-- java/lang/constant/Constable -/
def k7 : Class := { plain "java/lang/constant/Constable" (some 0) with
  accessFlags := 1537
  interfaces := #[]
  cf := some (fileOf pool7 1 #[] #[] 1537 3 #[] #[])
  fields := #[]
  methods := #[]
  instanceTypes := #[]
  staticTypes := #[]
  resolved := Array.replicate 11 none
  statics := none }

def pool8 : Array CpInfo := pool [(1, .class_ 2), (0, u "java/lang/constant/ConstantDesc"), (0, .class_ 4), (0, u "java/lang/Object")] 32

/-- java/lang/constant/ConstantDesc -/
def k8 : Class := { plain "java/lang/constant/ConstantDesc" (some 0) with
  accessFlags := 1537
  interfaces := #[]
  cf := some (fileOf pool8 1 #[] #[] 1537 3 #[] #[])
  fields := #[]
  methods := #[]
  instanceTypes := #[]
  staticTypes := #[]
  resolved := Array.replicate 37 none
  statics := none }

def pool9 : Array CpInfo := pool [(1, .class_ 2), (0, u "java/lang/Integer"), (16, u "digits"), (0, u "[C"), (46, u "<init>"), (17, u "DigitOnes"), (0, u "[B"), (2, u "DigitTens"), (10, .nameAndType 67 101), (0, u "()V"), (19, u "()I"), (65, u "valueOf"), (0, u "(I)Ljava/lang/Integer;"), (0, .class_ 190), (0, u "java/lang/Integer$IntegerCache"), (0, .fieldref 189 192), (0, .nameAndType 193 194), (0, u "high"), (0, u "I"), (0, .fieldref 189 196), (0, .nameAndType 197 198), (0, u "cache"), (0, u "[Ljava/lang/Integer;"), (0, .methodref 1 200), (0, .nameAndType 67 201), (0, u "(I)V"), (0, .methodref 203 100), (0, .class_ 204), (0, u "java/lang/Number"), (0, .fieldref 1 206), (0, .nameAndType 207 194), (0, u "value"), (5, u "intValue"), (88, u "TYPE"), (0, u "Ljava/lang/Class;"), (0, .class_ 305), (0, u "java/lang/Comparable"), (0, .class_ 307), (0, u "java/lang/constant/Constable"), (0, .class_ 309), (0, u "java/lang/constant/ConstantDesc"), (0, u "MIN_VALUE"), (1, u "MAX_VALUE"), (3, u "SIZE"), (1, u "BYTES"), (1, u "serialVersionUID"), (0, u "J")] 131

def k9c0 : Code := { maxStack := 3, maxLocals := 1, code := jdk_33_method_22_code, exceptionTable := #[], attributes := #[] }
def k9m0 : Method := { name := "valueOf", desc := "(I)Ljava/lang/Integer;", sig := { parameters := [.int], returnType := some (.object "java/lang/Integer") }, accessFlags := 9, code := some k9c0 }
def k9c1 : Code := { maxStack := 2, maxLocals := 2, code := jdk_33_method_23_code, exceptionTable := #[], attributes := #[] }
def k9m1 : Method := { name := "<init>", desc := "(I)V", sig := { parameters := [.int], returnType := none }, accessFlags := 1, code := some k9c1 }
def k9c2 : Code := { maxStack := 1, maxLocals := 1, code := jdk_33_method_27_code, exceptionTable := #[], attributes := #[] }
def k9m2 : Method := { name := "intValue", desc := "()I", sig := { parameters := [], returnType := some .int }, accessFlags := 1, code := some k9c2 }
/-- java/lang/Integer -/
def k9 : Class := { plain "java/lang/Integer" (some 5) with
  accessFlags := 49
  interfaces := #[6, 7, 8]
  cf := some (fileOf pool9 1 #[.nestMembers #[189]] #[{ accessFlags := 9, nameIndex := 187, descriptorIndex := 188, attributes := #[] }, { accessFlags := 1, nameIndex := 67, descriptorIndex := 201, attributes := #[] }, { accessFlags := 1, nameIndex := 213, descriptorIndex := 121, attributes := #[] }] 49 203 #[304, 306, 308] #[{ accessFlags := 25, nameIndex := 310, descriptorIndex := 194, attributes := #[] }, { accessFlags := 25, nameIndex := 312, descriptorIndex := 194, attributes := #[] }, { accessFlags := 25, nameIndex := 302, descriptorIndex := 303, attributes := #[] }, { accessFlags := 24, nameIndex := 19, descriptorIndex := 20, attributes := #[] }, { accessFlags := 24, nameIndex := 89, descriptorIndex := 86, attributes := #[] }, { accessFlags := 24, nameIndex := 85, descriptorIndex := 86, attributes := #[] }, { accessFlags := 18, nameIndex := 207, descriptorIndex := 194, attributes := #[] }, { accessFlags := 25, nameIndex := 316, descriptorIndex := 194, attributes := #[] }, { accessFlags := 25, nameIndex := 318, descriptorIndex := 194, attributes := #[] }, { accessFlags := 26, nameIndex := 320, descriptorIndex := 321, attributes := #[] }])
  fields := #[{ name := "MIN_VALUE", type := .int, accessFlags := 25, slot := 0, constantValue := 0 }, { name := "MAX_VALUE", type := .int, accessFlags := 25, slot := 1, constantValue := 0 }, { name := "TYPE", type := (.object "java/lang/Class"), accessFlags := 25, slot := 2, constantValue := 0 }, { name := "digits", type := (.array .char), accessFlags := 24, slot := 3, constantValue := 0 }, { name := "DigitTens", type := (.array .byte), accessFlags := 24, slot := 4, constantValue := 0 }, { name := "DigitOnes", type := (.array .byte), accessFlags := 24, slot := 5, constantValue := 0 }, { name := "value", type := .int, accessFlags := 18, slot := 0, constantValue := 0 }, { name := "SIZE", type := .int, accessFlags := 25, slot := 6, constantValue := 0 }, { name := "BYTES", type := .int, accessFlags := 25, slot := 7, constantValue := 0 }, { name := "serialVersionUID", type := .long, accessFlags := 26, slot := 8, constantValue := 0 }]
  methods := #[k9m0, k9m1, k9m2]
  instanceTypes := #[.int]
  staticTypes := #[.int, .int, (.object "java/lang/Class"), (.array .char), (.array .byte), (.array .byte), .int, .int, .long]
  resolved := Array.replicate 453 none
  statics := none }

def pool10 : Array CpInfo := pool [(2, .class_ 4), (1, u "java/lang/CharSequence"), (42, .class_ 48), (0, u "java/lang/CharSequence$1CodePointIterator"), (10, .class_ 60), (0, u "java/lang/CharSequence$1CharIterator"), (5, .class_ 67), (0, u "java/lang/Object")] 63

/-- java/lang/CharSequence -/
def k10 : Class := { plain "java/lang/CharSequence" (some 0) with
  accessFlags := 1537
  interfaces := #[]
  cf := some (fileOf pool10 2 #[.nestMembers #[47, 59]] #[] 1537 66 #[] #[])
  fields := #[]
  methods := #[]
  instanceTypes := #[]
  staticTypes := #[]
  resolved := Array.replicate 131 none
  statics := none }

def pool11 : Array CpInfo := pool [(2, .class_ 4), (1, u "java/lang/Object"), (0, u "<init>"), (0, u "()V"), (3, .class_ 12), (1, u "java/lang/String"), (0, u "value"), (0, u "[B"), (2, u "coder"), (0, u "B"), (2, u "hash"), (0, u "I"), (2, u "hashIsZero"), (0, u "Z"), (13, u "COMPACT_STRINGS"), (534, .class_ 576), (0, u "java/lang/CharSequence"), (22, u "CASE_INSENSITIVE_ORDER"), (0, u "Ljava/util/Comparator;"), (500, u "serialPersistentFields"), (0, u "[Ljava/io/ObjectStreamField;"), (0, .class_ 1104), (0, u "java/lang/String$CaseInsensitiveComparator"), (1, .class_ 1107), (0, u "java/io/Serializable"), (0, .class_ 1109), (0, u "java/lang/Comparable"), (0, .class_ 1111), (0, u "java/lang/constant/Constable"), (0, .class_ 1113), (0, u "java/lang/constant/ConstantDesc"), (2, u "serialVersionUID"), (0, u "J"), (3, u "REPL"), (0, u "C"), (2, u "LATIN1"), (1, u "UTF16")] 323

def k11m0 : Method := { name := "<init>", desc := "()V", sig := { parameters := [], returnType := none }, accessFlags := 1, code := none }
/-- java/lang/String -/
def k11 : Class := { plain "java/lang/String" (some 0) with
  accessFlags := 49
  interfaces := #[4, 6, 10, 7, 8]
  cf := some (fileOf pool11 10 #[.nestMembers #[1103]] #[{ accessFlags := 1, nameIndex := 5, descriptorIndex := 6, attributes := #[] }] 49 2 #[1106, 1108, 575, 1110, 1112] #[{ accessFlags := 18, nameIndex := 13, descriptorIndex := 14, attributes := #[] }, { accessFlags := 18, nameIndex := 17, descriptorIndex := 18, attributes := #[] }, { accessFlags := 2, nameIndex := 21, descriptorIndex := 22, attributes := #[] }, { accessFlags := 2, nameIndex := 25, descriptorIndex := 26, attributes := #[] }, { accessFlags := 26, nameIndex := 1116, descriptorIndex := 1117, attributes := #[] }, { accessFlags := 24, nameIndex := 40, descriptorIndex := 26, attributes := #[] }, { accessFlags := 26, nameIndex := 1101, descriptorIndex := 1102, attributes := #[] }, { accessFlags := 26, nameIndex := 1121, descriptorIndex := 1122, attributes := #[] }, { accessFlags := 25, nameIndex := 599, descriptorIndex := 600, attributes := #[] }, { accessFlags := 24, nameIndex := 1125, descriptorIndex := 18, attributes := #[] }, { accessFlags := 24, nameIndex := 1127, descriptorIndex := 18, attributes := #[] }])
  fields := #[{ name := "value", type := (.array .byte), accessFlags := 18, slot := 0, constantValue := 0 }, { name := "coder", type := .byte, accessFlags := 18, slot := 1, constantValue := 0 }, { name := "hash", type := .int, accessFlags := 2, slot := 2, constantValue := 0 }, { name := "hashIsZero", type := .boolean, accessFlags := 2, slot := 3, constantValue := 0 }, { name := "serialVersionUID", type := .long, accessFlags := 26, slot := 0, constantValue := 0 }, { name := "COMPACT_STRINGS", type := .boolean, accessFlags := 24, slot := 1, constantValue := 0 }, { name := "serialPersistentFields", type := (.array (.object "java/io/ObjectStreamField")), accessFlags := 26, slot := 2, constantValue := 0 }, { name := "REPL", type := .char, accessFlags := 26, slot := 3, constantValue := 0 }, { name := "CASE_INSENSITIVE_ORDER", type := (.object "java/util/Comparator"), accessFlags := 25, slot := 4, constantValue := 0 }, { name := "LATIN1", type := .byte, accessFlags := 24, slot := 5, constantValue := 0 }, { name := "UTF16", type := .byte, accessFlags := 24, slot := 6, constantValue := 0 }]
  methods := #[k11m0]
  instanceTypes := #[(.array .byte), .byte, .int, .boolean]
  staticTypes := #[.long, .boolean, (.array (.object "java/io/ObjectStreamField")), .char, (.object "java/util/Comparator"), .byte, .byte]
  resolved := Array.replicate 1451 none
  statics := none }

def pool12 : Array CpInfo := pool [(2, .class_ 4), (1, u "java/lang/Object"), (0, u "<init>"), (0, u "()V"), (0, .class_ 8), (0, u "java/lang/Integer"), (7, .class_ 18), (1, u "java/lang/Integer$IntegerCache"), (0, u "$assertionsDisabled"), (0, u "Z"), (26, u "high"), (0, u "I"), (8, u "archivedCache"), (0, u "[Ljava/lang/Integer;"), (12, u "cache"), (0, u "low")] 27

def k12m0 : Method := { name := "<init>", desc := "()V", sig := { parameters := [], returnType := none }, accessFlags := 2, code := none }
/-- java/lang/Integer$IntegerCache -/
def k12 : Class := { plain "java/lang/Integer$IntegerCache" (some 0) with
  accessFlags := 48
  interfaces := #[]
  cf := some (fileOf pool12 16 #[.nestHost 7] #[{ accessFlags := 2, nameIndex := 5, descriptorIndex := 6, attributes := #[] }] 48 2 #[] #[{ accessFlags := 24, nameIndex := 72, descriptorIndex := 48, attributes := #[] }, { accessFlags := 24, nameIndex := 47, descriptorIndex := 48, attributes := #[] }, { accessFlags := 24, nameIndex := 71, descriptorIndex := 58, attributes := #[] }, { accessFlags := 8, nameIndex := 57, descriptorIndex := 58, attributes := #[] }, { accessFlags := 4120, nameIndex := 19, descriptorIndex := 20, attributes := #[] }])
  fields := #[{ name := "low", type := .int, accessFlags := 24, slot := 0, constantValue := 0 }, { name := "high", type := .int, accessFlags := 24, slot := 1, constantValue := 0 }, { name := "cache", type := (.array (.object "java/lang/Integer")), accessFlags := 24, slot := 2, constantValue := 0 }, { name := "archivedCache", type := (.array (.object "java/lang/Integer")), accessFlags := 8, slot := 3, constantValue := 0 }, { name := "$assertionsDisabled", type := .boolean, accessFlags := 4120, slot := 4, constantValue := 0 }]
  methods := #[k12m0]
  instanceTypes := #[]
  staticTypes := #[.int, .int, (.array (.object "java/lang/Integer")), (.array (.object "java/lang/Integer")), .boolean]
  resolved := Array.replicate 100 none
  statics := some 0 }

def pool13 : Array CpInfo := pool [(1, u "java/lang/Cloneable"), (0, .class_ 1), (0, u "java/lang/Object"), (0, .class_ 3)] 3

/-- java/lang/Cloneable -/
def k13 : Class := { plain "java/lang/Cloneable" (some 0) with
  accessFlags := 1537
  interfaces := #[]
  cf := some (fileOf pool13 2 #[] #[] 1537 4 #[] #[])
  fields := #[]
  methods := #[]
  instanceTypes := #[]
  staticTypes := #[]
  resolved := Array.replicate 8 none
  statics := none }

/-- the primitive byte -/
def k14 : Class := { plain "byte" none with kind := .primitive 'B', accessFlags := 0x411 }
/-- [B -/
def k15 : Class := { plain "[B" (some 0) with kind := .array 14 .byte, interfaces := #[13, 4], accessFlags := 1041 }

/-- the primitive int -/
def k16 : Class := { plain "int" none with kind := .primitive 'I', accessFlags := 0x411 }
/-- [I -/
def k17 : Class := { plain "[I" (some 0) with kind := .array 16 .int, interfaces := #[13, 4], accessFlags := 1041 }

/-- [Ljava/lang/Integer; -/
def k18 : Class := { plain "[Ljava/lang/Integer;" (some 0) with kind := .array 9 (.object "java/lang/Integer"), interfaces := #[13, 4], accessFlags := 1041 }

def heap : Heap := #[{ cls := 12, slots := #[.int 0, .int 127, .ref 1, .null, .int 0], vm := .statics 12 },
  { cls := 18, slots := #[.ref 2, .ref 3, .ref 4, .ref 5, .ref 6, .ref 7, .ref 8, .ref 9, .ref 10, .ref 11, .ref 12, .ref 13, .ref 14, .ref 15, .ref 16, .ref 17, .ref 18, .ref 19, .ref 20, .ref 21, .ref 22, .ref 23, .ref 24, .ref 25, .ref 26, .ref 27, .ref 28, .ref 29, .ref 30, .ref 31, .ref 32, .ref 33, .ref 34, .ref 35, .ref 36, .ref 37, .ref 38, .ref 39, .ref 40, .ref 41, .ref 42, .ref 43, .ref 44, .ref 45, .ref 46, .ref 47, .ref 48, .ref 49, .ref 50, .ref 51, .ref 52, .ref 53, .ref 54, .ref 55, .ref 56, .ref 57, .ref 58, .ref 59, .ref 60, .ref 61, .ref 62, .ref 63, .ref 64, .ref 65, .ref 66, .ref 67, .ref 68, .ref 69, .ref 70, .ref 71, .ref 72, .ref 73, .ref 74, .ref 75, .ref 76, .ref 77, .ref 78, .ref 79, .ref 80, .ref 81, .ref 82, .ref 83, .ref 84, .ref 85, .ref 86, .ref 87, .ref 88, .ref 89, .ref 90, .ref 91, .ref 92, .ref 93, .ref 94, .ref 95, .ref 96, .ref 97, .ref 98, .ref 99, .ref 100, .ref 101, .ref 102, .ref 103, .ref 104, .ref 105, .ref 106, .ref 107, .ref 108, .ref 109, .ref 110, .ref 111, .ref 112, .ref 113, .ref 114, .ref 115, .ref 116, .ref 117, .ref 118, .ref 119, .ref 120, .ref 121, .ref 122, .ref 123, .ref 124, .ref 125, .ref 126, .ref 127, .ref 128, .ref 129, .ref 130, .ref 131, .ref 132, .ref 133, .ref 134, .ref 135, .ref 136, .ref 137, .ref 138, .ref 139, .ref 140, .ref 141, .ref 142, .ref 143, .ref 144, .ref 145, .ref 146, .ref 147, .ref 148, .ref 149, .ref 150, .ref 151, .ref 152, .ref 153, .ref 154, .ref 155, .ref 156, .ref 157, .ref 158, .ref 159, .ref 160, .ref 161, .ref 162, .ref 163, .ref 164, .ref 165, .ref 166, .ref 167, .ref 168, .ref 169, .ref 170, .ref 171, .ref 172, .ref 173, .ref 174, .ref 175, .ref 176, .ref 177, .ref 178, .ref 179, .ref 180, .ref 181, .ref 182, .ref 183, .ref 184, .ref 185, .ref 186, .ref 187, .ref 188, .ref 189, .ref 190, .ref 191, .ref 192, .ref 193, .ref 194, .ref 195, .ref 196, .ref 197, .ref 198, .ref 199, .ref 200, .ref 201, .ref 202, .ref 203, .ref 204, .ref 205, .ref 206, .ref 207, .ref 208, .ref 209, .ref 210, .ref 211, .ref 212, .ref 213, .ref 214, .ref 215, .ref 216, .ref 217, .ref 218, .ref 219, .ref 220, .ref 221, .ref 222, .ref 223, .ref 224, .ref 225, .ref 226, .ref 227, .ref 228, .ref 229, .ref 230, .ref 231, .ref 232, .ref 233, .ref 234, .ref 235, .ref 236, .ref 237, .ref 238, .ref 239, .ref 240, .ref 241, .ref 242, .ref 243, .ref 244, .ref 245, .ref 246, .ref 247, .ref 248, .ref 249, .ref 250, .ref 251, .ref 252, .ref 253, .ref 254, .ref 255, .ref 256, .ref 257], vm := .none },
  { cls := 9, slots := #[.int (-128)], vm := .none },
  { cls := 9, slots := #[.int (-127)], vm := .none },
  { cls := 9, slots := #[.int (-126)], vm := .none },
  { cls := 9, slots := #[.int (-125)], vm := .none },
  { cls := 9, slots := #[.int (-124)], vm := .none },
  { cls := 9, slots := #[.int (-123)], vm := .none },
  { cls := 9, slots := #[.int (-122)], vm := .none },
  { cls := 9, slots := #[.int (-121)], vm := .none },
  { cls := 9, slots := #[.int (-120)], vm := .none },
  { cls := 9, slots := #[.int (-119)], vm := .none },
  { cls := 9, slots := #[.int (-118)], vm := .none },
  { cls := 9, slots := #[.int (-117)], vm := .none },
  { cls := 9, slots := #[.int (-116)], vm := .none },
  { cls := 9, slots := #[.int (-115)], vm := .none },
  { cls := 9, slots := #[.int (-114)], vm := .none },
  { cls := 9, slots := #[.int (-113)], vm := .none },
  { cls := 9, slots := #[.int (-112)], vm := .none },
  { cls := 9, slots := #[.int (-111)], vm := .none },
  { cls := 9, slots := #[.int (-110)], vm := .none },
  { cls := 9, slots := #[.int (-109)], vm := .none },
  { cls := 9, slots := #[.int (-108)], vm := .none },
  { cls := 9, slots := #[.int (-107)], vm := .none },
  { cls := 9, slots := #[.int (-106)], vm := .none },
  { cls := 9, slots := #[.int (-105)], vm := .none },
  { cls := 9, slots := #[.int (-104)], vm := .none },
  { cls := 9, slots := #[.int (-103)], vm := .none },
  { cls := 9, slots := #[.int (-102)], vm := .none },
  { cls := 9, slots := #[.int (-101)], vm := .none },
  { cls := 9, slots := #[.int (-100)], vm := .none },
  { cls := 9, slots := #[.int (-99)], vm := .none },
  { cls := 9, slots := #[.int (-98)], vm := .none },
  { cls := 9, slots := #[.int (-97)], vm := .none },
  { cls := 9, slots := #[.int (-96)], vm := .none },
  { cls := 9, slots := #[.int (-95)], vm := .none },
  { cls := 9, slots := #[.int (-94)], vm := .none },
  { cls := 9, slots := #[.int (-93)], vm := .none },
  { cls := 9, slots := #[.int (-92)], vm := .none },
  { cls := 9, slots := #[.int (-91)], vm := .none },
  { cls := 9, slots := #[.int (-90)], vm := .none },
  { cls := 9, slots := #[.int (-89)], vm := .none },
  { cls := 9, slots := #[.int (-88)], vm := .none },
  { cls := 9, slots := #[.int (-87)], vm := .none },
  { cls := 9, slots := #[.int (-86)], vm := .none },
  { cls := 9, slots := #[.int (-85)], vm := .none },
  { cls := 9, slots := #[.int (-84)], vm := .none },
  { cls := 9, slots := #[.int (-83)], vm := .none },
  { cls := 9, slots := #[.int (-82)], vm := .none },
  { cls := 9, slots := #[.int (-81)], vm := .none },
  { cls := 9, slots := #[.int (-80)], vm := .none },
  { cls := 9, slots := #[.int (-79)], vm := .none },
  { cls := 9, slots := #[.int (-78)], vm := .none },
  { cls := 9, slots := #[.int (-77)], vm := .none },
  { cls := 9, slots := #[.int (-76)], vm := .none },
  { cls := 9, slots := #[.int (-75)], vm := .none },
  { cls := 9, slots := #[.int (-74)], vm := .none },
  { cls := 9, slots := #[.int (-73)], vm := .none },
  { cls := 9, slots := #[.int (-72)], vm := .none },
  { cls := 9, slots := #[.int (-71)], vm := .none },
  { cls := 9, slots := #[.int (-70)], vm := .none },
  { cls := 9, slots := #[.int (-69)], vm := .none },
  { cls := 9, slots := #[.int (-68)], vm := .none },
  { cls := 9, slots := #[.int (-67)], vm := .none },
  { cls := 9, slots := #[.int (-66)], vm := .none },
  { cls := 9, slots := #[.int (-65)], vm := .none },
  { cls := 9, slots := #[.int (-64)], vm := .none },
  { cls := 9, slots := #[.int (-63)], vm := .none },
  { cls := 9, slots := #[.int (-62)], vm := .none },
  { cls := 9, slots := #[.int (-61)], vm := .none },
  { cls := 9, slots := #[.int (-60)], vm := .none },
  { cls := 9, slots := #[.int (-59)], vm := .none },
  { cls := 9, slots := #[.int (-58)], vm := .none },
  { cls := 9, slots := #[.int (-57)], vm := .none },
  { cls := 9, slots := #[.int (-56)], vm := .none },
  { cls := 9, slots := #[.int (-55)], vm := .none },
  { cls := 9, slots := #[.int (-54)], vm := .none },
  { cls := 9, slots := #[.int (-53)], vm := .none },
  { cls := 9, slots := #[.int (-52)], vm := .none },
  { cls := 9, slots := #[.int (-51)], vm := .none },
  { cls := 9, slots := #[.int (-50)], vm := .none },
  { cls := 9, slots := #[.int (-49)], vm := .none },
  { cls := 9, slots := #[.int (-48)], vm := .none },
  { cls := 9, slots := #[.int (-47)], vm := .none },
  { cls := 9, slots := #[.int (-46)], vm := .none },
  { cls := 9, slots := #[.int (-45)], vm := .none },
  { cls := 9, slots := #[.int (-44)], vm := .none },
  { cls := 9, slots := #[.int (-43)], vm := .none },
  { cls := 9, slots := #[.int (-42)], vm := .none },
  { cls := 9, slots := #[.int (-41)], vm := .none },
  { cls := 9, slots := #[.int (-40)], vm := .none },
  { cls := 9, slots := #[.int (-39)], vm := .none },
  { cls := 9, slots := #[.int (-38)], vm := .none },
  { cls := 9, slots := #[.int (-37)], vm := .none },
  { cls := 9, slots := #[.int (-36)], vm := .none },
  { cls := 9, slots := #[.int (-35)], vm := .none },
  { cls := 9, slots := #[.int (-34)], vm := .none },
  { cls := 9, slots := #[.int (-33)], vm := .none },
  { cls := 9, slots := #[.int (-32)], vm := .none },
  { cls := 9, slots := #[.int (-31)], vm := .none },
  { cls := 9, slots := #[.int (-30)], vm := .none },
  { cls := 9, slots := #[.int (-29)], vm := .none },
  { cls := 9, slots := #[.int (-28)], vm := .none },
  { cls := 9, slots := #[.int (-27)], vm := .none },
  { cls := 9, slots := #[.int (-26)], vm := .none },
  { cls := 9, slots := #[.int (-25)], vm := .none },
  { cls := 9, slots := #[.int (-24)], vm := .none },
  { cls := 9, slots := #[.int (-23)], vm := .none },
  { cls := 9, slots := #[.int (-22)], vm := .none },
  { cls := 9, slots := #[.int (-21)], vm := .none },
  { cls := 9, slots := #[.int (-20)], vm := .none },
  { cls := 9, slots := #[.int (-19)], vm := .none },
  { cls := 9, slots := #[.int (-18)], vm := .none },
  { cls := 9, slots := #[.int (-17)], vm := .none },
  { cls := 9, slots := #[.int (-16)], vm := .none },
  { cls := 9, slots := #[.int (-15)], vm := .none },
  { cls := 9, slots := #[.int (-14)], vm := .none },
  { cls := 9, slots := #[.int (-13)], vm := .none },
  { cls := 9, slots := #[.int (-12)], vm := .none },
  { cls := 9, slots := #[.int (-11)], vm := .none },
  { cls := 9, slots := #[.int (-10)], vm := .none },
  { cls := 9, slots := #[.int (-9)], vm := .none },
  { cls := 9, slots := #[.int (-8)], vm := .none },
  { cls := 9, slots := #[.int (-7)], vm := .none },
  { cls := 9, slots := #[.int (-6)], vm := .none },
  { cls := 9, slots := #[.int (-5)], vm := .none },
  { cls := 9, slots := #[.int (-4)], vm := .none },
  { cls := 9, slots := #[.int (-3)], vm := .none },
  { cls := 9, slots := #[.int (-2)], vm := .none },
  { cls := 9, slots := #[.int (-1)], vm := .none },
  { cls := 9, slots := #[.int 0], vm := .none },
  { cls := 9, slots := #[.int 1], vm := .none },
  { cls := 9, slots := #[.int 2], vm := .none },
  { cls := 9, slots := #[.int 3], vm := .none },
  { cls := 9, slots := #[.int 4], vm := .none },
  { cls := 9, slots := #[.int 5], vm := .none },
  { cls := 9, slots := #[.int 6], vm := .none },
  { cls := 9, slots := #[.int 7], vm := .none },
  { cls := 9, slots := #[.int 8], vm := .none },
  { cls := 9, slots := #[.int 9], vm := .none },
  { cls := 9, slots := #[.int 10], vm := .none },
  { cls := 9, slots := #[.int 11], vm := .none },
  { cls := 9, slots := #[.int 12], vm := .none },
  { cls := 9, slots := #[.int 13], vm := .none },
  { cls := 9, slots := #[.int 14], vm := .none },
  { cls := 9, slots := #[.int 15], vm := .none },
  { cls := 9, slots := #[.int 16], vm := .none },
  { cls := 9, slots := #[.int 17], vm := .none },
  { cls := 9, slots := #[.int 18], vm := .none },
  { cls := 9, slots := #[.int 19], vm := .none },
  { cls := 9, slots := #[.int 20], vm := .none },
  { cls := 9, slots := #[.int 21], vm := .none },
  { cls := 9, slots := #[.int 22], vm := .none },
  { cls := 9, slots := #[.int 23], vm := .none },
  { cls := 9, slots := #[.int 24], vm := .none },
  { cls := 9, slots := #[.int 25], vm := .none },
  { cls := 9, slots := #[.int 26], vm := .none },
  { cls := 9, slots := #[.int 27], vm := .none },
  { cls := 9, slots := #[.int 28], vm := .none },
  { cls := 9, slots := #[.int 29], vm := .none },
  { cls := 9, slots := #[.int 30], vm := .none },
  { cls := 9, slots := #[.int 31], vm := .none },
  { cls := 9, slots := #[.int 32], vm := .none },
  { cls := 9, slots := #[.int 33], vm := .none },
  { cls := 9, slots := #[.int 34], vm := .none },
  { cls := 9, slots := #[.int 35], vm := .none },
  { cls := 9, slots := #[.int 36], vm := .none },
  { cls := 9, slots := #[.int 37], vm := .none },
  { cls := 9, slots := #[.int 38], vm := .none },
  { cls := 9, slots := #[.int 39], vm := .none },
  { cls := 9, slots := #[.int 40], vm := .none },
  { cls := 9, slots := #[.int 41], vm := .none },
  { cls := 9, slots := #[.int 42], vm := .none },
  { cls := 9, slots := #[.int 43], vm := .none },
  { cls := 9, slots := #[.int 44], vm := .none },
  { cls := 9, slots := #[.int 45], vm := .none },
  { cls := 9, slots := #[.int 46], vm := .none },
  { cls := 9, slots := #[.int 47], vm := .none },
  { cls := 9, slots := #[.int 48], vm := .none },
  { cls := 9, slots := #[.int 49], vm := .none },
  { cls := 9, slots := #[.int 50], vm := .none },
  { cls := 9, slots := #[.int 51], vm := .none },
  { cls := 9, slots := #[.int 52], vm := .none },
  { cls := 9, slots := #[.int 53], vm := .none },
  { cls := 9, slots := #[.int 54], vm := .none },
  { cls := 9, slots := #[.int 55], vm := .none },
  { cls := 9, slots := #[.int 56], vm := .none },
  { cls := 9, slots := #[.int 57], vm := .none },
  { cls := 9, slots := #[.int 58], vm := .none },
  { cls := 9, slots := #[.int 59], vm := .none },
  { cls := 9, slots := #[.int 60], vm := .none },
  { cls := 9, slots := #[.int 61], vm := .none },
  { cls := 9, slots := #[.int 62], vm := .none },
  { cls := 9, slots := #[.int 63], vm := .none },
  { cls := 9, slots := #[.int 64], vm := .none },
  { cls := 9, slots := #[.int 65], vm := .none },
  { cls := 9, slots := #[.int 66], vm := .none },
  { cls := 9, slots := #[.int 67], vm := .none },
  { cls := 9, slots := #[.int 68], vm := .none },
  { cls := 9, slots := #[.int 69], vm := .none },
  { cls := 9, slots := #[.int 70], vm := .none },
  { cls := 9, slots := #[.int 71], vm := .none },
  { cls := 9, slots := #[.int 72], vm := .none },
  { cls := 9, slots := #[.int 73], vm := .none },
  { cls := 9, slots := #[.int 74], vm := .none },
  { cls := 9, slots := #[.int 75], vm := .none },
  { cls := 9, slots := #[.int 76], vm := .none },
  { cls := 9, slots := #[.int 77], vm := .none },
  { cls := 9, slots := #[.int 78], vm := .none },
  { cls := 9, slots := #[.int 79], vm := .none },
  { cls := 9, slots := #[.int 80], vm := .none },
  { cls := 9, slots := #[.int 81], vm := .none },
  { cls := 9, slots := #[.int 82], vm := .none },
  { cls := 9, slots := #[.int 83], vm := .none },
  { cls := 9, slots := #[.int 84], vm := .none },
  { cls := 9, slots := #[.int 85], vm := .none },
  { cls := 9, slots := #[.int 86], vm := .none },
  { cls := 9, slots := #[.int 87], vm := .none },
  { cls := 9, slots := #[.int 88], vm := .none },
  { cls := 9, slots := #[.int 89], vm := .none },
  { cls := 9, slots := #[.int 90], vm := .none },
  { cls := 9, slots := #[.int 91], vm := .none },
  { cls := 9, slots := #[.int 92], vm := .none },
  { cls := 9, slots := #[.int 93], vm := .none },
  { cls := 9, slots := #[.int 94], vm := .none },
  { cls := 9, slots := #[.int 95], vm := .none },
  { cls := 9, slots := #[.int 96], vm := .none },
  { cls := 9, slots := #[.int 97], vm := .none },
  { cls := 9, slots := #[.int 98], vm := .none },
  { cls := 9, slots := #[.int 99], vm := .none },
  { cls := 9, slots := #[.int 100], vm := .none },
  { cls := 9, slots := #[.int 101], vm := .none },
  { cls := 9, slots := #[.int 102], vm := .none },
  { cls := 9, slots := #[.int 103], vm := .none },
  { cls := 9, slots := #[.int 104], vm := .none },
  { cls := 9, slots := #[.int 105], vm := .none },
  { cls := 9, slots := #[.int 106], vm := .none },
  { cls := 9, slots := #[.int 107], vm := .none },
  { cls := 9, slots := #[.int 108], vm := .none },
  { cls := 9, slots := #[.int 109], vm := .none },
  { cls := 9, slots := #[.int 110], vm := .none },
  { cls := 9, slots := #[.int 111], vm := .none },
  { cls := 9, slots := #[.int 112], vm := .none },
  { cls := 9, slots := #[.int 113], vm := .none },
  { cls := 9, slots := #[.int 114], vm := .none },
  { cls := 9, slots := #[.int 115], vm := .none },
  { cls := 9, slots := #[.int 116], vm := .none },
  { cls := 9, slots := #[.int 117], vm := .none },
  { cls := 9, slots := #[.int 118], vm := .none },
  { cls := 9, slots := #[.int 119], vm := .none },
  { cls := 9, slots := #[.int 120], vm := .none },
  { cls := 9, slots := #[.int 121], vm := .none },
  { cls := 9, slots := #[.int 122], vm := .none },
  { cls := 9, slots := #[.int 123], vm := .none },
  { cls := 9, slots := #[.int 124], vm := .none },
  { cls := 9, slots := #[.int 125], vm := .none },
  { cls := 9, slots := #[.int 126], vm := .none },
  { cls := 9, slots := #[.int 127], vm := .none }]
def classes : Array Class := #[k0, k1, k2, k3, k4, k5, k6, k7, k8, k9, k10, k11, k12, k13, k14, k15, k16, k17, k18]
def interned : List (Array UInt16 × Addr) := []
def slotsUsed : Nat := 517
def theMethod : MethodId := ⟨1, 1⟩
def args0 : Array Value := #[.int 5, .int 9]
def aboutOver (below : List Frame) : State where
  vm := { classes := classes, interned := interned.toArray }
  heap := heap
  slotsUsed := slotsUsed
  threads := #[{ frames := .invoking theMethod args0 :: below }]
def below0 : List Frame := [.native { method := ⟨0, 0⟩, args := #[] }]
def about1 : State := aboutOver below0
def p0 : Program := .bare "" "" ""
def e0 : Env := launch0.env 0 0 0
theorem w_frames : about1.frames = Frame.invoking theMethod args0 :: below0 := rfl
set_option maxRecDepth 65536 in
theorem w_args : argsFit about1.vm theMethod args0 = true := by decide +kernel
set_option maxRecDepth 65536 in
theorem w_heap : heapFits about1 = true := by decide +kernel
set_option maxRecDepth 65536 in
theorem w_runnable : about1.curStatus? = some .runnable := by decide +kernel
set_option maxRecDepth 65536 in
theorem w_alone : about1.alone = true := by decide +kernel
set_option maxRecDepth 65536 in
theorem w_named : about1.methodNamed? x = some theMethod := by decide +kernel
set_option maxRecDepth 65536 in
theorem w_hears : about1.hears theMethod below0 = true := by decide +kernel
set_option maxRecDepth 65536 in
theorem w_ripe : about1.ripe theMethod args0 below0 = true := by decide +kernel
theorem w_running : about1.status = .running := rfl
set_option maxRecDepth 65536 in
theorem w_room : about1.hasRoom e0.platform room_1 = true :=
  launch0.hasRoom_least _ room_1 (by decide +kernel) (by decide +kernel) (by decide +kernel) (by decide +kernel) (by decide +kernel) (by decide +kernel)
theorem allAtoms_all (ts : List Jvm.Cond) (a : Array Jvm.Value) (st : Jvm.State) : (allAtoms ts).before a st = ts.all (fun c => c.before a st) := by
  induction ts with
  | nil => rfl
  | cons c t ih =>
    show (Jvm.Cond.and c (allAtoms t)).before a st = _
    rw [Jvm.Cond.before_and, ih, List.all_cons]
def words1 : List Jvm.Cond := Jvm.Cond.code x code maxLocals ret :: tables_1
/-- a 'code' word, met by the world's own term for the bytes: nothing is compared byte by byte -/
theorem code_word {y : MethodName} {bytes : ByteArray} {mx : Nat} {rt : Option FieldType} {a : Array Value} {s : State} {m : MethodId} {meth : Method} {c : Code} (h1 : s.methodNamed? y = some m) (h2 : s.vm.method? m = some meth) (h3 : meth.code = some c) (h4 : c.code = bytes)
    (h5 : (c.maxLocals == mx && c.exceptionTable.isEmpty && decide (c.maxStack ≤ mostOperands) && decide (meth.sig.returnType = rt) && !meth.locks && decide (parseMethodDescriptor y.desc = some meth.sig)) = true) : (Jvm.Cond.code y bytes mx rt).before a s = true := by
  simp only [Bool.and_eq_true, beq_iff_eq, Bool.not_eq_true', decide_eq_true_eq] at h5
  obtain ⟨⟨⟨⟨⟨g1, g2⟩, g3⟩, g4⟩, g5⟩, g6⟩ := h5
  simp [Cond.before, Cond.holds, Cond.value, h1, h2, h3, h4, g1, g2, g3, g4, g5, g6]
def isCode : Jvm.Cond → Bool
  | .code _ _ _ _ => true
  | _ => false
theorem all_split {L : List Jvm.Cond} {P : Jvm.Cond → Bool} (h1 : L.all (fun c => isCode c || P c) = true) (h2 : ∀ c ∈ L.filter isCode, P c = true) : L.all P = true := by
  refine List.all_eq_true.mpr fun c hc => ?_
  have h := List.all_eq_true.mp h1 c hc
  rcases Bool.eq_false_or_eq_true (isCode c) with hi | hi
  · exact h2 c (List.mem_filter.mpr ⟨hc, hi⟩)
  · simpa [hi] using h
set_option maxRecDepth 65536 in
theorem w_c0 : (Jvm.Cond.code x code maxLocals ret).before args0 about1 = true := code_word (m := ⟨1, 1⟩) (meth := k1m1) (c := k1c1) (by decide +kernel) rfl rfl rfl (by decide +kernel)
set_option maxRecDepth 65536 in
theorem w_c1 : (Jvm.Cond.code ({ cls := "com/example/patient_courier/patientcourier/delivery/AttemptResult", name := "<init>", desc := "(Ljava/lang/Integer;Ljava/lang/String;[BLjava/lang/String;)V" } : Jvm.MethodName) prog_19_method_1_code (5 : Nat) (Option.none : Option Jvm.ClassFile.FieldType)).before args0 about1 = true := code_word (m := ⟨3, 0⟩) (meth := k3m0) (c := k3c0) (by decide +kernel) rfl rfl rfl (by decide +kernel)
set_option maxRecDepth 65536 in
theorem w_c2 : (Jvm.Cond.code ({ cls := "java/lang/Record", name := "<init>", desc := "()V" } : Jvm.MethodName) jdk_30_method_1_code (1 : Nat) (Option.none : Option Jvm.ClassFile.FieldType)).before args0 about1 = true := code_word (m := ⟨2, 0⟩) (meth := k2m0) (c := k2c0) (by decide +kernel) rfl rfl rfl (by decide +kernel)
set_option maxRecDepth 65536 in
theorem w_c3 : (Jvm.Cond.code ({ cls := "java/lang/Object", name := "<init>", desc := "()V" } : Jvm.MethodName) object_method_1_code (1 : Nat) (Option.none : Option Jvm.ClassFile.FieldType)).before args0 about1 = true := code_word (m := ⟨0, 0⟩) (meth := k0m0) (c := k0c0) (by decide +kernel) rfl rfl rfl (by decide +kernel)
set_option maxRecDepth 65536 in
theorem w_c4 : (Jvm.Cond.code ({ cls := "com/example/patient_courier/patientcourier/delivery/AttemptResult", name := "delivered", desc := "()Z" } : Jvm.MethodName) prog_19_method_4_code (1 : Nat) (Option.some Jvm.ClassFile.FieldType.boolean)).before args0 about1 = true := code_word (m := ⟨3, 1⟩) (meth := k3m1) (c := k3c1) (by decide +kernel) rfl rfl rfl (by decide +kernel)
set_option maxRecDepth 65536 in
theorem w_c5 : (Jvm.Cond.code ({ cls := "java/lang/Integer", name := "valueOf", desc := "(I)Ljava/lang/Integer;" } : Jvm.MethodName) jdk_33_method_22_code (1 : Nat) (Option.some (Jvm.ClassFile.FieldType.object "java/lang/Integer"))).before args0 about1 = true := code_word (m := ⟨9, 0⟩) (meth := k9m0) (c := k9c0) (by decide +kernel) rfl rfl rfl (by decide +kernel)
set_option maxRecDepth 65536 in
theorem w_c6 : (Jvm.Cond.code ({ cls := "java/lang/Integer", name := "<init>", desc := "(I)V" } : Jvm.MethodName) jdk_33_method_23_code (2 : Nat) (Option.none : Option Jvm.ClassFile.FieldType)).before args0 about1 = true := code_word (m := ⟨9, 1⟩) (meth := k9m1) (c := k9c1) (by decide +kernel) rfl rfl rfl (by decide +kernel)
set_option maxRecDepth 65536 in
theorem w_c7 : (Jvm.Cond.code ({ cls := "java/lang/Number", name := "<init>", desc := "()V" } : Jvm.MethodName) jdk_18_method_1_code (1 : Nat) (Option.none : Option Jvm.ClassFile.FieldType)).before args0 about1 = true := code_word (m := ⟨5, 0⟩) (meth := k5m0) (c := k5c0) (by decide +kernel) rfl rfl rfl (by decide +kernel)
set_option maxRecDepth 65536 in
theorem w_c8 : (Jvm.Cond.code ({ cls := "java/lang/Integer", name := "intValue", desc := "()I" } : Jvm.MethodName) jdk_33_method_27_code (1 : Nat) (Option.some Jvm.ClassFile.FieldType.int)).before args0 about1 = true := code_word (m := ⟨9, 2⟩) (meth := k9m2) (c := k9c2) (by decide +kernel) rfl rfl rfl (by decide +kernel)
def codes1 : List Jvm.Cond := [Jvm.Cond.code x code maxLocals ret, Jvm.Cond.code ({ cls := "com/example/patient_courier/patientcourier/delivery/AttemptResult", name := "<init>", desc := "(Ljava/lang/Integer;Ljava/lang/String;[BLjava/lang/String;)V" } : Jvm.MethodName) prog_19_method_1_code (5 : Nat) (Option.none : Option Jvm.ClassFile.FieldType), Jvm.Cond.code ({ cls := "java/lang/Record", name := "<init>", desc := "()V" } : Jvm.MethodName) jdk_30_method_1_code (1 : Nat) (Option.none : Option Jvm.ClassFile.FieldType), Jvm.Cond.code ({ cls := "java/lang/Object", name := "<init>", desc := "()V" } : Jvm.MethodName) object_method_1_code (1 : Nat) (Option.none : Option Jvm.ClassFile.FieldType), Jvm.Cond.code ({ cls := "com/example/patient_courier/patientcourier/delivery/AttemptResult", name := "delivered", desc := "()Z" } : Jvm.MethodName) prog_19_method_4_code (1 : Nat) (Option.some Jvm.ClassFile.FieldType.boolean), Jvm.Cond.code ({ cls := "java/lang/Integer", name := "valueOf", desc := "(I)Ljava/lang/Integer;" } : Jvm.MethodName) jdk_33_method_22_code (1 : Nat) (Option.some (Jvm.ClassFile.FieldType.object "java/lang/Integer")), Jvm.Cond.code ({ cls := "java/lang/Integer", name := "<init>", desc := "(I)V" } : Jvm.MethodName) jdk_33_method_23_code (2 : Nat) (Option.none : Option Jvm.ClassFile.FieldType), Jvm.Cond.code ({ cls := "java/lang/Number", name := "<init>", desc := "()V" } : Jvm.MethodName) jdk_18_method_1_code (1 : Nat) (Option.none : Option Jvm.ClassFile.FieldType), Jvm.Cond.code ({ cls := "java/lang/Integer", name := "intValue", desc := "()I" } : Jvm.MethodName) jdk_33_method_27_code (1 : Nat) (Option.some Jvm.ClassFile.FieldType.int)]
set_option maxRecDepth 65536 in
theorem codes_eq : words1.filter isCode = codes1 := rfl
theorem w_codes : ∀ c ∈ words1.filter isCode, c.before args0 about1 = true := by
  rw [codes_eq]
  intro c hc
  simp only [codes1, List.mem_cons, List.not_mem_nil, or_false] at hc
  rcases hc with rfl | rfl | rfl | rfl | rfl | rfl | rfl | rfl | rfl
  · exact w_c0
  · exact w_c1
  · exact w_c2
  · exact w_c3
  · exact w_c4
  · exact w_c5
  · exact w_c6
  · exact w_c7
  · exact w_c8
set_option maxRecDepth 65536 in
theorem w_t1 : (words1.take 24).all (fun c => isCode c || c.before args0 about1) = true := by decide +kernel
set_option maxRecDepth 65536 in
theorem w_t2 : ((words1.drop 24).take 24).all (fun c => isCode c || c.before args0 about1) = true := by decide +kernel
set_option maxRecDepth 65536 in
theorem w_t3 : ((words1.drop 24).drop 24).all (fun c => isCode c || c.before args0 about1) = true := by decide +kernel
theorem w_tables : (allAtoms (Jvm.Cond.code x code maxLocals ret :: tables_1)).before args0 about1 = true := by
  rw [allAtoms_all]
  show words1.all (fun c => c.before args0 about1) = true
  refine all_split ?_ w_codes
  rw [← List.take_append_drop 24 words1, List.all_append, w_t1, ← List.take_append_drop 24 (words1.drop 24), List.all_append, w_t2, w_t3]
  rfl
set_option maxRecDepth 65536 in
theorem w_rest : rest_1_c.before args0 about1 = true := by decide +kernel
set_option maxRecDepth 65536 in
theorem w_case : (Jvm.Cond.and given_1 narrow_1).before args0 about1 = true := by decide +kernel
theorem w_applies : (headSpec (Jvm.Cond.code x code maxLocals ret :: tables_1) room_1).applies x e0.platform about1 = true :=
  (Spec.applies_iff w_frames).mpr ⟨w_running, w_runnable, w_alone, w_named, w_hears, w_ripe, w_room, w_tables⟩
theorem atStart : AtStart classFile x code maxLocals ret World_1 tables_1 room_1 Calls_1 rest_1 Pre_1 launch0 p0 e0 about1 theMethod args0 below0 :=
  ⟨lists_1, trivial, launch0.admits_env _ _ _, launch0.least_env, fairChoices_fair.cas, fairChoices_fair.clock, w_frames, w_args, w_heap, w_applies, trivial, w_rest, w_case⟩
end start1
theorem witness_1 : WitnessClaimed_1 := ⟨start1.p0, start1.e0, start1.about1, start1.theMethod, start1.args0, start1.below0, start1.atStart⟩
end Jvm.Pilot.@@N@@
