import JvmDerived
import JvmDerived.Pilot.@@N@@Statement
import JvmDerived.Pilot.@@N@@Code
set_option linter.unusedVariables false
set_option linter.unusedSimpArgs false
namespace Jvm.RoadKit
open Sem ClassFile Op Lib Jvm.Stand Jvm.Free Jvm.LawKit
section New
variable {p : Program} {l : Launch} {e : Env} {R : Room} {s : State} {m : MethodId} {args : Array Value} {below : List Frame} {meth : Method} {c : Code} {T : State} {locs : List Loc} {cells slots : Nat}
theorem retI (X : Stand p l e R s m args below meth c T locs cells slots) (hx : p.tables.exec = Jvm.exec) {pc : Nat} {Ls : Array Slot} {z : Int32} {rest : List Value} (hret : meth.sig.returnType = some .int) (hd : decode c.code pc = .ok (.ireturn, 1)) {fs : List Frame}
    (hl : ∀ (f : JFrame) (acts : List Action), f.method = m → f.locked = none → f.entered = [] → (doReturn e (T.setTop f) acts (some (.int z))).1 = T.setFrames fs) : Steps p.tables e below (T.setTop (mkF m pc Ls (.int z :: rest))) (T.setFrames fs) := by
  have hm' : T.vm.method? m = some meth := X.method'
  have hn : narrow .int (.int z) = .int z := rfl
  show Steps p.tables e below (T.setTop { method := m, pc := pc, locals := Ls, stack := _ :: rest, locked := none }) _
  jvm_step X.here [X.here.top, hx, hd, hm', hret, hn]
  first | (intro acts; rw [hl _ acts rfl rfl rfl]) | rw [hl _ _ rfl rfl rfl]
  exact Steps.refl _
end New
/-- the run from S ends, with Post of its end -/
def Go (tb : Tables) (e : Env) (below : List Frame) (Post : Outcome → State → Prop) (S : State) : Prop := ∃ s₂ o, Steps tb e below S s₂ ∧ s₂.status = .running ∧ Ended s₂ below o ∧ Post o s₂
theorem Go.step {tb : Tables} {e : Env} {below : List Frame} {Post : Outcome → State → Prop} {S S' : State} (h : ∀ t, Steps tb e below S' t → Steps tb e below S t) (g : Go tb e below Post S') : Go tb e below Post S := by
  obtain ⟨s₂, o, a, b⟩ := g
  exact ⟨s₂, o, h _ a, b⟩
theorem at_of {c : Cell} {vs : List Value} {d v : Value} {j : Int32} (H : Has c vs d) (hin : ¬ (j < 0 ∨ c.slots.size ≤ j.toNatClampNeg)) (e : vs.getD j.toNatClampNeg d = v) : c.slots[j.toNatClampNeg]? = some v := by
  have q : j.toNatClampNeg < c.slots.size := Nat.lt_of_not_le (fun h => hin (Or.inr h))
  rw [H _ q, e]
end Jvm.RoadKit
namespace Jvm.Pilot.@@N@@
open Jvm Jvm.ClassFile Sem Op Lib Jvm.Free Jvm.Stand Jvm.LawKit Jvm.RoadKit Bundle Jvm.Pilot.@@N@@.Jvm.D
theorem own_eqI {args : Array Value} {s : State} {t : Term} {n : Int32} (h : (Jvm.Cond.eq t (.int n)).value args s none s [] = some true) : t.eval args s none [] s = some (.int n) := by
  simp only [Cond.value, Term.eval] at h
  cases ht : t.eval args s none [] s with
  | none => simp [ht] at h
  | some x => cases x <;> simp [ht] at h ⊢; exact h
theorem own_len {args : Array Value} {s : State} {t : Term} {a : Addr} {cl : Cell} {n : Int32} (h : (Term.length t).eval args s none [] s = some (.int n)) (ev : t.eval args s none [] s = some (.ref a)) (hc : s.heap[a]? = some cl) : cl.slots.size < 2 ^ 31 ∧ cl.slots.size.toInt32 = n := by
  obtain ⟨a', cell, e1, e2, e3⟩ := Term.length_spec h
  cases ev.symm.trans e1
  have e4 := (State.arrayAt?_spec e2).1
  cases hc.symm.trans e4
  exact ⟨Jvm.Free.SBG.length_lt ev e2 h, (Value.int.inj e3).symm⟩
theorem own_and7 (x : Int32) : let k := (x &&& (7 : Int32)); k = 0 ∨ k = 1 ∨ k = 2 ∨ k = 3 ∨ k = 4 ∨ k = 5 ∨ k = 6 ∨ k = 7 := by
  intro k
  have h := c_mask x 7 3 (by decide) (by decide)
  have e0 : (0 : Int32).toInt = 0 := by decide
  have e1 : (1 : Int32).toInt = 1 := by decide
  have e2 : (2 : Int32).toInt = 2 := by decide
  have e3 : (3 : Int32).toInt = 3 := by decide
  have e4 : (4 : Int32).toInt = 4 := by decide
  have e5 : (5 : Int32).toInt = 5 := by decide
  have e6 : (6 : Int32).toInt = 6 := by decide
  have e7 : (7 : Int32).toInt = 7 := by decide
  have h3 : k.toInt = x.toInt % 8 := h
  simp only [← Int32.toInt_inj]
  omega
def own_bit (v : Int64) (s : Int32) : Int32 := (((v.toInt32 * s).toUInt32 >>> ((27 : Int32) &&& 31).toUInt32).toInt32)
def own_exp (v : Int64) (s : Int64) : Int32 := (((((v &&& (4294967295 : Int64)) * s) &&& (4294967295 : Int64)).toUInt64 >>> ((27 : Int32) &&& 0x3f).toInt64.toUInt64).toInt64).toInt32
theorem own_eq (v : Int64) (s : Int32) (S : Int64) (hs : (S.toInt - s.toInt) % 4294967296 = 0) : own_bit v s = own_exp v S ∧ ¬ own_bit v s < 0 ∧ ¬ (31 : Int32) < own_bit v s := by
  have a1 := c_iushr (v.toInt32 * s) 27 27 (by decide) (by decide)
  have a2 := c_imul v.toInt32 s
  have a3 := c_l2i v
  have b1 := c_maskL v 4294967295 32 (by decide) (by decide)
  have b2 := c_lmul (v &&& (4294967295 : Int64)) S
  have b3 := c_maskL ((v &&& (4294967295 : Int64)) * S) 4294967295 32 (by decide) (by decide)
  have b4 := c_lushr (((v &&& (4294967295 : Int64)) * S) &&& (4294967295 : Int64)) 27 27 (by decide) (by decide)
  have b5 := c_l2i ((((((v &&& (4294967295 : Int64)) * S) &&& (4294967295 : Int64)).toUInt64 >>> ((27 : Int32) &&& 0x3f).toInt64.toUInt64).toInt64))
  have c1 : (own_bit v s).toInt = ((v.toInt32 * s).toInt % 4294967296) / (2 ^ 27 : Nat) := a1
  have c2 : (own_exp v S).toInt = _ := rfl
  have b5' : ((own_exp v S).toInt - _) % 4294967296 = 0 := b5
  rw [b4, b3] at b5'
  have key : (v.toInt32.toInt * s.toInt) % 4294967296 = ((v &&& (4294967295 : Int64)).toInt * S.toInt) % 4294967296 := by
    have k1 : v.toInt32.toInt % 4294967296 = (v &&& (4294967295 : Int64)).toInt % 4294967296 := by omega
    have k2 : s.toInt % 4294967296 = S.toInt % 4294967296 := by omega
    rw [Int.mul_emod, k1, k2, ← Int.mul_emod]
  have r1 := rng32 (own_bit v s)
  have r2 := rng32 (own_exp v S)
  generalize v.toInt32.toInt * s.toInt = t1 at *
  generalize (v &&& (4294967295 : Int64)).toInt * S.toInt = t2 at *
  have e31 : (31 : Int32).toInt = 31 := by decide
  have e0 : (0 : Int32).toInt = 0 := by decide
  rw [← Int32.toInt_inj, Int32.lt_iff_toInt_lt, Int32.lt_iff_toInt_lt]
  omega
def own_salt (p : Int32) : Int64 := if p = 0 then 1203114875 else if p = 1 then 1150766481 else if p = 2 then 2284105051 else if p = 3 then 2729912477 else if p = 4 then 1884591559 else if p = 5 then 770785867 else if p = 6 then 2667333959 else 1550580529
theorem pn_0 : plainName "java/lang/Record" = true := by first | (simp [plainName, overriddenIn]; done) | decide +kernel
theorem d2_0 : decode jdk_30_method_1_code 0 = .ok (.aload_n 0, 1) := by decide +kernel
theorem d2_1 : decode jdk_30_method_1_code 1 = .ok (.invokespecial 1, 3) := by decide +kernel
theorem d2_4 : decode jdk_30_method_1_code 4 = .ok (.return_, 1) := by decide +kernel
theorem ef_rm2 (m : MethodId) (a1 : Addr) : entryFrame m #[(.ref a1)] 1 = mkF m 0 #[.val (.ref a1)] [] := by first | (simp [entryFrame, mkF, argsToLocals, Value.category]; done) | rfl
def Qrm2 (Z : State) (a1 : Addr) (h0 : Heap) (n0 : Nat) (v : Option Value) (h : Heap) (L : List Loc) : Prop := v = none ∧ Fr n0 L ∧ h = h0
set_option maxRecDepth 65536 in
set_option maxHeartbeats 40000000 in
theorem rm2 (l : Launch) (Z : State) (a0 : Array Value) (hw : ∀ d ∈ tables_1, d.before a0 Z = true) (ws : List Jvm.Cond) (a1 : Addr) (h0 : Heap) (n0 : Nat) (Z0 : n0 ≤ h0.size) :
    MetFree l (⟨"java/lang/Record", "<init>", "()V"⟩ : MethodName) (head1 (Jvm.Cond.code (⟨"java/lang/Record", "<init>", "()V"⟩ : MethodName) jdk_30_method_1_code 1 none :: ws) ({ frames := 1, cells := 0, slots := 0, locals := 12 } : Room)) (fun a U => a = #[(.ref a1)] ∧ Z.Warmed39 U.vm ∧ U.heap = h0) (fun _ _ _ _ _ => True) (fun _ U o U' => ∃ v L, o = .returned v ∧ Qrm2 Z a1 h0 n0 v U'.heap L ∧ FrameEnd U o U' L ({ frames := 1, cells := 0, slots := 0, locals := 12 } : Room).cells ({ frames := 1, cells := 0, slots := 0, locals := 12 } : Room).slots) := by
  refine MetFree.of_bodySF (plainFor_of_name pn_0) hisR ?_
  intro p e s m args below meth c s₁ Bd hml0 hP hK
  obtain ⟨rfl, hZ, hh⟩ := hP
  have hx := Bd.exec
  have hby := Bd.bytes
  have hml : c.maxLocals = 1 := hml0
  have hown : s.vm.findClass "java/lang/Record" = some m.cls := findClass_of_methodNamed Bd.named
  have hnm := (name_of_methodNamed Bd.named Bd.method).1
  have X0 : Stand p l e ({ frames := 1, cells := 0, slots := 0, locals := 12 } : Room) s m #[(.ref a1)] below meth c s₁ [] 0 0 := Stand.of_body Bd
  have e0 : s₁.heap = h0 := by rw [← hh, Bd.state]; rfl
  have N0 := Fr.nil n0
  show Go p.tables e below (fun o U' => ∃ v L, o = .returned v ∧ Qrm2 Z a1 h0 n0 v U'.heap L ∧ FrameEnd s o U' L ({ frames := 1, cells := 0, slots := 0, locals := 12 } : Room).cells ({ frames := 1, cells := 0, slots := 0, locals := 12 } : Room).slots) _
  refine Go.step (fun t kt => castTop (ef_rm2 m a1) kt) ?_
  show Go p.tables e below _ (s₁.setTop (mkF m 0 #[.val (.ref a1)] []))
  refine Go.step (fun _ kt => XS.aloadN X0.here hx rfl (hb hby d2_0) rfl rfl kt) ?_
  show Go p.tables e below _ (s₁.setTop (mkF m 1 #[.val (.ref a1)] [(.ref a1)]))
  obtain ⟨T101, X101, e101, st101⟩ := initO X0 hx hZ hown (hw _ (List.mem_of_getElem? (i := 11) rfl)) (hw _ (List.mem_of_getElem? (i := 12) rfl)) (hw _ (List.mem_of_getElem? (i := 13) rfl)) e0 (g := (mkF m 1 #[.val (.ref a1)] [(.ref a1)])) rfl (by rw [hml]; rfl) rfl (hb hby d2_1) (by decide) (W := 0) (by show 2 * 0 + _ ≤ _; exact Nat.le_of_eq rfl) (by decide)
  refine Go.step st101 ?_
  show Go p.tables e below _ (T101.setTop (mkF m 4 #[.val (.ref a1)] []))
  obtain ⟨fs, hr, hrun, hended, hW, hsame⟩ := X101.leave (v := none) (fun _ => rfl)
  refine ⟨_, _, X101.returnOut hx Bd.returns (hb hby d2_4) hr, hrun, hended, _, _, rfl, ?_, ⟨_, rfl⟩, hW, hsame.mono (by decide) (by decide)⟩
  show Qrm2 Z a1 h0 n0 _ T101.heap _
  rw [e101]
  refine ⟨?_, N0, rfl⟩
  rfl
theorem pd_0 : parseMethodDescriptor "()V" = some ⟨[], none⟩ := by decide +kernel
theorem pn_1 : plainName "com/example/sibyl/sibyl/core/BlockHash" = true := by first | (simp [plainName, overriddenIn]; done) | decide +kernel
theorem d1_0 : decode prog_3_method_1_code 0 = .ok (.aload_n 0, 1) := by decide +kernel
theorem d1_1 : decode prog_3_method_1_code 1 = .ok (.invokespecial 1, 3) := by decide +kernel
theorem d1_4 : decode prog_3_method_1_code 4 = .ok (.aload_n 0, 1) := by decide +kernel
theorem d1_5 : decode prog_3_method_1_code 5 = .ok (.lload_n 1, 1) := by decide +kernel
theorem d1_6 : decode prog_3_method_1_code 6 = .ok (.putfield 7, 3) := by decide +kernel
theorem d1_9 : decode prog_3_method_1_code 9 = .ok (.return_, 1) := by decide +kernel
theorem ef_rm1 (m : MethodId) (a1 : Addr) (q1 : Int64) (u1 : Value) : entryFrame m #[(.ref a1), (.long q1)] 3 = mkF m 0 #[.val (.ref a1), .val (.long q1), .second] [] := by first | (simp [entryFrame, mkF, argsToLocals, Value.category]; done) | rfl
def Qrm1 (Z : State) (a1 : Addr) (q1 : Int64) (u1 : Value) (h0 : Heap) (n0 : Nat) (v : Option Value) (h : Heap) (L : List Loc) : Prop := v = none ∧ Fr n0 L ∧ Keep h0 h [a1] ∧ Exa Z h a1 "com/example/sibyl/sibyl/core/BlockHash" ∧ Fld Z h a1 "com/example/sibyl/sibyl/core/BlockHash" "value" "J" (.long q1)
set_option maxRecDepth 65536 in
set_option maxHeartbeats 40000000 in
theorem rm1 (l : Launch) (Z : State) (a0 : Array Value) (hw : ∀ d ∈ tables_1, d.before a0 Z = true) (ws : List Jvm.Cond) (a1 : Addr) (q1 : Int64) (u1 : Value) (h0 : Heap) (n0 : Nat) (Z0 : n0 ≤ h0.size) (E1 : Exa Z h0 a1 "com/example/sibyl/sibyl/core/BlockHash") (F1 : Fld Z h0 a1 "com/example/sibyl/sibyl/core/BlockHash" "value" "J" u1) (g_a1 : n0 ≤ a1) :
    MetFree l (⟨"com/example/sibyl/sibyl/core/BlockHash", "<init>", "(J)V"⟩ : MethodName) (head1 (Jvm.Cond.code (⟨"com/example/sibyl/sibyl/core/BlockHash", "<init>", "(J)V"⟩ : MethodName) prog_3_method_1_code 3 none :: ws) ({ frames := 2, cells := 0, slots := 0, locals := 24 } : Room)) (fun a U => a = #[(.ref a1), (.long q1)] ∧ Z.Warmed39 U.vm ∧ U.heap = h0) (fun _ _ _ _ _ => True) (fun _ U o U' => ∃ v L, o = .returned v ∧ Qrm1 Z a1 q1 u1 h0 n0 v U'.heap L ∧ FrameEnd U o U' L ({ frames := 2, cells := 0, slots := 0, locals := 24 } : Room).cells ({ frames := 2, cells := 0, slots := 0, locals := 24 } : Room).slots) := by
  refine MetFree.of_bodySF (plainFor_of_name pn_1) hisR ?_
  intro p e s m args below meth c s₁ Bd hml0 hP hK
  obtain ⟨rfl, hZ, hh⟩ := hP
  have hx := Bd.exec
  have hby := Bd.bytes
  have hml : c.maxLocals = 3 := hml0
  have hown : s.vm.findClass "com/example/sibyl/sibyl/core/BlockHash" = some m.cls := findClass_of_methodNamed Bd.named
  have hnm := (name_of_methodNamed Bd.named Bd.method).1
  have X0 : Stand p l e ({ frames := 2, cells := 0, slots := 0, locals := 24 } : Room) s m #[(.ref a1), (.long q1)] below meth c s₁ [] 0 0 := Stand.of_body Bd
  have e0 : s₁.heap = h0 := by rw [← hh, Bd.state]; rfl
  have N0 := Fr.nil n0
  show Go p.tables e below (fun o U' => ∃ v L, o = .returned v ∧ Qrm1 Z a1 q1 u1 h0 n0 v U'.heap L ∧ FrameEnd s o U' L ({ frames := 2, cells := 0, slots := 0, locals := 24 } : Room).cells ({ frames := 2, cells := 0, slots := 0, locals := 24 } : Room).slots) _
  refine Go.step (fun t kt => castTop (ef_rm1 m a1 q1 u1) kt) ?_
  show Go p.tables e below _ (s₁.setTop (mkF m 0 #[.val (.ref a1), .val (.long q1), .second] []))
  have K101 : Keep h0 h0 [a1] := (Keep.refl h0 [a1])
  refine Go.step (fun _ kt => XS.aloadN X0.here hx rfl (hb hby d1_0) rfl rfl kt) ?_
  show Go p.tables e below _ (s₁.setTop (mkF m 1 #[.val (.ref a1), .val (.long q1), .second] [(.ref a1)]))
  obtain ⟨_, _, ⟨T102, L102, k102, n102⟩, -, X102, ⟨Lc102, hQ102, l102, y102, z102⟩, st102⟩ := X0.specialBack hx (y := (⟨"java/lang/Record", "<init>", "()V"⟩ : MethodName)) rfl hown (mvT hZ (hw _ (List.mem_of_getElem? (i := 6) rfl))) (mvT hZ (hw _ (List.mem_of_getElem? (i := 7) rfl))) (mvT hZ (hw _ (List.mem_of_getElem? (i := 10) rfl))) (by decide) (backOf (W := 0) (rm2 l Z a0 hw [] a1  h0 n0 Z0  ) hZ (hw _ (List.mem_of_getElem? (i := 10) rfl)) (hw _ (List.mem_of_getElem? (i := 9) rfl)) (by decide) (by decide)) (g := (mkF m 1 #[.val (.ref a1), .val (.long q1), .second] [(.ref a1)])) rfl (by rw [hml]; rfl) (Steps.refl _) (a := a1) (argsL := []) (rest := []) (lenOf pd_0 rfl) rfl (by show 2 * 0 + _ ≤ _; exact Nat.le_of_eq rfl) (hb hby d1_1) (fun _ _ => ⟨rfl, e0, (by decide : 0 + 0 ≤ _), (by decide : 0 + 0 ≤ _)⟩)
  dsimp only [Pt.U, Pt.locs, Pt.cells, Pt.slots] at X102 l102 y102 z102 st102 hQ102
  subst l102 y102 z102
  obtain ⟨rfl, N102q, eh102⟩ := hQ102
  have N102 := Fr.app N0 N102q
  refine Go.step (fun _ kt => st102.trans kt) ?_
  show Go p.tables e below _ (T102.setTop (mkF m 4 #[.val (.ref a1), .val (.long q1), .second] []))
  refine Go.step (fun _ kt => XS.aloadN X102.here hx rfl (hb hby d1_4) rfl rfl kt) ?_
  show Go p.tables e below _ (T102.setTop (mkF m 5 #[.val (.ref a1), .val (.long q1), .second] [(.ref a1)]))
  refine Go.step (fun _ kt => XS.lloadN X102.here hx rfl (hb hby d1_5) rfl kt) ?_
  show Go p.tables e below _ (T102.setTop (mkF m 6 #[.val (.ref a1), .val (.long q1), .second] [(.long q1), (.ref a1)]))
  obtain ⟨T103, h103, X103, e103, W103, st103⟩ := putF X102 hx hZ hown (host := "") (Or.inl (hw _ (List.mem_of_getElem? (i := 14) rfl))) Via.refl eh102 F1 E1 (Or.inr ⟨(hw _ (List.mem_of_getElem? (i := 15) rfl)), rfl, hnm⟩) (hw _ (List.mem_of_getElem? (i := 1) rfl)) (ty := .long) (by decide) rfl rfl (g := (mkF m 6 #[.val (.ref a1), .val (.long q1), .second] [(.long q1), (.ref a1)])) rfl rfl (hb hby d1_6)
  refine Go.step st103 ?_
  have N103 := Fr.snoc X103 N102 g_a1
  have F104 : Exa Z h103 a1 "com/example/sibyl/sibyl/core/BlockHash" := (E1.wr W103)
  have F105 : Fld Z h103 a1 "com/example/sibyl/sibyl/core/BlockHash" "value" "J" (.long q1) := (F1.same W103)
  have Z106 : n0 ≤ h103.size := (Nat.le_trans Z0 (Nat.le_of_eq W103.size.symm))
  have K107 : Keep h0 h103 [a1] := (K101.wr W103 (Or.inl (List.mem_of_getElem? (i := 0) rfl)))
  show Go p.tables e below _ (T103.setTop (mkF m 9 #[.val (.ref a1), .val (.long q1), .second] []))
  obtain ⟨fs, hr, hrun, hended, hW, hsame⟩ := X103.leave (v := none) (fun _ => rfl)
  refine ⟨_, _, X103.returnOut hx Bd.returns (hb hby d1_9) hr, hrun, hended, _, _, rfl, ?_, ⟨_, rfl⟩, hW, hsame.mono (by decide) (by decide)⟩
  show Qrm1 Z a1 q1 u1 h0 n0 _ T103.heap _
  rw [e103]
  refine ⟨?_, N103, K107, F104, F105⟩
  rfl
theorem d4_0 : decode prog_3_method_6_code 0 = .ok (.aload_n 0, 1) := by decide +kernel
theorem d4_1 : decode prog_3_method_6_code 1 = .ok (.getfield 7, 3) := by decide +kernel
theorem d4_4 : decode prog_3_method_6_code 4 = .ok (.l2i, 1) := by decide +kernel
theorem d4_5 : decode prog_3_method_6_code 5 = .ok (.getstatic 34, 3) := by decide +kernel
theorem d4_8 : decode prog_3_method_6_code 8 = .ok (.iload_n 1, 1) := by decide +kernel
theorem d4_9 : decode prog_3_method_6_code 9 = .ok (.iaload, 1) := by decide +kernel
theorem d4_10 : decode prog_3_method_6_code 10 = .ok (.imul, 1) := by decide +kernel
theorem d4_11 : decode prog_3_method_6_code 11 = .ok (.bipush 27, 2) := by decide +kernel
theorem d4_13 : decode prog_3_method_6_code 13 = .ok (.iushr, 1) := by decide +kernel
theorem d4_14 : decode prog_3_method_6_code 14 = .ok (.ireturn, 1) := by decide +kernel
theorem ef_rmb0 (m : MethodId) (a1 : Addr) (val : Int64) (sa : Addr) (sk : ClassId) : entryFrame m #[(.ref a1), (.int (0 : Int32))] 2 = mkF m 0 #[.val (.ref a1), .val (.int (0 : Int32))] [] := by first | (simp [entryFrame, mkF, argsToLocals, Value.category]; done) | rfl
def Qrmb0 (Z : State) (a1 : Addr) (val : Int64) (sa : Addr) (sk : ClassId) (h0 : Heap) (n0 : Nat) (v : Option Value) (h : Heap) (L : List Loc) : Prop := v = some (.int (own_bit val (1203114875 : Int32))) ∧ Fr n0 L ∧ h = h0
set_option maxRecDepth 65536 in
set_option maxHeartbeats 40000000 in
theorem rmb0 (l : Launch) (Z : State) (a0 : Array Value) (hw : ∀ d ∈ tables_1, d.before a0 Z = true) (ws : List Jvm.Cond) (a1 : Addr) (val : Int64) (sa : Addr) (sk : ClassId) (h0 : Heap) (n0 : Nat) (Z0 : n0 ≤ h0.size) (F1 : Fld Z h0 a1 "com/example/sibyl/sibyl/core/BlockHash" "value" "J" (.long val)) (S1 : Sta Z h0 "com/example/sibyl/sibyl/core/BlockHash" "SALTS" "[I" (.ref sa)) (V1 : Arv Z h0 sa sk .int (8 : Int32) [(.int (1203114875 : Int32)), (.int (1150766481 : Int32)), (.int (-2010862245 : Int32)), (.int (-1565054819 : Int32)), (.int (1884591559 : Int32)), (.int (770785867 : Int32)), (.int (-1627633337 : Int32)), (.int (1550580529 : Int32))] (.int (0 : Int32))) :
    MetFree l (⟨"com/example/sibyl/sibyl/core/BlockHash", "bit", "(I)I"⟩ : MethodName) (head1 (Jvm.Cond.code (⟨"com/example/sibyl/sibyl/core/BlockHash", "bit", "(I)I"⟩ : MethodName) prog_3_method_6_code 2 (some .int) :: ws) ({ frames := 0, cells := 0, slots := 0, locals := 0 } : Room)) (fun a U => a = #[(.ref a1), (.int (0 : Int32))] ∧ Z.Warmed39 U.vm ∧ U.heap = h0) (fun _ _ _ _ _ => True) (fun _ U o U' => ∃ v L, o = .returned v ∧ Qrmb0 Z a1 val sa sk h0 n0 v U'.heap L ∧ FrameEnd U o U' L ({ frames := 0, cells := 0, slots := 0, locals := 0 } : Room).cells ({ frames := 0, cells := 0, slots := 0, locals := 0 } : Room).slots) := by
  refine MetFree.of_bodySF (plainFor_of_name pn_1) hisR ?_
  intro p e s m args below meth c s₁ Bd hml0 hP hK
  obtain ⟨rfl, hZ, hh⟩ := hP
  have hx := Bd.exec
  have hby := Bd.bytes
  have hml : c.maxLocals = 2 := hml0
  have hown : s.vm.findClass "com/example/sibyl/sibyl/core/BlockHash" = some m.cls := findClass_of_methodNamed Bd.named
  have hnm := (name_of_methodNamed Bd.named Bd.method).1
  have X0 : Stand p l e ({ frames := 0, cells := 0, slots := 0, locals := 0 } : Room) s m #[(.ref a1), (.int (0 : Int32))] below meth c s₁ [] 0 0 := Stand.of_body Bd
  have e0 : s₁.heap = h0 := by rw [← hh, Bd.state]; rfl
  have N0 := Fr.nil n0
  show Go p.tables e below (fun o U' => ∃ v L, o = .returned v ∧ Qrmb0 Z a1 val sa sk h0 n0 v U'.heap L ∧ FrameEnd s o U' L ({ frames := 0, cells := 0, slots := 0, locals := 0 } : Room).cells ({ frames := 0, cells := 0, slots := 0, locals := 0 } : Room).slots) _
  refine Go.step (fun t kt => castTop (ef_rmb0 m a1 val sa sk) kt) ?_
  show Go p.tables e below _ (s₁.setTop (mkF m 0 #[.val (.ref a1), .val (.int (0 : Int32))] []))
  refine Go.step (fun _ kt => XS.aloadN X0.here hx rfl (hb hby d4_0) rfl rfl kt) ?_
  show Go p.tables e below _ (s₁.setTop (mkF m 1 #[.val (.ref a1), .val (.int (0 : Int32))] [(.ref a1)]))
  obtain ⟨T101, X101, e101, st101⟩ := getF X0 hx hZ hown (host := "") (Or.inl (hw _ (List.mem_of_getElem? (i := 14) rfl))) Via.refl e0 F1 (g := (mkF m 1 #[.val (.ref a1), .val (.int (0 : Int32))] [(.ref a1)])) rfl rfl (hb hby d4_1)
  refine Go.step st101 ?_
  show Go p.tables e below _ (T101.setTop (mkF m 4 #[.val (.ref a1), .val (.int (0 : Int32))] [(.long val)]))
  refine Go.step (fun _ kt => XS.l2i X101.here hx rfl (hb hby d4_4) rfl kt) ?_
  show Go p.tables e below _ (T101.setTop (mkF m 5 #[.val (.ref a1), .val (.int (0 : Int32))] [(.int (val.toInt32))]))
  obtain ⟨T102, X102, e102, st102⟩ := getS2 X101 hx hZ hown (host := "") (Or.inl (hw _ (List.mem_of_getElem? (i := 21) rfl))) Via.refl e101 S1 (g := (mkF m 5 #[.val (.ref a1), .val (.int (0 : Int32))] [(.int (val.toInt32))])) rfl (hb hby d4_5)
  refine Go.step st102 ?_
  show Go p.tables e below _ (T102.setTop (mkF m 8 #[.val (.ref a1), .val (.int (0 : Int32))] [(.ref sa), (.int (val.toInt32))]))
  refine Go.step (fun _ kt => XS.iloadN X102.here hx rfl (hb hby d4_8) rfl kt) ?_
  show Go p.tables e below _ (T102.setTop (mkF m 9 #[.val (.ref a1), .val (.int (0 : Int32))] [(.int (0 : Int32)), (.ref sa), (.int (val.toInt32))]))
  obtain ⟨cl103, Ar103, qa103, Sa103, Na103, Ha103, Ga103⟩ := (id V1)
  have hin103 : ¬ ((0 : Int32) < 0 ∨ cl103.slots.size ≤ ((0 : Int32)).toNatClampNeg) := inb_of Sa103 ⟨by decide, by decide⟩
  have hat103 : cl103.slots[((0 : Int32)).toNatClampNeg]? = some (.int (1203114875 : Int32)) := at_of Ha103 hin103 rfl
  refine Go.step (X102.iaload hx (j := (0 : Int32)) (v := (.int (1203114875 : Int32))) (by rw [e102]; exact Ar103.1) (State.isArrayOf_alike hZ.alike Ar103.2.1) Ar103.2.2 hin103 hat103 (g := (mkF m 9 #[.val (.ref a1), .val (.int (0 : Int32))] [(.int (0 : Int32)), (.ref sa), (.int (val.toInt32))])) rfl rfl (hb hby d4_9)) ?_
  show Go p.tables e below _ (T102.setTop (mkF m 10 #[.val (.ref a1), .val (.int (0 : Int32))] [(.int (1203114875 : Int32)), (.int (val.toInt32))]))
  refine Go.step (fun _ kt => XS.imul X102.here hx rfl (hb hby d4_10) rfl kt) ?_
  show Go p.tables e below _ (T102.setTop (mkF m 11 #[.val (.ref a1), .val (.int (0 : Int32))] [(.int ((val.toInt32) * (1203114875 : Int32)))]))
  refine Go.step (fun _ kt => XS.bipush X102.here hx rfl (hb hby d4_11) kt) ?_
  show Go p.tables e below _ (T102.setTop (mkF m 13 #[.val (.ref a1), .val (.int (0 : Int32))] [(.int (27 : Int32)), (.int ((val.toInt32) * (1203114875 : Int32)))]))
  refine Go.step (fun _ kt => XS.iushr X102.here hx rfl (hb hby d4_13) rfl kt) ?_
  show Go p.tables e below _ (T102.setTop (mkF m 14 #[.val (.ref a1), .val (.int (0 : Int32))] [(.int ((((val.toInt32) * (1203114875 : Int32)).toUInt32 >>> ((27 : Int32) &&& 31).toUInt32).toInt32))]))
  obtain ⟨fs, hr, hrun, hended, hW, hsame⟩ := X102.leave (v := some (.int ((((val.toInt32) * (1203114875 : Int32)).toUInt32 >>> ((27 : Int32) &&& 31).toUInt32).toInt32))) (fun h => by rw [Bd.returns] at h; cases h)
  refine ⟨_, _, retI X102 hx Bd.returns (hb hby d4_14) hr, hrun, hended, _, _, rfl, ?_, ⟨_, rfl⟩, hW, hsame.mono (by decide) (by decide)⟩
  show Qrmb0 Z a1 val sa sk h0 n0 _ T102.heap _
  rw [e102]
  refine ⟨?_, N0, rfl⟩
  rfl
theorem ef_rmb1 (m : MethodId) (a1 : Addr) (val : Int64) (sa : Addr) (sk : ClassId) : entryFrame m #[(.ref a1), (.int (1 : Int32))] 2 = mkF m 0 #[.val (.ref a1), .val (.int (1 : Int32))] [] := by first | (simp [entryFrame, mkF, argsToLocals, Value.category]; done) | rfl
def Qrmb1 (Z : State) (a1 : Addr) (val : Int64) (sa : Addr) (sk : ClassId) (h0 : Heap) (n0 : Nat) (v : Option Value) (h : Heap) (L : List Loc) : Prop := v = some (.int (own_bit val (1150766481 : Int32))) ∧ Fr n0 L ∧ h = h0
set_option maxRecDepth 65536 in
set_option maxHeartbeats 40000000 in
theorem rmb1 (l : Launch) (Z : State) (a0 : Array Value) (hw : ∀ d ∈ tables_1, d.before a0 Z = true) (ws : List Jvm.Cond) (a1 : Addr) (val : Int64) (sa : Addr) (sk : ClassId) (h0 : Heap) (n0 : Nat) (Z0 : n0 ≤ h0.size) (F1 : Fld Z h0 a1 "com/example/sibyl/sibyl/core/BlockHash" "value" "J" (.long val)) (S1 : Sta Z h0 "com/example/sibyl/sibyl/core/BlockHash" "SALTS" "[I" (.ref sa)) (V1 : Arv Z h0 sa sk .int (8 : Int32) [(.int (1203114875 : Int32)), (.int (1150766481 : Int32)), (.int (-2010862245 : Int32)), (.int (-1565054819 : Int32)), (.int (1884591559 : Int32)), (.int (770785867 : Int32)), (.int (-1627633337 : Int32)), (.int (1550580529 : Int32))] (.int (0 : Int32))) :
    MetFree l (⟨"com/example/sibyl/sibyl/core/BlockHash", "bit", "(I)I"⟩ : MethodName) (head1 (Jvm.Cond.code (⟨"com/example/sibyl/sibyl/core/BlockHash", "bit", "(I)I"⟩ : MethodName) prog_3_method_6_code 2 (some .int) :: ws) ({ frames := 0, cells := 0, slots := 0, locals := 0 } : Room)) (fun a U => a = #[(.ref a1), (.int (1 : Int32))] ∧ Z.Warmed39 U.vm ∧ U.heap = h0) (fun _ _ _ _ _ => True) (fun _ U o U' => ∃ v L, o = .returned v ∧ Qrmb1 Z a1 val sa sk h0 n0 v U'.heap L ∧ FrameEnd U o U' L ({ frames := 0, cells := 0, slots := 0, locals := 0 } : Room).cells ({ frames := 0, cells := 0, slots := 0, locals := 0 } : Room).slots) := by
  refine MetFree.of_bodySF (plainFor_of_name pn_1) hisR ?_
  intro p e s m args below meth c s₁ Bd hml0 hP hK
  obtain ⟨rfl, hZ, hh⟩ := hP
  have hx := Bd.exec
  have hby := Bd.bytes
  have hml : c.maxLocals = 2 := hml0
  have hown : s.vm.findClass "com/example/sibyl/sibyl/core/BlockHash" = some m.cls := findClass_of_methodNamed Bd.named
  have hnm := (name_of_methodNamed Bd.named Bd.method).1
  have X0 : Stand p l e ({ frames := 0, cells := 0, slots := 0, locals := 0 } : Room) s m #[(.ref a1), (.int (1 : Int32))] below meth c s₁ [] 0 0 := Stand.of_body Bd
  have e0 : s₁.heap = h0 := by rw [← hh, Bd.state]; rfl
  have N0 := Fr.nil n0
  show Go p.tables e below (fun o U' => ∃ v L, o = .returned v ∧ Qrmb1 Z a1 val sa sk h0 n0 v U'.heap L ∧ FrameEnd s o U' L ({ frames := 0, cells := 0, slots := 0, locals := 0 } : Room).cells ({ frames := 0, cells := 0, slots := 0, locals := 0 } : Room).slots) _
  refine Go.step (fun t kt => castTop (ef_rmb1 m a1 val sa sk) kt) ?_
  show Go p.tables e below _ (s₁.setTop (mkF m 0 #[.val (.ref a1), .val (.int (1 : Int32))] []))
  refine Go.step (fun _ kt => XS.aloadN X0.here hx rfl (hb hby d4_0) rfl rfl kt) ?_
  show Go p.tables e below _ (s₁.setTop (mkF m 1 #[.val (.ref a1), .val (.int (1 : Int32))] [(.ref a1)]))
  obtain ⟨T101, X101, e101, st101⟩ := getF X0 hx hZ hown (host := "") (Or.inl (hw _ (List.mem_of_getElem? (i := 14) rfl))) Via.refl e0 F1 (g := (mkF m 1 #[.val (.ref a1), .val (.int (1 : Int32))] [(.ref a1)])) rfl rfl (hb hby d4_1)
  refine Go.step st101 ?_
  show Go p.tables e below _ (T101.setTop (mkF m 4 #[.val (.ref a1), .val (.int (1 : Int32))] [(.long val)]))
  refine Go.step (fun _ kt => XS.l2i X101.here hx rfl (hb hby d4_4) rfl kt) ?_
  show Go p.tables e below _ (T101.setTop (mkF m 5 #[.val (.ref a1), .val (.int (1 : Int32))] [(.int (val.toInt32))]))
  obtain ⟨T102, X102, e102, st102⟩ := getS2 X101 hx hZ hown (host := "") (Or.inl (hw _ (List.mem_of_getElem? (i := 21) rfl))) Via.refl e101 S1 (g := (mkF m 5 #[.val (.ref a1), .val (.int (1 : Int32))] [(.int (val.toInt32))])) rfl (hb hby d4_5)
  refine Go.step st102 ?_
  show Go p.tables e below _ (T102.setTop (mkF m 8 #[.val (.ref a1), .val (.int (1 : Int32))] [(.ref sa), (.int (val.toInt32))]))
  refine Go.step (fun _ kt => XS.iloadN X102.here hx rfl (hb hby d4_8) rfl kt) ?_
  show Go p.tables e below _ (T102.setTop (mkF m 9 #[.val (.ref a1), .val (.int (1 : Int32))] [(.int (1 : Int32)), (.ref sa), (.int (val.toInt32))]))
  obtain ⟨cl103, Ar103, qa103, Sa103, Na103, Ha103, Ga103⟩ := (id V1)
  have hin103 : ¬ ((1 : Int32) < 0 ∨ cl103.slots.size ≤ ((1 : Int32)).toNatClampNeg) := inb_of Sa103 ⟨by decide, by decide⟩
  have hat103 : cl103.slots[((1 : Int32)).toNatClampNeg]? = some (.int (1150766481 : Int32)) := at_of Ha103 hin103 rfl
  refine Go.step (X102.iaload hx (j := (1 : Int32)) (v := (.int (1150766481 : Int32))) (by rw [e102]; exact Ar103.1) (State.isArrayOf_alike hZ.alike Ar103.2.1) Ar103.2.2 hin103 hat103 (g := (mkF m 9 #[.val (.ref a1), .val (.int (1 : Int32))] [(.int (1 : Int32)), (.ref sa), (.int (val.toInt32))])) rfl rfl (hb hby d4_9)) ?_
  show Go p.tables e below _ (T102.setTop (mkF m 10 #[.val (.ref a1), .val (.int (1 : Int32))] [(.int (1150766481 : Int32)), (.int (val.toInt32))]))
  refine Go.step (fun _ kt => XS.imul X102.here hx rfl (hb hby d4_10) rfl kt) ?_
  show Go p.tables e below _ (T102.setTop (mkF m 11 #[.val (.ref a1), .val (.int (1 : Int32))] [(.int ((val.toInt32) * (1150766481 : Int32)))]))
  refine Go.step (fun _ kt => XS.bipush X102.here hx rfl (hb hby d4_11) kt) ?_
  show Go p.tables e below _ (T102.setTop (mkF m 13 #[.val (.ref a1), .val (.int (1 : Int32))] [(.int (27 : Int32)), (.int ((val.toInt32) * (1150766481 : Int32)))]))
  refine Go.step (fun _ kt => XS.iushr X102.here hx rfl (hb hby d4_13) rfl kt) ?_
  show Go p.tables e below _ (T102.setTop (mkF m 14 #[.val (.ref a1), .val (.int (1 : Int32))] [(.int ((((val.toInt32) * (1150766481 : Int32)).toUInt32 >>> ((27 : Int32) &&& 31).toUInt32).toInt32))]))
  obtain ⟨fs, hr, hrun, hended, hW, hsame⟩ := X102.leave (v := some (.int ((((val.toInt32) * (1150766481 : Int32)).toUInt32 >>> ((27 : Int32) &&& 31).toUInt32).toInt32))) (fun h => by rw [Bd.returns] at h; cases h)
  refine ⟨_, _, retI X102 hx Bd.returns (hb hby d4_14) hr, hrun, hended, _, _, rfl, ?_, ⟨_, rfl⟩, hW, hsame.mono (by decide) (by decide)⟩
  show Qrmb1 Z a1 val sa sk h0 n0 _ T102.heap _
  rw [e102]
  refine ⟨?_, N0, rfl⟩
  rfl
theorem ef_rmb2 (m : MethodId) (a1 : Addr) (val : Int64) (sa : Addr) (sk : ClassId) : entryFrame m #[(.ref a1), (.int (2 : Int32))] 2 = mkF m 0 #[.val (.ref a1), .val (.int (2 : Int32))] [] := by first | (simp [entryFrame, mkF, argsToLocals, Value.category]; done) | rfl
def Qrmb2 (Z : State) (a1 : Addr) (val : Int64) (sa : Addr) (sk : ClassId) (h0 : Heap) (n0 : Nat) (v : Option Value) (h : Heap) (L : List Loc) : Prop := v = some (.int (own_bit val (-2010862245 : Int32))) ∧ Fr n0 L ∧ h = h0
set_option maxRecDepth 65536 in
set_option maxHeartbeats 40000000 in
theorem rmb2 (l : Launch) (Z : State) (a0 : Array Value) (hw : ∀ d ∈ tables_1, d.before a0 Z = true) (ws : List Jvm.Cond) (a1 : Addr) (val : Int64) (sa : Addr) (sk : ClassId) (h0 : Heap) (n0 : Nat) (Z0 : n0 ≤ h0.size) (F1 : Fld Z h0 a1 "com/example/sibyl/sibyl/core/BlockHash" "value" "J" (.long val)) (S1 : Sta Z h0 "com/example/sibyl/sibyl/core/BlockHash" "SALTS" "[I" (.ref sa)) (V1 : Arv Z h0 sa sk .int (8 : Int32) [(.int (1203114875 : Int32)), (.int (1150766481 : Int32)), (.int (-2010862245 : Int32)), (.int (-1565054819 : Int32)), (.int (1884591559 : Int32)), (.int (770785867 : Int32)), (.int (-1627633337 : Int32)), (.int (1550580529 : Int32))] (.int (0 : Int32))) :
    MetFree l (⟨"com/example/sibyl/sibyl/core/BlockHash", "bit", "(I)I"⟩ : MethodName) (head1 (Jvm.Cond.code (⟨"com/example/sibyl/sibyl/core/BlockHash", "bit", "(I)I"⟩ : MethodName) prog_3_method_6_code 2 (some .int) :: ws) ({ frames := 0, cells := 0, slots := 0, locals := 0 } : Room)) (fun a U => a = #[(.ref a1), (.int (2 : Int32))] ∧ Z.Warmed39 U.vm ∧ U.heap = h0) (fun _ _ _ _ _ => True) (fun _ U o U' => ∃ v L, o = .returned v ∧ Qrmb2 Z a1 val sa sk h0 n0 v U'.heap L ∧ FrameEnd U o U' L ({ frames := 0, cells := 0, slots := 0, locals := 0 } : Room).cells ({ frames := 0, cells := 0, slots := 0, locals := 0 } : Room).slots) := by
  refine MetFree.of_bodySF (plainFor_of_name pn_1) hisR ?_
  intro p e s m args below meth c s₁ Bd hml0 hP hK
  obtain ⟨rfl, hZ, hh⟩ := hP
  have hx := Bd.exec
  have hby := Bd.bytes
  have hml : c.maxLocals = 2 := hml0
  have hown : s.vm.findClass "com/example/sibyl/sibyl/core/BlockHash" = some m.cls := findClass_of_methodNamed Bd.named
  have hnm := (name_of_methodNamed Bd.named Bd.method).1
  have X0 : Stand p l e ({ frames := 0, cells := 0, slots := 0, locals := 0 } : Room) s m #[(.ref a1), (.int (2 : Int32))] below meth c s₁ [] 0 0 := Stand.of_body Bd
  have e0 : s₁.heap = h0 := by rw [← hh, Bd.state]; rfl
  have N0 := Fr.nil n0
  show Go p.tables e below (fun o U' => ∃ v L, o = .returned v ∧ Qrmb2 Z a1 val sa sk h0 n0 v U'.heap L ∧ FrameEnd s o U' L ({ frames := 0, cells := 0, slots := 0, locals := 0 } : Room).cells ({ frames := 0, cells := 0, slots := 0, locals := 0 } : Room).slots) _
  refine Go.step (fun t kt => castTop (ef_rmb2 m a1 val sa sk) kt) ?_
  show Go p.tables e below _ (s₁.setTop (mkF m 0 #[.val (.ref a1), .val (.int (2 : Int32))] []))
  refine Go.step (fun _ kt => XS.aloadN X0.here hx rfl (hb hby d4_0) rfl rfl kt) ?_
  show Go p.tables e below _ (s₁.setTop (mkF m 1 #[.val (.ref a1), .val (.int (2 : Int32))] [(.ref a1)]))
  obtain ⟨T101, X101, e101, st101⟩ := getF X0 hx hZ hown (host := "") (Or.inl (hw _ (List.mem_of_getElem? (i := 14) rfl))) Via.refl e0 F1 (g := (mkF m 1 #[.val (.ref a1), .val (.int (2 : Int32))] [(.ref a1)])) rfl rfl (hb hby d4_1)
  refine Go.step st101 ?_
  show Go p.tables e below _ (T101.setTop (mkF m 4 #[.val (.ref a1), .val (.int (2 : Int32))] [(.long val)]))
  refine Go.step (fun _ kt => XS.l2i X101.here hx rfl (hb hby d4_4) rfl kt) ?_
  show Go p.tables e below _ (T101.setTop (mkF m 5 #[.val (.ref a1), .val (.int (2 : Int32))] [(.int (val.toInt32))]))
  obtain ⟨T102, X102, e102, st102⟩ := getS2 X101 hx hZ hown (host := "") (Or.inl (hw _ (List.mem_of_getElem? (i := 21) rfl))) Via.refl e101 S1 (g := (mkF m 5 #[.val (.ref a1), .val (.int (2 : Int32))] [(.int (val.toInt32))])) rfl (hb hby d4_5)
  refine Go.step st102 ?_
  show Go p.tables e below _ (T102.setTop (mkF m 8 #[.val (.ref a1), .val (.int (2 : Int32))] [(.ref sa), (.int (val.toInt32))]))
  refine Go.step (fun _ kt => XS.iloadN X102.here hx rfl (hb hby d4_8) rfl kt) ?_
  show Go p.tables e below _ (T102.setTop (mkF m 9 #[.val (.ref a1), .val (.int (2 : Int32))] [(.int (2 : Int32)), (.ref sa), (.int (val.toInt32))]))
  obtain ⟨cl103, Ar103, qa103, Sa103, Na103, Ha103, Ga103⟩ := (id V1)
  have hin103 : ¬ ((2 : Int32) < 0 ∨ cl103.slots.size ≤ ((2 : Int32)).toNatClampNeg) := inb_of Sa103 ⟨by decide, by decide⟩
  have hat103 : cl103.slots[((2 : Int32)).toNatClampNeg]? = some (.int (-2010862245 : Int32)) := at_of Ha103 hin103 rfl
  refine Go.step (X102.iaload hx (j := (2 : Int32)) (v := (.int (-2010862245 : Int32))) (by rw [e102]; exact Ar103.1) (State.isArrayOf_alike hZ.alike Ar103.2.1) Ar103.2.2 hin103 hat103 (g := (mkF m 9 #[.val (.ref a1), .val (.int (2 : Int32))] [(.int (2 : Int32)), (.ref sa), (.int (val.toInt32))])) rfl rfl (hb hby d4_9)) ?_
  show Go p.tables e below _ (T102.setTop (mkF m 10 #[.val (.ref a1), .val (.int (2 : Int32))] [(.int (-2010862245 : Int32)), (.int (val.toInt32))]))
  refine Go.step (fun _ kt => XS.imul X102.here hx rfl (hb hby d4_10) rfl kt) ?_
  show Go p.tables e below _ (T102.setTop (mkF m 11 #[.val (.ref a1), .val (.int (2 : Int32))] [(.int ((val.toInt32) * (-2010862245 : Int32)))]))
  refine Go.step (fun _ kt => XS.bipush X102.here hx rfl (hb hby d4_11) kt) ?_
  show Go p.tables e below _ (T102.setTop (mkF m 13 #[.val (.ref a1), .val (.int (2 : Int32))] [(.int (27 : Int32)), (.int ((val.toInt32) * (-2010862245 : Int32)))]))
  refine Go.step (fun _ kt => XS.iushr X102.here hx rfl (hb hby d4_13) rfl kt) ?_
  show Go p.tables e below _ (T102.setTop (mkF m 14 #[.val (.ref a1), .val (.int (2 : Int32))] [(.int ((((val.toInt32) * (-2010862245 : Int32)).toUInt32 >>> ((27 : Int32) &&& 31).toUInt32).toInt32))]))
  obtain ⟨fs, hr, hrun, hended, hW, hsame⟩ := X102.leave (v := some (.int ((((val.toInt32) * (-2010862245 : Int32)).toUInt32 >>> ((27 : Int32) &&& 31).toUInt32).toInt32))) (fun h => by rw [Bd.returns] at h; cases h)
  refine ⟨_, _, retI X102 hx Bd.returns (hb hby d4_14) hr, hrun, hended, _, _, rfl, ?_, ⟨_, rfl⟩, hW, hsame.mono (by decide) (by decide)⟩
  show Qrmb2 Z a1 val sa sk h0 n0 _ T102.heap _
  rw [e102]
  refine ⟨?_, N0, rfl⟩
  rfl
theorem ef_rmb3 (m : MethodId) (a1 : Addr) (val : Int64) (sa : Addr) (sk : ClassId) : entryFrame m #[(.ref a1), (.int (3 : Int32))] 2 = mkF m 0 #[.val (.ref a1), .val (.int (3 : Int32))] [] := by first | (simp [entryFrame, mkF, argsToLocals, Value.category]; done) | rfl
def Qrmb3 (Z : State) (a1 : Addr) (val : Int64) (sa : Addr) (sk : ClassId) (h0 : Heap) (n0 : Nat) (v : Option Value) (h : Heap) (L : List Loc) : Prop := v = some (.int (own_bit val (-1565054819 : Int32))) ∧ Fr n0 L ∧ h = h0
set_option maxRecDepth 65536 in
set_option maxHeartbeats 40000000 in
theorem rmb3 (l : Launch) (Z : State) (a0 : Array Value) (hw : ∀ d ∈ tables_1, d.before a0 Z = true) (ws : List Jvm.Cond) (a1 : Addr) (val : Int64) (sa : Addr) (sk : ClassId) (h0 : Heap) (n0 : Nat) (Z0 : n0 ≤ h0.size) (F1 : Fld Z h0 a1 "com/example/sibyl/sibyl/core/BlockHash" "value" "J" (.long val)) (S1 : Sta Z h0 "com/example/sibyl/sibyl/core/BlockHash" "SALTS" "[I" (.ref sa)) (V1 : Arv Z h0 sa sk .int (8 : Int32) [(.int (1203114875 : Int32)), (.int (1150766481 : Int32)), (.int (-2010862245 : Int32)), (.int (-1565054819 : Int32)), (.int (1884591559 : Int32)), (.int (770785867 : Int32)), (.int (-1627633337 : Int32)), (.int (1550580529 : Int32))] (.int (0 : Int32))) :
    MetFree l (⟨"com/example/sibyl/sibyl/core/BlockHash", "bit", "(I)I"⟩ : MethodName) (head1 (Jvm.Cond.code (⟨"com/example/sibyl/sibyl/core/BlockHash", "bit", "(I)I"⟩ : MethodName) prog_3_method_6_code 2 (some .int) :: ws) ({ frames := 0, cells := 0, slots := 0, locals := 0 } : Room)) (fun a U => a = #[(.ref a1), (.int (3 : Int32))] ∧ Z.Warmed39 U.vm ∧ U.heap = h0) (fun _ _ _ _ _ => True) (fun _ U o U' => ∃ v L, o = .returned v ∧ Qrmb3 Z a1 val sa sk h0 n0 v U'.heap L ∧ FrameEnd U o U' L ({ frames := 0, cells := 0, slots := 0, locals := 0 } : Room).cells ({ frames := 0, cells := 0, slots := 0, locals := 0 } : Room).slots) := by
  refine MetFree.of_bodySF (plainFor_of_name pn_1) hisR ?_
  intro p e s m args below meth c s₁ Bd hml0 hP hK
  obtain ⟨rfl, hZ, hh⟩ := hP
  have hx := Bd.exec
  have hby := Bd.bytes
  have hml : c.maxLocals = 2 := hml0
  have hown : s.vm.findClass "com/example/sibyl/sibyl/core/BlockHash" = some m.cls := findClass_of_methodNamed Bd.named
  have hnm := (name_of_methodNamed Bd.named Bd.method).1
  have X0 : Stand p l e ({ frames := 0, cells := 0, slots := 0, locals := 0 } : Room) s m #[(.ref a1), (.int (3 : Int32))] below meth c s₁ [] 0 0 := Stand.of_body Bd
  have e0 : s₁.heap = h0 := by rw [← hh, Bd.state]; rfl
  have N0 := Fr.nil n0
  show Go p.tables e below (fun o U' => ∃ v L, o = .returned v ∧ Qrmb3 Z a1 val sa sk h0 n0 v U'.heap L ∧ FrameEnd s o U' L ({ frames := 0, cells := 0, slots := 0, locals := 0 } : Room).cells ({ frames := 0, cells := 0, slots := 0, locals := 0 } : Room).slots) _
  refine Go.step (fun t kt => castTop (ef_rmb3 m a1 val sa sk) kt) ?_
  show Go p.tables e below _ (s₁.setTop (mkF m 0 #[.val (.ref a1), .val (.int (3 : Int32))] []))
  refine Go.step (fun _ kt => XS.aloadN X0.here hx rfl (hb hby d4_0) rfl rfl kt) ?_
  show Go p.tables e below _ (s₁.setTop (mkF m 1 #[.val (.ref a1), .val (.int (3 : Int32))] [(.ref a1)]))
  obtain ⟨T101, X101, e101, st101⟩ := getF X0 hx hZ hown (host := "") (Or.inl (hw _ (List.mem_of_getElem? (i := 14) rfl))) Via.refl e0 F1 (g := (mkF m 1 #[.val (.ref a1), .val (.int (3 : Int32))] [(.ref a1)])) rfl rfl (hb hby d4_1)
  refine Go.step st101 ?_
  show Go p.tables e below _ (T101.setTop (mkF m 4 #[.val (.ref a1), .val (.int (3 : Int32))] [(.long val)]))
  refine Go.step (fun _ kt => XS.l2i X101.here hx rfl (hb hby d4_4) rfl kt) ?_
  show Go p.tables e below _ (T101.setTop (mkF m 5 #[.val (.ref a1), .val (.int (3 : Int32))] [(.int (val.toInt32))]))
  obtain ⟨T102, X102, e102, st102⟩ := getS2 X101 hx hZ hown (host := "") (Or.inl (hw _ (List.mem_of_getElem? (i := 21) rfl))) Via.refl e101 S1 (g := (mkF m 5 #[.val (.ref a1), .val (.int (3 : Int32))] [(.int (val.toInt32))])) rfl (hb hby d4_5)
  refine Go.step st102 ?_
  show Go p.tables e below _ (T102.setTop (mkF m 8 #[.val (.ref a1), .val (.int (3 : Int32))] [(.ref sa), (.int (val.toInt32))]))
  refine Go.step (fun _ kt => XS.iloadN X102.here hx rfl (hb hby d4_8) rfl kt) ?_
  show Go p.tables e below _ (T102.setTop (mkF m 9 #[.val (.ref a1), .val (.int (3 : Int32))] [(.int (3 : Int32)), (.ref sa), (.int (val.toInt32))]))
  obtain ⟨cl103, Ar103, qa103, Sa103, Na103, Ha103, Ga103⟩ := (id V1)
  have hin103 : ¬ ((3 : Int32) < 0 ∨ cl103.slots.size ≤ ((3 : Int32)).toNatClampNeg) := inb_of Sa103 ⟨by decide, by decide⟩
  have hat103 : cl103.slots[((3 : Int32)).toNatClampNeg]? = some (.int (-1565054819 : Int32)) := at_of Ha103 hin103 rfl
  refine Go.step (X102.iaload hx (j := (3 : Int32)) (v := (.int (-1565054819 : Int32))) (by rw [e102]; exact Ar103.1) (State.isArrayOf_alike hZ.alike Ar103.2.1) Ar103.2.2 hin103 hat103 (g := (mkF m 9 #[.val (.ref a1), .val (.int (3 : Int32))] [(.int (3 : Int32)), (.ref sa), (.int (val.toInt32))])) rfl rfl (hb hby d4_9)) ?_
  show Go p.tables e below _ (T102.setTop (mkF m 10 #[.val (.ref a1), .val (.int (3 : Int32))] [(.int (-1565054819 : Int32)), (.int (val.toInt32))]))
  refine Go.step (fun _ kt => XS.imul X102.here hx rfl (hb hby d4_10) rfl kt) ?_
  show Go p.tables e below _ (T102.setTop (mkF m 11 #[.val (.ref a1), .val (.int (3 : Int32))] [(.int ((val.toInt32) * (-1565054819 : Int32)))]))
  refine Go.step (fun _ kt => XS.bipush X102.here hx rfl (hb hby d4_11) kt) ?_
  show Go p.tables e below _ (T102.setTop (mkF m 13 #[.val (.ref a1), .val (.int (3 : Int32))] [(.int (27 : Int32)), (.int ((val.toInt32) * (-1565054819 : Int32)))]))
  refine Go.step (fun _ kt => XS.iushr X102.here hx rfl (hb hby d4_13) rfl kt) ?_
  show Go p.tables e below _ (T102.setTop (mkF m 14 #[.val (.ref a1), .val (.int (3 : Int32))] [(.int ((((val.toInt32) * (-1565054819 : Int32)).toUInt32 >>> ((27 : Int32) &&& 31).toUInt32).toInt32))]))
  obtain ⟨fs, hr, hrun, hended, hW, hsame⟩ := X102.leave (v := some (.int ((((val.toInt32) * (-1565054819 : Int32)).toUInt32 >>> ((27 : Int32) &&& 31).toUInt32).toInt32))) (fun h => by rw [Bd.returns] at h; cases h)
  refine ⟨_, _, retI X102 hx Bd.returns (hb hby d4_14) hr, hrun, hended, _, _, rfl, ?_, ⟨_, rfl⟩, hW, hsame.mono (by decide) (by decide)⟩
  show Qrmb3 Z a1 val sa sk h0 n0 _ T102.heap _
  rw [e102]
  refine ⟨?_, N0, rfl⟩
  rfl
theorem ef_rmb4 (m : MethodId) (a1 : Addr) (val : Int64) (sa : Addr) (sk : ClassId) : entryFrame m #[(.ref a1), (.int (4 : Int32))] 2 = mkF m 0 #[.val (.ref a1), .val (.int (4 : Int32))] [] := by first | (simp [entryFrame, mkF, argsToLocals, Value.category]; done) | rfl
def Qrmb4 (Z : State) (a1 : Addr) (val : Int64) (sa : Addr) (sk : ClassId) (h0 : Heap) (n0 : Nat) (v : Option Value) (h : Heap) (L : List Loc) : Prop := v = some (.int (own_bit val (1884591559 : Int32))) ∧ Fr n0 L ∧ h = h0
set_option maxRecDepth 65536 in
set_option maxHeartbeats 40000000 in
theorem rmb4 (l : Launch) (Z : State) (a0 : Array Value) (hw : ∀ d ∈ tables_1, d.before a0 Z = true) (ws : List Jvm.Cond) (a1 : Addr) (val : Int64) (sa : Addr) (sk : ClassId) (h0 : Heap) (n0 : Nat) (Z0 : n0 ≤ h0.size) (F1 : Fld Z h0 a1 "com/example/sibyl/sibyl/core/BlockHash" "value" "J" (.long val)) (S1 : Sta Z h0 "com/example/sibyl/sibyl/core/BlockHash" "SALTS" "[I" (.ref sa)) (V1 : Arv Z h0 sa sk .int (8 : Int32) [(.int (1203114875 : Int32)), (.int (1150766481 : Int32)), (.int (-2010862245 : Int32)), (.int (-1565054819 : Int32)), (.int (1884591559 : Int32)), (.int (770785867 : Int32)), (.int (-1627633337 : Int32)), (.int (1550580529 : Int32))] (.int (0 : Int32))) :
    MetFree l (⟨"com/example/sibyl/sibyl/core/BlockHash", "bit", "(I)I"⟩ : MethodName) (head1 (Jvm.Cond.code (⟨"com/example/sibyl/sibyl/core/BlockHash", "bit", "(I)I"⟩ : MethodName) prog_3_method_6_code 2 (some .int) :: ws) ({ frames := 0, cells := 0, slots := 0, locals := 0 } : Room)) (fun a U => a = #[(.ref a1), (.int (4 : Int32))] ∧ Z.Warmed39 U.vm ∧ U.heap = h0) (fun _ _ _ _ _ => True) (fun _ U o U' => ∃ v L, o = .returned v ∧ Qrmb4 Z a1 val sa sk h0 n0 v U'.heap L ∧ FrameEnd U o U' L ({ frames := 0, cells := 0, slots := 0, locals := 0 } : Room).cells ({ frames := 0, cells := 0, slots := 0, locals := 0 } : Room).slots) := by
  refine MetFree.of_bodySF (plainFor_of_name pn_1) hisR ?_
  intro p e s m args below meth c s₁ Bd hml0 hP hK
  obtain ⟨rfl, hZ, hh⟩ := hP
  have hx := Bd.exec
  have hby := Bd.bytes
  have hml : c.maxLocals = 2 := hml0
  have hown : s.vm.findClass "com/example/sibyl/sibyl/core/BlockHash" = some m.cls := findClass_of_methodNamed Bd.named
  have hnm := (name_of_methodNamed Bd.named Bd.method).1
  have X0 : Stand p l e ({ frames := 0, cells := 0, slots := 0, locals := 0 } : Room) s m #[(.ref a1), (.int (4 : Int32))] below meth c s₁ [] 0 0 := Stand.of_body Bd
  have e0 : s₁.heap = h0 := by rw [← hh, Bd.state]; rfl
  have N0 := Fr.nil n0
  show Go p.tables e below (fun o U' => ∃ v L, o = .returned v ∧ Qrmb4 Z a1 val sa sk h0 n0 v U'.heap L ∧ FrameEnd s o U' L ({ frames := 0, cells := 0, slots := 0, locals := 0 } : Room).cells ({ frames := 0, cells := 0, slots := 0, locals := 0 } : Room).slots) _
  refine Go.step (fun t kt => castTop (ef_rmb4 m a1 val sa sk) kt) ?_
  show Go p.tables e below _ (s₁.setTop (mkF m 0 #[.val (.ref a1), .val (.int (4 : Int32))] []))
  refine Go.step (fun _ kt => XS.aloadN X0.here hx rfl (hb hby d4_0) rfl rfl kt) ?_
  show Go p.tables e below _ (s₁.setTop (mkF m 1 #[.val (.ref a1), .val (.int (4 : Int32))] [(.ref a1)]))
  obtain ⟨T101, X101, e101, st101⟩ := getF X0 hx hZ hown (host := "") (Or.inl (hw _ (List.mem_of_getElem? (i := 14) rfl))) Via.refl e0 F1 (g := (mkF m 1 #[.val (.ref a1), .val (.int (4 : Int32))] [(.ref a1)])) rfl rfl (hb hby d4_1)
  refine Go.step st101 ?_
  show Go p.tables e below _ (T101.setTop (mkF m 4 #[.val (.ref a1), .val (.int (4 : Int32))] [(.long val)]))
  refine Go.step (fun _ kt => XS.l2i X101.here hx rfl (hb hby d4_4) rfl kt) ?_
  show Go p.tables e below _ (T101.setTop (mkF m 5 #[.val (.ref a1), .val (.int (4 : Int32))] [(.int (val.toInt32))]))
  obtain ⟨T102, X102, e102, st102⟩ := getS2 X101 hx hZ hown (host := "") (Or.inl (hw _ (List.mem_of_getElem? (i := 21) rfl))) Via.refl e101 S1 (g := (mkF m 5 #[.val (.ref a1), .val (.int (4 : Int32))] [(.int (val.toInt32))])) rfl (hb hby d4_5)
  refine Go.step st102 ?_
  show Go p.tables e below _ (T102.setTop (mkF m 8 #[.val (.ref a1), .val (.int (4 : Int32))] [(.ref sa), (.int (val.toInt32))]))
  refine Go.step (fun _ kt => XS.iloadN X102.here hx rfl (hb hby d4_8) rfl kt) ?_
  show Go p.tables e below _ (T102.setTop (mkF m 9 #[.val (.ref a1), .val (.int (4 : Int32))] [(.int (4 : Int32)), (.ref sa), (.int (val.toInt32))]))
  obtain ⟨cl103, Ar103, qa103, Sa103, Na103, Ha103, Ga103⟩ := (id V1)
  have hin103 : ¬ ((4 : Int32) < 0 ∨ cl103.slots.size ≤ ((4 : Int32)).toNatClampNeg) := inb_of Sa103 ⟨by decide, by decide⟩
  have hat103 : cl103.slots[((4 : Int32)).toNatClampNeg]? = some (.int (1884591559 : Int32)) := at_of Ha103 hin103 rfl
  refine Go.step (X102.iaload hx (j := (4 : Int32)) (v := (.int (1884591559 : Int32))) (by rw [e102]; exact Ar103.1) (State.isArrayOf_alike hZ.alike Ar103.2.1) Ar103.2.2 hin103 hat103 (g := (mkF m 9 #[.val (.ref a1), .val (.int (4 : Int32))] [(.int (4 : Int32)), (.ref sa), (.int (val.toInt32))])) rfl rfl (hb hby d4_9)) ?_
  show Go p.tables e below _ (T102.setTop (mkF m 10 #[.val (.ref a1), .val (.int (4 : Int32))] [(.int (1884591559 : Int32)), (.int (val.toInt32))]))
  refine Go.step (fun _ kt => XS.imul X102.here hx rfl (hb hby d4_10) rfl kt) ?_
  show Go p.tables e below _ (T102.setTop (mkF m 11 #[.val (.ref a1), .val (.int (4 : Int32))] [(.int ((val.toInt32) * (1884591559 : Int32)))]))
  refine Go.step (fun _ kt => XS.bipush X102.here hx rfl (hb hby d4_11) kt) ?_
  show Go p.tables e below _ (T102.setTop (mkF m 13 #[.val (.ref a1), .val (.int (4 : Int32))] [(.int (27 : Int32)), (.int ((val.toInt32) * (1884591559 : Int32)))]))
  refine Go.step (fun _ kt => XS.iushr X102.here hx rfl (hb hby d4_13) rfl kt) ?_
  show Go p.tables e below _ (T102.setTop (mkF m 14 #[.val (.ref a1), .val (.int (4 : Int32))] [(.int ((((val.toInt32) * (1884591559 : Int32)).toUInt32 >>> ((27 : Int32) &&& 31).toUInt32).toInt32))]))
  obtain ⟨fs, hr, hrun, hended, hW, hsame⟩ := X102.leave (v := some (.int ((((val.toInt32) * (1884591559 : Int32)).toUInt32 >>> ((27 : Int32) &&& 31).toUInt32).toInt32))) (fun h => by rw [Bd.returns] at h; cases h)
  refine ⟨_, _, retI X102 hx Bd.returns (hb hby d4_14) hr, hrun, hended, _, _, rfl, ?_, ⟨_, rfl⟩, hW, hsame.mono (by decide) (by decide)⟩
  show Qrmb4 Z a1 val sa sk h0 n0 _ T102.heap _
  rw [e102]
  refine ⟨?_, N0, rfl⟩
  rfl
theorem ef_rmb5 (m : MethodId) (a1 : Addr) (val : Int64) (sa : Addr) (sk : ClassId) : entryFrame m #[(.ref a1), (.int (5 : Int32))] 2 = mkF m 0 #[.val (.ref a1), .val (.int (5 : Int32))] [] := by first | (simp [entryFrame, mkF, argsToLocals, Value.category]; done) | rfl
def Qrmb5 (Z : State) (a1 : Addr) (val : Int64) (sa : Addr) (sk : ClassId) (h0 : Heap) (n0 : Nat) (v : Option Value) (h : Heap) (L : List Loc) : Prop := v = some (.int (own_bit val (770785867 : Int32))) ∧ Fr n0 L ∧ h = h0
set_option maxRecDepth 65536 in
set_option maxHeartbeats 40000000 in
theorem rmb5 (l : Launch) (Z : State) (a0 : Array Value) (hw : ∀ d ∈ tables_1, d.before a0 Z = true) (ws : List Jvm.Cond) (a1 : Addr) (val : Int64) (sa : Addr) (sk : ClassId) (h0 : Heap) (n0 : Nat) (Z0 : n0 ≤ h0.size) (F1 : Fld Z h0 a1 "com/example/sibyl/sibyl/core/BlockHash" "value" "J" (.long val)) (S1 : Sta Z h0 "com/example/sibyl/sibyl/core/BlockHash" "SALTS" "[I" (.ref sa)) (V1 : Arv Z h0 sa sk .int (8 : Int32) [(.int (1203114875 : Int32)), (.int (1150766481 : Int32)), (.int (-2010862245 : Int32)), (.int (-1565054819 : Int32)), (.int (1884591559 : Int32)), (.int (770785867 : Int32)), (.int (-1627633337 : Int32)), (.int (1550580529 : Int32))] (.int (0 : Int32))) :
    MetFree l (⟨"com/example/sibyl/sibyl/core/BlockHash", "bit", "(I)I"⟩ : MethodName) (head1 (Jvm.Cond.code (⟨"com/example/sibyl/sibyl/core/BlockHash", "bit", "(I)I"⟩ : MethodName) prog_3_method_6_code 2 (some .int) :: ws) ({ frames := 0, cells := 0, slots := 0, locals := 0 } : Room)) (fun a U => a = #[(.ref a1), (.int (5 : Int32))] ∧ Z.Warmed39 U.vm ∧ U.heap = h0) (fun _ _ _ _ _ => True) (fun _ U o U' => ∃ v L, o = .returned v ∧ Qrmb5 Z a1 val sa sk h0 n0 v U'.heap L ∧ FrameEnd U o U' L ({ frames := 0, cells := 0, slots := 0, locals := 0 } : Room).cells ({ frames := 0, cells := 0, slots := 0, locals := 0 } : Room).slots) := by
  refine MetFree.of_bodySF (plainFor_of_name pn_1) hisR ?_
  intro p e s m args below meth c s₁ Bd hml0 hP hK
  obtain ⟨rfl, hZ, hh⟩ := hP
  have hx := Bd.exec
  have hby := Bd.bytes
  have hml : c.maxLocals = 2 := hml0
  have hown : s.vm.findClass "com/example/sibyl/sibyl/core/BlockHash" = some m.cls := findClass_of_methodNamed Bd.named
  have hnm := (name_of_methodNamed Bd.named Bd.method).1
  have X0 : Stand p l e ({ frames := 0, cells := 0, slots := 0, locals := 0 } : Room) s m #[(.ref a1), (.int (5 : Int32))] below meth c s₁ [] 0 0 := Stand.of_body Bd
  have e0 : s₁.heap = h0 := by rw [← hh, Bd.state]; rfl
  have N0 := Fr.nil n0
  show Go p.tables e below (fun o U' => ∃ v L, o = .returned v ∧ Qrmb5 Z a1 val sa sk h0 n0 v U'.heap L ∧ FrameEnd s o U' L ({ frames := 0, cells := 0, slots := 0, locals := 0 } : Room).cells ({ frames := 0, cells := 0, slots := 0, locals := 0 } : Room).slots) _
  refine Go.step (fun t kt => castTop (ef_rmb5 m a1 val sa sk) kt) ?_
  show Go p.tables e below _ (s₁.setTop (mkF m 0 #[.val (.ref a1), .val (.int (5 : Int32))] []))
  refine Go.step (fun _ kt => XS.aloadN X0.here hx rfl (hb hby d4_0) rfl rfl kt) ?_
  show Go p.tables e below _ (s₁.setTop (mkF m 1 #[.val (.ref a1), .val (.int (5 : Int32))] [(.ref a1)]))
  obtain ⟨T101, X101, e101, st101⟩ := getF X0 hx hZ hown (host := "") (Or.inl (hw _ (List.mem_of_getElem? (i := 14) rfl))) Via.refl e0 F1 (g := (mkF m 1 #[.val (.ref a1), .val (.int (5 : Int32))] [(.ref a1)])) rfl rfl (hb hby d4_1)
  refine Go.step st101 ?_
  show Go p.tables e below _ (T101.setTop (mkF m 4 #[.val (.ref a1), .val (.int (5 : Int32))] [(.long val)]))
  refine Go.step (fun _ kt => XS.l2i X101.here hx rfl (hb hby d4_4) rfl kt) ?_
  show Go p.tables e below _ (T101.setTop (mkF m 5 #[.val (.ref a1), .val (.int (5 : Int32))] [(.int (val.toInt32))]))
  obtain ⟨T102, X102, e102, st102⟩ := getS2 X101 hx hZ hown (host := "") (Or.inl (hw _ (List.mem_of_getElem? (i := 21) rfl))) Via.refl e101 S1 (g := (mkF m 5 #[.val (.ref a1), .val (.int (5 : Int32))] [(.int (val.toInt32))])) rfl (hb hby d4_5)
  refine Go.step st102 ?_
  show Go p.tables e below _ (T102.setTop (mkF m 8 #[.val (.ref a1), .val (.int (5 : Int32))] [(.ref sa), (.int (val.toInt32))]))
  refine Go.step (fun _ kt => XS.iloadN X102.here hx rfl (hb hby d4_8) rfl kt) ?_
  show Go p.tables e below _ (T102.setTop (mkF m 9 #[.val (.ref a1), .val (.int (5 : Int32))] [(.int (5 : Int32)), (.ref sa), (.int (val.toInt32))]))
  obtain ⟨cl103, Ar103, qa103, Sa103, Na103, Ha103, Ga103⟩ := (id V1)
  have hin103 : ¬ ((5 : Int32) < 0 ∨ cl103.slots.size ≤ ((5 : Int32)).toNatClampNeg) := inb_of Sa103 ⟨by decide, by decide⟩
  have hat103 : cl103.slots[((5 : Int32)).toNatClampNeg]? = some (.int (770785867 : Int32)) := at_of Ha103 hin103 rfl
  refine Go.step (X102.iaload hx (j := (5 : Int32)) (v := (.int (770785867 : Int32))) (by rw [e102]; exact Ar103.1) (State.isArrayOf_alike hZ.alike Ar103.2.1) Ar103.2.2 hin103 hat103 (g := (mkF m 9 #[.val (.ref a1), .val (.int (5 : Int32))] [(.int (5 : Int32)), (.ref sa), (.int (val.toInt32))])) rfl rfl (hb hby d4_9)) ?_
  show Go p.tables e below _ (T102.setTop (mkF m 10 #[.val (.ref a1), .val (.int (5 : Int32))] [(.int (770785867 : Int32)), (.int (val.toInt32))]))
  refine Go.step (fun _ kt => XS.imul X102.here hx rfl (hb hby d4_10) rfl kt) ?_
  show Go p.tables e below _ (T102.setTop (mkF m 11 #[.val (.ref a1), .val (.int (5 : Int32))] [(.int ((val.toInt32) * (770785867 : Int32)))]))
  refine Go.step (fun _ kt => XS.bipush X102.here hx rfl (hb hby d4_11) kt) ?_
  show Go p.tables e below _ (T102.setTop (mkF m 13 #[.val (.ref a1), .val (.int (5 : Int32))] [(.int (27 : Int32)), (.int ((val.toInt32) * (770785867 : Int32)))]))
  refine Go.step (fun _ kt => XS.iushr X102.here hx rfl (hb hby d4_13) rfl kt) ?_
  show Go p.tables e below _ (T102.setTop (mkF m 14 #[.val (.ref a1), .val (.int (5 : Int32))] [(.int ((((val.toInt32) * (770785867 : Int32)).toUInt32 >>> ((27 : Int32) &&& 31).toUInt32).toInt32))]))
  obtain ⟨fs, hr, hrun, hended, hW, hsame⟩ := X102.leave (v := some (.int ((((val.toInt32) * (770785867 : Int32)).toUInt32 >>> ((27 : Int32) &&& 31).toUInt32).toInt32))) (fun h => by rw [Bd.returns] at h; cases h)
  refine ⟨_, _, retI X102 hx Bd.returns (hb hby d4_14) hr, hrun, hended, _, _, rfl, ?_, ⟨_, rfl⟩, hW, hsame.mono (by decide) (by decide)⟩
  show Qrmb5 Z a1 val sa sk h0 n0 _ T102.heap _
  rw [e102]
  refine ⟨?_, N0, rfl⟩
  rfl
theorem ef_rmb6 (m : MethodId) (a1 : Addr) (val : Int64) (sa : Addr) (sk : ClassId) : entryFrame m #[(.ref a1), (.int (6 : Int32))] 2 = mkF m 0 #[.val (.ref a1), .val (.int (6 : Int32))] [] := by first | (simp [entryFrame, mkF, argsToLocals, Value.category]; done) | rfl
def Qrmb6 (Z : State) (a1 : Addr) (val : Int64) (sa : Addr) (sk : ClassId) (h0 : Heap) (n0 : Nat) (v : Option Value) (h : Heap) (L : List Loc) : Prop := v = some (.int (own_bit val (-1627633337 : Int32))) ∧ Fr n0 L ∧ h = h0
set_option maxRecDepth 65536 in
set_option maxHeartbeats 40000000 in
theorem rmb6 (l : Launch) (Z : State) (a0 : Array Value) (hw : ∀ d ∈ tables_1, d.before a0 Z = true) (ws : List Jvm.Cond) (a1 : Addr) (val : Int64) (sa : Addr) (sk : ClassId) (h0 : Heap) (n0 : Nat) (Z0 : n0 ≤ h0.size) (F1 : Fld Z h0 a1 "com/example/sibyl/sibyl/core/BlockHash" "value" "J" (.long val)) (S1 : Sta Z h0 "com/example/sibyl/sibyl/core/BlockHash" "SALTS" "[I" (.ref sa)) (V1 : Arv Z h0 sa sk .int (8 : Int32) [(.int (1203114875 : Int32)), (.int (1150766481 : Int32)), (.int (-2010862245 : Int32)), (.int (-1565054819 : Int32)), (.int (1884591559 : Int32)), (.int (770785867 : Int32)), (.int (-1627633337 : Int32)), (.int (1550580529 : Int32))] (.int (0 : Int32))) :
    MetFree l (⟨"com/example/sibyl/sibyl/core/BlockHash", "bit", "(I)I"⟩ : MethodName) (head1 (Jvm.Cond.code (⟨"com/example/sibyl/sibyl/core/BlockHash", "bit", "(I)I"⟩ : MethodName) prog_3_method_6_code 2 (some .int) :: ws) ({ frames := 0, cells := 0, slots := 0, locals := 0 } : Room)) (fun a U => a = #[(.ref a1), (.int (6 : Int32))] ∧ Z.Warmed39 U.vm ∧ U.heap = h0) (fun _ _ _ _ _ => True) (fun _ U o U' => ∃ v L, o = .returned v ∧ Qrmb6 Z a1 val sa sk h0 n0 v U'.heap L ∧ FrameEnd U o U' L ({ frames := 0, cells := 0, slots := 0, locals := 0 } : Room).cells ({ frames := 0, cells := 0, slots := 0, locals := 0 } : Room).slots) := by
  refine MetFree.of_bodySF (plainFor_of_name pn_1) hisR ?_
  intro p e s m args below meth c s₁ Bd hml0 hP hK
  obtain ⟨rfl, hZ, hh⟩ := hP
  have hx := Bd.exec
  have hby := Bd.bytes
  have hml : c.maxLocals = 2 := hml0
  have hown : s.vm.findClass "com/example/sibyl/sibyl/core/BlockHash" = some m.cls := findClass_of_methodNamed Bd.named
  have hnm := (name_of_methodNamed Bd.named Bd.method).1
  have X0 : Stand p l e ({ frames := 0, cells := 0, slots := 0, locals := 0 } : Room) s m #[(.ref a1), (.int (6 : Int32))] below meth c s₁ [] 0 0 := Stand.of_body Bd
  have e0 : s₁.heap = h0 := by rw [← hh, Bd.state]; rfl
  have N0 := Fr.nil n0
  show Go p.tables e below (fun o U' => ∃ v L, o = .returned v ∧ Qrmb6 Z a1 val sa sk h0 n0 v U'.heap L ∧ FrameEnd s o U' L ({ frames := 0, cells := 0, slots := 0, locals := 0 } : Room).cells ({ frames := 0, cells := 0, slots := 0, locals := 0 } : Room).slots) _
  refine Go.step (fun t kt => castTop (ef_rmb6 m a1 val sa sk) kt) ?_
  show Go p.tables e below _ (s₁.setTop (mkF m 0 #[.val (.ref a1), .val (.int (6 : Int32))] []))
  refine Go.step (fun _ kt => XS.aloadN X0.here hx rfl (hb hby d4_0) rfl rfl kt) ?_
  show Go p.tables e below _ (s₁.setTop (mkF m 1 #[.val (.ref a1), .val (.int (6 : Int32))] [(.ref a1)]))
  obtain ⟨T101, X101, e101, st101⟩ := getF X0 hx hZ hown (host := "") (Or.inl (hw _ (List.mem_of_getElem? (i := 14) rfl))) Via.refl e0 F1 (g := (mkF m 1 #[.val (.ref a1), .val (.int (6 : Int32))] [(.ref a1)])) rfl rfl (hb hby d4_1)
  refine Go.step st101 ?_
  show Go p.tables e below _ (T101.setTop (mkF m 4 #[.val (.ref a1), .val (.int (6 : Int32))] [(.long val)]))
  refine Go.step (fun _ kt => XS.l2i X101.here hx rfl (hb hby d4_4) rfl kt) ?_
  show Go p.tables e below _ (T101.setTop (mkF m 5 #[.val (.ref a1), .val (.int (6 : Int32))] [(.int (val.toInt32))]))
  obtain ⟨T102, X102, e102, st102⟩ := getS2 X101 hx hZ hown (host := "") (Or.inl (hw _ (List.mem_of_getElem? (i := 21) rfl))) Via.refl e101 S1 (g := (mkF m 5 #[.val (.ref a1), .val (.int (6 : Int32))] [(.int (val.toInt32))])) rfl (hb hby d4_5)
  refine Go.step st102 ?_
  show Go p.tables e below _ (T102.setTop (mkF m 8 #[.val (.ref a1), .val (.int (6 : Int32))] [(.ref sa), (.int (val.toInt32))]))
  refine Go.step (fun _ kt => XS.iloadN X102.here hx rfl (hb hby d4_8) rfl kt) ?_
  show Go p.tables e below _ (T102.setTop (mkF m 9 #[.val (.ref a1), .val (.int (6 : Int32))] [(.int (6 : Int32)), (.ref sa), (.int (val.toInt32))]))
  obtain ⟨cl103, Ar103, qa103, Sa103, Na103, Ha103, Ga103⟩ := (id V1)
  have hin103 : ¬ ((6 : Int32) < 0 ∨ cl103.slots.size ≤ ((6 : Int32)).toNatClampNeg) := inb_of Sa103 ⟨by decide, by decide⟩
  have hat103 : cl103.slots[((6 : Int32)).toNatClampNeg]? = some (.int (-1627633337 : Int32)) := at_of Ha103 hin103 rfl
  refine Go.step (X102.iaload hx (j := (6 : Int32)) (v := (.int (-1627633337 : Int32))) (by rw [e102]; exact Ar103.1) (State.isArrayOf_alike hZ.alike Ar103.2.1) Ar103.2.2 hin103 hat103 (g := (mkF m 9 #[.val (.ref a1), .val (.int (6 : Int32))] [(.int (6 : Int32)), (.ref sa), (.int (val.toInt32))])) rfl rfl (hb hby d4_9)) ?_
  show Go p.tables e below _ (T102.setTop (mkF m 10 #[.val (.ref a1), .val (.int (6 : Int32))] [(.int (-1627633337 : Int32)), (.int (val.toInt32))]))
  refine Go.step (fun _ kt => XS.imul X102.here hx rfl (hb hby d4_10) rfl kt) ?_
  show Go p.tables e below _ (T102.setTop (mkF m 11 #[.val (.ref a1), .val (.int (6 : Int32))] [(.int ((val.toInt32) * (-1627633337 : Int32)))]))
  refine Go.step (fun _ kt => XS.bipush X102.here hx rfl (hb hby d4_11) kt) ?_
  show Go p.tables e below _ (T102.setTop (mkF m 13 #[.val (.ref a1), .val (.int (6 : Int32))] [(.int (27 : Int32)), (.int ((val.toInt32) * (-1627633337 : Int32)))]))
  refine Go.step (fun _ kt => XS.iushr X102.here hx rfl (hb hby d4_13) rfl kt) ?_
  show Go p.tables e below _ (T102.setTop (mkF m 14 #[.val (.ref a1), .val (.int (6 : Int32))] [(.int ((((val.toInt32) * (-1627633337 : Int32)).toUInt32 >>> ((27 : Int32) &&& 31).toUInt32).toInt32))]))
  obtain ⟨fs, hr, hrun, hended, hW, hsame⟩ := X102.leave (v := some (.int ((((val.toInt32) * (-1627633337 : Int32)).toUInt32 >>> ((27 : Int32) &&& 31).toUInt32).toInt32))) (fun h => by rw [Bd.returns] at h; cases h)
  refine ⟨_, _, retI X102 hx Bd.returns (hb hby d4_14) hr, hrun, hended, _, _, rfl, ?_, ⟨_, rfl⟩, hW, hsame.mono (by decide) (by decide)⟩
  show Qrmb6 Z a1 val sa sk h0 n0 _ T102.heap _
  rw [e102]
  refine ⟨?_, N0, rfl⟩
  rfl
theorem ef_rmb7 (m : MethodId) (a1 : Addr) (val : Int64) (sa : Addr) (sk : ClassId) : entryFrame m #[(.ref a1), (.int (7 : Int32))] 2 = mkF m 0 #[.val (.ref a1), .val (.int (7 : Int32))] [] := by first | (simp [entryFrame, mkF, argsToLocals, Value.category]; done) | rfl
def Qrmb7 (Z : State) (a1 : Addr) (val : Int64) (sa : Addr) (sk : ClassId) (h0 : Heap) (n0 : Nat) (v : Option Value) (h : Heap) (L : List Loc) : Prop := v = some (.int (own_bit val (1550580529 : Int32))) ∧ Fr n0 L ∧ h = h0
set_option maxRecDepth 65536 in
set_option maxHeartbeats 40000000 in
theorem rmb7 (l : Launch) (Z : State) (a0 : Array Value) (hw : ∀ d ∈ tables_1, d.before a0 Z = true) (ws : List Jvm.Cond) (a1 : Addr) (val : Int64) (sa : Addr) (sk : ClassId) (h0 : Heap) (n0 : Nat) (Z0 : n0 ≤ h0.size) (F1 : Fld Z h0 a1 "com/example/sibyl/sibyl/core/BlockHash" "value" "J" (.long val)) (S1 : Sta Z h0 "com/example/sibyl/sibyl/core/BlockHash" "SALTS" "[I" (.ref sa)) (V1 : Arv Z h0 sa sk .int (8 : Int32) [(.int (1203114875 : Int32)), (.int (1150766481 : Int32)), (.int (-2010862245 : Int32)), (.int (-1565054819 : Int32)), (.int (1884591559 : Int32)), (.int (770785867 : Int32)), (.int (-1627633337 : Int32)), (.int (1550580529 : Int32))] (.int (0 : Int32))) :
    MetFree l (⟨"com/example/sibyl/sibyl/core/BlockHash", "bit", "(I)I"⟩ : MethodName) (head1 (Jvm.Cond.code (⟨"com/example/sibyl/sibyl/core/BlockHash", "bit", "(I)I"⟩ : MethodName) prog_3_method_6_code 2 (some .int) :: ws) ({ frames := 0, cells := 0, slots := 0, locals := 0 } : Room)) (fun a U => a = #[(.ref a1), (.int (7 : Int32))] ∧ Z.Warmed39 U.vm ∧ U.heap = h0) (fun _ _ _ _ _ => True) (fun _ U o U' => ∃ v L, o = .returned v ∧ Qrmb7 Z a1 val sa sk h0 n0 v U'.heap L ∧ FrameEnd U o U' L ({ frames := 0, cells := 0, slots := 0, locals := 0 } : Room).cells ({ frames := 0, cells := 0, slots := 0, locals := 0 } : Room).slots) := by
  refine MetFree.of_bodySF (plainFor_of_name pn_1) hisR ?_
  intro p e s m args below meth c s₁ Bd hml0 hP hK
  obtain ⟨rfl, hZ, hh⟩ := hP
  have hx := Bd.exec
  have hby := Bd.bytes
  have hml : c.maxLocals = 2 := hml0
  have hown : s.vm.findClass "com/example/sibyl/sibyl/core/BlockHash" = some m.cls := findClass_of_methodNamed Bd.named
  have hnm := (name_of_methodNamed Bd.named Bd.method).1
  have X0 : Stand p l e ({ frames := 0, cells := 0, slots := 0, locals := 0 } : Room) s m #[(.ref a1), (.int (7 : Int32))] below meth c s₁ [] 0 0 := Stand.of_body Bd
  have e0 : s₁.heap = h0 := by rw [← hh, Bd.state]; rfl
  have N0 := Fr.nil n0
  show Go p.tables e below (fun o U' => ∃ v L, o = .returned v ∧ Qrmb7 Z a1 val sa sk h0 n0 v U'.heap L ∧ FrameEnd s o U' L ({ frames := 0, cells := 0, slots := 0, locals := 0 } : Room).cells ({ frames := 0, cells := 0, slots := 0, locals := 0 } : Room).slots) _
  refine Go.step (fun t kt => castTop (ef_rmb7 m a1 val sa sk) kt) ?_
  show Go p.tables e below _ (s₁.setTop (mkF m 0 #[.val (.ref a1), .val (.int (7 : Int32))] []))
  refine Go.step (fun _ kt => XS.aloadN X0.here hx rfl (hb hby d4_0) rfl rfl kt) ?_
  show Go p.tables e below _ (s₁.setTop (mkF m 1 #[.val (.ref a1), .val (.int (7 : Int32))] [(.ref a1)]))
  obtain ⟨T101, X101, e101, st101⟩ := getF X0 hx hZ hown (host := "") (Or.inl (hw _ (List.mem_of_getElem? (i := 14) rfl))) Via.refl e0 F1 (g := (mkF m 1 #[.val (.ref a1), .val (.int (7 : Int32))] [(.ref a1)])) rfl rfl (hb hby d4_1)
  refine Go.step st101 ?_
  show Go p.tables e below _ (T101.setTop (mkF m 4 #[.val (.ref a1), .val (.int (7 : Int32))] [(.long val)]))
  refine Go.step (fun _ kt => XS.l2i X101.here hx rfl (hb hby d4_4) rfl kt) ?_
  show Go p.tables e below _ (T101.setTop (mkF m 5 #[.val (.ref a1), .val (.int (7 : Int32))] [(.int (val.toInt32))]))
  obtain ⟨T102, X102, e102, st102⟩ := getS2 X101 hx hZ hown (host := "") (Or.inl (hw _ (List.mem_of_getElem? (i := 21) rfl))) Via.refl e101 S1 (g := (mkF m 5 #[.val (.ref a1), .val (.int (7 : Int32))] [(.int (val.toInt32))])) rfl (hb hby d4_5)
  refine Go.step st102 ?_
  show Go p.tables e below _ (T102.setTop (mkF m 8 #[.val (.ref a1), .val (.int (7 : Int32))] [(.ref sa), (.int (val.toInt32))]))
  refine Go.step (fun _ kt => XS.iloadN X102.here hx rfl (hb hby d4_8) rfl kt) ?_
  show Go p.tables e below _ (T102.setTop (mkF m 9 #[.val (.ref a1), .val (.int (7 : Int32))] [(.int (7 : Int32)), (.ref sa), (.int (val.toInt32))]))
  obtain ⟨cl103, Ar103, qa103, Sa103, Na103, Ha103, Ga103⟩ := (id V1)
  have hin103 : ¬ ((7 : Int32) < 0 ∨ cl103.slots.size ≤ ((7 : Int32)).toNatClampNeg) := inb_of Sa103 ⟨by decide, by decide⟩
  have hat103 : cl103.slots[((7 : Int32)).toNatClampNeg]? = some (.int (1550580529 : Int32)) := at_of Ha103 hin103 rfl
  refine Go.step (X102.iaload hx (j := (7 : Int32)) (v := (.int (1550580529 : Int32))) (by rw [e102]; exact Ar103.1) (State.isArrayOf_alike hZ.alike Ar103.2.1) Ar103.2.2 hin103 hat103 (g := (mkF m 9 #[.val (.ref a1), .val (.int (7 : Int32))] [(.int (7 : Int32)), (.ref sa), (.int (val.toInt32))])) rfl rfl (hb hby d4_9)) ?_
  show Go p.tables e below _ (T102.setTop (mkF m 10 #[.val (.ref a1), .val (.int (7 : Int32))] [(.int (1550580529 : Int32)), (.int (val.toInt32))]))
  refine Go.step (fun _ kt => XS.imul X102.here hx rfl (hb hby d4_10) rfl kt) ?_
  show Go p.tables e below _ (T102.setTop (mkF m 11 #[.val (.ref a1), .val (.int (7 : Int32))] [(.int ((val.toInt32) * (1550580529 : Int32)))]))
  refine Go.step (fun _ kt => XS.bipush X102.here hx rfl (hb hby d4_11) kt) ?_
  show Go p.tables e below _ (T102.setTop (mkF m 13 #[.val (.ref a1), .val (.int (7 : Int32))] [(.int (27 : Int32)), (.int ((val.toInt32) * (1550580529 : Int32)))]))
  refine Go.step (fun _ kt => XS.iushr X102.here hx rfl (hb hby d4_13) rfl kt) ?_
  show Go p.tables e below _ (T102.setTop (mkF m 14 #[.val (.ref a1), .val (.int (7 : Int32))] [(.int ((((val.toInt32) * (1550580529 : Int32)).toUInt32 >>> ((27 : Int32) &&& 31).toUInt32).toInt32))]))
  obtain ⟨fs, hr, hrun, hended, hW, hsame⟩ := X102.leave (v := some (.int ((((val.toInt32) * (1550580529 : Int32)).toUInt32 >>> ((27 : Int32) &&& 31).toUInt32).toInt32))) (fun h => by rw [Bd.returns] at h; cases h)
  refine ⟨_, _, retI X102 hx Bd.returns (hb hby d4_14) hr, hrun, hended, _, _, rfl, ?_, ⟨_, rfl⟩, hW, hsame.mono (by decide) (by decide)⟩
  show Qrmb7 Z a1 val sa sk h0 n0 _ T102.heap _
  rw [e102]
  refine ⟨?_, N0, rfl⟩
  rfl
theorem pn_2 : plainName "com/example/sibyl/sibyl/core/BlockHashBitPinLaw" = true := by first | (simp [plainName, overriddenIn]; done) | decide +kernel
theorem d5_0 : decode method_2_code 0 = .ok (.iload_n 0, 1) := by decide +kernel
theorem d5_1 : decode method_2_code 1 = .ok (.ifCond .ne 7, 3) := by decide +kernel
theorem d5_4 : decode method_2_code 4 = .ok (.ldc2_w 7, 3) := by decide +kernel
theorem d5_7 : decode method_2_code 7 = .ok (.lreturn, 1) := by decide +kernel
theorem d5_8 : decode method_2_code 8 = .ok (.iload_n 0, 1) := by decide +kernel
theorem d5_9 : decode method_2_code 9 = .ok (.iconst 1, 1) := by decide +kernel
theorem d5_10 : decode method_2_code 10 = .ok (.if_icmp .ne 7, 3) := by decide +kernel
theorem d5_13 : decode method_2_code 13 = .ok (.ldc2_w 9, 3) := by decide +kernel
theorem d5_16 : decode method_2_code 16 = .ok (.lreturn, 1) := by decide +kernel
theorem d5_17 : decode method_2_code 17 = .ok (.iload_n 0, 1) := by decide +kernel
theorem d5_18 : decode method_2_code 18 = .ok (.iconst 2, 1) := by decide +kernel
theorem d5_19 : decode method_2_code 19 = .ok (.if_icmp .ne 7, 3) := by decide +kernel
theorem d5_22 : decode method_2_code 22 = .ok (.ldc2_w 11, 3) := by decide +kernel
theorem d5_25 : decode method_2_code 25 = .ok (.lreturn, 1) := by decide +kernel
theorem d5_26 : decode method_2_code 26 = .ok (.iload_n 0, 1) := by decide +kernel
theorem d5_27 : decode method_2_code 27 = .ok (.iconst 3, 1) := by decide +kernel
theorem d5_28 : decode method_2_code 28 = .ok (.if_icmp .ne 7, 3) := by decide +kernel
theorem d5_31 : decode method_2_code 31 = .ok (.ldc2_w 13, 3) := by decide +kernel
theorem d5_34 : decode method_2_code 34 = .ok (.lreturn, 1) := by decide +kernel
theorem d5_35 : decode method_2_code 35 = .ok (.iload_n 0, 1) := by decide +kernel
theorem d5_36 : decode method_2_code 36 = .ok (.iconst 4, 1) := by decide +kernel
theorem d5_37 : decode method_2_code 37 = .ok (.if_icmp .ne 7, 3) := by decide +kernel
theorem d5_40 : decode method_2_code 40 = .ok (.ldc2_w 15, 3) := by decide +kernel
theorem d5_43 : decode method_2_code 43 = .ok (.lreturn, 1) := by decide +kernel
theorem d5_44 : decode method_2_code 44 = .ok (.iload_n 0, 1) := by decide +kernel
theorem d5_45 : decode method_2_code 45 = .ok (.iconst 5, 1) := by decide +kernel
theorem d5_46 : decode method_2_code 46 = .ok (.if_icmp .ne 7, 3) := by decide +kernel
theorem d5_49 : decode method_2_code 49 = .ok (.ldc2_w 17, 3) := by decide +kernel
theorem d5_52 : decode method_2_code 52 = .ok (.lreturn, 1) := by decide +kernel
theorem d5_53 : decode method_2_code 53 = .ok (.iload_n 0, 1) := by decide +kernel
theorem d5_54 : decode method_2_code 54 = .ok (.bipush 6, 2) := by decide +kernel
theorem d5_56 : decode method_2_code 56 = .ok (.if_icmp .ne 7, 3) := by decide +kernel
theorem d5_59 : decode method_2_code 59 = .ok (.ldc2_w 19, 3) := by decide +kernel
theorem d5_62 : decode method_2_code 62 = .ok (.lreturn, 1) := by decide +kernel
theorem d5_63 : decode method_2_code 63 = .ok (.ldc2_w 21, 3) := by decide +kernel
theorem d5_66 : decode method_2_code 66 = .ok (.lreturn, 1) := by decide +kernel
theorem ef_rm5 (m : MethodId) (p1 : Int32) : entryFrame m #[(.int p1)] 1 = mkF m 0 #[.val (.int p1)] [] := by first | (simp [entryFrame, mkF, argsToLocals, Value.category]; done) | rfl
def Qrm5 (Z : State) (p1 : Int32) (h0 : Heap) (n0 : Nat) (v : Option Value) (h : Heap) (L : List Loc) : Prop := v = some (.long (own_salt p1)) ∧ Fr n0 L ∧ h = h0
set_option maxRecDepth 65536 in
set_option maxHeartbeats 40000000 in
theorem rm5 (l : Launch) (Z : State) (a0 : Array Value) (hw : ∀ d ∈ tables_1, d.before a0 Z = true) (ws : List Jvm.Cond) (p1 : Int32) (h0 : Heap) (n0 : Nat) (Z0 : n0 ≤ h0.size) :
    MetFree l (⟨"com/example/sibyl/sibyl/core/BlockHashBitPinLaw", "salt", "(I)J"⟩ : MethodName) (head1 (Jvm.Cond.code (⟨"com/example/sibyl/sibyl/core/BlockHashBitPinLaw", "salt", "(I)J"⟩ : MethodName) method_2_code 1 (some .long) :: ws) ({ frames := 0, cells := 0, slots := 0, locals := 0 } : Room)) (fun a U => a = #[(.int p1)] ∧ Z.Warmed39 U.vm ∧ U.heap = h0) (fun _ _ _ _ _ => True) (fun _ U o U' => ∃ v L, o = .returned v ∧ Qrm5 Z p1 h0 n0 v U'.heap L ∧ FrameEnd U o U' L ({ frames := 0, cells := 0, slots := 0, locals := 0 } : Room).cells ({ frames := 0, cells := 0, slots := 0, locals := 0 } : Room).slots) := by
  refine MetFree.of_bodySF (plainFor_of_name pn_2) hisR ?_
  intro p e s m args below meth c s₁ Bd hml0 hP hK
  obtain ⟨rfl, hZ, hh⟩ := hP
  have hx := Bd.exec
  have hby := Bd.bytes
  have hml : c.maxLocals = 1 := hml0
  have hown : s.vm.findClass "com/example/sibyl/sibyl/core/BlockHashBitPinLaw" = some m.cls := findClass_of_methodNamed Bd.named
  have hnm := (name_of_methodNamed Bd.named Bd.method).1
  have X0 : Stand p l e ({ frames := 0, cells := 0, slots := 0, locals := 0 } : Room) s m #[(.int p1)] below meth c s₁ [] 0 0 := Stand.of_body Bd
  have e0 : s₁.heap = h0 := by rw [← hh, Bd.state]; rfl
  have N0 := Fr.nil n0
  show Go p.tables e below (fun o U' => ∃ v L, o = .returned v ∧ Qrm5 Z p1 h0 n0 v U'.heap L ∧ FrameEnd s o U' L ({ frames := 0, cells := 0, slots := 0, locals := 0 } : Room).cells ({ frames := 0, cells := 0, slots := 0, locals := 0 } : Room).slots) _
  refine Go.step (fun t kt => castTop (ef_rm5 m p1) kt) ?_
  show Go p.tables e below _ (s₁.setTop (mkF m 0 #[.val (.int p1)] []))
  refine Go.step (fun _ kt => XS.iloadN X0.here hx rfl (hb hby d5_0) rfl kt) ?_
  show Go p.tables e below _ (s₁.setTop (mkF m 1 #[.val (.int p1)] [(.int p1)]))
  by_cases hc1_101 : p1 = (0 : Int32)
  · refine Go.step (fun _ kt => XS.ifNo X0.here hx rfl (hb hby d5_1) rfl ((if0 _ _).trans (teq hc1_101).2) kt) ?_
    show Go p.tables e below _ (s₁.setTop (mkF m 4 #[.val (.int p1)] []))
    refine Go.step (X0.ldc2Long hx hown (mvT hZ (hw _ (List.mem_of_getElem? (i := 32) rfl))) (g := (mkF m 4 #[.val (.int p1)] [])) rfl (hb hby d5_4)) ?_
    show Go p.tables e below _ (s₁.setTop (mkF m 7 #[.val (.int p1)] [(.long (1203114875 : Int64))]))
    obtain ⟨fs, hr, hrun, hended, hW, hsame⟩ := X0.leave (v := some (.long (1203114875 : Int64))) (fun h => by rw [Bd.returns] at h; cases h)
    refine ⟨_, _, retOut X0 hx Bd.returns rfl (Or.inr (Or.inl ⟨rfl, rfl, _, rfl⟩)) (hb hby d5_7) hr, hrun, hended, _, _, rfl, ?_, ⟨_, rfl⟩, hW, hsame.mono (by decide) (by decide)⟩
    show Qrm5 Z p1 h0 n0 _ s₁.heap _
    rw [e0]
    refine ⟨?_, N0, rfl⟩
    have q : own_salt p1 = (1203114875 : Int64) := by simp only [own_salt]; simp [hc1_101]
    rw [q]
  · refine Go.step (fun _ kt => XS.ifYes X0.here hx rfl (pc0 := 1) (pc' := 8) rfl (hb hby d5_1) rfl ((if0 _ _).trans (feq hc1_101).2) (by decide) (by decide) kt) ?_
    show Go p.tables e below _ (s₁.setTop (mkF m 8 #[.val (.int p1)] []))
    refine Go.step (fun _ kt => XS.iloadN X0.here hx rfl (hb hby d5_8) rfl kt) ?_
    show Go p.tables e below _ (s₁.setTop (mkF m 9 #[.val (.int p1)] [(.int p1)]))
    refine Go.step (fun _ kt => XS.iconst X0.here hx rfl (hb hby d5_9) kt) ?_
    show Go p.tables e below _ (s₁.setTop (mkF m 10 #[.val (.int p1)] [(.int (1 : Int32)), (.int p1)]))
    by_cases hc10_102 : p1 = (1 : Int32)
    · refine Go.step (fun _ kt => XS.icmpNo X0.here hx rfl (hb hby d5_10) rfl (teq hc10_102).2 kt) ?_
      show Go p.tables e below _ (s₁.setTop (mkF m 13 #[.val (.int p1)] []))
      refine Go.step (X0.ldc2Long hx hown (mvT hZ (hw _ (List.mem_of_getElem? (i := 34) rfl))) (g := (mkF m 13 #[.val (.int p1)] [])) rfl (hb hby d5_13)) ?_
      show Go p.tables e below _ (s₁.setTop (mkF m 16 #[.val (.int p1)] [(.long (1150766481 : Int64))]))
      obtain ⟨fs, hr, hrun, hended, hW, hsame⟩ := X0.leave (v := some (.long (1150766481 : Int64))) (fun h => by rw [Bd.returns] at h; cases h)
      refine ⟨_, _, retOut X0 hx Bd.returns rfl (Or.inr (Or.inl ⟨rfl, rfl, _, rfl⟩)) (hb hby d5_16) hr, hrun, hended, _, _, rfl, ?_, ⟨_, rfl⟩, hW, hsame.mono (by decide) (by decide)⟩
      show Qrm5 Z p1 h0 n0 _ s₁.heap _
      rw [e0]
      refine ⟨?_, N0, rfl⟩
      have q : own_salt p1 = (1150766481 : Int64) := by simp only [own_salt]; simp [hc1_101, hc10_102]
      rw [q]
    · refine Go.step (fun _ kt => XS.icmpYes X0.here hx rfl (pc0 := 10) (pc' := 17) rfl (hb hby d5_10) rfl (feq hc10_102).2 (by decide) (by decide) kt) ?_
      show Go p.tables e below _ (s₁.setTop (mkF m 17 #[.val (.int p1)] []))
      refine Go.step (fun _ kt => XS.iloadN X0.here hx rfl (hb hby d5_17) rfl kt) ?_
      show Go p.tables e below _ (s₁.setTop (mkF m 18 #[.val (.int p1)] [(.int p1)]))
      refine Go.step (fun _ kt => XS.iconst X0.here hx rfl (hb hby d5_18) kt) ?_
      show Go p.tables e below _ (s₁.setTop (mkF m 19 #[.val (.int p1)] [(.int (2 : Int32)), (.int p1)]))
      by_cases hc19_103 : p1 = (2 : Int32)
      · refine Go.step (fun _ kt => XS.icmpNo X0.here hx rfl (hb hby d5_19) rfl (teq hc19_103).2 kt) ?_
        show Go p.tables e below _ (s₁.setTop (mkF m 22 #[.val (.int p1)] []))
        refine Go.step (X0.ldc2Long hx hown (mvT hZ (hw _ (List.mem_of_getElem? (i := 28) rfl))) (g := (mkF m 22 #[.val (.int p1)] [])) rfl (hb hby d5_22)) ?_
        show Go p.tables e below _ (s₁.setTop (mkF m 25 #[.val (.int p1)] [(.long (2284105051 : Int64))]))
        obtain ⟨fs, hr, hrun, hended, hW, hsame⟩ := X0.leave (v := some (.long (2284105051 : Int64))) (fun h => by rw [Bd.returns] at h; cases h)
        refine ⟨_, _, retOut X0 hx Bd.returns rfl (Or.inr (Or.inl ⟨rfl, rfl, _, rfl⟩)) (hb hby d5_25) hr, hrun, hended, _, _, rfl, ?_, ⟨_, rfl⟩, hW, hsame.mono (by decide) (by decide)⟩
        show Qrm5 Z p1 h0 n0 _ s₁.heap _
        rw [e0]
        refine ⟨?_, N0, rfl⟩
        have q : own_salt p1 = (2284105051 : Int64) := by simp only [own_salt]; simp [hc1_101, hc10_102, hc19_103]
        rw [q]
      · refine Go.step (fun _ kt => XS.icmpYes X0.here hx rfl (pc0 := 19) (pc' := 26) rfl (hb hby d5_19) rfl (feq hc19_103).2 (by decide) (by decide) kt) ?_
        show Go p.tables e below _ (s₁.setTop (mkF m 26 #[.val (.int p1)] []))
        refine Go.step (fun _ kt => XS.iloadN X0.here hx rfl (hb hby d5_26) rfl kt) ?_
        show Go p.tables e below _ (s₁.setTop (mkF m 27 #[.val (.int p1)] [(.int p1)]))
        refine Go.step (fun _ kt => XS.iconst X0.here hx rfl (hb hby d5_27) kt) ?_
        show Go p.tables e below _ (s₁.setTop (mkF m 28 #[.val (.int p1)] [(.int (3 : Int32)), (.int p1)]))
        by_cases hc28_104 : p1 = (3 : Int32)
        · refine Go.step (fun _ kt => XS.icmpNo X0.here hx rfl (hb hby d5_28) rfl (teq hc28_104).2 kt) ?_
          show Go p.tables e below _ (s₁.setTop (mkF m 31 #[.val (.int p1)] []))
          refine Go.step (X0.ldc2Long hx hown (mvT hZ (hw _ (List.mem_of_getElem? (i := 33) rfl))) (g := (mkF m 31 #[.val (.int p1)] [])) rfl (hb hby d5_31)) ?_
          show Go p.tables e below _ (s₁.setTop (mkF m 34 #[.val (.int p1)] [(.long (2729912477 : Int64))]))
          obtain ⟨fs, hr, hrun, hended, hW, hsame⟩ := X0.leave (v := some (.long (2729912477 : Int64))) (fun h => by rw [Bd.returns] at h; cases h)
          refine ⟨_, _, retOut X0 hx Bd.returns rfl (Or.inr (Or.inl ⟨rfl, rfl, _, rfl⟩)) (hb hby d5_34) hr, hrun, hended, _, _, rfl, ?_, ⟨_, rfl⟩, hW, hsame.mono (by decide) (by decide)⟩
          show Qrm5 Z p1 h0 n0 _ s₁.heap _
          rw [e0]
          refine ⟨?_, N0, rfl⟩
          have q : own_salt p1 = (2729912477 : Int64) := by simp only [own_salt]; simp [hc1_101, hc10_102, hc19_103, hc28_104]
          rw [q]
        · refine Go.step (fun _ kt => XS.icmpYes X0.here hx rfl (pc0 := 28) (pc' := 35) rfl (hb hby d5_28) rfl (feq hc28_104).2 (by decide) (by decide) kt) ?_
          show Go p.tables e below _ (s₁.setTop (mkF m 35 #[.val (.int p1)] []))
          refine Go.step (fun _ kt => XS.iloadN X0.here hx rfl (hb hby d5_35) rfl kt) ?_
          show Go p.tables e below _ (s₁.setTop (mkF m 36 #[.val (.int p1)] [(.int p1)]))
          refine Go.step (fun _ kt => XS.iconst X0.here hx rfl (hb hby d5_36) kt) ?_
          show Go p.tables e below _ (s₁.setTop (mkF m 37 #[.val (.int p1)] [(.int (4 : Int32)), (.int p1)]))
          by_cases hc37_105 : p1 = (4 : Int32)
          · refine Go.step (fun _ kt => XS.icmpNo X0.here hx rfl (hb hby d5_37) rfl (teq hc37_105).2 kt) ?_
            show Go p.tables e below _ (s₁.setTop (mkF m 40 #[.val (.int p1)] []))
            refine Go.step (X0.ldc2Long hx hown (mvT hZ (hw _ (List.mem_of_getElem? (i := 29) rfl))) (g := (mkF m 40 #[.val (.int p1)] [])) rfl (hb hby d5_40)) ?_
            show Go p.tables e below _ (s₁.setTop (mkF m 43 #[.val (.int p1)] [(.long (1884591559 : Int64))]))
            obtain ⟨fs, hr, hrun, hended, hW, hsame⟩ := X0.leave (v := some (.long (1884591559 : Int64))) (fun h => by rw [Bd.returns] at h; cases h)
            refine ⟨_, _, retOut X0 hx Bd.returns rfl (Or.inr (Or.inl ⟨rfl, rfl, _, rfl⟩)) (hb hby d5_43) hr, hrun, hended, _, _, rfl, ?_, ⟨_, rfl⟩, hW, hsame.mono (by decide) (by decide)⟩
            show Qrm5 Z p1 h0 n0 _ s₁.heap _
            rw [e0]
            refine ⟨?_, N0, rfl⟩
            have q : own_salt p1 = (1884591559 : Int64) := by simp only [own_salt]; simp [hc1_101, hc10_102, hc19_103, hc28_104, hc37_105]
            rw [q]
          · refine Go.step (fun _ kt => XS.icmpYes X0.here hx rfl (pc0 := 37) (pc' := 44) rfl (hb hby d5_37) rfl (feq hc37_105).2 (by decide) (by decide) kt) ?_
            show Go p.tables e below _ (s₁.setTop (mkF m 44 #[.val (.int p1)] []))
            refine Go.step (fun _ kt => XS.iloadN X0.here hx rfl (hb hby d5_44) rfl kt) ?_
            show Go p.tables e below _ (s₁.setTop (mkF m 45 #[.val (.int p1)] [(.int p1)]))
            refine Go.step (fun _ kt => XS.iconst X0.here hx rfl (hb hby d5_45) kt) ?_
            show Go p.tables e below _ (s₁.setTop (mkF m 46 #[.val (.int p1)] [(.int (5 : Int32)), (.int p1)]))
            by_cases hc46_106 : p1 = (5 : Int32)
            · refine Go.step (fun _ kt => XS.icmpNo X0.here hx rfl (hb hby d5_46) rfl (teq hc46_106).2 kt) ?_
              show Go p.tables e below _ (s₁.setTop (mkF m 49 #[.val (.int p1)] []))
              refine Go.step (X0.ldc2Long hx hown (mvT hZ (hw _ (List.mem_of_getElem? (i := 35) rfl))) (g := (mkF m 49 #[.val (.int p1)] [])) rfl (hb hby d5_49)) ?_
              show Go p.tables e below _ (s₁.setTop (mkF m 52 #[.val (.int p1)] [(.long (770785867 : Int64))]))
              obtain ⟨fs, hr, hrun, hended, hW, hsame⟩ := X0.leave (v := some (.long (770785867 : Int64))) (fun h => by rw [Bd.returns] at h; cases h)
              refine ⟨_, _, retOut X0 hx Bd.returns rfl (Or.inr (Or.inl ⟨rfl, rfl, _, rfl⟩)) (hb hby d5_52) hr, hrun, hended, _, _, rfl, ?_, ⟨_, rfl⟩, hW, hsame.mono (by decide) (by decide)⟩
              show Qrm5 Z p1 h0 n0 _ s₁.heap _
              rw [e0]
              refine ⟨?_, N0, rfl⟩
              have q : own_salt p1 = (770785867 : Int64) := by simp only [own_salt]; simp [hc1_101, hc10_102, hc19_103, hc28_104, hc37_105, hc46_106]
              rw [q]
            · refine Go.step (fun _ kt => XS.icmpYes X0.here hx rfl (pc0 := 46) (pc' := 53) rfl (hb hby d5_46) rfl (feq hc46_106).2 (by decide) (by decide) kt) ?_
              show Go p.tables e below _ (s₁.setTop (mkF m 53 #[.val (.int p1)] []))
              refine Go.step (fun _ kt => XS.iloadN X0.here hx rfl (hb hby d5_53) rfl kt) ?_
              show Go p.tables e below _ (s₁.setTop (mkF m 54 #[.val (.int p1)] [(.int p1)]))
              refine Go.step (fun _ kt => XS.bipush X0.here hx rfl (hb hby d5_54) kt) ?_
              show Go p.tables e below _ (s₁.setTop (mkF m 56 #[.val (.int p1)] [(.int (6 : Int32)), (.int p1)]))
              by_cases hc56_107 : p1 = (6 : Int32)
              · refine Go.step (fun _ kt => XS.icmpNo X0.here hx rfl (hb hby d5_56) rfl (teq hc56_107).2 kt) ?_
                show Go p.tables e below _ (s₁.setTop (mkF m 59 #[.val (.int p1)] []))
                refine Go.step (X0.ldc2Long hx hown (mvT hZ (hw _ (List.mem_of_getElem? (i := 31) rfl))) (g := (mkF m 59 #[.val (.int p1)] [])) rfl (hb hby d5_59)) ?_
                show Go p.tables e below _ (s₁.setTop (mkF m 62 #[.val (.int p1)] [(.long (2667333959 : Int64))]))
                obtain ⟨fs, hr, hrun, hended, hW, hsame⟩ := X0.leave (v := some (.long (2667333959 : Int64))) (fun h => by rw [Bd.returns] at h; cases h)
                refine ⟨_, _, retOut X0 hx Bd.returns rfl (Or.inr (Or.inl ⟨rfl, rfl, _, rfl⟩)) (hb hby d5_62) hr, hrun, hended, _, _, rfl, ?_, ⟨_, rfl⟩, hW, hsame.mono (by decide) (by decide)⟩
                show Qrm5 Z p1 h0 n0 _ s₁.heap _
                rw [e0]
                refine ⟨?_, N0, rfl⟩
                have q : own_salt p1 = (2667333959 : Int64) := by simp only [own_salt]; simp [hc1_101, hc10_102, hc19_103, hc28_104, hc37_105, hc46_106, hc56_107]
                rw [q]
              · refine Go.step (fun _ kt => XS.icmpYes X0.here hx rfl (pc0 := 56) (pc' := 63) rfl (hb hby d5_56) rfl (feq hc56_107).2 (by decide) (by decide) kt) ?_
                show Go p.tables e below _ (s₁.setTop (mkF m 63 #[.val (.int p1)] []))
                refine Go.step (X0.ldc2Long hx hown (mvT hZ (hw _ (List.mem_of_getElem? (i := 30) rfl))) (g := (mkF m 63 #[.val (.int p1)] [])) rfl (hb hby d5_63)) ?_
                show Go p.tables e below _ (s₁.setTop (mkF m 66 #[.val (.int p1)] [(.long (1550580529 : Int64))]))
                obtain ⟨fs, hr, hrun, hended, hW, hsame⟩ := X0.leave (v := some (.long (1550580529 : Int64))) (fun h => by rw [Bd.returns] at h; cases h)
                refine ⟨_, _, retOut X0 hx Bd.returns rfl (Or.inr (Or.inl ⟨rfl, rfl, _, rfl⟩)) (hb hby d5_66) hr, hrun, hended, _, _, rfl, ?_, ⟨_, rfl⟩, hW, hsame.mono (by decide) (by decide)⟩
                show Qrm5 Z p1 h0 n0 _ s₁.heap _
                rw [e0]
                refine ⟨?_, N0, rfl⟩
                have q : own_salt p1 = (1550580529 : Int64) := by simp only [own_salt]; simp [hc1_101, hc10_102, hc19_103, hc28_104, hc37_105, hc46_106, hc56_107]
                rw [q]
theorem own_sta_keep {Z : State} {h h' : Heap} {C n d K : String} {v : Value} {a : Addr} (F : Sta Z h C n d v) (E : Exa Z h a K) (Kp : Keep h h' [a]) : Sta Z h' C n d v := by
  obtain ⟨cf, i, k, f, st, cell, h1, h2, h3, h4, h5, h6, h7⟩ := F
  refine ⟨cf, i, k, f, st, cell, h1, h2, h3, h4, Kp.2.1 st cell h5 ?_, h6, h7⟩
  intro q
  cases List.mem_singleton.mp q
  obtain ⟨c', k', e1, _, _, e4, _⟩ := E
  cases h5.symm.trans e1
  rw [h6] at e4
  cases e4
theorem pd_1 : parseMethodDescriptor "(J)V" = some ⟨[.long], none⟩ := by decide +kernel
theorem pd_2 : parseMethodDescriptor "(I)I" = some ⟨[.int], some .int⟩ := by decide +kernel
theorem pd_3 : parseMethodDescriptor "(I)J" = some ⟨[.int], some .long⟩ := by decide +kernel
theorem ef_rm0 (m : MethodId) (q1 : Int64) (p1 : Int32) (sa : Addr) (sk : ClassId) : entryFrame m #[(.long q1), (.int p1)] maxLocals = mkF m 0 #[.val (.long q1), .second, .val (.int p1), .unset, .unset, .unset, .unset, .unset, .unset, .unset, .unset] [] := by first | (simp [entryFrame, mkF, argsToLocals, Value.category, maxLocals]; done) | rfl
def Qrm0 (Z : State) (q1 : Int64) (p1 : Int32) (sa : Addr) (sk : ClassId) (h0 : Heap) (n0 : Nat) (v : Option Value) (h : Heap) (L : List Loc) : Prop := v = some (.int 1) ∧ Fr n0 L
set_option maxRecDepth 65536 in
set_option maxHeartbeats 40000000 in
theorem rm0 (l : Launch) (Z : State) (a0 : Array Value) (hw : ∀ d ∈ tables_1, d.before a0 Z = true) (ws : List Jvm.Cond) (q1 : Int64) (p1 : Int32) (sa : Addr) (sk : ClassId) (h0 : Heap) (n0 : Nat) (Z0 : n0 ≤ h0.size) (S1 : Sta Z h0 "com/example/sibyl/sibyl/core/BlockHash" "SALTS" "[I" (.ref sa)) (V1 : Arv Z h0 sa sk .int (8 : Int32) [(.int (1203114875 : Int32)), (.int (1150766481 : Int32)), (.int (-2010862245 : Int32)), (.int (-1565054819 : Int32)), (.int (1884591559 : Int32)), (.int (770785867 : Int32)), (.int (-1627633337 : Int32)), (.int (1550580529 : Int32))] (.int (0 : Int32))) :
    MetFree l x (head1 (Jvm.Cond.code x code maxLocals ret :: ws) room_1) (fun a U => a = #[(.long q1), (.int p1)] ∧ Z.Warmed39 U.vm ∧ U.heap = h0) (fun _ _ _ _ _ => True) (fun _ U o U' => ∃ v L, o = .returned v ∧ Qrm0 Z q1 p1 sa sk h0 n0 v U'.heap L ∧ FrameEnd U o U' L room_1.cells room_1.slots) := by
  refine MetFree.of_bodySF (plainFor_of_name pn_2) hisR ?_
  intro p e s m args below meth c s₁ Bd hml0 hP hK
  obtain ⟨rfl, hZ, hh⟩ := hP
  have hx := Bd.exec
  have hby := Bd.bytes
  have hml : c.maxLocals = 11 := hml0
  have hown : s.vm.findClass "com/example/sibyl/sibyl/core/BlockHashBitPinLaw" = some m.cls := findClass_of_methodNamed Bd.named
  have hnm := (name_of_methodNamed Bd.named Bd.method).1
  have X0 : Stand p l e room_1 s m #[(.long q1), (.int p1)] below meth c s₁ [] 0 0 := Stand.of_body Bd
  have e0 : s₁.heap = h0 := by rw [← hh, Bd.state]; rfl
  have N0 := Fr.nil n0
  show Go p.tables e below (fun o U' => ∃ v L, o = .returned v ∧ Qrm0 Z q1 p1 sa sk h0 n0 v U'.heap L ∧ FrameEnd s o U' L room_1.cells room_1.slots) _
  refine Go.step (fun t kt => castTop (ef_rm0 m q1 p1 sa sk) kt) ?_
  show Go p.tables e below _ (s₁.setTop (mkF m 0 #[.val (.long q1), .second, .val (.int p1), .unset, .unset, .unset, .unset, .unset, .unset, .unset, .unset] []))
  refine Go.step (fun _ kt => XS.iloadN X0.here hx rfl (hb hby at_0) rfl kt) ?_
  show Go p.tables e below _ (s₁.setTop (mkF m 1 #[.val (.long q1), .second, .val (.int p1), .unset, .unset, .unset, .unset, .unset, .unset, .unset, .unset] [(.int p1)]))
  refine Go.step (fun _ kt => XS.bipush X0.here hx rfl (hb hby at_1) kt) ?_
  show Go p.tables e below _ (s₁.setTop (mkF m 3 #[.val (.long q1), .second, .val (.int p1), .unset, .unset, .unset, .unset, .unset, .unset, .unset, .unset] [(.int (7 : Int32)), (.int p1)]))
  refine Go.step (fun _ kt => XS.iand X0.here hx rfl (hb hby at_3) rfl kt) ?_
  show Go p.tables e below _ (s₁.setTop (mkF m 4 #[.val (.long q1), .second, .val (.int p1), .unset, .unset, .unset, .unset, .unset, .unset, .unset, .unset] [(.int (p1 &&& (7 : Int32)))]))
  refine Go.step (fun _ kt => XS.istoreN X0.here hx rfl (hb hby at_4) rfl (l' := #[.val (.long q1), .second, .val (.int p1), .val (.int (p1 &&& (7 : Int32))), .unset, .unset, .unset, .unset, .unset, .unset, .unset]) rfl kt) ?_
  show Go p.tables e below _ (s₁.setTop (mkF m 5 #[.val (.long q1), .second, .val (.int p1), .val (.int (p1 &&& (7 : Int32))), .unset, .unset, .unset, .unset, .unset, .unset, .unset] []))
  rcases own_and7 p1 with hk | hk | hk | hk | hk | hk | hk | hk
  · rw [hk]
    show Go p.tables e below _ (s₁.setTop (mkF m 5 #[.val (.long q1), .second, .val (.int p1), .val (.int (0 : Int32)), .unset, .unset, .unset, .unset, .unset, .unset, .unset] []))
    obtain ⟨T101, h101, X101, e101, E101, A101, D101, -, st101⟩ := newO X0 hx hZ hown (hw _ (List.mem_of_getElem? (i := 0) rfl)) (hw _ (List.mem_of_getElem? (i := 1) rfl)) (hw _ (List.mem_of_getElem? (i := 2) rfl)) e0 (g := (mkF m 5 #[.val (.long q1), .second, .val (.int p1), .val (.int (0 : Int32)), .unset, .unset, .unset, .unset, .unset, .unset, .unset] [])) rfl (hb hby at_5) (by decide) (by decide)
    obtain ⟨b101, g101⟩ : ∃ z, z = h0.size := ⟨_, rfl⟩
    rw [← g101] at A101 D101 st101
    refine Go.step st101 ?_
    have ne_sa_b101 : sa ≠ b101 := Nat.ne_of_lt (Nat.lt_of_lt_of_le V1.lt (Nat.le_of_eq g101.symm))
    have g_b101 : n0 ≤ b101 := Nat.le_trans Z0 (Nat.le_of_eq g101.symm)
    have F102 : Sta Z h101 "com/example/sibyl/sibyl/core/BlockHash" "SALTS" "[I" (.ref sa) := (S1.ext E101)
    have F103 : Arv Z h101 sa sk .int (8 : Int32) [(.int (1203114875 : Int32)), (.int (1150766481 : Int32)), (.int (-2010862245 : Int32)), (.int (-1565054819 : Int32)), (.int (1884591559 : Int32)), (.int (770785867 : Int32)), (.int (-1627633337 : Int32)), (.int (1550580529 : Int32))] (.int (0 : Int32)) := (V1.ext E101)
    have Z104 : n0 ≤ h101.size := (Nat.le_trans Z0 E101.1)
    have F105 : Fld Z h101 b101 "com/example/sibyl/sibyl/core/BlockHash" "value" "J" (.long (0 : Int64)) := D101 (Or.inr (hw _ (List.mem_of_getElem? (i := 15) rfl))) (ty := .long) (by decide)
    show Go p.tables e below _ (T101.setTop (mkF m 8 #[.val (.long q1), .second, .val (.int p1), .val (.int (0 : Int32)), .unset, .unset, .unset, .unset, .unset, .unset, .unset] [(.ref b101)]))
    refine Go.step (fun _ kt => XS.dup X101.here hx rfl (hb hby at_8) rfl rfl kt) ?_
    show Go p.tables e below _ (T101.setTop (mkF m 9 #[.val (.long q1), .second, .val (.int p1), .val (.int (0 : Int32)), .unset, .unset, .unset, .unset, .unset, .unset, .unset] [(.ref b101), (.ref b101)]))
    refine Go.step (fun _ kt => XS.lloadN X101.here hx rfl (hb hby at_9) rfl kt) ?_
    show Go p.tables e below _ (T101.setTop (mkF m 10 #[.val (.long q1), .second, .val (.int p1), .val (.int (0 : Int32)), .unset, .unset, .unset, .unset, .unset, .unset, .unset] [(.long q1), (.ref b101), (.ref b101)]))
    obtain ⟨_, _, ⟨T106, L106, k106, n106⟩, -, X106, ⟨Lc106, hQ106, l106, y106, z106⟩, st106⟩ := X101.specialBack hx (y := (⟨"com/example/sibyl/sibyl/core/BlockHash", "<init>", "(J)V"⟩ : MethodName)) rfl hown (mvT hZ (hw _ (List.mem_of_getElem? (i := 3) rfl))) (mvT hZ (hw _ (List.mem_of_getElem? (i := 4) rfl))) (mvT hZ (hw _ (List.mem_of_getElem? (i := 5) rfl))) (by decide) (backOf (W := 1) (rm1 l Z a0 hw [] b101 q1 (.long (0 : Int64)) h101 n0 Z104 A101 F105 g_b101) hZ (hw _ (List.mem_of_getElem? (i := 5) rfl)) (hw _ (List.mem_of_getElem? (i := 2) rfl)) (by decide) (by decide)) (g := (mkF m 10 #[.val (.long q1), .second, .val (.int p1), .val (.int (0 : Int32)), .unset, .unset, .unset, .unset, .unset, .unset, .unset] [(.long q1), (.ref b101), (.ref b101)])) rfl (by rw [hml]; rfl) (Steps.refl _) (a := b101) (argsL := [(.long q1)]) (rest := [(.ref b101)]) (lenOf pd_1 rfl) rfl (by show 2 * 0 + _ ≤ _; exact Nat.le_of_eq rfl) (hb hby at_10) (fun _ _ => ⟨rfl, e101, (by decide : 1 + 0 ≤ _), (by decide : 1 + 0 ≤ _)⟩)
    dsimp only [Pt.U, Pt.locs, Pt.cells, Pt.slots] at X106 l106 y106 z106 st106 hQ106
    subst l106 y106 z106
    obtain ⟨rfl, N106q, Kq106, P107, P108⟩ := hQ106
    have F109 : Sta Z T106.heap "com/example/sibyl/sibyl/core/BlockHash" "SALTS" "[I" (.ref sa) := (own_sta_keep F102 A101 Kq106)
    have F110 : Arv Z T106.heap sa sk .int (8 : Int32) [(.int (1203114875 : Int32)), (.int (1150766481 : Int32)), (.int (-2010862245 : Int32)), (.int (-1565054819 : Int32)), (.int (1884591559 : Int32)), (.int (770785867 : Int32)), (.int (-1627633337 : Int32)), (.int (1550580529 : Int32))] (.int (0 : Int32)) := (F103.keep Kq106 (fun q => ne_sa_b101 (List.mem_singleton.mp q)))
    have F111 : Exa Z T106.heap b101 "com/example/sibyl/sibyl/core/BlockHash" := (A101.keep Kq106)
    have Z112 : n0 ≤ T106.heap.size := (Nat.le_trans Z104 Kq106.1)
    have N106 := Fr.app N0 N106q
    refine Go.step (fun _ kt => st106.trans kt) ?_
    show Go p.tables e below _ (T106.setTop (mkF m 13 #[.val (.long q1), .second, .val (.int p1), .val (.int (0 : Int32)), .unset, .unset, .unset, .unset, .unset, .unset, .unset] [(.ref b101)]))
    refine Go.step (fun _ kt => XS.astore X106.here hx rfl (hb hby at_13) rfl rfl (l' := #[.val (.long q1), .second, .val (.int p1), .val (.int (0 : Int32)), .val (.ref b101), .unset, .unset, .unset, .unset, .unset, .unset]) rfl kt) ?_
    show Go p.tables e below _ (T106.setTop (mkF m 15 #[.val (.long q1), .second, .val (.int p1), .val (.int (0 : Int32)), .val (.ref b101), .unset, .unset, .unset, .unset, .unset, .unset] []))
    refine Go.step (fun _ kt => XS.aload X106.here hx rfl (hb hby at_15) rfl rfl kt) ?_
    show Go p.tables e below _ (T106.setTop (mkF m 17 #[.val (.long q1), .second, .val (.int p1), .val (.int (0 : Int32)), .val (.ref b101), .unset, .unset, .unset, .unset, .unset, .unset] [(.ref b101)]))
    refine Go.step (fun _ kt => XS.iloadN X106.here hx rfl (hb hby at_17) rfl kt) ?_
    show Go p.tables e below _ (T106.setTop (mkF m 18 #[.val (.long q1), .second, .val (.int p1), .val (.int (0 : Int32)), .val (.ref b101), .unset, .unset, .unset, .unset, .unset, .unset] [(.int (0 : Int32)), (.ref b101)]))
    obtain ⟨cq113, kq113, q113a, q113b, q113c⟩ := isOf hZ rfl P107
    obtain ⟨_, _, ⟨T113, L113, k113, n113⟩, -, X113, ⟨Lc113, hQ113, l113, y113, z113⟩, st113⟩ := X106.virtualBack hx (y := (⟨"com/example/sibyl/sibyl/core/BlockHash", "bit", "(I)I"⟩ : MethodName)) (z := (⟨"com/example/sibyl/sibyl/core/BlockHash", "bit", "(I)I"⟩ : MethodName)) hown (mvT hZ (hw _ (List.mem_of_getElem? (i := 16) rfl))) (mvT hZ (hw _ (List.mem_of_getElem? (i := 17) rfl))) (notFace_of_selects (args := #[]) (mvT hZ (hw _ (List.mem_of_getElem? (i := 19) rfl)))) (mvT hZ (hw _ (List.mem_of_getElem? (i := 19) rfl))) (mvT hZ (hw _ (List.mem_of_getElem? (i := 18) rfl))) (by decide) (backOf (W := 0) (rmb0 l Z a0 hw [] b101 q1 sa sk T106.heap n0 Z112 P108 F109 F110 ) hZ (hw _ (List.mem_of_getElem? (i := 20) rfl)) (hw _ (List.mem_of_getElem? (i := 2) rfl)) (by decide) (by decide)) q113a q113c (g := (mkF m 18 #[.val (.long q1), .second, .val (.int p1), .val (.int (0 : Int32)), .val (.ref b101), .unset, .unset, .unset, .unset, .unset, .unset] [(.int (0 : Int32)), (.ref b101)])) rfl (by rw [hml]; rfl) (Steps.refl _) (argsL := [(.int (0 : Int32))]) (rest := []) (lenOf pd_2 rfl) rfl (by show 2 * 0 + _ ≤ _; exact Nat.le_of_eq rfl) (hb hby at_18) (fun _ _ => ⟨rfl, rfl, (by decide : 1 + 0 ≤ _), (by decide : 1 + 0 ≤ _)⟩)
    dsimp only [Pt.U, Pt.locs, Pt.cells, Pt.slots] at X113 l113 y113 z113 st113 hQ113
    subst l113 y113 z113
    obtain ⟨rfl, N113q, eh113⟩ := hQ113
    have N113 := Fr.app N106 N113q
    refine Go.step (fun _ kt => st113.trans kt) ?_
    show Go p.tables e below _ (T113.setTop (mkF m 21 #[.val (.long q1), .second, .val (.int p1), .val (.int (0 : Int32)), .val (.ref b101), .unset, .unset, .unset, .unset, .unset, .unset] [(.int (own_bit q1 (1203114875 : Int32)))]))
    obtain ⟨got, e_got⟩ : ∃ nm_, nm_ = (own_bit q1 (1203114875 : Int32)) := ⟨_, rfl⟩
    rw [← e_got]
    show Go p.tables e below _ (T113.setTop (mkF m 21 #[.val (.long q1), .second, .val (.int p1), .val (.int (0 : Int32)), .val (.ref b101), .unset, .unset, .unset, .unset, .unset, .unset] [(.int got)]))
    refine Go.step (fun _ kt => XS.istore X113.here hx rfl (hb hby at_21) rfl (l' := #[.val (.long q1), .second, .val (.int p1), .val (.int (0 : Int32)), .val (.ref b101), .val (.int got), .unset, .unset, .unset, .unset, .unset]) rfl kt) ?_
    show Go p.tables e below _ (T113.setTop (mkF m 23 #[.val (.long q1), .second, .val (.int p1), .val (.int (0 : Int32)), .val (.ref b101), .val (.int got), .unset, .unset, .unset, .unset, .unset] []))
    refine Go.step (fun _ kt => XS.lloadN X113.here hx rfl (hb hby at_23) rfl kt) ?_
    show Go p.tables e below _ (T113.setTop (mkF m 24 #[.val (.long q1), .second, .val (.int p1), .val (.int (0 : Int32)), .val (.ref b101), .val (.int got), .unset, .unset, .unset, .unset, .unset] [(.long q1)]))
    refine Go.step (X113.ldc2Long hx hown (mvT hZ (hw _ (List.mem_of_getElem? (i := 23) rfl))) (g := (mkF m 24 #[.val (.long q1), .second, .val (.int p1), .val (.int (0 : Int32)), .val (.ref b101), .val (.int got), .unset, .unset, .unset, .unset, .unset] [(.long q1)])) rfl (hb hby at_24)) ?_
    show Go p.tables e below _ (T113.setTop (mkF m 27 #[.val (.long q1), .second, .val (.int p1), .val (.int (0 : Int32)), .val (.ref b101), .val (.int got), .unset, .unset, .unset, .unset, .unset] [(.long (4294967295 : Int64)), (.long q1)]))
    refine Go.step (fun _ kt => XS.land X113.here hx rfl (hb hby at_27) rfl kt) ?_
    show Go p.tables e below _ (T113.setTop (mkF m 28 #[.val (.long q1), .second, .val (.int p1), .val (.int (0 : Int32)), .val (.ref b101), .val (.int got), .unset, .unset, .unset, .unset, .unset] [(.long (q1 &&& (4294967295 : Int64)))]))
    refine Go.step (fun _ kt => XS.lstore X113.here hx rfl (hb hby at_28) rfl (l' := #[.val (.long q1), .second, .val (.int p1), .val (.int (0 : Int32)), .val (.ref b101), .val (.int got), .val (.long (q1 &&& (4294967295 : Int64))), .second, .unset, .unset, .unset]) rfl kt) ?_
    show Go p.tables e below _ (T113.setTop (mkF m 30 #[.val (.long q1), .second, .val (.int p1), .val (.int (0 : Int32)), .val (.ref b101), .val (.int got), .val (.long (q1 &&& (4294967295 : Int64))), .second, .unset, .unset, .unset] []))
    refine Go.step (fun _ kt => XS.lload X113.here hx rfl (hb hby at_30) rfl kt) ?_
    show Go p.tables e below _ (T113.setTop (mkF m 32 #[.val (.long q1), .second, .val (.int p1), .val (.int (0 : Int32)), .val (.ref b101), .val (.int got), .val (.long (q1 &&& (4294967295 : Int64))), .second, .unset, .unset, .unset] [(.long (q1 &&& (4294967295 : Int64)))]))
    refine Go.step (fun _ kt => XS.iloadN X113.here hx rfl (hb hby at_32) rfl kt) ?_
    show Go p.tables e below _ (T113.setTop (mkF m 33 #[.val (.long q1), .second, .val (.int p1), .val (.int (0 : Int32)), .val (.ref b101), .val (.int got), .val (.long (q1 &&& (4294967295 : Int64))), .second, .unset, .unset, .unset] [(.int (0 : Int32)), (.long (q1 &&& (4294967295 : Int64)))]))
    obtain ⟨_, _, ⟨T114, L114, k114, n114⟩, -, X114, ⟨Lc114, hQ114, l114, y114, z114⟩, st114⟩ := Jvm.LawKit.callS X113 hx (y := (⟨"com/example/sibyl/sibyl/core/BlockHashBitPinLaw", "salt", "(I)J"⟩ : MethodName)) hown (mvT hZ (hw _ (List.mem_of_getElem? (i := 24) rfl))) (mvT hZ (hw _ (List.mem_of_getElem? (i := 25) rfl))) (mvT hZ (hw _ (List.mem_of_getElem? (i := 26) rfl))) (mvT hZ (hw _ (List.mem_of_getElem? (i := 27) rfl))) (by decide) (backOf (W := 2) (rm5 l Z a0 hw [] (0 : Int32)  T106.heap n0 Z112  ) hZ (hw _ (List.mem_of_getElem? (i := 27) rfl)) (hw _ (List.mem_of_getElem? (i := 26) rfl)) (by decide) (by decide)) (g := (mkF m 33 #[.val (.long q1), .second, .val (.int p1), .val (.int (0 : Int32)), .val (.ref b101), .val (.int got), .val (.long (q1 &&& (4294967295 : Int64))), .second, .unset, .unset, .unset] [(.int (0 : Int32)), (.long (q1 &&& (4294967295 : Int64)))])) rfl (by rw [hml]; rfl) (argsL := [(.int (0 : Int32))]) (rest := [(.long (q1 &&& (4294967295 : Int64)))]) (lenOf pd_3 rfl) rfl (by show 2 * 0 + _ ≤ _; exact Nat.le_of_eq rfl) (hb hby at_33) (fun _ _ => ⟨rfl, eh113, (by decide : 1 + 0 ≤ _), (by decide : 1 + 0 ≤ _)⟩)
    dsimp only [Pt.U, Pt.locs, Pt.cells, Pt.slots] at X114 l114 y114 z114 st114 hQ114
    subst l114 y114 z114
    obtain ⟨rfl, N114q, eh114⟩ := hQ114
    have N114 := Fr.app N113 N114q
    refine Go.step st114 ?_
    show Go p.tables e below _ (T114.setTop (mkF m 36 #[.val (.long q1), .second, .val (.int p1), .val (.int (0 : Int32)), .val (.ref b101), .val (.int got), .val (.long (q1 &&& (4294967295 : Int64))), .second, .unset, .unset, .unset] [(.long (own_salt (0 : Int32))), (.long (q1 &&& (4294967295 : Int64)))]))
    have q115 : (own_salt (0 : Int32)) = (1203114875 : Int64) := rfl
    rw [q115]
    show Go p.tables e below _ (T114.setTop (mkF m 36 #[.val (.long q1), .second, .val (.int p1), .val (.int (0 : Int32)), .val (.ref b101), .val (.int got), .val (.long (q1 &&& (4294967295 : Int64))), .second, .unset, .unset, .unset] [(.long (1203114875 : Int64)), (.long (q1 &&& (4294967295 : Int64)))]))
    refine Go.step (fun _ kt => XS.lmul X114.here hx rfl (hb hby at_36) rfl kt) ?_
    show Go p.tables e below _ (T114.setTop (mkF m 37 #[.val (.long q1), .second, .val (.int p1), .val (.int (0 : Int32)), .val (.ref b101), .val (.int got), .val (.long (q1 &&& (4294967295 : Int64))), .second, .unset, .unset, .unset] [(.long ((q1 &&& (4294967295 : Int64)) * (1203114875 : Int64)))]))
    refine Go.step (X114.ldc2Long hx hown (mvT hZ (hw _ (List.mem_of_getElem? (i := 23) rfl))) (g := (mkF m 37 #[.val (.long q1), .second, .val (.int p1), .val (.int (0 : Int32)), .val (.ref b101), .val (.int got), .val (.long (q1 &&& (4294967295 : Int64))), .second, .unset, .unset, .unset] [(.long ((q1 &&& (4294967295 : Int64)) * (1203114875 : Int64)))])) rfl (hb hby at_37)) ?_
    show Go p.tables e below _ (T114.setTop (mkF m 40 #[.val (.long q1), .second, .val (.int p1), .val (.int (0 : Int32)), .val (.ref b101), .val (.int got), .val (.long (q1 &&& (4294967295 : Int64))), .second, .unset, .unset, .unset] [(.long (4294967295 : Int64)), (.long ((q1 &&& (4294967295 : Int64)) * (1203114875 : Int64)))]))
    refine Go.step (fun _ kt => XS.land X114.here hx rfl (hb hby at_40) rfl kt) ?_
    show Go p.tables e below _ (T114.setTop (mkF m 41 #[.val (.long q1), .second, .val (.int p1), .val (.int (0 : Int32)), .val (.ref b101), .val (.int got), .val (.long (q1 &&& (4294967295 : Int64))), .second, .unset, .unset, .unset] [(.long (((q1 &&& (4294967295 : Int64)) * (1203114875 : Int64)) &&& (4294967295 : Int64)))]))
    refine Go.step (fun _ kt => XS.lstore X114.here hx rfl (hb hby at_41) rfl (l' := #[.val (.long q1), .second, .val (.int p1), .val (.int (0 : Int32)), .val (.ref b101), .val (.int got), .val (.long (q1 &&& (4294967295 : Int64))), .second, .val (.long (((q1 &&& (4294967295 : Int64)) * (1203114875 : Int64)) &&& (4294967295 : Int64))), .second, .unset]) rfl kt) ?_
    show Go p.tables e below _ (T114.setTop (mkF m 43 #[.val (.long q1), .second, .val (.int p1), .val (.int (0 : Int32)), .val (.ref b101), .val (.int got), .val (.long (q1 &&& (4294967295 : Int64))), .second, .val (.long (((q1 &&& (4294967295 : Int64)) * (1203114875 : Int64)) &&& (4294967295 : Int64))), .second, .unset] []))
    refine Go.step (fun _ kt => XS.lload X114.here hx rfl (hb hby at_43) rfl kt) ?_
    show Go p.tables e below _ (T114.setTop (mkF m 45 #[.val (.long q1), .second, .val (.int p1), .val (.int (0 : Int32)), .val (.ref b101), .val (.int got), .val (.long (q1 &&& (4294967295 : Int64))), .second, .val (.long (((q1 &&& (4294967295 : Int64)) * (1203114875 : Int64)) &&& (4294967295 : Int64))), .second, .unset] [(.long (((q1 &&& (4294967295 : Int64)) * (1203114875 : Int64)) &&& (4294967295 : Int64)))]))
    refine Go.step (fun _ kt => XS.bipush X114.here hx rfl (hb hby at_45) kt) ?_
    show Go p.tables e below _ (T114.setTop (mkF m 47 #[.val (.long q1), .second, .val (.int p1), .val (.int (0 : Int32)), .val (.ref b101), .val (.int got), .val (.long (q1 &&& (4294967295 : Int64))), .second, .val (.long (((q1 &&& (4294967295 : Int64)) * (1203114875 : Int64)) &&& (4294967295 : Int64))), .second, .unset] [(.int (27 : Int32)), (.long (((q1 &&& (4294967295 : Int64)) * (1203114875 : Int64)) &&& (4294967295 : Int64)))]))
    refine Go.step (fun _ kt => XS.lushr X114.here hx rfl (hb hby at_47) rfl kt) ?_
    show Go p.tables e below _ (T114.setTop (mkF m 48 #[.val (.long q1), .second, .val (.int p1), .val (.int (0 : Int32)), .val (.ref b101), .val (.int got), .val (.long (q1 &&& (4294967295 : Int64))), .second, .val (.long (((q1 &&& (4294967295 : Int64)) * (1203114875 : Int64)) &&& (4294967295 : Int64))), .second, .unset] [(.long (((((q1 &&& (4294967295 : Int64)) * (1203114875 : Int64)) &&& (4294967295 : Int64)).toUInt64 >>> ((27 : Int32) &&& 0x3f).toInt64.toUInt64).toInt64))]))
    refine Go.step (fun _ kt => XS.l2i X114.here hx rfl (hb hby at_48) rfl kt) ?_
    show Go p.tables e below _ (T114.setTop (mkF m 49 #[.val (.long q1), .second, .val (.int p1), .val (.int (0 : Int32)), .val (.ref b101), .val (.int got), .val (.long (q1 &&& (4294967295 : Int64))), .second, .val (.long (((q1 &&& (4294967295 : Int64)) * (1203114875 : Int64)) &&& (4294967295 : Int64))), .second, .unset] [(.int ((((((q1 &&& (4294967295 : Int64)) * (1203114875 : Int64)) &&& (4294967295 : Int64)).toUInt64 >>> ((27 : Int32) &&& 0x3f).toInt64.toUInt64).toInt64).toInt32))]))
    have e_all := own_eq q1 (1203114875 : Int32) (1203114875 : Int64) (by decide)
    rw [← e_got] at e_all
    have q116 : ((((((q1 &&& (4294967295 : Int64)) * (1203114875 : Int64)) &&& (4294967295 : Int64)).toUInt64 >>> ((27 : Int32) &&& 0x3f).toInt64.toUInt64).toInt64).toInt32) = got := e_all.1.symm
    rw [q116]
    show Go p.tables e below _ (T114.setTop (mkF m 49 #[.val (.long q1), .second, .val (.int p1), .val (.int (0 : Int32)), .val (.ref b101), .val (.int got), .val (.long (q1 &&& (4294967295 : Int64))), .second, .val (.long (((q1 &&& (4294967295 : Int64)) * (1203114875 : Int64)) &&& (4294967295 : Int64))), .second, .unset] [(.int got)]))
    refine Go.step (fun _ kt => XS.istore X114.here hx rfl (hb hby at_49) rfl (l' := #[.val (.long q1), .second, .val (.int p1), .val (.int (0 : Int32)), .val (.ref b101), .val (.int got), .val (.long (q1 &&& (4294967295 : Int64))), .second, .val (.long (((q1 &&& (4294967295 : Int64)) * (1203114875 : Int64)) &&& (4294967295 : Int64))), .second, .val (.int got)]) rfl kt) ?_
    show Go p.tables e below _ (T114.setTop (mkF m 51 #[.val (.long q1), .second, .val (.int p1), .val (.int (0 : Int32)), .val (.ref b101), .val (.int got), .val (.long (q1 &&& (4294967295 : Int64))), .second, .val (.long (((q1 &&& (4294967295 : Int64)) * (1203114875 : Int64)) &&& (4294967295 : Int64))), .second, .val (.int got)] []))
    refine Go.step (fun _ kt => XS.iload X114.here hx rfl (hb hby at_51) rfl kt) ?_
    show Go p.tables e below _ (T114.setTop (mkF m 53 #[.val (.long q1), .second, .val (.int p1), .val (.int (0 : Int32)), .val (.ref b101), .val (.int got), .val (.long (q1 &&& (4294967295 : Int64))), .second, .val (.long (((q1 &&& (4294967295 : Int64)) * (1203114875 : Int64)) &&& (4294967295 : Int64))), .second, .val (.int got)] [(.int got)]))
    refine Go.step (fun _ kt => XS.iload X114.here hx rfl (hb hby at_53) rfl kt) ?_
    show Go p.tables e below _ (T114.setTop (mkF m 55 #[.val (.long q1), .second, .val (.int p1), .val (.int (0 : Int32)), .val (.ref b101), .val (.int got), .val (.long (q1 &&& (4294967295 : Int64))), .second, .val (.long (((q1 &&& (4294967295 : Int64)) * (1203114875 : Int64)) &&& (4294967295 : Int64))), .second, .val (.int got)] [(.int got), (.int got)]))
    refine Go.step (fun _ kt => XS.icmpNo X114.here hx rfl (hb hby at_55) rfl (teq (rfl : got = got)).2 kt) ?_
    show Go p.tables e below _ (T114.setTop (mkF m 58 #[.val (.long q1), .second, .val (.int p1), .val (.int (0 : Int32)), .val (.ref b101), .val (.int got), .val (.long (q1 &&& (4294967295 : Int64))), .second, .val (.long (((q1 &&& (4294967295 : Int64)) * (1203114875 : Int64)) &&& (4294967295 : Int64))), .second, .val (.int got)] []))
    refine Go.step (fun _ kt => XS.iload X114.here hx rfl (hb hby at_58) rfl kt) ?_
    show Go p.tables e below _ (T114.setTop (mkF m 60 #[.val (.long q1), .second, .val (.int p1), .val (.int (0 : Int32)), .val (.ref b101), .val (.int got), .val (.long (q1 &&& (4294967295 : Int64))), .second, .val (.long (((q1 &&& (4294967295 : Int64)) * (1203114875 : Int64)) &&& (4294967295 : Int64))), .second, .val (.int got)] [(.int got)]))
    refine Go.step (fun _ kt => XS.ifNo X114.here hx rfl (hb hby at_60) rfl ((if0 _ _).trans (flt e_all.2.1).1) kt) ?_
    show Go p.tables e below _ (T114.setTop (mkF m 63 #[.val (.long q1), .second, .val (.int p1), .val (.int (0 : Int32)), .val (.ref b101), .val (.int got), .val (.long (q1 &&& (4294967295 : Int64))), .second, .val (.long (((q1 &&& (4294967295 : Int64)) * (1203114875 : Int64)) &&& (4294967295 : Int64))), .second, .val (.int got)] []))
    refine Go.step (fun _ kt => XS.iload X114.here hx rfl (hb hby at_63) rfl kt) ?_
    show Go p.tables e below _ (T114.setTop (mkF m 65 #[.val (.long q1), .second, .val (.int p1), .val (.int (0 : Int32)), .val (.ref b101), .val (.int got), .val (.long (q1 &&& (4294967295 : Int64))), .second, .val (.long (((q1 &&& (4294967295 : Int64)) * (1203114875 : Int64)) &&& (4294967295 : Int64))), .second, .val (.int got)] [(.int got)]))
    refine Go.step (fun _ kt => XS.bipush X114.here hx rfl (hb hby at_65) kt) ?_
    show Go p.tables e below _ (T114.setTop (mkF m 67 #[.val (.long q1), .second, .val (.int p1), .val (.int (0 : Int32)), .val (.ref b101), .val (.int got), .val (.long (q1 &&& (4294967295 : Int64))), .second, .val (.long (((q1 &&& (4294967295 : Int64)) * (1203114875 : Int64)) &&& (4294967295 : Int64))), .second, .val (.int got)] [(.int (31 : Int32)), (.int got)]))
    refine Go.step (fun _ kt => XS.icmpNo X114.here hx rfl (hb hby at_67) rfl (flt e_all.2.2).2.2.1 kt) ?_
    show Go p.tables e below _ (T114.setTop (mkF m 70 #[.val (.long q1), .second, .val (.int p1), .val (.int (0 : Int32)), .val (.ref b101), .val (.int got), .val (.long (q1 &&& (4294967295 : Int64))), .second, .val (.long (((q1 &&& (4294967295 : Int64)) * (1203114875 : Int64)) &&& (4294967295 : Int64))), .second, .val (.int got)] []))
    refine Go.step (fun _ kt => XS.iconst X114.here hx rfl (hb hby at_70) kt) ?_
    show Go p.tables e below _ (T114.setTop (mkF m 71 #[.val (.long q1), .second, .val (.int p1), .val (.int (0 : Int32)), .val (.ref b101), .val (.int got), .val (.long (q1 &&& (4294967295 : Int64))), .second, .val (.long (((q1 &&& (4294967295 : Int64)) * (1203114875 : Int64)) &&& (4294967295 : Int64))), .second, .val (.int got)] [(.int (1 : Int32))]))
    refine Go.step (fun _ kt => XS.goto X114.here hx rfl (pc0 := 71) (pc' := 75) rfl (hb hby at_71) (by decide) (by decide) kt) ?_
    show Go p.tables e below _ (T114.setTop (mkF m 75 #[.val (.long q1), .second, .val (.int p1), .val (.int (0 : Int32)), .val (.ref b101), .val (.int got), .val (.long (q1 &&& (4294967295 : Int64))), .second, .val (.long (((q1 &&& (4294967295 : Int64)) * (1203114875 : Int64)) &&& (4294967295 : Int64))), .second, .val (.int got)] [(.int (1 : Int32))]))
    obtain ⟨fs, hr, hrun, hended, hW, hsame⟩ := X114.leave (v := some (.int (1 : Int32))) (fun h => by rw [Bd.returns] at h; cases h)
    refine ⟨_, _, retN X114 hx (t := .boolean) Bd.returns (by simp) (hb hby at_75) hr, hrun, hended, _, _, rfl, ?_, ⟨_, rfl⟩, hW, hsame.mono (by decide) (by decide)⟩
    show Qrm0 Z q1 p1 sa sk h0 n0 _ T114.heap _
    rw [eh114]
    exact ⟨rfl, N114⟩
  · rw [hk]
    show Go p.tables e below _ (s₁.setTop (mkF m 5 #[.val (.long q1), .second, .val (.int p1), .val (.int (1 : Int32)), .unset, .unset, .unset, .unset, .unset, .unset, .unset] []))
    obtain ⟨T117, h117, X117, e117, E117, A117, D117, -, st117⟩ := newO X0 hx hZ hown (hw _ (List.mem_of_getElem? (i := 0) rfl)) (hw _ (List.mem_of_getElem? (i := 1) rfl)) (hw _ (List.mem_of_getElem? (i := 2) rfl)) e0 (g := (mkF m 5 #[.val (.long q1), .second, .val (.int p1), .val (.int (1 : Int32)), .unset, .unset, .unset, .unset, .unset, .unset, .unset] [])) rfl (hb hby at_5) (by decide) (by decide)
    obtain ⟨b117, g117⟩ : ∃ z, z = h0.size := ⟨_, rfl⟩
    rw [← g117] at A117 D117 st117
    refine Go.step st117 ?_
    have ne_sa_b117 : sa ≠ b117 := Nat.ne_of_lt (Nat.lt_of_lt_of_le V1.lt (Nat.le_of_eq g117.symm))
    have g_b117 : n0 ≤ b117 := Nat.le_trans Z0 (Nat.le_of_eq g117.symm)
    have F118 : Sta Z h117 "com/example/sibyl/sibyl/core/BlockHash" "SALTS" "[I" (.ref sa) := (S1.ext E117)
    have F119 : Arv Z h117 sa sk .int (8 : Int32) [(.int (1203114875 : Int32)), (.int (1150766481 : Int32)), (.int (-2010862245 : Int32)), (.int (-1565054819 : Int32)), (.int (1884591559 : Int32)), (.int (770785867 : Int32)), (.int (-1627633337 : Int32)), (.int (1550580529 : Int32))] (.int (0 : Int32)) := (V1.ext E117)
    have Z120 : n0 ≤ h117.size := (Nat.le_trans Z0 E117.1)
    have F121 : Fld Z h117 b117 "com/example/sibyl/sibyl/core/BlockHash" "value" "J" (.long (0 : Int64)) := D117 (Or.inr (hw _ (List.mem_of_getElem? (i := 15) rfl))) (ty := .long) (by decide)
    show Go p.tables e below _ (T117.setTop (mkF m 8 #[.val (.long q1), .second, .val (.int p1), .val (.int (1 : Int32)), .unset, .unset, .unset, .unset, .unset, .unset, .unset] [(.ref b117)]))
    refine Go.step (fun _ kt => XS.dup X117.here hx rfl (hb hby at_8) rfl rfl kt) ?_
    show Go p.tables e below _ (T117.setTop (mkF m 9 #[.val (.long q1), .second, .val (.int p1), .val (.int (1 : Int32)), .unset, .unset, .unset, .unset, .unset, .unset, .unset] [(.ref b117), (.ref b117)]))
    refine Go.step (fun _ kt => XS.lloadN X117.here hx rfl (hb hby at_9) rfl kt) ?_
    show Go p.tables e below _ (T117.setTop (mkF m 10 #[.val (.long q1), .second, .val (.int p1), .val (.int (1 : Int32)), .unset, .unset, .unset, .unset, .unset, .unset, .unset] [(.long q1), (.ref b117), (.ref b117)]))
    obtain ⟨_, _, ⟨T122, L122, k122, n122⟩, -, X122, ⟨Lc122, hQ122, l122, y122, z122⟩, st122⟩ := X117.specialBack hx (y := (⟨"com/example/sibyl/sibyl/core/BlockHash", "<init>", "(J)V"⟩ : MethodName)) rfl hown (mvT hZ (hw _ (List.mem_of_getElem? (i := 3) rfl))) (mvT hZ (hw _ (List.mem_of_getElem? (i := 4) rfl))) (mvT hZ (hw _ (List.mem_of_getElem? (i := 5) rfl))) (by decide) (backOf (W := 1) (rm1 l Z a0 hw [] b117 q1 (.long (0 : Int64)) h117 n0 Z120 A117 F121 g_b117) hZ (hw _ (List.mem_of_getElem? (i := 5) rfl)) (hw _ (List.mem_of_getElem? (i := 2) rfl)) (by decide) (by decide)) (g := (mkF m 10 #[.val (.long q1), .second, .val (.int p1), .val (.int (1 : Int32)), .unset, .unset, .unset, .unset, .unset, .unset, .unset] [(.long q1), (.ref b117), (.ref b117)])) rfl (by rw [hml]; rfl) (Steps.refl _) (a := b117) (argsL := [(.long q1)]) (rest := [(.ref b117)]) (lenOf pd_1 rfl) rfl (by show 2 * 0 + _ ≤ _; exact Nat.le_of_eq rfl) (hb hby at_10) (fun _ _ => ⟨rfl, e117, (by decide : 1 + 0 ≤ _), (by decide : 1 + 0 ≤ _)⟩)
    dsimp only [Pt.U, Pt.locs, Pt.cells, Pt.slots] at X122 l122 y122 z122 st122 hQ122
    subst l122 y122 z122
    obtain ⟨rfl, N122q, Kq122, P123, P124⟩ := hQ122
    have F125 : Sta Z T122.heap "com/example/sibyl/sibyl/core/BlockHash" "SALTS" "[I" (.ref sa) := (own_sta_keep F118 A117 Kq122)
    have F126 : Arv Z T122.heap sa sk .int (8 : Int32) [(.int (1203114875 : Int32)), (.int (1150766481 : Int32)), (.int (-2010862245 : Int32)), (.int (-1565054819 : Int32)), (.int (1884591559 : Int32)), (.int (770785867 : Int32)), (.int (-1627633337 : Int32)), (.int (1550580529 : Int32))] (.int (0 : Int32)) := (F119.keep Kq122 (fun q => ne_sa_b117 (List.mem_singleton.mp q)))
    have F127 : Exa Z T122.heap b117 "com/example/sibyl/sibyl/core/BlockHash" := (A117.keep Kq122)
    have Z128 : n0 ≤ T122.heap.size := (Nat.le_trans Z120 Kq122.1)
    have N122 := Fr.app N0 N122q
    refine Go.step (fun _ kt => st122.trans kt) ?_
    show Go p.tables e below _ (T122.setTop (mkF m 13 #[.val (.long q1), .second, .val (.int p1), .val (.int (1 : Int32)), .unset, .unset, .unset, .unset, .unset, .unset, .unset] [(.ref b117)]))
    refine Go.step (fun _ kt => XS.astore X122.here hx rfl (hb hby at_13) rfl rfl (l' := #[.val (.long q1), .second, .val (.int p1), .val (.int (1 : Int32)), .val (.ref b117), .unset, .unset, .unset, .unset, .unset, .unset]) rfl kt) ?_
    show Go p.tables e below _ (T122.setTop (mkF m 15 #[.val (.long q1), .second, .val (.int p1), .val (.int (1 : Int32)), .val (.ref b117), .unset, .unset, .unset, .unset, .unset, .unset] []))
    refine Go.step (fun _ kt => XS.aload X122.here hx rfl (hb hby at_15) rfl rfl kt) ?_
    show Go p.tables e below _ (T122.setTop (mkF m 17 #[.val (.long q1), .second, .val (.int p1), .val (.int (1 : Int32)), .val (.ref b117), .unset, .unset, .unset, .unset, .unset, .unset] [(.ref b117)]))
    refine Go.step (fun _ kt => XS.iloadN X122.here hx rfl (hb hby at_17) rfl kt) ?_
    show Go p.tables e below _ (T122.setTop (mkF m 18 #[.val (.long q1), .second, .val (.int p1), .val (.int (1 : Int32)), .val (.ref b117), .unset, .unset, .unset, .unset, .unset, .unset] [(.int (1 : Int32)), (.ref b117)]))
    obtain ⟨cq129, kq129, q129a, q129b, q129c⟩ := isOf hZ rfl P123
    obtain ⟨_, _, ⟨T129, L129, k129, n129⟩, -, X129, ⟨Lc129, hQ129, l129, y129, z129⟩, st129⟩ := X122.virtualBack hx (y := (⟨"com/example/sibyl/sibyl/core/BlockHash", "bit", "(I)I"⟩ : MethodName)) (z := (⟨"com/example/sibyl/sibyl/core/BlockHash", "bit", "(I)I"⟩ : MethodName)) hown (mvT hZ (hw _ (List.mem_of_getElem? (i := 16) rfl))) (mvT hZ (hw _ (List.mem_of_getElem? (i := 17) rfl))) (notFace_of_selects (args := #[]) (mvT hZ (hw _ (List.mem_of_getElem? (i := 19) rfl)))) (mvT hZ (hw _ (List.mem_of_getElem? (i := 19) rfl))) (mvT hZ (hw _ (List.mem_of_getElem? (i := 18) rfl))) (by decide) (backOf (W := 0) (rmb1 l Z a0 hw [] b117 q1 sa sk T122.heap n0 Z128 P124 F125 F126 ) hZ (hw _ (List.mem_of_getElem? (i := 20) rfl)) (hw _ (List.mem_of_getElem? (i := 2) rfl)) (by decide) (by decide)) q129a q129c (g := (mkF m 18 #[.val (.long q1), .second, .val (.int p1), .val (.int (1 : Int32)), .val (.ref b117), .unset, .unset, .unset, .unset, .unset, .unset] [(.int (1 : Int32)), (.ref b117)])) rfl (by rw [hml]; rfl) (Steps.refl _) (argsL := [(.int (1 : Int32))]) (rest := []) (lenOf pd_2 rfl) rfl (by show 2 * 0 + _ ≤ _; exact Nat.le_of_eq rfl) (hb hby at_18) (fun _ _ => ⟨rfl, rfl, (by decide : 1 + 0 ≤ _), (by decide : 1 + 0 ≤ _)⟩)
    dsimp only [Pt.U, Pt.locs, Pt.cells, Pt.slots] at X129 l129 y129 z129 st129 hQ129
    subst l129 y129 z129
    obtain ⟨rfl, N129q, eh129⟩ := hQ129
    have N129 := Fr.app N122 N129q
    refine Go.step (fun _ kt => st129.trans kt) ?_
    show Go p.tables e below _ (T129.setTop (mkF m 21 #[.val (.long q1), .second, .val (.int p1), .val (.int (1 : Int32)), .val (.ref b117), .unset, .unset, .unset, .unset, .unset, .unset] [(.int (own_bit q1 (1150766481 : Int32)))]))
    obtain ⟨got, e_got⟩ : ∃ nm_, nm_ = (own_bit q1 (1150766481 : Int32)) := ⟨_, rfl⟩
    rw [← e_got]
    show Go p.tables e below _ (T129.setTop (mkF m 21 #[.val (.long q1), .second, .val (.int p1), .val (.int (1 : Int32)), .val (.ref b117), .unset, .unset, .unset, .unset, .unset, .unset] [(.int got)]))
    refine Go.step (fun _ kt => XS.istore X129.here hx rfl (hb hby at_21) rfl (l' := #[.val (.long q1), .second, .val (.int p1), .val (.int (1 : Int32)), .val (.ref b117), .val (.int got), .unset, .unset, .unset, .unset, .unset]) rfl kt) ?_
    show Go p.tables e below _ (T129.setTop (mkF m 23 #[.val (.long q1), .second, .val (.int p1), .val (.int (1 : Int32)), .val (.ref b117), .val (.int got), .unset, .unset, .unset, .unset, .unset] []))
    refine Go.step (fun _ kt => XS.lloadN X129.here hx rfl (hb hby at_23) rfl kt) ?_
    show Go p.tables e below _ (T129.setTop (mkF m 24 #[.val (.long q1), .second, .val (.int p1), .val (.int (1 : Int32)), .val (.ref b117), .val (.int got), .unset, .unset, .unset, .unset, .unset] [(.long q1)]))
    refine Go.step (X129.ldc2Long hx hown (mvT hZ (hw _ (List.mem_of_getElem? (i := 23) rfl))) (g := (mkF m 24 #[.val (.long q1), .second, .val (.int p1), .val (.int (1 : Int32)), .val (.ref b117), .val (.int got), .unset, .unset, .unset, .unset, .unset] [(.long q1)])) rfl (hb hby at_24)) ?_
    show Go p.tables e below _ (T129.setTop (mkF m 27 #[.val (.long q1), .second, .val (.int p1), .val (.int (1 : Int32)), .val (.ref b117), .val (.int got), .unset, .unset, .unset, .unset, .unset] [(.long (4294967295 : Int64)), (.long q1)]))
    refine Go.step (fun _ kt => XS.land X129.here hx rfl (hb hby at_27) rfl kt) ?_
    show Go p.tables e below _ (T129.setTop (mkF m 28 #[.val (.long q1), .second, .val (.int p1), .val (.int (1 : Int32)), .val (.ref b117), .val (.int got), .unset, .unset, .unset, .unset, .unset] [(.long (q1 &&& (4294967295 : Int64)))]))
    refine Go.step (fun _ kt => XS.lstore X129.here hx rfl (hb hby at_28) rfl (l' := #[.val (.long q1), .second, .val (.int p1), .val (.int (1 : Int32)), .val (.ref b117), .val (.int got), .val (.long (q1 &&& (4294967295 : Int64))), .second, .unset, .unset, .unset]) rfl kt) ?_
    show Go p.tables e below _ (T129.setTop (mkF m 30 #[.val (.long q1), .second, .val (.int p1), .val (.int (1 : Int32)), .val (.ref b117), .val (.int got), .val (.long (q1 &&& (4294967295 : Int64))), .second, .unset, .unset, .unset] []))
    refine Go.step (fun _ kt => XS.lload X129.here hx rfl (hb hby at_30) rfl kt) ?_
    show Go p.tables e below _ (T129.setTop (mkF m 32 #[.val (.long q1), .second, .val (.int p1), .val (.int (1 : Int32)), .val (.ref b117), .val (.int got), .val (.long (q1 &&& (4294967295 : Int64))), .second, .unset, .unset, .unset] [(.long (q1 &&& (4294967295 : Int64)))]))
    refine Go.step (fun _ kt => XS.iloadN X129.here hx rfl (hb hby at_32) rfl kt) ?_
    show Go p.tables e below _ (T129.setTop (mkF m 33 #[.val (.long q1), .second, .val (.int p1), .val (.int (1 : Int32)), .val (.ref b117), .val (.int got), .val (.long (q1 &&& (4294967295 : Int64))), .second, .unset, .unset, .unset] [(.int (1 : Int32)), (.long (q1 &&& (4294967295 : Int64)))]))
    obtain ⟨_, _, ⟨T130, L130, k130, n130⟩, -, X130, ⟨Lc130, hQ130, l130, y130, z130⟩, st130⟩ := Jvm.LawKit.callS X129 hx (y := (⟨"com/example/sibyl/sibyl/core/BlockHashBitPinLaw", "salt", "(I)J"⟩ : MethodName)) hown (mvT hZ (hw _ (List.mem_of_getElem? (i := 24) rfl))) (mvT hZ (hw _ (List.mem_of_getElem? (i := 25) rfl))) (mvT hZ (hw _ (List.mem_of_getElem? (i := 26) rfl))) (mvT hZ (hw _ (List.mem_of_getElem? (i := 27) rfl))) (by decide) (backOf (W := 2) (rm5 l Z a0 hw [] (1 : Int32)  T122.heap n0 Z128  ) hZ (hw _ (List.mem_of_getElem? (i := 27) rfl)) (hw _ (List.mem_of_getElem? (i := 26) rfl)) (by decide) (by decide)) (g := (mkF m 33 #[.val (.long q1), .second, .val (.int p1), .val (.int (1 : Int32)), .val (.ref b117), .val (.int got), .val (.long (q1 &&& (4294967295 : Int64))), .second, .unset, .unset, .unset] [(.int (1 : Int32)), (.long (q1 &&& (4294967295 : Int64)))])) rfl (by rw [hml]; rfl) (argsL := [(.int (1 : Int32))]) (rest := [(.long (q1 &&& (4294967295 : Int64)))]) (lenOf pd_3 rfl) rfl (by show 2 * 0 + _ ≤ _; exact Nat.le_of_eq rfl) (hb hby at_33) (fun _ _ => ⟨rfl, eh129, (by decide : 1 + 0 ≤ _), (by decide : 1 + 0 ≤ _)⟩)
    dsimp only [Pt.U, Pt.locs, Pt.cells, Pt.slots] at X130 l130 y130 z130 st130 hQ130
    subst l130 y130 z130
    obtain ⟨rfl, N130q, eh130⟩ := hQ130
    have N130 := Fr.app N129 N130q
    refine Go.step st130 ?_
    show Go p.tables e below _ (T130.setTop (mkF m 36 #[.val (.long q1), .second, .val (.int p1), .val (.int (1 : Int32)), .val (.ref b117), .val (.int got), .val (.long (q1 &&& (4294967295 : Int64))), .second, .unset, .unset, .unset] [(.long (own_salt (1 : Int32))), (.long (q1 &&& (4294967295 : Int64)))]))
    have q131 : (own_salt (1 : Int32)) = (1150766481 : Int64) := rfl
    rw [q131]
    show Go p.tables e below _ (T130.setTop (mkF m 36 #[.val (.long q1), .second, .val (.int p1), .val (.int (1 : Int32)), .val (.ref b117), .val (.int got), .val (.long (q1 &&& (4294967295 : Int64))), .second, .unset, .unset, .unset] [(.long (1150766481 : Int64)), (.long (q1 &&& (4294967295 : Int64)))]))
    refine Go.step (fun _ kt => XS.lmul X130.here hx rfl (hb hby at_36) rfl kt) ?_
    show Go p.tables e below _ (T130.setTop (mkF m 37 #[.val (.long q1), .second, .val (.int p1), .val (.int (1 : Int32)), .val (.ref b117), .val (.int got), .val (.long (q1 &&& (4294967295 : Int64))), .second, .unset, .unset, .unset] [(.long ((q1 &&& (4294967295 : Int64)) * (1150766481 : Int64)))]))
    refine Go.step (X130.ldc2Long hx hown (mvT hZ (hw _ (List.mem_of_getElem? (i := 23) rfl))) (g := (mkF m 37 #[.val (.long q1), .second, .val (.int p1), .val (.int (1 : Int32)), .val (.ref b117), .val (.int got), .val (.long (q1 &&& (4294967295 : Int64))), .second, .unset, .unset, .unset] [(.long ((q1 &&& (4294967295 : Int64)) * (1150766481 : Int64)))])) rfl (hb hby at_37)) ?_
    show Go p.tables e below _ (T130.setTop (mkF m 40 #[.val (.long q1), .second, .val (.int p1), .val (.int (1 : Int32)), .val (.ref b117), .val (.int got), .val (.long (q1 &&& (4294967295 : Int64))), .second, .unset, .unset, .unset] [(.long (4294967295 : Int64)), (.long ((q1 &&& (4294967295 : Int64)) * (1150766481 : Int64)))]))
    refine Go.step (fun _ kt => XS.land X130.here hx rfl (hb hby at_40) rfl kt) ?_
    show Go p.tables e below _ (T130.setTop (mkF m 41 #[.val (.long q1), .second, .val (.int p1), .val (.int (1 : Int32)), .val (.ref b117), .val (.int got), .val (.long (q1 &&& (4294967295 : Int64))), .second, .unset, .unset, .unset] [(.long (((q1 &&& (4294967295 : Int64)) * (1150766481 : Int64)) &&& (4294967295 : Int64)))]))
    refine Go.step (fun _ kt => XS.lstore X130.here hx rfl (hb hby at_41) rfl (l' := #[.val (.long q1), .second, .val (.int p1), .val (.int (1 : Int32)), .val (.ref b117), .val (.int got), .val (.long (q1 &&& (4294967295 : Int64))), .second, .val (.long (((q1 &&& (4294967295 : Int64)) * (1150766481 : Int64)) &&& (4294967295 : Int64))), .second, .unset]) rfl kt) ?_
    show Go p.tables e below _ (T130.setTop (mkF m 43 #[.val (.long q1), .second, .val (.int p1), .val (.int (1 : Int32)), .val (.ref b117), .val (.int got), .val (.long (q1 &&& (4294967295 : Int64))), .second, .val (.long (((q1 &&& (4294967295 : Int64)) * (1150766481 : Int64)) &&& (4294967295 : Int64))), .second, .unset] []))
    refine Go.step (fun _ kt => XS.lload X130.here hx rfl (hb hby at_43) rfl kt) ?_
    show Go p.tables e below _ (T130.setTop (mkF m 45 #[.val (.long q1), .second, .val (.int p1), .val (.int (1 : Int32)), .val (.ref b117), .val (.int got), .val (.long (q1 &&& (4294967295 : Int64))), .second, .val (.long (((q1 &&& (4294967295 : Int64)) * (1150766481 : Int64)) &&& (4294967295 : Int64))), .second, .unset] [(.long (((q1 &&& (4294967295 : Int64)) * (1150766481 : Int64)) &&& (4294967295 : Int64)))]))
    refine Go.step (fun _ kt => XS.bipush X130.here hx rfl (hb hby at_45) kt) ?_
    show Go p.tables e below _ (T130.setTop (mkF m 47 #[.val (.long q1), .second, .val (.int p1), .val (.int (1 : Int32)), .val (.ref b117), .val (.int got), .val (.long (q1 &&& (4294967295 : Int64))), .second, .val (.long (((q1 &&& (4294967295 : Int64)) * (1150766481 : Int64)) &&& (4294967295 : Int64))), .second, .unset] [(.int (27 : Int32)), (.long (((q1 &&& (4294967295 : Int64)) * (1150766481 : Int64)) &&& (4294967295 : Int64)))]))
    refine Go.step (fun _ kt => XS.lushr X130.here hx rfl (hb hby at_47) rfl kt) ?_
    show Go p.tables e below _ (T130.setTop (mkF m 48 #[.val (.long q1), .second, .val (.int p1), .val (.int (1 : Int32)), .val (.ref b117), .val (.int got), .val (.long (q1 &&& (4294967295 : Int64))), .second, .val (.long (((q1 &&& (4294967295 : Int64)) * (1150766481 : Int64)) &&& (4294967295 : Int64))), .second, .unset] [(.long (((((q1 &&& (4294967295 : Int64)) * (1150766481 : Int64)) &&& (4294967295 : Int64)).toUInt64 >>> ((27 : Int32) &&& 0x3f).toInt64.toUInt64).toInt64))]))
    refine Go.step (fun _ kt => XS.l2i X130.here hx rfl (hb hby at_48) rfl kt) ?_
    show Go p.tables e below _ (T130.setTop (mkF m 49 #[.val (.long q1), .second, .val (.int p1), .val (.int (1 : Int32)), .val (.ref b117), .val (.int got), .val (.long (q1 &&& (4294967295 : Int64))), .second, .val (.long (((q1 &&& (4294967295 : Int64)) * (1150766481 : Int64)) &&& (4294967295 : Int64))), .second, .unset] [(.int ((((((q1 &&& (4294967295 : Int64)) * (1150766481 : Int64)) &&& (4294967295 : Int64)).toUInt64 >>> ((27 : Int32) &&& 0x3f).toInt64.toUInt64).toInt64).toInt32))]))
    have e_all := own_eq q1 (1150766481 : Int32) (1150766481 : Int64) (by decide)
    rw [← e_got] at e_all
    have q132 : ((((((q1 &&& (4294967295 : Int64)) * (1150766481 : Int64)) &&& (4294967295 : Int64)).toUInt64 >>> ((27 : Int32) &&& 0x3f).toInt64.toUInt64).toInt64).toInt32) = got := e_all.1.symm
    rw [q132]
    show Go p.tables e below _ (T130.setTop (mkF m 49 #[.val (.long q1), .second, .val (.int p1), .val (.int (1 : Int32)), .val (.ref b117), .val (.int got), .val (.long (q1 &&& (4294967295 : Int64))), .second, .val (.long (((q1 &&& (4294967295 : Int64)) * (1150766481 : Int64)) &&& (4294967295 : Int64))), .second, .unset] [(.int got)]))
    refine Go.step (fun _ kt => XS.istore X130.here hx rfl (hb hby at_49) rfl (l' := #[.val (.long q1), .second, .val (.int p1), .val (.int (1 : Int32)), .val (.ref b117), .val (.int got), .val (.long (q1 &&& (4294967295 : Int64))), .second, .val (.long (((q1 &&& (4294967295 : Int64)) * (1150766481 : Int64)) &&& (4294967295 : Int64))), .second, .val (.int got)]) rfl kt) ?_
    show Go p.tables e below _ (T130.setTop (mkF m 51 #[.val (.long q1), .second, .val (.int p1), .val (.int (1 : Int32)), .val (.ref b117), .val (.int got), .val (.long (q1 &&& (4294967295 : Int64))), .second, .val (.long (((q1 &&& (4294967295 : Int64)) * (1150766481 : Int64)) &&& (4294967295 : Int64))), .second, .val (.int got)] []))
    refine Go.step (fun _ kt => XS.iload X130.here hx rfl (hb hby at_51) rfl kt) ?_
    show Go p.tables e below _ (T130.setTop (mkF m 53 #[.val (.long q1), .second, .val (.int p1), .val (.int (1 : Int32)), .val (.ref b117), .val (.int got), .val (.long (q1 &&& (4294967295 : Int64))), .second, .val (.long (((q1 &&& (4294967295 : Int64)) * (1150766481 : Int64)) &&& (4294967295 : Int64))), .second, .val (.int got)] [(.int got)]))
    refine Go.step (fun _ kt => XS.iload X130.here hx rfl (hb hby at_53) rfl kt) ?_
    show Go p.tables e below _ (T130.setTop (mkF m 55 #[.val (.long q1), .second, .val (.int p1), .val (.int (1 : Int32)), .val (.ref b117), .val (.int got), .val (.long (q1 &&& (4294967295 : Int64))), .second, .val (.long (((q1 &&& (4294967295 : Int64)) * (1150766481 : Int64)) &&& (4294967295 : Int64))), .second, .val (.int got)] [(.int got), (.int got)]))
    refine Go.step (fun _ kt => XS.icmpNo X130.here hx rfl (hb hby at_55) rfl (teq (rfl : got = got)).2 kt) ?_
    show Go p.tables e below _ (T130.setTop (mkF m 58 #[.val (.long q1), .second, .val (.int p1), .val (.int (1 : Int32)), .val (.ref b117), .val (.int got), .val (.long (q1 &&& (4294967295 : Int64))), .second, .val (.long (((q1 &&& (4294967295 : Int64)) * (1150766481 : Int64)) &&& (4294967295 : Int64))), .second, .val (.int got)] []))
    refine Go.step (fun _ kt => XS.iload X130.here hx rfl (hb hby at_58) rfl kt) ?_
    show Go p.tables e below _ (T130.setTop (mkF m 60 #[.val (.long q1), .second, .val (.int p1), .val (.int (1 : Int32)), .val (.ref b117), .val (.int got), .val (.long (q1 &&& (4294967295 : Int64))), .second, .val (.long (((q1 &&& (4294967295 : Int64)) * (1150766481 : Int64)) &&& (4294967295 : Int64))), .second, .val (.int got)] [(.int got)]))
    refine Go.step (fun _ kt => XS.ifNo X130.here hx rfl (hb hby at_60) rfl ((if0 _ _).trans (flt e_all.2.1).1) kt) ?_
    show Go p.tables e below _ (T130.setTop (mkF m 63 #[.val (.long q1), .second, .val (.int p1), .val (.int (1 : Int32)), .val (.ref b117), .val (.int got), .val (.long (q1 &&& (4294967295 : Int64))), .second, .val (.long (((q1 &&& (4294967295 : Int64)) * (1150766481 : Int64)) &&& (4294967295 : Int64))), .second, .val (.int got)] []))
    refine Go.step (fun _ kt => XS.iload X130.here hx rfl (hb hby at_63) rfl kt) ?_
    show Go p.tables e below _ (T130.setTop (mkF m 65 #[.val (.long q1), .second, .val (.int p1), .val (.int (1 : Int32)), .val (.ref b117), .val (.int got), .val (.long (q1 &&& (4294967295 : Int64))), .second, .val (.long (((q1 &&& (4294967295 : Int64)) * (1150766481 : Int64)) &&& (4294967295 : Int64))), .second, .val (.int got)] [(.int got)]))
    refine Go.step (fun _ kt => XS.bipush X130.here hx rfl (hb hby at_65) kt) ?_
    show Go p.tables e below _ (T130.setTop (mkF m 67 #[.val (.long q1), .second, .val (.int p1), .val (.int (1 : Int32)), .val (.ref b117), .val (.int got), .val (.long (q1 &&& (4294967295 : Int64))), .second, .val (.long (((q1 &&& (4294967295 : Int64)) * (1150766481 : Int64)) &&& (4294967295 : Int64))), .second, .val (.int got)] [(.int (31 : Int32)), (.int got)]))
    refine Go.step (fun _ kt => XS.icmpNo X130.here hx rfl (hb hby at_67) rfl (flt e_all.2.2).2.2.1 kt) ?_
    show Go p.tables e below _ (T130.setTop (mkF m 70 #[.val (.long q1), .second, .val (.int p1), .val (.int (1 : Int32)), .val (.ref b117), .val (.int got), .val (.long (q1 &&& (4294967295 : Int64))), .second, .val (.long (((q1 &&& (4294967295 : Int64)) * (1150766481 : Int64)) &&& (4294967295 : Int64))), .second, .val (.int got)] []))
    refine Go.step (fun _ kt => XS.iconst X130.here hx rfl (hb hby at_70) kt) ?_
    show Go p.tables e below _ (T130.setTop (mkF m 71 #[.val (.long q1), .second, .val (.int p1), .val (.int (1 : Int32)), .val (.ref b117), .val (.int got), .val (.long (q1 &&& (4294967295 : Int64))), .second, .val (.long (((q1 &&& (4294967295 : Int64)) * (1150766481 : Int64)) &&& (4294967295 : Int64))), .second, .val (.int got)] [(.int (1 : Int32))]))
    refine Go.step (fun _ kt => XS.goto X130.here hx rfl (pc0 := 71) (pc' := 75) rfl (hb hby at_71) (by decide) (by decide) kt) ?_
    show Go p.tables e below _ (T130.setTop (mkF m 75 #[.val (.long q1), .second, .val (.int p1), .val (.int (1 : Int32)), .val (.ref b117), .val (.int got), .val (.long (q1 &&& (4294967295 : Int64))), .second, .val (.long (((q1 &&& (4294967295 : Int64)) * (1150766481 : Int64)) &&& (4294967295 : Int64))), .second, .val (.int got)] [(.int (1 : Int32))]))
    obtain ⟨fs, hr, hrun, hended, hW, hsame⟩ := X130.leave (v := some (.int (1 : Int32))) (fun h => by rw [Bd.returns] at h; cases h)
    refine ⟨_, _, retN X130 hx (t := .boolean) Bd.returns (by simp) (hb hby at_75) hr, hrun, hended, _, _, rfl, ?_, ⟨_, rfl⟩, hW, hsame.mono (by decide) (by decide)⟩
    show Qrm0 Z q1 p1 sa sk h0 n0 _ T130.heap _
    rw [eh130]
    exact ⟨rfl, N130⟩
  · rw [hk]
    show Go p.tables e below _ (s₁.setTop (mkF m 5 #[.val (.long q1), .second, .val (.int p1), .val (.int (2 : Int32)), .unset, .unset, .unset, .unset, .unset, .unset, .unset] []))
    obtain ⟨T133, h133, X133, e133, E133, A133, D133, -, st133⟩ := newO X0 hx hZ hown (hw _ (List.mem_of_getElem? (i := 0) rfl)) (hw _ (List.mem_of_getElem? (i := 1) rfl)) (hw _ (List.mem_of_getElem? (i := 2) rfl)) e0 (g := (mkF m 5 #[.val (.long q1), .second, .val (.int p1), .val (.int (2 : Int32)), .unset, .unset, .unset, .unset, .unset, .unset, .unset] [])) rfl (hb hby at_5) (by decide) (by decide)
    obtain ⟨b133, g133⟩ : ∃ z, z = h0.size := ⟨_, rfl⟩
    rw [← g133] at A133 D133 st133
    refine Go.step st133 ?_
    have ne_sa_b133 : sa ≠ b133 := Nat.ne_of_lt (Nat.lt_of_lt_of_le V1.lt (Nat.le_of_eq g133.symm))
    have g_b133 : n0 ≤ b133 := Nat.le_trans Z0 (Nat.le_of_eq g133.symm)
    have F134 : Sta Z h133 "com/example/sibyl/sibyl/core/BlockHash" "SALTS" "[I" (.ref sa) := (S1.ext E133)
    have F135 : Arv Z h133 sa sk .int (8 : Int32) [(.int (1203114875 : Int32)), (.int (1150766481 : Int32)), (.int (-2010862245 : Int32)), (.int (-1565054819 : Int32)), (.int (1884591559 : Int32)), (.int (770785867 : Int32)), (.int (-1627633337 : Int32)), (.int (1550580529 : Int32))] (.int (0 : Int32)) := (V1.ext E133)
    have Z136 : n0 ≤ h133.size := (Nat.le_trans Z0 E133.1)
    have F137 : Fld Z h133 b133 "com/example/sibyl/sibyl/core/BlockHash" "value" "J" (.long (0 : Int64)) := D133 (Or.inr (hw _ (List.mem_of_getElem? (i := 15) rfl))) (ty := .long) (by decide)
    show Go p.tables e below _ (T133.setTop (mkF m 8 #[.val (.long q1), .second, .val (.int p1), .val (.int (2 : Int32)), .unset, .unset, .unset, .unset, .unset, .unset, .unset] [(.ref b133)]))
    refine Go.step (fun _ kt => XS.dup X133.here hx rfl (hb hby at_8) rfl rfl kt) ?_
    show Go p.tables e below _ (T133.setTop (mkF m 9 #[.val (.long q1), .second, .val (.int p1), .val (.int (2 : Int32)), .unset, .unset, .unset, .unset, .unset, .unset, .unset] [(.ref b133), (.ref b133)]))
    refine Go.step (fun _ kt => XS.lloadN X133.here hx rfl (hb hby at_9) rfl kt) ?_
    show Go p.tables e below _ (T133.setTop (mkF m 10 #[.val (.long q1), .second, .val (.int p1), .val (.int (2 : Int32)), .unset, .unset, .unset, .unset, .unset, .unset, .unset] [(.long q1), (.ref b133), (.ref b133)]))
    obtain ⟨_, _, ⟨T138, L138, k138, n138⟩, -, X138, ⟨Lc138, hQ138, l138, y138, z138⟩, st138⟩ := X133.specialBack hx (y := (⟨"com/example/sibyl/sibyl/core/BlockHash", "<init>", "(J)V"⟩ : MethodName)) rfl hown (mvT hZ (hw _ (List.mem_of_getElem? (i := 3) rfl))) (mvT hZ (hw _ (List.mem_of_getElem? (i := 4) rfl))) (mvT hZ (hw _ (List.mem_of_getElem? (i := 5) rfl))) (by decide) (backOf (W := 1) (rm1 l Z a0 hw [] b133 q1 (.long (0 : Int64)) h133 n0 Z136 A133 F137 g_b133) hZ (hw _ (List.mem_of_getElem? (i := 5) rfl)) (hw _ (List.mem_of_getElem? (i := 2) rfl)) (by decide) (by decide)) (g := (mkF m 10 #[.val (.long q1), .second, .val (.int p1), .val (.int (2 : Int32)), .unset, .unset, .unset, .unset, .unset, .unset, .unset] [(.long q1), (.ref b133), (.ref b133)])) rfl (by rw [hml]; rfl) (Steps.refl _) (a := b133) (argsL := [(.long q1)]) (rest := [(.ref b133)]) (lenOf pd_1 rfl) rfl (by show 2 * 0 + _ ≤ _; exact Nat.le_of_eq rfl) (hb hby at_10) (fun _ _ => ⟨rfl, e133, (by decide : 1 + 0 ≤ _), (by decide : 1 + 0 ≤ _)⟩)
    dsimp only [Pt.U, Pt.locs, Pt.cells, Pt.slots] at X138 l138 y138 z138 st138 hQ138
    subst l138 y138 z138
    obtain ⟨rfl, N138q, Kq138, P139, P140⟩ := hQ138
    have F141 : Sta Z T138.heap "com/example/sibyl/sibyl/core/BlockHash" "SALTS" "[I" (.ref sa) := (own_sta_keep F134 A133 Kq138)
    have F142 : Arv Z T138.heap sa sk .int (8 : Int32) [(.int (1203114875 : Int32)), (.int (1150766481 : Int32)), (.int (-2010862245 : Int32)), (.int (-1565054819 : Int32)), (.int (1884591559 : Int32)), (.int (770785867 : Int32)), (.int (-1627633337 : Int32)), (.int (1550580529 : Int32))] (.int (0 : Int32)) := (F135.keep Kq138 (fun q => ne_sa_b133 (List.mem_singleton.mp q)))
    have F143 : Exa Z T138.heap b133 "com/example/sibyl/sibyl/core/BlockHash" := (A133.keep Kq138)
    have Z144 : n0 ≤ T138.heap.size := (Nat.le_trans Z136 Kq138.1)
    have N138 := Fr.app N0 N138q
    refine Go.step (fun _ kt => st138.trans kt) ?_
    show Go p.tables e below _ (T138.setTop (mkF m 13 #[.val (.long q1), .second, .val (.int p1), .val (.int (2 : Int32)), .unset, .unset, .unset, .unset, .unset, .unset, .unset] [(.ref b133)]))
    refine Go.step (fun _ kt => XS.astore X138.here hx rfl (hb hby at_13) rfl rfl (l' := #[.val (.long q1), .second, .val (.int p1), .val (.int (2 : Int32)), .val (.ref b133), .unset, .unset, .unset, .unset, .unset, .unset]) rfl kt) ?_
    show Go p.tables e below _ (T138.setTop (mkF m 15 #[.val (.long q1), .second, .val (.int p1), .val (.int (2 : Int32)), .val (.ref b133), .unset, .unset, .unset, .unset, .unset, .unset] []))
    refine Go.step (fun _ kt => XS.aload X138.here hx rfl (hb hby at_15) rfl rfl kt) ?_
    show Go p.tables e below _ (T138.setTop (mkF m 17 #[.val (.long q1), .second, .val (.int p1), .val (.int (2 : Int32)), .val (.ref b133), .unset, .unset, .unset, .unset, .unset, .unset] [(.ref b133)]))
    refine Go.step (fun _ kt => XS.iloadN X138.here hx rfl (hb hby at_17) rfl kt) ?_
    show Go p.tables e below _ (T138.setTop (mkF m 18 #[.val (.long q1), .second, .val (.int p1), .val (.int (2 : Int32)), .val (.ref b133), .unset, .unset, .unset, .unset, .unset, .unset] [(.int (2 : Int32)), (.ref b133)]))
    obtain ⟨cq145, kq145, q145a, q145b, q145c⟩ := isOf hZ rfl P139
    obtain ⟨_, _, ⟨T145, L145, k145, n145⟩, -, X145, ⟨Lc145, hQ145, l145, y145, z145⟩, st145⟩ := X138.virtualBack hx (y := (⟨"com/example/sibyl/sibyl/core/BlockHash", "bit", "(I)I"⟩ : MethodName)) (z := (⟨"com/example/sibyl/sibyl/core/BlockHash", "bit", "(I)I"⟩ : MethodName)) hown (mvT hZ (hw _ (List.mem_of_getElem? (i := 16) rfl))) (mvT hZ (hw _ (List.mem_of_getElem? (i := 17) rfl))) (notFace_of_selects (args := #[]) (mvT hZ (hw _ (List.mem_of_getElem? (i := 19) rfl)))) (mvT hZ (hw _ (List.mem_of_getElem? (i := 19) rfl))) (mvT hZ (hw _ (List.mem_of_getElem? (i := 18) rfl))) (by decide) (backOf (W := 0) (rmb2 l Z a0 hw [] b133 q1 sa sk T138.heap n0 Z144 P140 F141 F142 ) hZ (hw _ (List.mem_of_getElem? (i := 20) rfl)) (hw _ (List.mem_of_getElem? (i := 2) rfl)) (by decide) (by decide)) q145a q145c (g := (mkF m 18 #[.val (.long q1), .second, .val (.int p1), .val (.int (2 : Int32)), .val (.ref b133), .unset, .unset, .unset, .unset, .unset, .unset] [(.int (2 : Int32)), (.ref b133)])) rfl (by rw [hml]; rfl) (Steps.refl _) (argsL := [(.int (2 : Int32))]) (rest := []) (lenOf pd_2 rfl) rfl (by show 2 * 0 + _ ≤ _; exact Nat.le_of_eq rfl) (hb hby at_18) (fun _ _ => ⟨rfl, rfl, (by decide : 1 + 0 ≤ _), (by decide : 1 + 0 ≤ _)⟩)
    dsimp only [Pt.U, Pt.locs, Pt.cells, Pt.slots] at X145 l145 y145 z145 st145 hQ145
    subst l145 y145 z145
    obtain ⟨rfl, N145q, eh145⟩ := hQ145
    have N145 := Fr.app N138 N145q
    refine Go.step (fun _ kt => st145.trans kt) ?_
    show Go p.tables e below _ (T145.setTop (mkF m 21 #[.val (.long q1), .second, .val (.int p1), .val (.int (2 : Int32)), .val (.ref b133), .unset, .unset, .unset, .unset, .unset, .unset] [(.int (own_bit q1 (-2010862245 : Int32)))]))
    obtain ⟨got, e_got⟩ : ∃ nm_, nm_ = (own_bit q1 (-2010862245 : Int32)) := ⟨_, rfl⟩
    rw [← e_got]
    show Go p.tables e below _ (T145.setTop (mkF m 21 #[.val (.long q1), .second, .val (.int p1), .val (.int (2 : Int32)), .val (.ref b133), .unset, .unset, .unset, .unset, .unset, .unset] [(.int got)]))
    refine Go.step (fun _ kt => XS.istore X145.here hx rfl (hb hby at_21) rfl (l' := #[.val (.long q1), .second, .val (.int p1), .val (.int (2 : Int32)), .val (.ref b133), .val (.int got), .unset, .unset, .unset, .unset, .unset]) rfl kt) ?_
    show Go p.tables e below _ (T145.setTop (mkF m 23 #[.val (.long q1), .second, .val (.int p1), .val (.int (2 : Int32)), .val (.ref b133), .val (.int got), .unset, .unset, .unset, .unset, .unset] []))
    refine Go.step (fun _ kt => XS.lloadN X145.here hx rfl (hb hby at_23) rfl kt) ?_
    show Go p.tables e below _ (T145.setTop (mkF m 24 #[.val (.long q1), .second, .val (.int p1), .val (.int (2 : Int32)), .val (.ref b133), .val (.int got), .unset, .unset, .unset, .unset, .unset] [(.long q1)]))
    refine Go.step (X145.ldc2Long hx hown (mvT hZ (hw _ (List.mem_of_getElem? (i := 23) rfl))) (g := (mkF m 24 #[.val (.long q1), .second, .val (.int p1), .val (.int (2 : Int32)), .val (.ref b133), .val (.int got), .unset, .unset, .unset, .unset, .unset] [(.long q1)])) rfl (hb hby at_24)) ?_
    show Go p.tables e below _ (T145.setTop (mkF m 27 #[.val (.long q1), .second, .val (.int p1), .val (.int (2 : Int32)), .val (.ref b133), .val (.int got), .unset, .unset, .unset, .unset, .unset] [(.long (4294967295 : Int64)), (.long q1)]))
    refine Go.step (fun _ kt => XS.land X145.here hx rfl (hb hby at_27) rfl kt) ?_
    show Go p.tables e below _ (T145.setTop (mkF m 28 #[.val (.long q1), .second, .val (.int p1), .val (.int (2 : Int32)), .val (.ref b133), .val (.int got), .unset, .unset, .unset, .unset, .unset] [(.long (q1 &&& (4294967295 : Int64)))]))
    refine Go.step (fun _ kt => XS.lstore X145.here hx rfl (hb hby at_28) rfl (l' := #[.val (.long q1), .second, .val (.int p1), .val (.int (2 : Int32)), .val (.ref b133), .val (.int got), .val (.long (q1 &&& (4294967295 : Int64))), .second, .unset, .unset, .unset]) rfl kt) ?_
    show Go p.tables e below _ (T145.setTop (mkF m 30 #[.val (.long q1), .second, .val (.int p1), .val (.int (2 : Int32)), .val (.ref b133), .val (.int got), .val (.long (q1 &&& (4294967295 : Int64))), .second, .unset, .unset, .unset] []))
    refine Go.step (fun _ kt => XS.lload X145.here hx rfl (hb hby at_30) rfl kt) ?_
    show Go p.tables e below _ (T145.setTop (mkF m 32 #[.val (.long q1), .second, .val (.int p1), .val (.int (2 : Int32)), .val (.ref b133), .val (.int got), .val (.long (q1 &&& (4294967295 : Int64))), .second, .unset, .unset, .unset] [(.long (q1 &&& (4294967295 : Int64)))]))
    refine Go.step (fun _ kt => XS.iloadN X145.here hx rfl (hb hby at_32) rfl kt) ?_
    show Go p.tables e below _ (T145.setTop (mkF m 33 #[.val (.long q1), .second, .val (.int p1), .val (.int (2 : Int32)), .val (.ref b133), .val (.int got), .val (.long (q1 &&& (4294967295 : Int64))), .second, .unset, .unset, .unset] [(.int (2 : Int32)), (.long (q1 &&& (4294967295 : Int64)))]))
    obtain ⟨_, _, ⟨T146, L146, k146, n146⟩, -, X146, ⟨Lc146, hQ146, l146, y146, z146⟩, st146⟩ := Jvm.LawKit.callS X145 hx (y := (⟨"com/example/sibyl/sibyl/core/BlockHashBitPinLaw", "salt", "(I)J"⟩ : MethodName)) hown (mvT hZ (hw _ (List.mem_of_getElem? (i := 24) rfl))) (mvT hZ (hw _ (List.mem_of_getElem? (i := 25) rfl))) (mvT hZ (hw _ (List.mem_of_getElem? (i := 26) rfl))) (mvT hZ (hw _ (List.mem_of_getElem? (i := 27) rfl))) (by decide) (backOf (W := 2) (rm5 l Z a0 hw [] (2 : Int32)  T138.heap n0 Z144  ) hZ (hw _ (List.mem_of_getElem? (i := 27) rfl)) (hw _ (List.mem_of_getElem? (i := 26) rfl)) (by decide) (by decide)) (g := (mkF m 33 #[.val (.long q1), .second, .val (.int p1), .val (.int (2 : Int32)), .val (.ref b133), .val (.int got), .val (.long (q1 &&& (4294967295 : Int64))), .second, .unset, .unset, .unset] [(.int (2 : Int32)), (.long (q1 &&& (4294967295 : Int64)))])) rfl (by rw [hml]; rfl) (argsL := [(.int (2 : Int32))]) (rest := [(.long (q1 &&& (4294967295 : Int64)))]) (lenOf pd_3 rfl) rfl (by show 2 * 0 + _ ≤ _; exact Nat.le_of_eq rfl) (hb hby at_33) (fun _ _ => ⟨rfl, eh145, (by decide : 1 + 0 ≤ _), (by decide : 1 + 0 ≤ _)⟩)
    dsimp only [Pt.U, Pt.locs, Pt.cells, Pt.slots] at X146 l146 y146 z146 st146 hQ146
    subst l146 y146 z146
    obtain ⟨rfl, N146q, eh146⟩ := hQ146
    have N146 := Fr.app N145 N146q
    refine Go.step st146 ?_
    show Go p.tables e below _ (T146.setTop (mkF m 36 #[.val (.long q1), .second, .val (.int p1), .val (.int (2 : Int32)), .val (.ref b133), .val (.int got), .val (.long (q1 &&& (4294967295 : Int64))), .second, .unset, .unset, .unset] [(.long (own_salt (2 : Int32))), (.long (q1 &&& (4294967295 : Int64)))]))
    have q147 : (own_salt (2 : Int32)) = (2284105051 : Int64) := rfl
    rw [q147]
    show Go p.tables e below _ (T146.setTop (mkF m 36 #[.val (.long q1), .second, .val (.int p1), .val (.int (2 : Int32)), .val (.ref b133), .val (.int got), .val (.long (q1 &&& (4294967295 : Int64))), .second, .unset, .unset, .unset] [(.long (2284105051 : Int64)), (.long (q1 &&& (4294967295 : Int64)))]))
    refine Go.step (fun _ kt => XS.lmul X146.here hx rfl (hb hby at_36) rfl kt) ?_
    show Go p.tables e below _ (T146.setTop (mkF m 37 #[.val (.long q1), .second, .val (.int p1), .val (.int (2 : Int32)), .val (.ref b133), .val (.int got), .val (.long (q1 &&& (4294967295 : Int64))), .second, .unset, .unset, .unset] [(.long ((q1 &&& (4294967295 : Int64)) * (2284105051 : Int64)))]))
    refine Go.step (X146.ldc2Long hx hown (mvT hZ (hw _ (List.mem_of_getElem? (i := 23) rfl))) (g := (mkF m 37 #[.val (.long q1), .second, .val (.int p1), .val (.int (2 : Int32)), .val (.ref b133), .val (.int got), .val (.long (q1 &&& (4294967295 : Int64))), .second, .unset, .unset, .unset] [(.long ((q1 &&& (4294967295 : Int64)) * (2284105051 : Int64)))])) rfl (hb hby at_37)) ?_
    show Go p.tables e below _ (T146.setTop (mkF m 40 #[.val (.long q1), .second, .val (.int p1), .val (.int (2 : Int32)), .val (.ref b133), .val (.int got), .val (.long (q1 &&& (4294967295 : Int64))), .second, .unset, .unset, .unset] [(.long (4294967295 : Int64)), (.long ((q1 &&& (4294967295 : Int64)) * (2284105051 : Int64)))]))
    refine Go.step (fun _ kt => XS.land X146.here hx rfl (hb hby at_40) rfl kt) ?_
    show Go p.tables e below _ (T146.setTop (mkF m 41 #[.val (.long q1), .second, .val (.int p1), .val (.int (2 : Int32)), .val (.ref b133), .val (.int got), .val (.long (q1 &&& (4294967295 : Int64))), .second, .unset, .unset, .unset] [(.long (((q1 &&& (4294967295 : Int64)) * (2284105051 : Int64)) &&& (4294967295 : Int64)))]))
    refine Go.step (fun _ kt => XS.lstore X146.here hx rfl (hb hby at_41) rfl (l' := #[.val (.long q1), .second, .val (.int p1), .val (.int (2 : Int32)), .val (.ref b133), .val (.int got), .val (.long (q1 &&& (4294967295 : Int64))), .second, .val (.long (((q1 &&& (4294967295 : Int64)) * (2284105051 : Int64)) &&& (4294967295 : Int64))), .second, .unset]) rfl kt) ?_
    show Go p.tables e below _ (T146.setTop (mkF m 43 #[.val (.long q1), .second, .val (.int p1), .val (.int (2 : Int32)), .val (.ref b133), .val (.int got), .val (.long (q1 &&& (4294967295 : Int64))), .second, .val (.long (((q1 &&& (4294967295 : Int64)) * (2284105051 : Int64)) &&& (4294967295 : Int64))), .second, .unset] []))
    refine Go.step (fun _ kt => XS.lload X146.here hx rfl (hb hby at_43) rfl kt) ?_
    show Go p.tables e below _ (T146.setTop (mkF m 45 #[.val (.long q1), .second, .val (.int p1), .val (.int (2 : Int32)), .val (.ref b133), .val (.int got), .val (.long (q1 &&& (4294967295 : Int64))), .second, .val (.long (((q1 &&& (4294967295 : Int64)) * (2284105051 : Int64)) &&& (4294967295 : Int64))), .second, .unset] [(.long (((q1 &&& (4294967295 : Int64)) * (2284105051 : Int64)) &&& (4294967295 : Int64)))]))
    refine Go.step (fun _ kt => XS.bipush X146.here hx rfl (hb hby at_45) kt) ?_
    show Go p.tables e below _ (T146.setTop (mkF m 47 #[.val (.long q1), .second, .val (.int p1), .val (.int (2 : Int32)), .val (.ref b133), .val (.int got), .val (.long (q1 &&& (4294967295 : Int64))), .second, .val (.long (((q1 &&& (4294967295 : Int64)) * (2284105051 : Int64)) &&& (4294967295 : Int64))), .second, .unset] [(.int (27 : Int32)), (.long (((q1 &&& (4294967295 : Int64)) * (2284105051 : Int64)) &&& (4294967295 : Int64)))]))
    refine Go.step (fun _ kt => XS.lushr X146.here hx rfl (hb hby at_47) rfl kt) ?_
    show Go p.tables e below _ (T146.setTop (mkF m 48 #[.val (.long q1), .second, .val (.int p1), .val (.int (2 : Int32)), .val (.ref b133), .val (.int got), .val (.long (q1 &&& (4294967295 : Int64))), .second, .val (.long (((q1 &&& (4294967295 : Int64)) * (2284105051 : Int64)) &&& (4294967295 : Int64))), .second, .unset] [(.long (((((q1 &&& (4294967295 : Int64)) * (2284105051 : Int64)) &&& (4294967295 : Int64)).toUInt64 >>> ((27 : Int32) &&& 0x3f).toInt64.toUInt64).toInt64))]))
    refine Go.step (fun _ kt => XS.l2i X146.here hx rfl (hb hby at_48) rfl kt) ?_
    show Go p.tables e below _ (T146.setTop (mkF m 49 #[.val (.long q1), .second, .val (.int p1), .val (.int (2 : Int32)), .val (.ref b133), .val (.int got), .val (.long (q1 &&& (4294967295 : Int64))), .second, .val (.long (((q1 &&& (4294967295 : Int64)) * (2284105051 : Int64)) &&& (4294967295 : Int64))), .second, .unset] [(.int ((((((q1 &&& (4294967295 : Int64)) * (2284105051 : Int64)) &&& (4294967295 : Int64)).toUInt64 >>> ((27 : Int32) &&& 0x3f).toInt64.toUInt64).toInt64).toInt32))]))
    have e_all := own_eq q1 (-2010862245 : Int32) (2284105051 : Int64) (by decide)
    rw [← e_got] at e_all
    have q148 : ((((((q1 &&& (4294967295 : Int64)) * (2284105051 : Int64)) &&& (4294967295 : Int64)).toUInt64 >>> ((27 : Int32) &&& 0x3f).toInt64.toUInt64).toInt64).toInt32) = got := e_all.1.symm
    rw [q148]
    show Go p.tables e below _ (T146.setTop (mkF m 49 #[.val (.long q1), .second, .val (.int p1), .val (.int (2 : Int32)), .val (.ref b133), .val (.int got), .val (.long (q1 &&& (4294967295 : Int64))), .second, .val (.long (((q1 &&& (4294967295 : Int64)) * (2284105051 : Int64)) &&& (4294967295 : Int64))), .second, .unset] [(.int got)]))
    refine Go.step (fun _ kt => XS.istore X146.here hx rfl (hb hby at_49) rfl (l' := #[.val (.long q1), .second, .val (.int p1), .val (.int (2 : Int32)), .val (.ref b133), .val (.int got), .val (.long (q1 &&& (4294967295 : Int64))), .second, .val (.long (((q1 &&& (4294967295 : Int64)) * (2284105051 : Int64)) &&& (4294967295 : Int64))), .second, .val (.int got)]) rfl kt) ?_
    show Go p.tables e below _ (T146.setTop (mkF m 51 #[.val (.long q1), .second, .val (.int p1), .val (.int (2 : Int32)), .val (.ref b133), .val (.int got), .val (.long (q1 &&& (4294967295 : Int64))), .second, .val (.long (((q1 &&& (4294967295 : Int64)) * (2284105051 : Int64)) &&& (4294967295 : Int64))), .second, .val (.int got)] []))
    refine Go.step (fun _ kt => XS.iload X146.here hx rfl (hb hby at_51) rfl kt) ?_
    show Go p.tables e below _ (T146.setTop (mkF m 53 #[.val (.long q1), .second, .val (.int p1), .val (.int (2 : Int32)), .val (.ref b133), .val (.int got), .val (.long (q1 &&& (4294967295 : Int64))), .second, .val (.long (((q1 &&& (4294967295 : Int64)) * (2284105051 : Int64)) &&& (4294967295 : Int64))), .second, .val (.int got)] [(.int got)]))
    refine Go.step (fun _ kt => XS.iload X146.here hx rfl (hb hby at_53) rfl kt) ?_
    show Go p.tables e below _ (T146.setTop (mkF m 55 #[.val (.long q1), .second, .val (.int p1), .val (.int (2 : Int32)), .val (.ref b133), .val (.int got), .val (.long (q1 &&& (4294967295 : Int64))), .second, .val (.long (((q1 &&& (4294967295 : Int64)) * (2284105051 : Int64)) &&& (4294967295 : Int64))), .second, .val (.int got)] [(.int got), (.int got)]))
    refine Go.step (fun _ kt => XS.icmpNo X146.here hx rfl (hb hby at_55) rfl (teq (rfl : got = got)).2 kt) ?_
    show Go p.tables e below _ (T146.setTop (mkF m 58 #[.val (.long q1), .second, .val (.int p1), .val (.int (2 : Int32)), .val (.ref b133), .val (.int got), .val (.long (q1 &&& (4294967295 : Int64))), .second, .val (.long (((q1 &&& (4294967295 : Int64)) * (2284105051 : Int64)) &&& (4294967295 : Int64))), .second, .val (.int got)] []))
    refine Go.step (fun _ kt => XS.iload X146.here hx rfl (hb hby at_58) rfl kt) ?_
    show Go p.tables e below _ (T146.setTop (mkF m 60 #[.val (.long q1), .second, .val (.int p1), .val (.int (2 : Int32)), .val (.ref b133), .val (.int got), .val (.long (q1 &&& (4294967295 : Int64))), .second, .val (.long (((q1 &&& (4294967295 : Int64)) * (2284105051 : Int64)) &&& (4294967295 : Int64))), .second, .val (.int got)] [(.int got)]))
    refine Go.step (fun _ kt => XS.ifNo X146.here hx rfl (hb hby at_60) rfl ((if0 _ _).trans (flt e_all.2.1).1) kt) ?_
    show Go p.tables e below _ (T146.setTop (mkF m 63 #[.val (.long q1), .second, .val (.int p1), .val (.int (2 : Int32)), .val (.ref b133), .val (.int got), .val (.long (q1 &&& (4294967295 : Int64))), .second, .val (.long (((q1 &&& (4294967295 : Int64)) * (2284105051 : Int64)) &&& (4294967295 : Int64))), .second, .val (.int got)] []))
    refine Go.step (fun _ kt => XS.iload X146.here hx rfl (hb hby at_63) rfl kt) ?_
    show Go p.tables e below _ (T146.setTop (mkF m 65 #[.val (.long q1), .second, .val (.int p1), .val (.int (2 : Int32)), .val (.ref b133), .val (.int got), .val (.long (q1 &&& (4294967295 : Int64))), .second, .val (.long (((q1 &&& (4294967295 : Int64)) * (2284105051 : Int64)) &&& (4294967295 : Int64))), .second, .val (.int got)] [(.int got)]))
    refine Go.step (fun _ kt => XS.bipush X146.here hx rfl (hb hby at_65) kt) ?_
    show Go p.tables e below _ (T146.setTop (mkF m 67 #[.val (.long q1), .second, .val (.int p1), .val (.int (2 : Int32)), .val (.ref b133), .val (.int got), .val (.long (q1 &&& (4294967295 : Int64))), .second, .val (.long (((q1 &&& (4294967295 : Int64)) * (2284105051 : Int64)) &&& (4294967295 : Int64))), .second, .val (.int got)] [(.int (31 : Int32)), (.int got)]))
    refine Go.step (fun _ kt => XS.icmpNo X146.here hx rfl (hb hby at_67) rfl (flt e_all.2.2).2.2.1 kt) ?_
    show Go p.tables e below _ (T146.setTop (mkF m 70 #[.val (.long q1), .second, .val (.int p1), .val (.int (2 : Int32)), .val (.ref b133), .val (.int got), .val (.long (q1 &&& (4294967295 : Int64))), .second, .val (.long (((q1 &&& (4294967295 : Int64)) * (2284105051 : Int64)) &&& (4294967295 : Int64))), .second, .val (.int got)] []))
    refine Go.step (fun _ kt => XS.iconst X146.here hx rfl (hb hby at_70) kt) ?_
    show Go p.tables e below _ (T146.setTop (mkF m 71 #[.val (.long q1), .second, .val (.int p1), .val (.int (2 : Int32)), .val (.ref b133), .val (.int got), .val (.long (q1 &&& (4294967295 : Int64))), .second, .val (.long (((q1 &&& (4294967295 : Int64)) * (2284105051 : Int64)) &&& (4294967295 : Int64))), .second, .val (.int got)] [(.int (1 : Int32))]))
    refine Go.step (fun _ kt => XS.goto X146.here hx rfl (pc0 := 71) (pc' := 75) rfl (hb hby at_71) (by decide) (by decide) kt) ?_
    show Go p.tables e below _ (T146.setTop (mkF m 75 #[.val (.long q1), .second, .val (.int p1), .val (.int (2 : Int32)), .val (.ref b133), .val (.int got), .val (.long (q1 &&& (4294967295 : Int64))), .second, .val (.long (((q1 &&& (4294967295 : Int64)) * (2284105051 : Int64)) &&& (4294967295 : Int64))), .second, .val (.int got)] [(.int (1 : Int32))]))
    obtain ⟨fs, hr, hrun, hended, hW, hsame⟩ := X146.leave (v := some (.int (1 : Int32))) (fun h => by rw [Bd.returns] at h; cases h)
    refine ⟨_, _, retN X146 hx (t := .boolean) Bd.returns (by simp) (hb hby at_75) hr, hrun, hended, _, _, rfl, ?_, ⟨_, rfl⟩, hW, hsame.mono (by decide) (by decide)⟩
    show Qrm0 Z q1 p1 sa sk h0 n0 _ T146.heap _
    rw [eh146]
    exact ⟨rfl, N146⟩
  · rw [hk]
    show Go p.tables e below _ (s₁.setTop (mkF m 5 #[.val (.long q1), .second, .val (.int p1), .val (.int (3 : Int32)), .unset, .unset, .unset, .unset, .unset, .unset, .unset] []))
    obtain ⟨T149, h149, X149, e149, E149, A149, D149, -, st149⟩ := newO X0 hx hZ hown (hw _ (List.mem_of_getElem? (i := 0) rfl)) (hw _ (List.mem_of_getElem? (i := 1) rfl)) (hw _ (List.mem_of_getElem? (i := 2) rfl)) e0 (g := (mkF m 5 #[.val (.long q1), .second, .val (.int p1), .val (.int (3 : Int32)), .unset, .unset, .unset, .unset, .unset, .unset, .unset] [])) rfl (hb hby at_5) (by decide) (by decide)
    obtain ⟨b149, g149⟩ : ∃ z, z = h0.size := ⟨_, rfl⟩
    rw [← g149] at A149 D149 st149
    refine Go.step st149 ?_
    have ne_sa_b149 : sa ≠ b149 := Nat.ne_of_lt (Nat.lt_of_lt_of_le V1.lt (Nat.le_of_eq g149.symm))
    have g_b149 : n0 ≤ b149 := Nat.le_trans Z0 (Nat.le_of_eq g149.symm)
    have F150 : Sta Z h149 "com/example/sibyl/sibyl/core/BlockHash" "SALTS" "[I" (.ref sa) := (S1.ext E149)
    have F151 : Arv Z h149 sa sk .int (8 : Int32) [(.int (1203114875 : Int32)), (.int (1150766481 : Int32)), (.int (-2010862245 : Int32)), (.int (-1565054819 : Int32)), (.int (1884591559 : Int32)), (.int (770785867 : Int32)), (.int (-1627633337 : Int32)), (.int (1550580529 : Int32))] (.int (0 : Int32)) := (V1.ext E149)
    have Z152 : n0 ≤ h149.size := (Nat.le_trans Z0 E149.1)
    have F153 : Fld Z h149 b149 "com/example/sibyl/sibyl/core/BlockHash" "value" "J" (.long (0 : Int64)) := D149 (Or.inr (hw _ (List.mem_of_getElem? (i := 15) rfl))) (ty := .long) (by decide)
    show Go p.tables e below _ (T149.setTop (mkF m 8 #[.val (.long q1), .second, .val (.int p1), .val (.int (3 : Int32)), .unset, .unset, .unset, .unset, .unset, .unset, .unset] [(.ref b149)]))
    refine Go.step (fun _ kt => XS.dup X149.here hx rfl (hb hby at_8) rfl rfl kt) ?_
    show Go p.tables e below _ (T149.setTop (mkF m 9 #[.val (.long q1), .second, .val (.int p1), .val (.int (3 : Int32)), .unset, .unset, .unset, .unset, .unset, .unset, .unset] [(.ref b149), (.ref b149)]))
    refine Go.step (fun _ kt => XS.lloadN X149.here hx rfl (hb hby at_9) rfl kt) ?_
    show Go p.tables e below _ (T149.setTop (mkF m 10 #[.val (.long q1), .second, .val (.int p1), .val (.int (3 : Int32)), .unset, .unset, .unset, .unset, .unset, .unset, .unset] [(.long q1), (.ref b149), (.ref b149)]))
    obtain ⟨_, _, ⟨T154, L154, k154, n154⟩, -, X154, ⟨Lc154, hQ154, l154, y154, z154⟩, st154⟩ := X149.specialBack hx (y := (⟨"com/example/sibyl/sibyl/core/BlockHash", "<init>", "(J)V"⟩ : MethodName)) rfl hown (mvT hZ (hw _ (List.mem_of_getElem? (i := 3) rfl))) (mvT hZ (hw _ (List.mem_of_getElem? (i := 4) rfl))) (mvT hZ (hw _ (List.mem_of_getElem? (i := 5) rfl))) (by decide) (backOf (W := 1) (rm1 l Z a0 hw [] b149 q1 (.long (0 : Int64)) h149 n0 Z152 A149 F153 g_b149) hZ (hw _ (List.mem_of_getElem? (i := 5) rfl)) (hw _ (List.mem_of_getElem? (i := 2) rfl)) (by decide) (by decide)) (g := (mkF m 10 #[.val (.long q1), .second, .val (.int p1), .val (.int (3 : Int32)), .unset, .unset, .unset, .unset, .unset, .unset, .unset] [(.long q1), (.ref b149), (.ref b149)])) rfl (by rw [hml]; rfl) (Steps.refl _) (a := b149) (argsL := [(.long q1)]) (rest := [(.ref b149)]) (lenOf pd_1 rfl) rfl (by show 2 * 0 + _ ≤ _; exact Nat.le_of_eq rfl) (hb hby at_10) (fun _ _ => ⟨rfl, e149, (by decide : 1 + 0 ≤ _), (by decide : 1 + 0 ≤ _)⟩)
    dsimp only [Pt.U, Pt.locs, Pt.cells, Pt.slots] at X154 l154 y154 z154 st154 hQ154
    subst l154 y154 z154
    obtain ⟨rfl, N154q, Kq154, P155, P156⟩ := hQ154
    have F157 : Sta Z T154.heap "com/example/sibyl/sibyl/core/BlockHash" "SALTS" "[I" (.ref sa) := (own_sta_keep F150 A149 Kq154)
    have F158 : Arv Z T154.heap sa sk .int (8 : Int32) [(.int (1203114875 : Int32)), (.int (1150766481 : Int32)), (.int (-2010862245 : Int32)), (.int (-1565054819 : Int32)), (.int (1884591559 : Int32)), (.int (770785867 : Int32)), (.int (-1627633337 : Int32)), (.int (1550580529 : Int32))] (.int (0 : Int32)) := (F151.keep Kq154 (fun q => ne_sa_b149 (List.mem_singleton.mp q)))
    have F159 : Exa Z T154.heap b149 "com/example/sibyl/sibyl/core/BlockHash" := (A149.keep Kq154)
    have Z160 : n0 ≤ T154.heap.size := (Nat.le_trans Z152 Kq154.1)
    have N154 := Fr.app N0 N154q
    refine Go.step (fun _ kt => st154.trans kt) ?_
    show Go p.tables e below _ (T154.setTop (mkF m 13 #[.val (.long q1), .second, .val (.int p1), .val (.int (3 : Int32)), .unset, .unset, .unset, .unset, .unset, .unset, .unset] [(.ref b149)]))
    refine Go.step (fun _ kt => XS.astore X154.here hx rfl (hb hby at_13) rfl rfl (l' := #[.val (.long q1), .second, .val (.int p1), .val (.int (3 : Int32)), .val (.ref b149), .unset, .unset, .unset, .unset, .unset, .unset]) rfl kt) ?_
    show Go p.tables e below _ (T154.setTop (mkF m 15 #[.val (.long q1), .second, .val (.int p1), .val (.int (3 : Int32)), .val (.ref b149), .unset, .unset, .unset, .unset, .unset, .unset] []))
    refine Go.step (fun _ kt => XS.aload X154.here hx rfl (hb hby at_15) rfl rfl kt) ?_
    show Go p.tables e below _ (T154.setTop (mkF m 17 #[.val (.long q1), .second, .val (.int p1), .val (.int (3 : Int32)), .val (.ref b149), .unset, .unset, .unset, .unset, .unset, .unset] [(.ref b149)]))
    refine Go.step (fun _ kt => XS.iloadN X154.here hx rfl (hb hby at_17) rfl kt) ?_
    show Go p.tables e below _ (T154.setTop (mkF m 18 #[.val (.long q1), .second, .val (.int p1), .val (.int (3 : Int32)), .val (.ref b149), .unset, .unset, .unset, .unset, .unset, .unset] [(.int (3 : Int32)), (.ref b149)]))
    obtain ⟨cq161, kq161, q161a, q161b, q161c⟩ := isOf hZ rfl P155
    obtain ⟨_, _, ⟨T161, L161, k161, n161⟩, -, X161, ⟨Lc161, hQ161, l161, y161, z161⟩, st161⟩ := X154.virtualBack hx (y := (⟨"com/example/sibyl/sibyl/core/BlockHash", "bit", "(I)I"⟩ : MethodName)) (z := (⟨"com/example/sibyl/sibyl/core/BlockHash", "bit", "(I)I"⟩ : MethodName)) hown (mvT hZ (hw _ (List.mem_of_getElem? (i := 16) rfl))) (mvT hZ (hw _ (List.mem_of_getElem? (i := 17) rfl))) (notFace_of_selects (args := #[]) (mvT hZ (hw _ (List.mem_of_getElem? (i := 19) rfl)))) (mvT hZ (hw _ (List.mem_of_getElem? (i := 19) rfl))) (mvT hZ (hw _ (List.mem_of_getElem? (i := 18) rfl))) (by decide) (backOf (W := 0) (rmb3 l Z a0 hw [] b149 q1 sa sk T154.heap n0 Z160 P156 F157 F158 ) hZ (hw _ (List.mem_of_getElem? (i := 20) rfl)) (hw _ (List.mem_of_getElem? (i := 2) rfl)) (by decide) (by decide)) q161a q161c (g := (mkF m 18 #[.val (.long q1), .second, .val (.int p1), .val (.int (3 : Int32)), .val (.ref b149), .unset, .unset, .unset, .unset, .unset, .unset] [(.int (3 : Int32)), (.ref b149)])) rfl (by rw [hml]; rfl) (Steps.refl _) (argsL := [(.int (3 : Int32))]) (rest := []) (lenOf pd_2 rfl) rfl (by show 2 * 0 + _ ≤ _; exact Nat.le_of_eq rfl) (hb hby at_18) (fun _ _ => ⟨rfl, rfl, (by decide : 1 + 0 ≤ _), (by decide : 1 + 0 ≤ _)⟩)
    dsimp only [Pt.U, Pt.locs, Pt.cells, Pt.slots] at X161 l161 y161 z161 st161 hQ161
    subst l161 y161 z161
    obtain ⟨rfl, N161q, eh161⟩ := hQ161
    have N161 := Fr.app N154 N161q
    refine Go.step (fun _ kt => st161.trans kt) ?_
    show Go p.tables e below _ (T161.setTop (mkF m 21 #[.val (.long q1), .second, .val (.int p1), .val (.int (3 : Int32)), .val (.ref b149), .unset, .unset, .unset, .unset, .unset, .unset] [(.int (own_bit q1 (-1565054819 : Int32)))]))
    obtain ⟨got, e_got⟩ : ∃ nm_, nm_ = (own_bit q1 (-1565054819 : Int32)) := ⟨_, rfl⟩
    rw [← e_got]
    show Go p.tables e below _ (T161.setTop (mkF m 21 #[.val (.long q1), .second, .val (.int p1), .val (.int (3 : Int32)), .val (.ref b149), .unset, .unset, .unset, .unset, .unset, .unset] [(.int got)]))
    refine Go.step (fun _ kt => XS.istore X161.here hx rfl (hb hby at_21) rfl (l' := #[.val (.long q1), .second, .val (.int p1), .val (.int (3 : Int32)), .val (.ref b149), .val (.int got), .unset, .unset, .unset, .unset, .unset]) rfl kt) ?_
    show Go p.tables e below _ (T161.setTop (mkF m 23 #[.val (.long q1), .second, .val (.int p1), .val (.int (3 : Int32)), .val (.ref b149), .val (.int got), .unset, .unset, .unset, .unset, .unset] []))
    refine Go.step (fun _ kt => XS.lloadN X161.here hx rfl (hb hby at_23) rfl kt) ?_
    show Go p.tables e below _ (T161.setTop (mkF m 24 #[.val (.long q1), .second, .val (.int p1), .val (.int (3 : Int32)), .val (.ref b149), .val (.int got), .unset, .unset, .unset, .unset, .unset] [(.long q1)]))
    refine Go.step (X161.ldc2Long hx hown (mvT hZ (hw _ (List.mem_of_getElem? (i := 23) rfl))) (g := (mkF m 24 #[.val (.long q1), .second, .val (.int p1), .val (.int (3 : Int32)), .val (.ref b149), .val (.int got), .unset, .unset, .unset, .unset, .unset] [(.long q1)])) rfl (hb hby at_24)) ?_
    show Go p.tables e below _ (T161.setTop (mkF m 27 #[.val (.long q1), .second, .val (.int p1), .val (.int (3 : Int32)), .val (.ref b149), .val (.int got), .unset, .unset, .unset, .unset, .unset] [(.long (4294967295 : Int64)), (.long q1)]))
    refine Go.step (fun _ kt => XS.land X161.here hx rfl (hb hby at_27) rfl kt) ?_
    show Go p.tables e below _ (T161.setTop (mkF m 28 #[.val (.long q1), .second, .val (.int p1), .val (.int (3 : Int32)), .val (.ref b149), .val (.int got), .unset, .unset, .unset, .unset, .unset] [(.long (q1 &&& (4294967295 : Int64)))]))
    refine Go.step (fun _ kt => XS.lstore X161.here hx rfl (hb hby at_28) rfl (l' := #[.val (.long q1), .second, .val (.int p1), .val (.int (3 : Int32)), .val (.ref b149), .val (.int got), .val (.long (q1 &&& (4294967295 : Int64))), .second, .unset, .unset, .unset]) rfl kt) ?_
    show Go p.tables e below _ (T161.setTop (mkF m 30 #[.val (.long q1), .second, .val (.int p1), .val (.int (3 : Int32)), .val (.ref b149), .val (.int got), .val (.long (q1 &&& (4294967295 : Int64))), .second, .unset, .unset, .unset] []))
    refine Go.step (fun _ kt => XS.lload X161.here hx rfl (hb hby at_30) rfl kt) ?_
    show Go p.tables e below _ (T161.setTop (mkF m 32 #[.val (.long q1), .second, .val (.int p1), .val (.int (3 : Int32)), .val (.ref b149), .val (.int got), .val (.long (q1 &&& (4294967295 : Int64))), .second, .unset, .unset, .unset] [(.long (q1 &&& (4294967295 : Int64)))]))
    refine Go.step (fun _ kt => XS.iloadN X161.here hx rfl (hb hby at_32) rfl kt) ?_
    show Go p.tables e below _ (T161.setTop (mkF m 33 #[.val (.long q1), .second, .val (.int p1), .val (.int (3 : Int32)), .val (.ref b149), .val (.int got), .val (.long (q1 &&& (4294967295 : Int64))), .second, .unset, .unset, .unset] [(.int (3 : Int32)), (.long (q1 &&& (4294967295 : Int64)))]))
    obtain ⟨_, _, ⟨T162, L162, k162, n162⟩, -, X162, ⟨Lc162, hQ162, l162, y162, z162⟩, st162⟩ := Jvm.LawKit.callS X161 hx (y := (⟨"com/example/sibyl/sibyl/core/BlockHashBitPinLaw", "salt", "(I)J"⟩ : MethodName)) hown (mvT hZ (hw _ (List.mem_of_getElem? (i := 24) rfl))) (mvT hZ (hw _ (List.mem_of_getElem? (i := 25) rfl))) (mvT hZ (hw _ (List.mem_of_getElem? (i := 26) rfl))) (mvT hZ (hw _ (List.mem_of_getElem? (i := 27) rfl))) (by decide) (backOf (W := 2) (rm5 l Z a0 hw [] (3 : Int32)  T154.heap n0 Z160  ) hZ (hw _ (List.mem_of_getElem? (i := 27) rfl)) (hw _ (List.mem_of_getElem? (i := 26) rfl)) (by decide) (by decide)) (g := (mkF m 33 #[.val (.long q1), .second, .val (.int p1), .val (.int (3 : Int32)), .val (.ref b149), .val (.int got), .val (.long (q1 &&& (4294967295 : Int64))), .second, .unset, .unset, .unset] [(.int (3 : Int32)), (.long (q1 &&& (4294967295 : Int64)))])) rfl (by rw [hml]; rfl) (argsL := [(.int (3 : Int32))]) (rest := [(.long (q1 &&& (4294967295 : Int64)))]) (lenOf pd_3 rfl) rfl (by show 2 * 0 + _ ≤ _; exact Nat.le_of_eq rfl) (hb hby at_33) (fun _ _ => ⟨rfl, eh161, (by decide : 1 + 0 ≤ _), (by decide : 1 + 0 ≤ _)⟩)
    dsimp only [Pt.U, Pt.locs, Pt.cells, Pt.slots] at X162 l162 y162 z162 st162 hQ162
    subst l162 y162 z162
    obtain ⟨rfl, N162q, eh162⟩ := hQ162
    have N162 := Fr.app N161 N162q
    refine Go.step st162 ?_
    show Go p.tables e below _ (T162.setTop (mkF m 36 #[.val (.long q1), .second, .val (.int p1), .val (.int (3 : Int32)), .val (.ref b149), .val (.int got), .val (.long (q1 &&& (4294967295 : Int64))), .second, .unset, .unset, .unset] [(.long (own_salt (3 : Int32))), (.long (q1 &&& (4294967295 : Int64)))]))
    have q163 : (own_salt (3 : Int32)) = (2729912477 : Int64) := rfl
    rw [q163]
    show Go p.tables e below _ (T162.setTop (mkF m 36 #[.val (.long q1), .second, .val (.int p1), .val (.int (3 : Int32)), .val (.ref b149), .val (.int got), .val (.long (q1 &&& (4294967295 : Int64))), .second, .unset, .unset, .unset] [(.long (2729912477 : Int64)), (.long (q1 &&& (4294967295 : Int64)))]))
    refine Go.step (fun _ kt => XS.lmul X162.here hx rfl (hb hby at_36) rfl kt) ?_
    show Go p.tables e below _ (T162.setTop (mkF m 37 #[.val (.long q1), .second, .val (.int p1), .val (.int (3 : Int32)), .val (.ref b149), .val (.int got), .val (.long (q1 &&& (4294967295 : Int64))), .second, .unset, .unset, .unset] [(.long ((q1 &&& (4294967295 : Int64)) * (2729912477 : Int64)))]))
    refine Go.step (X162.ldc2Long hx hown (mvT hZ (hw _ (List.mem_of_getElem? (i := 23) rfl))) (g := (mkF m 37 #[.val (.long q1), .second, .val (.int p1), .val (.int (3 : Int32)), .val (.ref b149), .val (.int got), .val (.long (q1 &&& (4294967295 : Int64))), .second, .unset, .unset, .unset] [(.long ((q1 &&& (4294967295 : Int64)) * (2729912477 : Int64)))])) rfl (hb hby at_37)) ?_
    show Go p.tables e below _ (T162.setTop (mkF m 40 #[.val (.long q1), .second, .val (.int p1), .val (.int (3 : Int32)), .val (.ref b149), .val (.int got), .val (.long (q1 &&& (4294967295 : Int64))), .second, .unset, .unset, .unset] [(.long (4294967295 : Int64)), (.long ((q1 &&& (4294967295 : Int64)) * (2729912477 : Int64)))]))
    refine Go.step (fun _ kt => XS.land X162.here hx rfl (hb hby at_40) rfl kt) ?_
    show Go p.tables e below _ (T162.setTop (mkF m 41 #[.val (.long q1), .second, .val (.int p1), .val (.int (3 : Int32)), .val (.ref b149), .val (.int got), .val (.long (q1 &&& (4294967295 : Int64))), .second, .unset, .unset, .unset] [(.long (((q1 &&& (4294967295 : Int64)) * (2729912477 : Int64)) &&& (4294967295 : Int64)))]))
    refine Go.step (fun _ kt => XS.lstore X162.here hx rfl (hb hby at_41) rfl (l' := #[.val (.long q1), .second, .val (.int p1), .val (.int (3 : Int32)), .val (.ref b149), .val (.int got), .val (.long (q1 &&& (4294967295 : Int64))), .second, .val (.long (((q1 &&& (4294967295 : Int64)) * (2729912477 : Int64)) &&& (4294967295 : Int64))), .second, .unset]) rfl kt) ?_
    show Go p.tables e below _ (T162.setTop (mkF m 43 #[.val (.long q1), .second, .val (.int p1), .val (.int (3 : Int32)), .val (.ref b149), .val (.int got), .val (.long (q1 &&& (4294967295 : Int64))), .second, .val (.long (((q1 &&& (4294967295 : Int64)) * (2729912477 : Int64)) &&& (4294967295 : Int64))), .second, .unset] []))
    refine Go.step (fun _ kt => XS.lload X162.here hx rfl (hb hby at_43) rfl kt) ?_
    show Go p.tables e below _ (T162.setTop (mkF m 45 #[.val (.long q1), .second, .val (.int p1), .val (.int (3 : Int32)), .val (.ref b149), .val (.int got), .val (.long (q1 &&& (4294967295 : Int64))), .second, .val (.long (((q1 &&& (4294967295 : Int64)) * (2729912477 : Int64)) &&& (4294967295 : Int64))), .second, .unset] [(.long (((q1 &&& (4294967295 : Int64)) * (2729912477 : Int64)) &&& (4294967295 : Int64)))]))
    refine Go.step (fun _ kt => XS.bipush X162.here hx rfl (hb hby at_45) kt) ?_
    show Go p.tables e below _ (T162.setTop (mkF m 47 #[.val (.long q1), .second, .val (.int p1), .val (.int (3 : Int32)), .val (.ref b149), .val (.int got), .val (.long (q1 &&& (4294967295 : Int64))), .second, .val (.long (((q1 &&& (4294967295 : Int64)) * (2729912477 : Int64)) &&& (4294967295 : Int64))), .second, .unset] [(.int (27 : Int32)), (.long (((q1 &&& (4294967295 : Int64)) * (2729912477 : Int64)) &&& (4294967295 : Int64)))]))
    refine Go.step (fun _ kt => XS.lushr X162.here hx rfl (hb hby at_47) rfl kt) ?_
    show Go p.tables e below _ (T162.setTop (mkF m 48 #[.val (.long q1), .second, .val (.int p1), .val (.int (3 : Int32)), .val (.ref b149), .val (.int got), .val (.long (q1 &&& (4294967295 : Int64))), .second, .val (.long (((q1 &&& (4294967295 : Int64)) * (2729912477 : Int64)) &&& (4294967295 : Int64))), .second, .unset] [(.long (((((q1 &&& (4294967295 : Int64)) * (2729912477 : Int64)) &&& (4294967295 : Int64)).toUInt64 >>> ((27 : Int32) &&& 0x3f).toInt64.toUInt64).toInt64))]))
    refine Go.step (fun _ kt => XS.l2i X162.here hx rfl (hb hby at_48) rfl kt) ?_
    show Go p.tables e below _ (T162.setTop (mkF m 49 #[.val (.long q1), .second, .val (.int p1), .val (.int (3 : Int32)), .val (.ref b149), .val (.int got), .val (.long (q1 &&& (4294967295 : Int64))), .second, .val (.long (((q1 &&& (4294967295 : Int64)) * (2729912477 : Int64)) &&& (4294967295 : Int64))), .second, .unset] [(.int ((((((q1 &&& (4294967295 : Int64)) * (2729912477 : Int64)) &&& (4294967295 : Int64)).toUInt64 >>> ((27 : Int32) &&& 0x3f).toInt64.toUInt64).toInt64).toInt32))]))
    have e_all := own_eq q1 (-1565054819 : Int32) (2729912477 : Int64) (by decide)
    rw [← e_got] at e_all
    have q164 : ((((((q1 &&& (4294967295 : Int64)) * (2729912477 : Int64)) &&& (4294967295 : Int64)).toUInt64 >>> ((27 : Int32) &&& 0x3f).toInt64.toUInt64).toInt64).toInt32) = got := e_all.1.symm
    rw [q164]
    show Go p.tables e below _ (T162.setTop (mkF m 49 #[.val (.long q1), .second, .val (.int p1), .val (.int (3 : Int32)), .val (.ref b149), .val (.int got), .val (.long (q1 &&& (4294967295 : Int64))), .second, .val (.long (((q1 &&& (4294967295 : Int64)) * (2729912477 : Int64)) &&& (4294967295 : Int64))), .second, .unset] [(.int got)]))
    refine Go.step (fun _ kt => XS.istore X162.here hx rfl (hb hby at_49) rfl (l' := #[.val (.long q1), .second, .val (.int p1), .val (.int (3 : Int32)), .val (.ref b149), .val (.int got), .val (.long (q1 &&& (4294967295 : Int64))), .second, .val (.long (((q1 &&& (4294967295 : Int64)) * (2729912477 : Int64)) &&& (4294967295 : Int64))), .second, .val (.int got)]) rfl kt) ?_
    show Go p.tables e below _ (T162.setTop (mkF m 51 #[.val (.long q1), .second, .val (.int p1), .val (.int (3 : Int32)), .val (.ref b149), .val (.int got), .val (.long (q1 &&& (4294967295 : Int64))), .second, .val (.long (((q1 &&& (4294967295 : Int64)) * (2729912477 : Int64)) &&& (4294967295 : Int64))), .second, .val (.int got)] []))
    refine Go.step (fun _ kt => XS.iload X162.here hx rfl (hb hby at_51) rfl kt) ?_
    show Go p.tables e below _ (T162.setTop (mkF m 53 #[.val (.long q1), .second, .val (.int p1), .val (.int (3 : Int32)), .val (.ref b149), .val (.int got), .val (.long (q1 &&& (4294967295 : Int64))), .second, .val (.long (((q1 &&& (4294967295 : Int64)) * (2729912477 : Int64)) &&& (4294967295 : Int64))), .second, .val (.int got)] [(.int got)]))
    refine Go.step (fun _ kt => XS.iload X162.here hx rfl (hb hby at_53) rfl kt) ?_
    show Go p.tables e below _ (T162.setTop (mkF m 55 #[.val (.long q1), .second, .val (.int p1), .val (.int (3 : Int32)), .val (.ref b149), .val (.int got), .val (.long (q1 &&& (4294967295 : Int64))), .second, .val (.long (((q1 &&& (4294967295 : Int64)) * (2729912477 : Int64)) &&& (4294967295 : Int64))), .second, .val (.int got)] [(.int got), (.int got)]))
    refine Go.step (fun _ kt => XS.icmpNo X162.here hx rfl (hb hby at_55) rfl (teq (rfl : got = got)).2 kt) ?_
    show Go p.tables e below _ (T162.setTop (mkF m 58 #[.val (.long q1), .second, .val (.int p1), .val (.int (3 : Int32)), .val (.ref b149), .val (.int got), .val (.long (q1 &&& (4294967295 : Int64))), .second, .val (.long (((q1 &&& (4294967295 : Int64)) * (2729912477 : Int64)) &&& (4294967295 : Int64))), .second, .val (.int got)] []))
    refine Go.step (fun _ kt => XS.iload X162.here hx rfl (hb hby at_58) rfl kt) ?_
    show Go p.tables e below _ (T162.setTop (mkF m 60 #[.val (.long q1), .second, .val (.int p1), .val (.int (3 : Int32)), .val (.ref b149), .val (.int got), .val (.long (q1 &&& (4294967295 : Int64))), .second, .val (.long (((q1 &&& (4294967295 : Int64)) * (2729912477 : Int64)) &&& (4294967295 : Int64))), .second, .val (.int got)] [(.int got)]))
    refine Go.step (fun _ kt => XS.ifNo X162.here hx rfl (hb hby at_60) rfl ((if0 _ _).trans (flt e_all.2.1).1) kt) ?_
    show Go p.tables e below _ (T162.setTop (mkF m 63 #[.val (.long q1), .second, .val (.int p1), .val (.int (3 : Int32)), .val (.ref b149), .val (.int got), .val (.long (q1 &&& (4294967295 : Int64))), .second, .val (.long (((q1 &&& (4294967295 : Int64)) * (2729912477 : Int64)) &&& (4294967295 : Int64))), .second, .val (.int got)] []))
    refine Go.step (fun _ kt => XS.iload X162.here hx rfl (hb hby at_63) rfl kt) ?_
    show Go p.tables e below _ (T162.setTop (mkF m 65 #[.val (.long q1), .second, .val (.int p1), .val (.int (3 : Int32)), .val (.ref b149), .val (.int got), .val (.long (q1 &&& (4294967295 : Int64))), .second, .val (.long (((q1 &&& (4294967295 : Int64)) * (2729912477 : Int64)) &&& (4294967295 : Int64))), .second, .val (.int got)] [(.int got)]))
    refine Go.step (fun _ kt => XS.bipush X162.here hx rfl (hb hby at_65) kt) ?_
    show Go p.tables e below _ (T162.setTop (mkF m 67 #[.val (.long q1), .second, .val (.int p1), .val (.int (3 : Int32)), .val (.ref b149), .val (.int got), .val (.long (q1 &&& (4294967295 : Int64))), .second, .val (.long (((q1 &&& (4294967295 : Int64)) * (2729912477 : Int64)) &&& (4294967295 : Int64))), .second, .val (.int got)] [(.int (31 : Int32)), (.int got)]))
    refine Go.step (fun _ kt => XS.icmpNo X162.here hx rfl (hb hby at_67) rfl (flt e_all.2.2).2.2.1 kt) ?_
    show Go p.tables e below _ (T162.setTop (mkF m 70 #[.val (.long q1), .second, .val (.int p1), .val (.int (3 : Int32)), .val (.ref b149), .val (.int got), .val (.long (q1 &&& (4294967295 : Int64))), .second, .val (.long (((q1 &&& (4294967295 : Int64)) * (2729912477 : Int64)) &&& (4294967295 : Int64))), .second, .val (.int got)] []))
    refine Go.step (fun _ kt => XS.iconst X162.here hx rfl (hb hby at_70) kt) ?_
    show Go p.tables e below _ (T162.setTop (mkF m 71 #[.val (.long q1), .second, .val (.int p1), .val (.int (3 : Int32)), .val (.ref b149), .val (.int got), .val (.long (q1 &&& (4294967295 : Int64))), .second, .val (.long (((q1 &&& (4294967295 : Int64)) * (2729912477 : Int64)) &&& (4294967295 : Int64))), .second, .val (.int got)] [(.int (1 : Int32))]))
    refine Go.step (fun _ kt => XS.goto X162.here hx rfl (pc0 := 71) (pc' := 75) rfl (hb hby at_71) (by decide) (by decide) kt) ?_
    show Go p.tables e below _ (T162.setTop (mkF m 75 #[.val (.long q1), .second, .val (.int p1), .val (.int (3 : Int32)), .val (.ref b149), .val (.int got), .val (.long (q1 &&& (4294967295 : Int64))), .second, .val (.long (((q1 &&& (4294967295 : Int64)) * (2729912477 : Int64)) &&& (4294967295 : Int64))), .second, .val (.int got)] [(.int (1 : Int32))]))
    obtain ⟨fs, hr, hrun, hended, hW, hsame⟩ := X162.leave (v := some (.int (1 : Int32))) (fun h => by rw [Bd.returns] at h; cases h)
    refine ⟨_, _, retN X162 hx (t := .boolean) Bd.returns (by simp) (hb hby at_75) hr, hrun, hended, _, _, rfl, ?_, ⟨_, rfl⟩, hW, hsame.mono (by decide) (by decide)⟩
    show Qrm0 Z q1 p1 sa sk h0 n0 _ T162.heap _
    rw [eh162]
    exact ⟨rfl, N162⟩
  · rw [hk]
    show Go p.tables e below _ (s₁.setTop (mkF m 5 #[.val (.long q1), .second, .val (.int p1), .val (.int (4 : Int32)), .unset, .unset, .unset, .unset, .unset, .unset, .unset] []))
    obtain ⟨T165, h165, X165, e165, E165, A165, D165, -, st165⟩ := newO X0 hx hZ hown (hw _ (List.mem_of_getElem? (i := 0) rfl)) (hw _ (List.mem_of_getElem? (i := 1) rfl)) (hw _ (List.mem_of_getElem? (i := 2) rfl)) e0 (g := (mkF m 5 #[.val (.long q1), .second, .val (.int p1), .val (.int (4 : Int32)), .unset, .unset, .unset, .unset, .unset, .unset, .unset] [])) rfl (hb hby at_5) (by decide) (by decide)
    obtain ⟨b165, g165⟩ : ∃ z, z = h0.size := ⟨_, rfl⟩
    rw [← g165] at A165 D165 st165
    refine Go.step st165 ?_
    have ne_sa_b165 : sa ≠ b165 := Nat.ne_of_lt (Nat.lt_of_lt_of_le V1.lt (Nat.le_of_eq g165.symm))
    have g_b165 : n0 ≤ b165 := Nat.le_trans Z0 (Nat.le_of_eq g165.symm)
    have F166 : Sta Z h165 "com/example/sibyl/sibyl/core/BlockHash" "SALTS" "[I" (.ref sa) := (S1.ext E165)
    have F167 : Arv Z h165 sa sk .int (8 : Int32) [(.int (1203114875 : Int32)), (.int (1150766481 : Int32)), (.int (-2010862245 : Int32)), (.int (-1565054819 : Int32)), (.int (1884591559 : Int32)), (.int (770785867 : Int32)), (.int (-1627633337 : Int32)), (.int (1550580529 : Int32))] (.int (0 : Int32)) := (V1.ext E165)
    have Z168 : n0 ≤ h165.size := (Nat.le_trans Z0 E165.1)
    have F169 : Fld Z h165 b165 "com/example/sibyl/sibyl/core/BlockHash" "value" "J" (.long (0 : Int64)) := D165 (Or.inr (hw _ (List.mem_of_getElem? (i := 15) rfl))) (ty := .long) (by decide)
    show Go p.tables e below _ (T165.setTop (mkF m 8 #[.val (.long q1), .second, .val (.int p1), .val (.int (4 : Int32)), .unset, .unset, .unset, .unset, .unset, .unset, .unset] [(.ref b165)]))
    refine Go.step (fun _ kt => XS.dup X165.here hx rfl (hb hby at_8) rfl rfl kt) ?_
    show Go p.tables e below _ (T165.setTop (mkF m 9 #[.val (.long q1), .second, .val (.int p1), .val (.int (4 : Int32)), .unset, .unset, .unset, .unset, .unset, .unset, .unset] [(.ref b165), (.ref b165)]))
    refine Go.step (fun _ kt => XS.lloadN X165.here hx rfl (hb hby at_9) rfl kt) ?_
    show Go p.tables e below _ (T165.setTop (mkF m 10 #[.val (.long q1), .second, .val (.int p1), .val (.int (4 : Int32)), .unset, .unset, .unset, .unset, .unset, .unset, .unset] [(.long q1), (.ref b165), (.ref b165)]))
    obtain ⟨_, _, ⟨T170, L170, k170, n170⟩, -, X170, ⟨Lc170, hQ170, l170, y170, z170⟩, st170⟩ := X165.specialBack hx (y := (⟨"com/example/sibyl/sibyl/core/BlockHash", "<init>", "(J)V"⟩ : MethodName)) rfl hown (mvT hZ (hw _ (List.mem_of_getElem? (i := 3) rfl))) (mvT hZ (hw _ (List.mem_of_getElem? (i := 4) rfl))) (mvT hZ (hw _ (List.mem_of_getElem? (i := 5) rfl))) (by decide) (backOf (W := 1) (rm1 l Z a0 hw [] b165 q1 (.long (0 : Int64)) h165 n0 Z168 A165 F169 g_b165) hZ (hw _ (List.mem_of_getElem? (i := 5) rfl)) (hw _ (List.mem_of_getElem? (i := 2) rfl)) (by decide) (by decide)) (g := (mkF m 10 #[.val (.long q1), .second, .val (.int p1), .val (.int (4 : Int32)), .unset, .unset, .unset, .unset, .unset, .unset, .unset] [(.long q1), (.ref b165), (.ref b165)])) rfl (by rw [hml]; rfl) (Steps.refl _) (a := b165) (argsL := [(.long q1)]) (rest := [(.ref b165)]) (lenOf pd_1 rfl) rfl (by show 2 * 0 + _ ≤ _; exact Nat.le_of_eq rfl) (hb hby at_10) (fun _ _ => ⟨rfl, e165, (by decide : 1 + 0 ≤ _), (by decide : 1 + 0 ≤ _)⟩)
    dsimp only [Pt.U, Pt.locs, Pt.cells, Pt.slots] at X170 l170 y170 z170 st170 hQ170
    subst l170 y170 z170
    obtain ⟨rfl, N170q, Kq170, P171, P172⟩ := hQ170
    have F173 : Sta Z T170.heap "com/example/sibyl/sibyl/core/BlockHash" "SALTS" "[I" (.ref sa) := (own_sta_keep F166 A165 Kq170)
    have F174 : Arv Z T170.heap sa sk .int (8 : Int32) [(.int (1203114875 : Int32)), (.int (1150766481 : Int32)), (.int (-2010862245 : Int32)), (.int (-1565054819 : Int32)), (.int (1884591559 : Int32)), (.int (770785867 : Int32)), (.int (-1627633337 : Int32)), (.int (1550580529 : Int32))] (.int (0 : Int32)) := (F167.keep Kq170 (fun q => ne_sa_b165 (List.mem_singleton.mp q)))
    have F175 : Exa Z T170.heap b165 "com/example/sibyl/sibyl/core/BlockHash" := (A165.keep Kq170)
    have Z176 : n0 ≤ T170.heap.size := (Nat.le_trans Z168 Kq170.1)
    have N170 := Fr.app N0 N170q
    refine Go.step (fun _ kt => st170.trans kt) ?_
    show Go p.tables e below _ (T170.setTop (mkF m 13 #[.val (.long q1), .second, .val (.int p1), .val (.int (4 : Int32)), .unset, .unset, .unset, .unset, .unset, .unset, .unset] [(.ref b165)]))
    refine Go.step (fun _ kt => XS.astore X170.here hx rfl (hb hby at_13) rfl rfl (l' := #[.val (.long q1), .second, .val (.int p1), .val (.int (4 : Int32)), .val (.ref b165), .unset, .unset, .unset, .unset, .unset, .unset]) rfl kt) ?_
    show Go p.tables e below _ (T170.setTop (mkF m 15 #[.val (.long q1), .second, .val (.int p1), .val (.int (4 : Int32)), .val (.ref b165), .unset, .unset, .unset, .unset, .unset, .unset] []))
    refine Go.step (fun _ kt => XS.aload X170.here hx rfl (hb hby at_15) rfl rfl kt) ?_
    show Go p.tables e below _ (T170.setTop (mkF m 17 #[.val (.long q1), .second, .val (.int p1), .val (.int (4 : Int32)), .val (.ref b165), .unset, .unset, .unset, .unset, .unset, .unset] [(.ref b165)]))
    refine Go.step (fun _ kt => XS.iloadN X170.here hx rfl (hb hby at_17) rfl kt) ?_
    show Go p.tables e below _ (T170.setTop (mkF m 18 #[.val (.long q1), .second, .val (.int p1), .val (.int (4 : Int32)), .val (.ref b165), .unset, .unset, .unset, .unset, .unset, .unset] [(.int (4 : Int32)), (.ref b165)]))
    obtain ⟨cq177, kq177, q177a, q177b, q177c⟩ := isOf hZ rfl P171
    obtain ⟨_, _, ⟨T177, L177, k177, n177⟩, -, X177, ⟨Lc177, hQ177, l177, y177, z177⟩, st177⟩ := X170.virtualBack hx (y := (⟨"com/example/sibyl/sibyl/core/BlockHash", "bit", "(I)I"⟩ : MethodName)) (z := (⟨"com/example/sibyl/sibyl/core/BlockHash", "bit", "(I)I"⟩ : MethodName)) hown (mvT hZ (hw _ (List.mem_of_getElem? (i := 16) rfl))) (mvT hZ (hw _ (List.mem_of_getElem? (i := 17) rfl))) (notFace_of_selects (args := #[]) (mvT hZ (hw _ (List.mem_of_getElem? (i := 19) rfl)))) (mvT hZ (hw _ (List.mem_of_getElem? (i := 19) rfl))) (mvT hZ (hw _ (List.mem_of_getElem? (i := 18) rfl))) (by decide) (backOf (W := 0) (rmb4 l Z a0 hw [] b165 q1 sa sk T170.heap n0 Z176 P172 F173 F174 ) hZ (hw _ (List.mem_of_getElem? (i := 20) rfl)) (hw _ (List.mem_of_getElem? (i := 2) rfl)) (by decide) (by decide)) q177a q177c (g := (mkF m 18 #[.val (.long q1), .second, .val (.int p1), .val (.int (4 : Int32)), .val (.ref b165), .unset, .unset, .unset, .unset, .unset, .unset] [(.int (4 : Int32)), (.ref b165)])) rfl (by rw [hml]; rfl) (Steps.refl _) (argsL := [(.int (4 : Int32))]) (rest := []) (lenOf pd_2 rfl) rfl (by show 2 * 0 + _ ≤ _; exact Nat.le_of_eq rfl) (hb hby at_18) (fun _ _ => ⟨rfl, rfl, (by decide : 1 + 0 ≤ _), (by decide : 1 + 0 ≤ _)⟩)
    dsimp only [Pt.U, Pt.locs, Pt.cells, Pt.slots] at X177 l177 y177 z177 st177 hQ177
    subst l177 y177 z177
    obtain ⟨rfl, N177q, eh177⟩ := hQ177
    have N177 := Fr.app N170 N177q
    refine Go.step (fun _ kt => st177.trans kt) ?_
    show Go p.tables e below _ (T177.setTop (mkF m 21 #[.val (.long q1), .second, .val (.int p1), .val (.int (4 : Int32)), .val (.ref b165), .unset, .unset, .unset, .unset, .unset, .unset] [(.int (own_bit q1 (1884591559 : Int32)))]))
    obtain ⟨got, e_got⟩ : ∃ nm_, nm_ = (own_bit q1 (1884591559 : Int32)) := ⟨_, rfl⟩
    rw [← e_got]
    show Go p.tables e below _ (T177.setTop (mkF m 21 #[.val (.long q1), .second, .val (.int p1), .val (.int (4 : Int32)), .val (.ref b165), .unset, .unset, .unset, .unset, .unset, .unset] [(.int got)]))
    refine Go.step (fun _ kt => XS.istore X177.here hx rfl (hb hby at_21) rfl (l' := #[.val (.long q1), .second, .val (.int p1), .val (.int (4 : Int32)), .val (.ref b165), .val (.int got), .unset, .unset, .unset, .unset, .unset]) rfl kt) ?_
    show Go p.tables e below _ (T177.setTop (mkF m 23 #[.val (.long q1), .second, .val (.int p1), .val (.int (4 : Int32)), .val (.ref b165), .val (.int got), .unset, .unset, .unset, .unset, .unset] []))
    refine Go.step (fun _ kt => XS.lloadN X177.here hx rfl (hb hby at_23) rfl kt) ?_
    show Go p.tables e below _ (T177.setTop (mkF m 24 #[.val (.long q1), .second, .val (.int p1), .val (.int (4 : Int32)), .val (.ref b165), .val (.int got), .unset, .unset, .unset, .unset, .unset] [(.long q1)]))
    refine Go.step (X177.ldc2Long hx hown (mvT hZ (hw _ (List.mem_of_getElem? (i := 23) rfl))) (g := (mkF m 24 #[.val (.long q1), .second, .val (.int p1), .val (.int (4 : Int32)), .val (.ref b165), .val (.int got), .unset, .unset, .unset, .unset, .unset] [(.long q1)])) rfl (hb hby at_24)) ?_
    show Go p.tables e below _ (T177.setTop (mkF m 27 #[.val (.long q1), .second, .val (.int p1), .val (.int (4 : Int32)), .val (.ref b165), .val (.int got), .unset, .unset, .unset, .unset, .unset] [(.long (4294967295 : Int64)), (.long q1)]))
    refine Go.step (fun _ kt => XS.land X177.here hx rfl (hb hby at_27) rfl kt) ?_
    show Go p.tables e below _ (T177.setTop (mkF m 28 #[.val (.long q1), .second, .val (.int p1), .val (.int (4 : Int32)), .val (.ref b165), .val (.int got), .unset, .unset, .unset, .unset, .unset] [(.long (q1 &&& (4294967295 : Int64)))]))
    refine Go.step (fun _ kt => XS.lstore X177.here hx rfl (hb hby at_28) rfl (l' := #[.val (.long q1), .second, .val (.int p1), .val (.int (4 : Int32)), .val (.ref b165), .val (.int got), .val (.long (q1 &&& (4294967295 : Int64))), .second, .unset, .unset, .unset]) rfl kt) ?_
    show Go p.tables e below _ (T177.setTop (mkF m 30 #[.val (.long q1), .second, .val (.int p1), .val (.int (4 : Int32)), .val (.ref b165), .val (.int got), .val (.long (q1 &&& (4294967295 : Int64))), .second, .unset, .unset, .unset] []))
    refine Go.step (fun _ kt => XS.lload X177.here hx rfl (hb hby at_30) rfl kt) ?_
    show Go p.tables e below _ (T177.setTop (mkF m 32 #[.val (.long q1), .second, .val (.int p1), .val (.int (4 : Int32)), .val (.ref b165), .val (.int got), .val (.long (q1 &&& (4294967295 : Int64))), .second, .unset, .unset, .unset] [(.long (q1 &&& (4294967295 : Int64)))]))
    refine Go.step (fun _ kt => XS.iloadN X177.here hx rfl (hb hby at_32) rfl kt) ?_
    show Go p.tables e below _ (T177.setTop (mkF m 33 #[.val (.long q1), .second, .val (.int p1), .val (.int (4 : Int32)), .val (.ref b165), .val (.int got), .val (.long (q1 &&& (4294967295 : Int64))), .second, .unset, .unset, .unset] [(.int (4 : Int32)), (.long (q1 &&& (4294967295 : Int64)))]))
    obtain ⟨_, _, ⟨T178, L178, k178, n178⟩, -, X178, ⟨Lc178, hQ178, l178, y178, z178⟩, st178⟩ := Jvm.LawKit.callS X177 hx (y := (⟨"com/example/sibyl/sibyl/core/BlockHashBitPinLaw", "salt", "(I)J"⟩ : MethodName)) hown (mvT hZ (hw _ (List.mem_of_getElem? (i := 24) rfl))) (mvT hZ (hw _ (List.mem_of_getElem? (i := 25) rfl))) (mvT hZ (hw _ (List.mem_of_getElem? (i := 26) rfl))) (mvT hZ (hw _ (List.mem_of_getElem? (i := 27) rfl))) (by decide) (backOf (W := 2) (rm5 l Z a0 hw [] (4 : Int32)  T170.heap n0 Z176  ) hZ (hw _ (List.mem_of_getElem? (i := 27) rfl)) (hw _ (List.mem_of_getElem? (i := 26) rfl)) (by decide) (by decide)) (g := (mkF m 33 #[.val (.long q1), .second, .val (.int p1), .val (.int (4 : Int32)), .val (.ref b165), .val (.int got), .val (.long (q1 &&& (4294967295 : Int64))), .second, .unset, .unset, .unset] [(.int (4 : Int32)), (.long (q1 &&& (4294967295 : Int64)))])) rfl (by rw [hml]; rfl) (argsL := [(.int (4 : Int32))]) (rest := [(.long (q1 &&& (4294967295 : Int64)))]) (lenOf pd_3 rfl) rfl (by show 2 * 0 + _ ≤ _; exact Nat.le_of_eq rfl) (hb hby at_33) (fun _ _ => ⟨rfl, eh177, (by decide : 1 + 0 ≤ _), (by decide : 1 + 0 ≤ _)⟩)
    dsimp only [Pt.U, Pt.locs, Pt.cells, Pt.slots] at X178 l178 y178 z178 st178 hQ178
    subst l178 y178 z178
    obtain ⟨rfl, N178q, eh178⟩ := hQ178
    have N178 := Fr.app N177 N178q
    refine Go.step st178 ?_
    show Go p.tables e below _ (T178.setTop (mkF m 36 #[.val (.long q1), .second, .val (.int p1), .val (.int (4 : Int32)), .val (.ref b165), .val (.int got), .val (.long (q1 &&& (4294967295 : Int64))), .second, .unset, .unset, .unset] [(.long (own_salt (4 : Int32))), (.long (q1 &&& (4294967295 : Int64)))]))
    have q179 : (own_salt (4 : Int32)) = (1884591559 : Int64) := rfl
    rw [q179]
    show Go p.tables e below _ (T178.setTop (mkF m 36 #[.val (.long q1), .second, .val (.int p1), .val (.int (4 : Int32)), .val (.ref b165), .val (.int got), .val (.long (q1 &&& (4294967295 : Int64))), .second, .unset, .unset, .unset] [(.long (1884591559 : Int64)), (.long (q1 &&& (4294967295 : Int64)))]))
    refine Go.step (fun _ kt => XS.lmul X178.here hx rfl (hb hby at_36) rfl kt) ?_
    show Go p.tables e below _ (T178.setTop (mkF m 37 #[.val (.long q1), .second, .val (.int p1), .val (.int (4 : Int32)), .val (.ref b165), .val (.int got), .val (.long (q1 &&& (4294967295 : Int64))), .second, .unset, .unset, .unset] [(.long ((q1 &&& (4294967295 : Int64)) * (1884591559 : Int64)))]))
    refine Go.step (X178.ldc2Long hx hown (mvT hZ (hw _ (List.mem_of_getElem? (i := 23) rfl))) (g := (mkF m 37 #[.val (.long q1), .second, .val (.int p1), .val (.int (4 : Int32)), .val (.ref b165), .val (.int got), .val (.long (q1 &&& (4294967295 : Int64))), .second, .unset, .unset, .unset] [(.long ((q1 &&& (4294967295 : Int64)) * (1884591559 : Int64)))])) rfl (hb hby at_37)) ?_
    show Go p.tables e below _ (T178.setTop (mkF m 40 #[.val (.long q1), .second, .val (.int p1), .val (.int (4 : Int32)), .val (.ref b165), .val (.int got), .val (.long (q1 &&& (4294967295 : Int64))), .second, .unset, .unset, .unset] [(.long (4294967295 : Int64)), (.long ((q1 &&& (4294967295 : Int64)) * (1884591559 : Int64)))]))
    refine Go.step (fun _ kt => XS.land X178.here hx rfl (hb hby at_40) rfl kt) ?_
    show Go p.tables e below _ (T178.setTop (mkF m 41 #[.val (.long q1), .second, .val (.int p1), .val (.int (4 : Int32)), .val (.ref b165), .val (.int got), .val (.long (q1 &&& (4294967295 : Int64))), .second, .unset, .unset, .unset] [(.long (((q1 &&& (4294967295 : Int64)) * (1884591559 : Int64)) &&& (4294967295 : Int64)))]))
    refine Go.step (fun _ kt => XS.lstore X178.here hx rfl (hb hby at_41) rfl (l' := #[.val (.long q1), .second, .val (.int p1), .val (.int (4 : Int32)), .val (.ref b165), .val (.int got), .val (.long (q1 &&& (4294967295 : Int64))), .second, .val (.long (((q1 &&& (4294967295 : Int64)) * (1884591559 : Int64)) &&& (4294967295 : Int64))), .second, .unset]) rfl kt) ?_
    show Go p.tables e below _ (T178.setTop (mkF m 43 #[.val (.long q1), .second, .val (.int p1), .val (.int (4 : Int32)), .val (.ref b165), .val (.int got), .val (.long (q1 &&& (4294967295 : Int64))), .second, .val (.long (((q1 &&& (4294967295 : Int64)) * (1884591559 : Int64)) &&& (4294967295 : Int64))), .second, .unset] []))
    refine Go.step (fun _ kt => XS.lload X178.here hx rfl (hb hby at_43) rfl kt) ?_
    show Go p.tables e below _ (T178.setTop (mkF m 45 #[.val (.long q1), .second, .val (.int p1), .val (.int (4 : Int32)), .val (.ref b165), .val (.int got), .val (.long (q1 &&& (4294967295 : Int64))), .second, .val (.long (((q1 &&& (4294967295 : Int64)) * (1884591559 : Int64)) &&& (4294967295 : Int64))), .second, .unset] [(.long (((q1 &&& (4294967295 : Int64)) * (1884591559 : Int64)) &&& (4294967295 : Int64)))]))
    refine Go.step (fun _ kt => XS.bipush X178.here hx rfl (hb hby at_45) kt) ?_
    show Go p.tables e below _ (T178.setTop (mkF m 47 #[.val (.long q1), .second, .val (.int p1), .val (.int (4 : Int32)), .val (.ref b165), .val (.int got), .val (.long (q1 &&& (4294967295 : Int64))), .second, .val (.long (((q1 &&& (4294967295 : Int64)) * (1884591559 : Int64)) &&& (4294967295 : Int64))), .second, .unset] [(.int (27 : Int32)), (.long (((q1 &&& (4294967295 : Int64)) * (1884591559 : Int64)) &&& (4294967295 : Int64)))]))
    refine Go.step (fun _ kt => XS.lushr X178.here hx rfl (hb hby at_47) rfl kt) ?_
    show Go p.tables e below _ (T178.setTop (mkF m 48 #[.val (.long q1), .second, .val (.int p1), .val (.int (4 : Int32)), .val (.ref b165), .val (.int got), .val (.long (q1 &&& (4294967295 : Int64))), .second, .val (.long (((q1 &&& (4294967295 : Int64)) * (1884591559 : Int64)) &&& (4294967295 : Int64))), .second, .unset] [(.long (((((q1 &&& (4294967295 : Int64)) * (1884591559 : Int64)) &&& (4294967295 : Int64)).toUInt64 >>> ((27 : Int32) &&& 0x3f).toInt64.toUInt64).toInt64))]))
    refine Go.step (fun _ kt => XS.l2i X178.here hx rfl (hb hby at_48) rfl kt) ?_
    show Go p.tables e below _ (T178.setTop (mkF m 49 #[.val (.long q1), .second, .val (.int p1), .val (.int (4 : Int32)), .val (.ref b165), .val (.int got), .val (.long (q1 &&& (4294967295 : Int64))), .second, .val (.long (((q1 &&& (4294967295 : Int64)) * (1884591559 : Int64)) &&& (4294967295 : Int64))), .second, .unset] [(.int ((((((q1 &&& (4294967295 : Int64)) * (1884591559 : Int64)) &&& (4294967295 : Int64)).toUInt64 >>> ((27 : Int32) &&& 0x3f).toInt64.toUInt64).toInt64).toInt32))]))
    have e_all := own_eq q1 (1884591559 : Int32) (1884591559 : Int64) (by decide)
    rw [← e_got] at e_all
    have q180 : ((((((q1 &&& (4294967295 : Int64)) * (1884591559 : Int64)) &&& (4294967295 : Int64)).toUInt64 >>> ((27 : Int32) &&& 0x3f).toInt64.toUInt64).toInt64).toInt32) = got := e_all.1.symm
    rw [q180]
    show Go p.tables e below _ (T178.setTop (mkF m 49 #[.val (.long q1), .second, .val (.int p1), .val (.int (4 : Int32)), .val (.ref b165), .val (.int got), .val (.long (q1 &&& (4294967295 : Int64))), .second, .val (.long (((q1 &&& (4294967295 : Int64)) * (1884591559 : Int64)) &&& (4294967295 : Int64))), .second, .unset] [(.int got)]))
    refine Go.step (fun _ kt => XS.istore X178.here hx rfl (hb hby at_49) rfl (l' := #[.val (.long q1), .second, .val (.int p1), .val (.int (4 : Int32)), .val (.ref b165), .val (.int got), .val (.long (q1 &&& (4294967295 : Int64))), .second, .val (.long (((q1 &&& (4294967295 : Int64)) * (1884591559 : Int64)) &&& (4294967295 : Int64))), .second, .val (.int got)]) rfl kt) ?_
    show Go p.tables e below _ (T178.setTop (mkF m 51 #[.val (.long q1), .second, .val (.int p1), .val (.int (4 : Int32)), .val (.ref b165), .val (.int got), .val (.long (q1 &&& (4294967295 : Int64))), .second, .val (.long (((q1 &&& (4294967295 : Int64)) * (1884591559 : Int64)) &&& (4294967295 : Int64))), .second, .val (.int got)] []))
    refine Go.step (fun _ kt => XS.iload X178.here hx rfl (hb hby at_51) rfl kt) ?_
    show Go p.tables e below _ (T178.setTop (mkF m 53 #[.val (.long q1), .second, .val (.int p1), .val (.int (4 : Int32)), .val (.ref b165), .val (.int got), .val (.long (q1 &&& (4294967295 : Int64))), .second, .val (.long (((q1 &&& (4294967295 : Int64)) * (1884591559 : Int64)) &&& (4294967295 : Int64))), .second, .val (.int got)] [(.int got)]))
    refine Go.step (fun _ kt => XS.iload X178.here hx rfl (hb hby at_53) rfl kt) ?_
    show Go p.tables e below _ (T178.setTop (mkF m 55 #[.val (.long q1), .second, .val (.int p1), .val (.int (4 : Int32)), .val (.ref b165), .val (.int got), .val (.long (q1 &&& (4294967295 : Int64))), .second, .val (.long (((q1 &&& (4294967295 : Int64)) * (1884591559 : Int64)) &&& (4294967295 : Int64))), .second, .val (.int got)] [(.int got), (.int got)]))
    refine Go.step (fun _ kt => XS.icmpNo X178.here hx rfl (hb hby at_55) rfl (teq (rfl : got = got)).2 kt) ?_
    show Go p.tables e below _ (T178.setTop (mkF m 58 #[.val (.long q1), .second, .val (.int p1), .val (.int (4 : Int32)), .val (.ref b165), .val (.int got), .val (.long (q1 &&& (4294967295 : Int64))), .second, .val (.long (((q1 &&& (4294967295 : Int64)) * (1884591559 : Int64)) &&& (4294967295 : Int64))), .second, .val (.int got)] []))
    refine Go.step (fun _ kt => XS.iload X178.here hx rfl (hb hby at_58) rfl kt) ?_
    show Go p.tables e below _ (T178.setTop (mkF m 60 #[.val (.long q1), .second, .val (.int p1), .val (.int (4 : Int32)), .val (.ref b165), .val (.int got), .val (.long (q1 &&& (4294967295 : Int64))), .second, .val (.long (((q1 &&& (4294967295 : Int64)) * (1884591559 : Int64)) &&& (4294967295 : Int64))), .second, .val (.int got)] [(.int got)]))
    refine Go.step (fun _ kt => XS.ifNo X178.here hx rfl (hb hby at_60) rfl ((if0 _ _).trans (flt e_all.2.1).1) kt) ?_
    show Go p.tables e below _ (T178.setTop (mkF m 63 #[.val (.long q1), .second, .val (.int p1), .val (.int (4 : Int32)), .val (.ref b165), .val (.int got), .val (.long (q1 &&& (4294967295 : Int64))), .second, .val (.long (((q1 &&& (4294967295 : Int64)) * (1884591559 : Int64)) &&& (4294967295 : Int64))), .second, .val (.int got)] []))
    refine Go.step (fun _ kt => XS.iload X178.here hx rfl (hb hby at_63) rfl kt) ?_
    show Go p.tables e below _ (T178.setTop (mkF m 65 #[.val (.long q1), .second, .val (.int p1), .val (.int (4 : Int32)), .val (.ref b165), .val (.int got), .val (.long (q1 &&& (4294967295 : Int64))), .second, .val (.long (((q1 &&& (4294967295 : Int64)) * (1884591559 : Int64)) &&& (4294967295 : Int64))), .second, .val (.int got)] [(.int got)]))
    refine Go.step (fun _ kt => XS.bipush X178.here hx rfl (hb hby at_65) kt) ?_
    show Go p.tables e below _ (T178.setTop (mkF m 67 #[.val (.long q1), .second, .val (.int p1), .val (.int (4 : Int32)), .val (.ref b165), .val (.int got), .val (.long (q1 &&& (4294967295 : Int64))), .second, .val (.long (((q1 &&& (4294967295 : Int64)) * (1884591559 : Int64)) &&& (4294967295 : Int64))), .second, .val (.int got)] [(.int (31 : Int32)), (.int got)]))
    refine Go.step (fun _ kt => XS.icmpNo X178.here hx rfl (hb hby at_67) rfl (flt e_all.2.2).2.2.1 kt) ?_
    show Go p.tables e below _ (T178.setTop (mkF m 70 #[.val (.long q1), .second, .val (.int p1), .val (.int (4 : Int32)), .val (.ref b165), .val (.int got), .val (.long (q1 &&& (4294967295 : Int64))), .second, .val (.long (((q1 &&& (4294967295 : Int64)) * (1884591559 : Int64)) &&& (4294967295 : Int64))), .second, .val (.int got)] []))
    refine Go.step (fun _ kt => XS.iconst X178.here hx rfl (hb hby at_70) kt) ?_
    show Go p.tables e below _ (T178.setTop (mkF m 71 #[.val (.long q1), .second, .val (.int p1), .val (.int (4 : Int32)), .val (.ref b165), .val (.int got), .val (.long (q1 &&& (4294967295 : Int64))), .second, .val (.long (((q1 &&& (4294967295 : Int64)) * (1884591559 : Int64)) &&& (4294967295 : Int64))), .second, .val (.int got)] [(.int (1 : Int32))]))
    refine Go.step (fun _ kt => XS.goto X178.here hx rfl (pc0 := 71) (pc' := 75) rfl (hb hby at_71) (by decide) (by decide) kt) ?_
    show Go p.tables e below _ (T178.setTop (mkF m 75 #[.val (.long q1), .second, .val (.int p1), .val (.int (4 : Int32)), .val (.ref b165), .val (.int got), .val (.long (q1 &&& (4294967295 : Int64))), .second, .val (.long (((q1 &&& (4294967295 : Int64)) * (1884591559 : Int64)) &&& (4294967295 : Int64))), .second, .val (.int got)] [(.int (1 : Int32))]))
    obtain ⟨fs, hr, hrun, hended, hW, hsame⟩ := X178.leave (v := some (.int (1 : Int32))) (fun h => by rw [Bd.returns] at h; cases h)
    refine ⟨_, _, retN X178 hx (t := .boolean) Bd.returns (by simp) (hb hby at_75) hr, hrun, hended, _, _, rfl, ?_, ⟨_, rfl⟩, hW, hsame.mono (by decide) (by decide)⟩
    show Qrm0 Z q1 p1 sa sk h0 n0 _ T178.heap _
    rw [eh178]
    exact ⟨rfl, N178⟩
  · rw [hk]
    show Go p.tables e below _ (s₁.setTop (mkF m 5 #[.val (.long q1), .second, .val (.int p1), .val (.int (5 : Int32)), .unset, .unset, .unset, .unset, .unset, .unset, .unset] []))
    obtain ⟨T181, h181, X181, e181, E181, A181, D181, -, st181⟩ := newO X0 hx hZ hown (hw _ (List.mem_of_getElem? (i := 0) rfl)) (hw _ (List.mem_of_getElem? (i := 1) rfl)) (hw _ (List.mem_of_getElem? (i := 2) rfl)) e0 (g := (mkF m 5 #[.val (.long q1), .second, .val (.int p1), .val (.int (5 : Int32)), .unset, .unset, .unset, .unset, .unset, .unset, .unset] [])) rfl (hb hby at_5) (by decide) (by decide)
    obtain ⟨b181, g181⟩ : ∃ z, z = h0.size := ⟨_, rfl⟩
    rw [← g181] at A181 D181 st181
    refine Go.step st181 ?_
    have ne_sa_b181 : sa ≠ b181 := Nat.ne_of_lt (Nat.lt_of_lt_of_le V1.lt (Nat.le_of_eq g181.symm))
    have g_b181 : n0 ≤ b181 := Nat.le_trans Z0 (Nat.le_of_eq g181.symm)
    have F182 : Sta Z h181 "com/example/sibyl/sibyl/core/BlockHash" "SALTS" "[I" (.ref sa) := (S1.ext E181)
    have F183 : Arv Z h181 sa sk .int (8 : Int32) [(.int (1203114875 : Int32)), (.int (1150766481 : Int32)), (.int (-2010862245 : Int32)), (.int (-1565054819 : Int32)), (.int (1884591559 : Int32)), (.int (770785867 : Int32)), (.int (-1627633337 : Int32)), (.int (1550580529 : Int32))] (.int (0 : Int32)) := (V1.ext E181)
    have Z184 : n0 ≤ h181.size := (Nat.le_trans Z0 E181.1)
    have F185 : Fld Z h181 b181 "com/example/sibyl/sibyl/core/BlockHash" "value" "J" (.long (0 : Int64)) := D181 (Or.inr (hw _ (List.mem_of_getElem? (i := 15) rfl))) (ty := .long) (by decide)
    show Go p.tables e below _ (T181.setTop (mkF m 8 #[.val (.long q1), .second, .val (.int p1), .val (.int (5 : Int32)), .unset, .unset, .unset, .unset, .unset, .unset, .unset] [(.ref b181)]))
    refine Go.step (fun _ kt => XS.dup X181.here hx rfl (hb hby at_8) rfl rfl kt) ?_
    show Go p.tables e below _ (T181.setTop (mkF m 9 #[.val (.long q1), .second, .val (.int p1), .val (.int (5 : Int32)), .unset, .unset, .unset, .unset, .unset, .unset, .unset] [(.ref b181), (.ref b181)]))
    refine Go.step (fun _ kt => XS.lloadN X181.here hx rfl (hb hby at_9) rfl kt) ?_
    show Go p.tables e below _ (T181.setTop (mkF m 10 #[.val (.long q1), .second, .val (.int p1), .val (.int (5 : Int32)), .unset, .unset, .unset, .unset, .unset, .unset, .unset] [(.long q1), (.ref b181), (.ref b181)]))
    obtain ⟨_, _, ⟨T186, L186, k186, n186⟩, -, X186, ⟨Lc186, hQ186, l186, y186, z186⟩, st186⟩ := X181.specialBack hx (y := (⟨"com/example/sibyl/sibyl/core/BlockHash", "<init>", "(J)V"⟩ : MethodName)) rfl hown (mvT hZ (hw _ (List.mem_of_getElem? (i := 3) rfl))) (mvT hZ (hw _ (List.mem_of_getElem? (i := 4) rfl))) (mvT hZ (hw _ (List.mem_of_getElem? (i := 5) rfl))) (by decide) (backOf (W := 1) (rm1 l Z a0 hw [] b181 q1 (.long (0 : Int64)) h181 n0 Z184 A181 F185 g_b181) hZ (hw _ (List.mem_of_getElem? (i := 5) rfl)) (hw _ (List.mem_of_getElem? (i := 2) rfl)) (by decide) (by decide)) (g := (mkF m 10 #[.val (.long q1), .second, .val (.int p1), .val (.int (5 : Int32)), .unset, .unset, .unset, .unset, .unset, .unset, .unset] [(.long q1), (.ref b181), (.ref b181)])) rfl (by rw [hml]; rfl) (Steps.refl _) (a := b181) (argsL := [(.long q1)]) (rest := [(.ref b181)]) (lenOf pd_1 rfl) rfl (by show 2 * 0 + _ ≤ _; exact Nat.le_of_eq rfl) (hb hby at_10) (fun _ _ => ⟨rfl, e181, (by decide : 1 + 0 ≤ _), (by decide : 1 + 0 ≤ _)⟩)
    dsimp only [Pt.U, Pt.locs, Pt.cells, Pt.slots] at X186 l186 y186 z186 st186 hQ186
    subst l186 y186 z186
    obtain ⟨rfl, N186q, Kq186, P187, P188⟩ := hQ186
    have F189 : Sta Z T186.heap "com/example/sibyl/sibyl/core/BlockHash" "SALTS" "[I" (.ref sa) := (own_sta_keep F182 A181 Kq186)
    have F190 : Arv Z T186.heap sa sk .int (8 : Int32) [(.int (1203114875 : Int32)), (.int (1150766481 : Int32)), (.int (-2010862245 : Int32)), (.int (-1565054819 : Int32)), (.int (1884591559 : Int32)), (.int (770785867 : Int32)), (.int (-1627633337 : Int32)), (.int (1550580529 : Int32))] (.int (0 : Int32)) := (F183.keep Kq186 (fun q => ne_sa_b181 (List.mem_singleton.mp q)))
    have F191 : Exa Z T186.heap b181 "com/example/sibyl/sibyl/core/BlockHash" := (A181.keep Kq186)
    have Z192 : n0 ≤ T186.heap.size := (Nat.le_trans Z184 Kq186.1)
    have N186 := Fr.app N0 N186q
    refine Go.step (fun _ kt => st186.trans kt) ?_
    show Go p.tables e below _ (T186.setTop (mkF m 13 #[.val (.long q1), .second, .val (.int p1), .val (.int (5 : Int32)), .unset, .unset, .unset, .unset, .unset, .unset, .unset] [(.ref b181)]))
    refine Go.step (fun _ kt => XS.astore X186.here hx rfl (hb hby at_13) rfl rfl (l' := #[.val (.long q1), .second, .val (.int p1), .val (.int (5 : Int32)), .val (.ref b181), .unset, .unset, .unset, .unset, .unset, .unset]) rfl kt) ?_
    show Go p.tables e below _ (T186.setTop (mkF m 15 #[.val (.long q1), .second, .val (.int p1), .val (.int (5 : Int32)), .val (.ref b181), .unset, .unset, .unset, .unset, .unset, .unset] []))
    refine Go.step (fun _ kt => XS.aload X186.here hx rfl (hb hby at_15) rfl rfl kt) ?_
    show Go p.tables e below _ (T186.setTop (mkF m 17 #[.val (.long q1), .second, .val (.int p1), .val (.int (5 : Int32)), .val (.ref b181), .unset, .unset, .unset, .unset, .unset, .unset] [(.ref b181)]))
    refine Go.step (fun _ kt => XS.iloadN X186.here hx rfl (hb hby at_17) rfl kt) ?_
    show Go p.tables e below _ (T186.setTop (mkF m 18 #[.val (.long q1), .second, .val (.int p1), .val (.int (5 : Int32)), .val (.ref b181), .unset, .unset, .unset, .unset, .unset, .unset] [(.int (5 : Int32)), (.ref b181)]))
    obtain ⟨cq193, kq193, q193a, q193b, q193c⟩ := isOf hZ rfl P187
    obtain ⟨_, _, ⟨T193, L193, k193, n193⟩, -, X193, ⟨Lc193, hQ193, l193, y193, z193⟩, st193⟩ := X186.virtualBack hx (y := (⟨"com/example/sibyl/sibyl/core/BlockHash", "bit", "(I)I"⟩ : MethodName)) (z := (⟨"com/example/sibyl/sibyl/core/BlockHash", "bit", "(I)I"⟩ : MethodName)) hown (mvT hZ (hw _ (List.mem_of_getElem? (i := 16) rfl))) (mvT hZ (hw _ (List.mem_of_getElem? (i := 17) rfl))) (notFace_of_selects (args := #[]) (mvT hZ (hw _ (List.mem_of_getElem? (i := 19) rfl)))) (mvT hZ (hw _ (List.mem_of_getElem? (i := 19) rfl))) (mvT hZ (hw _ (List.mem_of_getElem? (i := 18) rfl))) (by decide) (backOf (W := 0) (rmb5 l Z a0 hw [] b181 q1 sa sk T186.heap n0 Z192 P188 F189 F190 ) hZ (hw _ (List.mem_of_getElem? (i := 20) rfl)) (hw _ (List.mem_of_getElem? (i := 2) rfl)) (by decide) (by decide)) q193a q193c (g := (mkF m 18 #[.val (.long q1), .second, .val (.int p1), .val (.int (5 : Int32)), .val (.ref b181), .unset, .unset, .unset, .unset, .unset, .unset] [(.int (5 : Int32)), (.ref b181)])) rfl (by rw [hml]; rfl) (Steps.refl _) (argsL := [(.int (5 : Int32))]) (rest := []) (lenOf pd_2 rfl) rfl (by show 2 * 0 + _ ≤ _; exact Nat.le_of_eq rfl) (hb hby at_18) (fun _ _ => ⟨rfl, rfl, (by decide : 1 + 0 ≤ _), (by decide : 1 + 0 ≤ _)⟩)
    dsimp only [Pt.U, Pt.locs, Pt.cells, Pt.slots] at X193 l193 y193 z193 st193 hQ193
    subst l193 y193 z193
    obtain ⟨rfl, N193q, eh193⟩ := hQ193
    have N193 := Fr.app N186 N193q
    refine Go.step (fun _ kt => st193.trans kt) ?_
    show Go p.tables e below _ (T193.setTop (mkF m 21 #[.val (.long q1), .second, .val (.int p1), .val (.int (5 : Int32)), .val (.ref b181), .unset, .unset, .unset, .unset, .unset, .unset] [(.int (own_bit q1 (770785867 : Int32)))]))
    obtain ⟨got, e_got⟩ : ∃ nm_, nm_ = (own_bit q1 (770785867 : Int32)) := ⟨_, rfl⟩
    rw [← e_got]
    show Go p.tables e below _ (T193.setTop (mkF m 21 #[.val (.long q1), .second, .val (.int p1), .val (.int (5 : Int32)), .val (.ref b181), .unset, .unset, .unset, .unset, .unset, .unset] [(.int got)]))
    refine Go.step (fun _ kt => XS.istore X193.here hx rfl (hb hby at_21) rfl (l' := #[.val (.long q1), .second, .val (.int p1), .val (.int (5 : Int32)), .val (.ref b181), .val (.int got), .unset, .unset, .unset, .unset, .unset]) rfl kt) ?_
    show Go p.tables e below _ (T193.setTop (mkF m 23 #[.val (.long q1), .second, .val (.int p1), .val (.int (5 : Int32)), .val (.ref b181), .val (.int got), .unset, .unset, .unset, .unset, .unset] []))
    refine Go.step (fun _ kt => XS.lloadN X193.here hx rfl (hb hby at_23) rfl kt) ?_
    show Go p.tables e below _ (T193.setTop (mkF m 24 #[.val (.long q1), .second, .val (.int p1), .val (.int (5 : Int32)), .val (.ref b181), .val (.int got), .unset, .unset, .unset, .unset, .unset] [(.long q1)]))
    refine Go.step (X193.ldc2Long hx hown (mvT hZ (hw _ (List.mem_of_getElem? (i := 23) rfl))) (g := (mkF m 24 #[.val (.long q1), .second, .val (.int p1), .val (.int (5 : Int32)), .val (.ref b181), .val (.int got), .unset, .unset, .unset, .unset, .unset] [(.long q1)])) rfl (hb hby at_24)) ?_
    show Go p.tables e below _ (T193.setTop (mkF m 27 #[.val (.long q1), .second, .val (.int p1), .val (.int (5 : Int32)), .val (.ref b181), .val (.int got), .unset, .unset, .unset, .unset, .unset] [(.long (4294967295 : Int64)), (.long q1)]))
    refine Go.step (fun _ kt => XS.land X193.here hx rfl (hb hby at_27) rfl kt) ?_
    show Go p.tables e below _ (T193.setTop (mkF m 28 #[.val (.long q1), .second, .val (.int p1), .val (.int (5 : Int32)), .val (.ref b181), .val (.int got), .unset, .unset, .unset, .unset, .unset] [(.long (q1 &&& (4294967295 : Int64)))]))
    refine Go.step (fun _ kt => XS.lstore X193.here hx rfl (hb hby at_28) rfl (l' := #[.val (.long q1), .second, .val (.int p1), .val (.int (5 : Int32)), .val (.ref b181), .val (.int got), .val (.long (q1 &&& (4294967295 : Int64))), .second, .unset, .unset, .unset]) rfl kt) ?_
    show Go p.tables e below _ (T193.setTop (mkF m 30 #[.val (.long q1), .second, .val (.int p1), .val (.int (5 : Int32)), .val (.ref b181), .val (.int got), .val (.long (q1 &&& (4294967295 : Int64))), .second, .unset, .unset, .unset] []))
    refine Go.step (fun _ kt => XS.lload X193.here hx rfl (hb hby at_30) rfl kt) ?_
    show Go p.tables e below _ (T193.setTop (mkF m 32 #[.val (.long q1), .second, .val (.int p1), .val (.int (5 : Int32)), .val (.ref b181), .val (.int got), .val (.long (q1 &&& (4294967295 : Int64))), .second, .unset, .unset, .unset] [(.long (q1 &&& (4294967295 : Int64)))]))
    refine Go.step (fun _ kt => XS.iloadN X193.here hx rfl (hb hby at_32) rfl kt) ?_
    show Go p.tables e below _ (T193.setTop (mkF m 33 #[.val (.long q1), .second, .val (.int p1), .val (.int (5 : Int32)), .val (.ref b181), .val (.int got), .val (.long (q1 &&& (4294967295 : Int64))), .second, .unset, .unset, .unset] [(.int (5 : Int32)), (.long (q1 &&& (4294967295 : Int64)))]))
    obtain ⟨_, _, ⟨T194, L194, k194, n194⟩, -, X194, ⟨Lc194, hQ194, l194, y194, z194⟩, st194⟩ := Jvm.LawKit.callS X193 hx (y := (⟨"com/example/sibyl/sibyl/core/BlockHashBitPinLaw", "salt", "(I)J"⟩ : MethodName)) hown (mvT hZ (hw _ (List.mem_of_getElem? (i := 24) rfl))) (mvT hZ (hw _ (List.mem_of_getElem? (i := 25) rfl))) (mvT hZ (hw _ (List.mem_of_getElem? (i := 26) rfl))) (mvT hZ (hw _ (List.mem_of_getElem? (i := 27) rfl))) (by decide) (backOf (W := 2) (rm5 l Z a0 hw [] (5 : Int32)  T186.heap n0 Z192  ) hZ (hw _ (List.mem_of_getElem? (i := 27) rfl)) (hw _ (List.mem_of_getElem? (i := 26) rfl)) (by decide) (by decide)) (g := (mkF m 33 #[.val (.long q1), .second, .val (.int p1), .val (.int (5 : Int32)), .val (.ref b181), .val (.int got), .val (.long (q1 &&& (4294967295 : Int64))), .second, .unset, .unset, .unset] [(.int (5 : Int32)), (.long (q1 &&& (4294967295 : Int64)))])) rfl (by rw [hml]; rfl) (argsL := [(.int (5 : Int32))]) (rest := [(.long (q1 &&& (4294967295 : Int64)))]) (lenOf pd_3 rfl) rfl (by show 2 * 0 + _ ≤ _; exact Nat.le_of_eq rfl) (hb hby at_33) (fun _ _ => ⟨rfl, eh193, (by decide : 1 + 0 ≤ _), (by decide : 1 + 0 ≤ _)⟩)
    dsimp only [Pt.U, Pt.locs, Pt.cells, Pt.slots] at X194 l194 y194 z194 st194 hQ194
    subst l194 y194 z194
    obtain ⟨rfl, N194q, eh194⟩ := hQ194
    have N194 := Fr.app N193 N194q
    refine Go.step st194 ?_
    show Go p.tables e below _ (T194.setTop (mkF m 36 #[.val (.long q1), .second, .val (.int p1), .val (.int (5 : Int32)), .val (.ref b181), .val (.int got), .val (.long (q1 &&& (4294967295 : Int64))), .second, .unset, .unset, .unset] [(.long (own_salt (5 : Int32))), (.long (q1 &&& (4294967295 : Int64)))]))
    have q195 : (own_salt (5 : Int32)) = (770785867 : Int64) := rfl
    rw [q195]
    show Go p.tables e below _ (T194.setTop (mkF m 36 #[.val (.long q1), .second, .val (.int p1), .val (.int (5 : Int32)), .val (.ref b181), .val (.int got), .val (.long (q1 &&& (4294967295 : Int64))), .second, .unset, .unset, .unset] [(.long (770785867 : Int64)), (.long (q1 &&& (4294967295 : Int64)))]))
    refine Go.step (fun _ kt => XS.lmul X194.here hx rfl (hb hby at_36) rfl kt) ?_
    show Go p.tables e below _ (T194.setTop (mkF m 37 #[.val (.long q1), .second, .val (.int p1), .val (.int (5 : Int32)), .val (.ref b181), .val (.int got), .val (.long (q1 &&& (4294967295 : Int64))), .second, .unset, .unset, .unset] [(.long ((q1 &&& (4294967295 : Int64)) * (770785867 : Int64)))]))
    refine Go.step (X194.ldc2Long hx hown (mvT hZ (hw _ (List.mem_of_getElem? (i := 23) rfl))) (g := (mkF m 37 #[.val (.long q1), .second, .val (.int p1), .val (.int (5 : Int32)), .val (.ref b181), .val (.int got), .val (.long (q1 &&& (4294967295 : Int64))), .second, .unset, .unset, .unset] [(.long ((q1 &&& (4294967295 : Int64)) * (770785867 : Int64)))])) rfl (hb hby at_37)) ?_
    show Go p.tables e below _ (T194.setTop (mkF m 40 #[.val (.long q1), .second, .val (.int p1), .val (.int (5 : Int32)), .val (.ref b181), .val (.int got), .val (.long (q1 &&& (4294967295 : Int64))), .second, .unset, .unset, .unset] [(.long (4294967295 : Int64)), (.long ((q1 &&& (4294967295 : Int64)) * (770785867 : Int64)))]))
    refine Go.step (fun _ kt => XS.land X194.here hx rfl (hb hby at_40) rfl kt) ?_
    show Go p.tables e below _ (T194.setTop (mkF m 41 #[.val (.long q1), .second, .val (.int p1), .val (.int (5 : Int32)), .val (.ref b181), .val (.int got), .val (.long (q1 &&& (4294967295 : Int64))), .second, .unset, .unset, .unset] [(.long (((q1 &&& (4294967295 : Int64)) * (770785867 : Int64)) &&& (4294967295 : Int64)))]))
    refine Go.step (fun _ kt => XS.lstore X194.here hx rfl (hb hby at_41) rfl (l' := #[.val (.long q1), .second, .val (.int p1), .val (.int (5 : Int32)), .val (.ref b181), .val (.int got), .val (.long (q1 &&& (4294967295 : Int64))), .second, .val (.long (((q1 &&& (4294967295 : Int64)) * (770785867 : Int64)) &&& (4294967295 : Int64))), .second, .unset]) rfl kt) ?_
    show Go p.tables e below _ (T194.setTop (mkF m 43 #[.val (.long q1), .second, .val (.int p1), .val (.int (5 : Int32)), .val (.ref b181), .val (.int got), .val (.long (q1 &&& (4294967295 : Int64))), .second, .val (.long (((q1 &&& (4294967295 : Int64)) * (770785867 : Int64)) &&& (4294967295 : Int64))), .second, .unset] []))
    refine Go.step (fun _ kt => XS.lload X194.here hx rfl (hb hby at_43) rfl kt) ?_
    show Go p.tables e below _ (T194.setTop (mkF m 45 #[.val (.long q1), .second, .val (.int p1), .val (.int (5 : Int32)), .val (.ref b181), .val (.int got), .val (.long (q1 &&& (4294967295 : Int64))), .second, .val (.long (((q1 &&& (4294967295 : Int64)) * (770785867 : Int64)) &&& (4294967295 : Int64))), .second, .unset] [(.long (((q1 &&& (4294967295 : Int64)) * (770785867 : Int64)) &&& (4294967295 : Int64)))]))
    refine Go.step (fun _ kt => XS.bipush X194.here hx rfl (hb hby at_45) kt) ?_
    show Go p.tables e below _ (T194.setTop (mkF m 47 #[.val (.long q1), .second, .val (.int p1), .val (.int (5 : Int32)), .val (.ref b181), .val (.int got), .val (.long (q1 &&& (4294967295 : Int64))), .second, .val (.long (((q1 &&& (4294967295 : Int64)) * (770785867 : Int64)) &&& (4294967295 : Int64))), .second, .unset] [(.int (27 : Int32)), (.long (((q1 &&& (4294967295 : Int64)) * (770785867 : Int64)) &&& (4294967295 : Int64)))]))
    refine Go.step (fun _ kt => XS.lushr X194.here hx rfl (hb hby at_47) rfl kt) ?_
    show Go p.tables e below _ (T194.setTop (mkF m 48 #[.val (.long q1), .second, .val (.int p1), .val (.int (5 : Int32)), .val (.ref b181), .val (.int got), .val (.long (q1 &&& (4294967295 : Int64))), .second, .val (.long (((q1 &&& (4294967295 : Int64)) * (770785867 : Int64)) &&& (4294967295 : Int64))), .second, .unset] [(.long (((((q1 &&& (4294967295 : Int64)) * (770785867 : Int64)) &&& (4294967295 : Int64)).toUInt64 >>> ((27 : Int32) &&& 0x3f).toInt64.toUInt64).toInt64))]))
    refine Go.step (fun _ kt => XS.l2i X194.here hx rfl (hb hby at_48) rfl kt) ?_
    show Go p.tables e below _ (T194.setTop (mkF m 49 #[.val (.long q1), .second, .val (.int p1), .val (.int (5 : Int32)), .val (.ref b181), .val (.int got), .val (.long (q1 &&& (4294967295 : Int64))), .second, .val (.long (((q1 &&& (4294967295 : Int64)) * (770785867 : Int64)) &&& (4294967295 : Int64))), .second, .unset] [(.int ((((((q1 &&& (4294967295 : Int64)) * (770785867 : Int64)) &&& (4294967295 : Int64)).toUInt64 >>> ((27 : Int32) &&& 0x3f).toInt64.toUInt64).toInt64).toInt32))]))
    have e_all := own_eq q1 (770785867 : Int32) (770785867 : Int64) (by decide)
    rw [← e_got] at e_all
    have q196 : ((((((q1 &&& (4294967295 : Int64)) * (770785867 : Int64)) &&& (4294967295 : Int64)).toUInt64 >>> ((27 : Int32) &&& 0x3f).toInt64.toUInt64).toInt64).toInt32) = got := e_all.1.symm
    rw [q196]
    show Go p.tables e below _ (T194.setTop (mkF m 49 #[.val (.long q1), .second, .val (.int p1), .val (.int (5 : Int32)), .val (.ref b181), .val (.int got), .val (.long (q1 &&& (4294967295 : Int64))), .second, .val (.long (((q1 &&& (4294967295 : Int64)) * (770785867 : Int64)) &&& (4294967295 : Int64))), .second, .unset] [(.int got)]))
    refine Go.step (fun _ kt => XS.istore X194.here hx rfl (hb hby at_49) rfl (l' := #[.val (.long q1), .second, .val (.int p1), .val (.int (5 : Int32)), .val (.ref b181), .val (.int got), .val (.long (q1 &&& (4294967295 : Int64))), .second, .val (.long (((q1 &&& (4294967295 : Int64)) * (770785867 : Int64)) &&& (4294967295 : Int64))), .second, .val (.int got)]) rfl kt) ?_
    show Go p.tables e below _ (T194.setTop (mkF m 51 #[.val (.long q1), .second, .val (.int p1), .val (.int (5 : Int32)), .val (.ref b181), .val (.int got), .val (.long (q1 &&& (4294967295 : Int64))), .second, .val (.long (((q1 &&& (4294967295 : Int64)) * (770785867 : Int64)) &&& (4294967295 : Int64))), .second, .val (.int got)] []))
    refine Go.step (fun _ kt => XS.iload X194.here hx rfl (hb hby at_51) rfl kt) ?_
    show Go p.tables e below _ (T194.setTop (mkF m 53 #[.val (.long q1), .second, .val (.int p1), .val (.int (5 : Int32)), .val (.ref b181), .val (.int got), .val (.long (q1 &&& (4294967295 : Int64))), .second, .val (.long (((q1 &&& (4294967295 : Int64)) * (770785867 : Int64)) &&& (4294967295 : Int64))), .second, .val (.int got)] [(.int got)]))
    refine Go.step (fun _ kt => XS.iload X194.here hx rfl (hb hby at_53) rfl kt) ?_
    show Go p.tables e below _ (T194.setTop (mkF m 55 #[.val (.long q1), .second, .val (.int p1), .val (.int (5 : Int32)), .val (.ref b181), .val (.int got), .val (.long (q1 &&& (4294967295 : Int64))), .second, .val (.long (((q1 &&& (4294967295 : Int64)) * (770785867 : Int64)) &&& (4294967295 : Int64))), .second, .val (.int got)] [(.int got), (.int got)]))
    refine Go.step (fun _ kt => XS.icmpNo X194.here hx rfl (hb hby at_55) rfl (teq (rfl : got = got)).2 kt) ?_
    show Go p.tables e below _ (T194.setTop (mkF m 58 #[.val (.long q1), .second, .val (.int p1), .val (.int (5 : Int32)), .val (.ref b181), .val (.int got), .val (.long (q1 &&& (4294967295 : Int64))), .second, .val (.long (((q1 &&& (4294967295 : Int64)) * (770785867 : Int64)) &&& (4294967295 : Int64))), .second, .val (.int got)] []))
    refine Go.step (fun _ kt => XS.iload X194.here hx rfl (hb hby at_58) rfl kt) ?_
    show Go p.tables e below _ (T194.setTop (mkF m 60 #[.val (.long q1), .second, .val (.int p1), .val (.int (5 : Int32)), .val (.ref b181), .val (.int got), .val (.long (q1 &&& (4294967295 : Int64))), .second, .val (.long (((q1 &&& (4294967295 : Int64)) * (770785867 : Int64)) &&& (4294967295 : Int64))), .second, .val (.int got)] [(.int got)]))
    refine Go.step (fun _ kt => XS.ifNo X194.here hx rfl (hb hby at_60) rfl ((if0 _ _).trans (flt e_all.2.1).1) kt) ?_
    show Go p.tables e below _ (T194.setTop (mkF m 63 #[.val (.long q1), .second, .val (.int p1), .val (.int (5 : Int32)), .val (.ref b181), .val (.int got), .val (.long (q1 &&& (4294967295 : Int64))), .second, .val (.long (((q1 &&& (4294967295 : Int64)) * (770785867 : Int64)) &&& (4294967295 : Int64))), .second, .val (.int got)] []))
    refine Go.step (fun _ kt => XS.iload X194.here hx rfl (hb hby at_63) rfl kt) ?_
    show Go p.tables e below _ (T194.setTop (mkF m 65 #[.val (.long q1), .second, .val (.int p1), .val (.int (5 : Int32)), .val (.ref b181), .val (.int got), .val (.long (q1 &&& (4294967295 : Int64))), .second, .val (.long (((q1 &&& (4294967295 : Int64)) * (770785867 : Int64)) &&& (4294967295 : Int64))), .second, .val (.int got)] [(.int got)]))
    refine Go.step (fun _ kt => XS.bipush X194.here hx rfl (hb hby at_65) kt) ?_
    show Go p.tables e below _ (T194.setTop (mkF m 67 #[.val (.long q1), .second, .val (.int p1), .val (.int (5 : Int32)), .val (.ref b181), .val (.int got), .val (.long (q1 &&& (4294967295 : Int64))), .second, .val (.long (((q1 &&& (4294967295 : Int64)) * (770785867 : Int64)) &&& (4294967295 : Int64))), .second, .val (.int got)] [(.int (31 : Int32)), (.int got)]))
    refine Go.step (fun _ kt => XS.icmpNo X194.here hx rfl (hb hby at_67) rfl (flt e_all.2.2).2.2.1 kt) ?_
    show Go p.tables e below _ (T194.setTop (mkF m 70 #[.val (.long q1), .second, .val (.int p1), .val (.int (5 : Int32)), .val (.ref b181), .val (.int got), .val (.long (q1 &&& (4294967295 : Int64))), .second, .val (.long (((q1 &&& (4294967295 : Int64)) * (770785867 : Int64)) &&& (4294967295 : Int64))), .second, .val (.int got)] []))
    refine Go.step (fun _ kt => XS.iconst X194.here hx rfl (hb hby at_70) kt) ?_
    show Go p.tables e below _ (T194.setTop (mkF m 71 #[.val (.long q1), .second, .val (.int p1), .val (.int (5 : Int32)), .val (.ref b181), .val (.int got), .val (.long (q1 &&& (4294967295 : Int64))), .second, .val (.long (((q1 &&& (4294967295 : Int64)) * (770785867 : Int64)) &&& (4294967295 : Int64))), .second, .val (.int got)] [(.int (1 : Int32))]))
    refine Go.step (fun _ kt => XS.goto X194.here hx rfl (pc0 := 71) (pc' := 75) rfl (hb hby at_71) (by decide) (by decide) kt) ?_
    show Go p.tables e below _ (T194.setTop (mkF m 75 #[.val (.long q1), .second, .val (.int p1), .val (.int (5 : Int32)), .val (.ref b181), .val (.int got), .val (.long (q1 &&& (4294967295 : Int64))), .second, .val (.long (((q1 &&& (4294967295 : Int64)) * (770785867 : Int64)) &&& (4294967295 : Int64))), .second, .val (.int got)] [(.int (1 : Int32))]))
    obtain ⟨fs, hr, hrun, hended, hW, hsame⟩ := X194.leave (v := some (.int (1 : Int32))) (fun h => by rw [Bd.returns] at h; cases h)
    refine ⟨_, _, retN X194 hx (t := .boolean) Bd.returns (by simp) (hb hby at_75) hr, hrun, hended, _, _, rfl, ?_, ⟨_, rfl⟩, hW, hsame.mono (by decide) (by decide)⟩
    show Qrm0 Z q1 p1 sa sk h0 n0 _ T194.heap _
    rw [eh194]
    exact ⟨rfl, N194⟩
  · rw [hk]
    show Go p.tables e below _ (s₁.setTop (mkF m 5 #[.val (.long q1), .second, .val (.int p1), .val (.int (6 : Int32)), .unset, .unset, .unset, .unset, .unset, .unset, .unset] []))
    obtain ⟨T197, h197, X197, e197, E197, A197, D197, -, st197⟩ := newO X0 hx hZ hown (hw _ (List.mem_of_getElem? (i := 0) rfl)) (hw _ (List.mem_of_getElem? (i := 1) rfl)) (hw _ (List.mem_of_getElem? (i := 2) rfl)) e0 (g := (mkF m 5 #[.val (.long q1), .second, .val (.int p1), .val (.int (6 : Int32)), .unset, .unset, .unset, .unset, .unset, .unset, .unset] [])) rfl (hb hby at_5) (by decide) (by decide)
    obtain ⟨b197, g197⟩ : ∃ z, z = h0.size := ⟨_, rfl⟩
    rw [← g197] at A197 D197 st197
    refine Go.step st197 ?_
    have ne_sa_b197 : sa ≠ b197 := Nat.ne_of_lt (Nat.lt_of_lt_of_le V1.lt (Nat.le_of_eq g197.symm))
    have g_b197 : n0 ≤ b197 := Nat.le_trans Z0 (Nat.le_of_eq g197.symm)
    have F198 : Sta Z h197 "com/example/sibyl/sibyl/core/BlockHash" "SALTS" "[I" (.ref sa) := (S1.ext E197)
    have F199 : Arv Z h197 sa sk .int (8 : Int32) [(.int (1203114875 : Int32)), (.int (1150766481 : Int32)), (.int (-2010862245 : Int32)), (.int (-1565054819 : Int32)), (.int (1884591559 : Int32)), (.int (770785867 : Int32)), (.int (-1627633337 : Int32)), (.int (1550580529 : Int32))] (.int (0 : Int32)) := (V1.ext E197)
    have Z200 : n0 ≤ h197.size := (Nat.le_trans Z0 E197.1)
    have F201 : Fld Z h197 b197 "com/example/sibyl/sibyl/core/BlockHash" "value" "J" (.long (0 : Int64)) := D197 (Or.inr (hw _ (List.mem_of_getElem? (i := 15) rfl))) (ty := .long) (by decide)
    show Go p.tables e below _ (T197.setTop (mkF m 8 #[.val (.long q1), .second, .val (.int p1), .val (.int (6 : Int32)), .unset, .unset, .unset, .unset, .unset, .unset, .unset] [(.ref b197)]))
    refine Go.step (fun _ kt => XS.dup X197.here hx rfl (hb hby at_8) rfl rfl kt) ?_
    show Go p.tables e below _ (T197.setTop (mkF m 9 #[.val (.long q1), .second, .val (.int p1), .val (.int (6 : Int32)), .unset, .unset, .unset, .unset, .unset, .unset, .unset] [(.ref b197), (.ref b197)]))
    refine Go.step (fun _ kt => XS.lloadN X197.here hx rfl (hb hby at_9) rfl kt) ?_
    show Go p.tables e below _ (T197.setTop (mkF m 10 #[.val (.long q1), .second, .val (.int p1), .val (.int (6 : Int32)), .unset, .unset, .unset, .unset, .unset, .unset, .unset] [(.long q1), (.ref b197), (.ref b197)]))
    obtain ⟨_, _, ⟨T202, L202, k202, n202⟩, -, X202, ⟨Lc202, hQ202, l202, y202, z202⟩, st202⟩ := X197.specialBack hx (y := (⟨"com/example/sibyl/sibyl/core/BlockHash", "<init>", "(J)V"⟩ : MethodName)) rfl hown (mvT hZ (hw _ (List.mem_of_getElem? (i := 3) rfl))) (mvT hZ (hw _ (List.mem_of_getElem? (i := 4) rfl))) (mvT hZ (hw _ (List.mem_of_getElem? (i := 5) rfl))) (by decide) (backOf (W := 1) (rm1 l Z a0 hw [] b197 q1 (.long (0 : Int64)) h197 n0 Z200 A197 F201 g_b197) hZ (hw _ (List.mem_of_getElem? (i := 5) rfl)) (hw _ (List.mem_of_getElem? (i := 2) rfl)) (by decide) (by decide)) (g := (mkF m 10 #[.val (.long q1), .second, .val (.int p1), .val (.int (6 : Int32)), .unset, .unset, .unset, .unset, .unset, .unset, .unset] [(.long q1), (.ref b197), (.ref b197)])) rfl (by rw [hml]; rfl) (Steps.refl _) (a := b197) (argsL := [(.long q1)]) (rest := [(.ref b197)]) (lenOf pd_1 rfl) rfl (by show 2 * 0 + _ ≤ _; exact Nat.le_of_eq rfl) (hb hby at_10) (fun _ _ => ⟨rfl, e197, (by decide : 1 + 0 ≤ _), (by decide : 1 + 0 ≤ _)⟩)
    dsimp only [Pt.U, Pt.locs, Pt.cells, Pt.slots] at X202 l202 y202 z202 st202 hQ202
    subst l202 y202 z202
    obtain ⟨rfl, N202q, Kq202, P203, P204⟩ := hQ202
    have F205 : Sta Z T202.heap "com/example/sibyl/sibyl/core/BlockHash" "SALTS" "[I" (.ref sa) := (own_sta_keep F198 A197 Kq202)
    have F206 : Arv Z T202.heap sa sk .int (8 : Int32) [(.int (1203114875 : Int32)), (.int (1150766481 : Int32)), (.int (-2010862245 : Int32)), (.int (-1565054819 : Int32)), (.int (1884591559 : Int32)), (.int (770785867 : Int32)), (.int (-1627633337 : Int32)), (.int (1550580529 : Int32))] (.int (0 : Int32)) := (F199.keep Kq202 (fun q => ne_sa_b197 (List.mem_singleton.mp q)))
    have F207 : Exa Z T202.heap b197 "com/example/sibyl/sibyl/core/BlockHash" := (A197.keep Kq202)
    have Z208 : n0 ≤ T202.heap.size := (Nat.le_trans Z200 Kq202.1)
    have N202 := Fr.app N0 N202q
    refine Go.step (fun _ kt => st202.trans kt) ?_
    show Go p.tables e below _ (T202.setTop (mkF m 13 #[.val (.long q1), .second, .val (.int p1), .val (.int (6 : Int32)), .unset, .unset, .unset, .unset, .unset, .unset, .unset] [(.ref b197)]))
    refine Go.step (fun _ kt => XS.astore X202.here hx rfl (hb hby at_13) rfl rfl (l' := #[.val (.long q1), .second, .val (.int p1), .val (.int (6 : Int32)), .val (.ref b197), .unset, .unset, .unset, .unset, .unset, .unset]) rfl kt) ?_
    show Go p.tables e below _ (T202.setTop (mkF m 15 #[.val (.long q1), .second, .val (.int p1), .val (.int (6 : Int32)), .val (.ref b197), .unset, .unset, .unset, .unset, .unset, .unset] []))
    refine Go.step (fun _ kt => XS.aload X202.here hx rfl (hb hby at_15) rfl rfl kt) ?_
    show Go p.tables e below _ (T202.setTop (mkF m 17 #[.val (.long q1), .second, .val (.int p1), .val (.int (6 : Int32)), .val (.ref b197), .unset, .unset, .unset, .unset, .unset, .unset] [(.ref b197)]))
    refine Go.step (fun _ kt => XS.iloadN X202.here hx rfl (hb hby at_17) rfl kt) ?_
    show Go p.tables e below _ (T202.setTop (mkF m 18 #[.val (.long q1), .second, .val (.int p1), .val (.int (6 : Int32)), .val (.ref b197), .unset, .unset, .unset, .unset, .unset, .unset] [(.int (6 : Int32)), (.ref b197)]))
    obtain ⟨cq209, kq209, q209a, q209b, q209c⟩ := isOf hZ rfl P203
    obtain ⟨_, _, ⟨T209, L209, k209, n209⟩, -, X209, ⟨Lc209, hQ209, l209, y209, z209⟩, st209⟩ := X202.virtualBack hx (y := (⟨"com/example/sibyl/sibyl/core/BlockHash", "bit", "(I)I"⟩ : MethodName)) (z := (⟨"com/example/sibyl/sibyl/core/BlockHash", "bit", "(I)I"⟩ : MethodName)) hown (mvT hZ (hw _ (List.mem_of_getElem? (i := 16) rfl))) (mvT hZ (hw _ (List.mem_of_getElem? (i := 17) rfl))) (notFace_of_selects (args := #[]) (mvT hZ (hw _ (List.mem_of_getElem? (i := 19) rfl)))) (mvT hZ (hw _ (List.mem_of_getElem? (i := 19) rfl))) (mvT hZ (hw _ (List.mem_of_getElem? (i := 18) rfl))) (by decide) (backOf (W := 0) (rmb6 l Z a0 hw [] b197 q1 sa sk T202.heap n0 Z208 P204 F205 F206 ) hZ (hw _ (List.mem_of_getElem? (i := 20) rfl)) (hw _ (List.mem_of_getElem? (i := 2) rfl)) (by decide) (by decide)) q209a q209c (g := (mkF m 18 #[.val (.long q1), .second, .val (.int p1), .val (.int (6 : Int32)), .val (.ref b197), .unset, .unset, .unset, .unset, .unset, .unset] [(.int (6 : Int32)), (.ref b197)])) rfl (by rw [hml]; rfl) (Steps.refl _) (argsL := [(.int (6 : Int32))]) (rest := []) (lenOf pd_2 rfl) rfl (by show 2 * 0 + _ ≤ _; exact Nat.le_of_eq rfl) (hb hby at_18) (fun _ _ => ⟨rfl, rfl, (by decide : 1 + 0 ≤ _), (by decide : 1 + 0 ≤ _)⟩)
    dsimp only [Pt.U, Pt.locs, Pt.cells, Pt.slots] at X209 l209 y209 z209 st209 hQ209
    subst l209 y209 z209
    obtain ⟨rfl, N209q, eh209⟩ := hQ209
    have N209 := Fr.app N202 N209q
    refine Go.step (fun _ kt => st209.trans kt) ?_
    show Go p.tables e below _ (T209.setTop (mkF m 21 #[.val (.long q1), .second, .val (.int p1), .val (.int (6 : Int32)), .val (.ref b197), .unset, .unset, .unset, .unset, .unset, .unset] [(.int (own_bit q1 (-1627633337 : Int32)))]))
    obtain ⟨got, e_got⟩ : ∃ nm_, nm_ = (own_bit q1 (-1627633337 : Int32)) := ⟨_, rfl⟩
    rw [← e_got]
    show Go p.tables e below _ (T209.setTop (mkF m 21 #[.val (.long q1), .second, .val (.int p1), .val (.int (6 : Int32)), .val (.ref b197), .unset, .unset, .unset, .unset, .unset, .unset] [(.int got)]))
    refine Go.step (fun _ kt => XS.istore X209.here hx rfl (hb hby at_21) rfl (l' := #[.val (.long q1), .second, .val (.int p1), .val (.int (6 : Int32)), .val (.ref b197), .val (.int got), .unset, .unset, .unset, .unset, .unset]) rfl kt) ?_
    show Go p.tables e below _ (T209.setTop (mkF m 23 #[.val (.long q1), .second, .val (.int p1), .val (.int (6 : Int32)), .val (.ref b197), .val (.int got), .unset, .unset, .unset, .unset, .unset] []))
    refine Go.step (fun _ kt => XS.lloadN X209.here hx rfl (hb hby at_23) rfl kt) ?_
    show Go p.tables e below _ (T209.setTop (mkF m 24 #[.val (.long q1), .second, .val (.int p1), .val (.int (6 : Int32)), .val (.ref b197), .val (.int got), .unset, .unset, .unset, .unset, .unset] [(.long q1)]))
    refine Go.step (X209.ldc2Long hx hown (mvT hZ (hw _ (List.mem_of_getElem? (i := 23) rfl))) (g := (mkF m 24 #[.val (.long q1), .second, .val (.int p1), .val (.int (6 : Int32)), .val (.ref b197), .val (.int got), .unset, .unset, .unset, .unset, .unset] [(.long q1)])) rfl (hb hby at_24)) ?_
    show Go p.tables e below _ (T209.setTop (mkF m 27 #[.val (.long q1), .second, .val (.int p1), .val (.int (6 : Int32)), .val (.ref b197), .val (.int got), .unset, .unset, .unset, .unset, .unset] [(.long (4294967295 : Int64)), (.long q1)]))
    refine Go.step (fun _ kt => XS.land X209.here hx rfl (hb hby at_27) rfl kt) ?_
    show Go p.tables e below _ (T209.setTop (mkF m 28 #[.val (.long q1), .second, .val (.int p1), .val (.int (6 : Int32)), .val (.ref b197), .val (.int got), .unset, .unset, .unset, .unset, .unset] [(.long (q1 &&& (4294967295 : Int64)))]))
    refine Go.step (fun _ kt => XS.lstore X209.here hx rfl (hb hby at_28) rfl (l' := #[.val (.long q1), .second, .val (.int p1), .val (.int (6 : Int32)), .val (.ref b197), .val (.int got), .val (.long (q1 &&& (4294967295 : Int64))), .second, .unset, .unset, .unset]) rfl kt) ?_
    show Go p.tables e below _ (T209.setTop (mkF m 30 #[.val (.long q1), .second, .val (.int p1), .val (.int (6 : Int32)), .val (.ref b197), .val (.int got), .val (.long (q1 &&& (4294967295 : Int64))), .second, .unset, .unset, .unset] []))
    refine Go.step (fun _ kt => XS.lload X209.here hx rfl (hb hby at_30) rfl kt) ?_
    show Go p.tables e below _ (T209.setTop (mkF m 32 #[.val (.long q1), .second, .val (.int p1), .val (.int (6 : Int32)), .val (.ref b197), .val (.int got), .val (.long (q1 &&& (4294967295 : Int64))), .second, .unset, .unset, .unset] [(.long (q1 &&& (4294967295 : Int64)))]))
    refine Go.step (fun _ kt => XS.iloadN X209.here hx rfl (hb hby at_32) rfl kt) ?_
    show Go p.tables e below _ (T209.setTop (mkF m 33 #[.val (.long q1), .second, .val (.int p1), .val (.int (6 : Int32)), .val (.ref b197), .val (.int got), .val (.long (q1 &&& (4294967295 : Int64))), .second, .unset, .unset, .unset] [(.int (6 : Int32)), (.long (q1 &&& (4294967295 : Int64)))]))
    obtain ⟨_, _, ⟨T210, L210, k210, n210⟩, -, X210, ⟨Lc210, hQ210, l210, y210, z210⟩, st210⟩ := Jvm.LawKit.callS X209 hx (y := (⟨"com/example/sibyl/sibyl/core/BlockHashBitPinLaw", "salt", "(I)J"⟩ : MethodName)) hown (mvT hZ (hw _ (List.mem_of_getElem? (i := 24) rfl))) (mvT hZ (hw _ (List.mem_of_getElem? (i := 25) rfl))) (mvT hZ (hw _ (List.mem_of_getElem? (i := 26) rfl))) (mvT hZ (hw _ (List.mem_of_getElem? (i := 27) rfl))) (by decide) (backOf (W := 2) (rm5 l Z a0 hw [] (6 : Int32)  T202.heap n0 Z208  ) hZ (hw _ (List.mem_of_getElem? (i := 27) rfl)) (hw _ (List.mem_of_getElem? (i := 26) rfl)) (by decide) (by decide)) (g := (mkF m 33 #[.val (.long q1), .second, .val (.int p1), .val (.int (6 : Int32)), .val (.ref b197), .val (.int got), .val (.long (q1 &&& (4294967295 : Int64))), .second, .unset, .unset, .unset] [(.int (6 : Int32)), (.long (q1 &&& (4294967295 : Int64)))])) rfl (by rw [hml]; rfl) (argsL := [(.int (6 : Int32))]) (rest := [(.long (q1 &&& (4294967295 : Int64)))]) (lenOf pd_3 rfl) rfl (by show 2 * 0 + _ ≤ _; exact Nat.le_of_eq rfl) (hb hby at_33) (fun _ _ => ⟨rfl, eh209, (by decide : 1 + 0 ≤ _), (by decide : 1 + 0 ≤ _)⟩)
    dsimp only [Pt.U, Pt.locs, Pt.cells, Pt.slots] at X210 l210 y210 z210 st210 hQ210
    subst l210 y210 z210
    obtain ⟨rfl, N210q, eh210⟩ := hQ210
    have N210 := Fr.app N209 N210q
    refine Go.step st210 ?_
    show Go p.tables e below _ (T210.setTop (mkF m 36 #[.val (.long q1), .second, .val (.int p1), .val (.int (6 : Int32)), .val (.ref b197), .val (.int got), .val (.long (q1 &&& (4294967295 : Int64))), .second, .unset, .unset, .unset] [(.long (own_salt (6 : Int32))), (.long (q1 &&& (4294967295 : Int64)))]))
    have q211 : (own_salt (6 : Int32)) = (2667333959 : Int64) := rfl
    rw [q211]
    show Go p.tables e below _ (T210.setTop (mkF m 36 #[.val (.long q1), .second, .val (.int p1), .val (.int (6 : Int32)), .val (.ref b197), .val (.int got), .val (.long (q1 &&& (4294967295 : Int64))), .second, .unset, .unset, .unset] [(.long (2667333959 : Int64)), (.long (q1 &&& (4294967295 : Int64)))]))
    refine Go.step (fun _ kt => XS.lmul X210.here hx rfl (hb hby at_36) rfl kt) ?_
    show Go p.tables e below _ (T210.setTop (mkF m 37 #[.val (.long q1), .second, .val (.int p1), .val (.int (6 : Int32)), .val (.ref b197), .val (.int got), .val (.long (q1 &&& (4294967295 : Int64))), .second, .unset, .unset, .unset] [(.long ((q1 &&& (4294967295 : Int64)) * (2667333959 : Int64)))]))
    refine Go.step (X210.ldc2Long hx hown (mvT hZ (hw _ (List.mem_of_getElem? (i := 23) rfl))) (g := (mkF m 37 #[.val (.long q1), .second, .val (.int p1), .val (.int (6 : Int32)), .val (.ref b197), .val (.int got), .val (.long (q1 &&& (4294967295 : Int64))), .second, .unset, .unset, .unset] [(.long ((q1 &&& (4294967295 : Int64)) * (2667333959 : Int64)))])) rfl (hb hby at_37)) ?_
    show Go p.tables e below _ (T210.setTop (mkF m 40 #[.val (.long q1), .second, .val (.int p1), .val (.int (6 : Int32)), .val (.ref b197), .val (.int got), .val (.long (q1 &&& (4294967295 : Int64))), .second, .unset, .unset, .unset] [(.long (4294967295 : Int64)), (.long ((q1 &&& (4294967295 : Int64)) * (2667333959 : Int64)))]))
    refine Go.step (fun _ kt => XS.land X210.here hx rfl (hb hby at_40) rfl kt) ?_
    show Go p.tables e below _ (T210.setTop (mkF m 41 #[.val (.long q1), .second, .val (.int p1), .val (.int (6 : Int32)), .val (.ref b197), .val (.int got), .val (.long (q1 &&& (4294967295 : Int64))), .second, .unset, .unset, .unset] [(.long (((q1 &&& (4294967295 : Int64)) * (2667333959 : Int64)) &&& (4294967295 : Int64)))]))
    refine Go.step (fun _ kt => XS.lstore X210.here hx rfl (hb hby at_41) rfl (l' := #[.val (.long q1), .second, .val (.int p1), .val (.int (6 : Int32)), .val (.ref b197), .val (.int got), .val (.long (q1 &&& (4294967295 : Int64))), .second, .val (.long (((q1 &&& (4294967295 : Int64)) * (2667333959 : Int64)) &&& (4294967295 : Int64))), .second, .unset]) rfl kt) ?_
    show Go p.tables e below _ (T210.setTop (mkF m 43 #[.val (.long q1), .second, .val (.int p1), .val (.int (6 : Int32)), .val (.ref b197), .val (.int got), .val (.long (q1 &&& (4294967295 : Int64))), .second, .val (.long (((q1 &&& (4294967295 : Int64)) * (2667333959 : Int64)) &&& (4294967295 : Int64))), .second, .unset] []))
    refine Go.step (fun _ kt => XS.lload X210.here hx rfl (hb hby at_43) rfl kt) ?_
    show Go p.tables e below _ (T210.setTop (mkF m 45 #[.val (.long q1), .second, .val (.int p1), .val (.int (6 : Int32)), .val (.ref b197), .val (.int got), .val (.long (q1 &&& (4294967295 : Int64))), .second, .val (.long (((q1 &&& (4294967295 : Int64)) * (2667333959 : Int64)) &&& (4294967295 : Int64))), .second, .unset] [(.long (((q1 &&& (4294967295 : Int64)) * (2667333959 : Int64)) &&& (4294967295 : Int64)))]))
    refine Go.step (fun _ kt => XS.bipush X210.here hx rfl (hb hby at_45) kt) ?_
    show Go p.tables e below _ (T210.setTop (mkF m 47 #[.val (.long q1), .second, .val (.int p1), .val (.int (6 : Int32)), .val (.ref b197), .val (.int got), .val (.long (q1 &&& (4294967295 : Int64))), .second, .val (.long (((q1 &&& (4294967295 : Int64)) * (2667333959 : Int64)) &&& (4294967295 : Int64))), .second, .unset] [(.int (27 : Int32)), (.long (((q1 &&& (4294967295 : Int64)) * (2667333959 : Int64)) &&& (4294967295 : Int64)))]))
    refine Go.step (fun _ kt => XS.lushr X210.here hx rfl (hb hby at_47) rfl kt) ?_
    show Go p.tables e below _ (T210.setTop (mkF m 48 #[.val (.long q1), .second, .val (.int p1), .val (.int (6 : Int32)), .val (.ref b197), .val (.int got), .val (.long (q1 &&& (4294967295 : Int64))), .second, .val (.long (((q1 &&& (4294967295 : Int64)) * (2667333959 : Int64)) &&& (4294967295 : Int64))), .second, .unset] [(.long (((((q1 &&& (4294967295 : Int64)) * (2667333959 : Int64)) &&& (4294967295 : Int64)).toUInt64 >>> ((27 : Int32) &&& 0x3f).toInt64.toUInt64).toInt64))]))
    refine Go.step (fun _ kt => XS.l2i X210.here hx rfl (hb hby at_48) rfl kt) ?_
    show Go p.tables e below _ (T210.setTop (mkF m 49 #[.val (.long q1), .second, .val (.int p1), .val (.int (6 : Int32)), .val (.ref b197), .val (.int got), .val (.long (q1 &&& (4294967295 : Int64))), .second, .val (.long (((q1 &&& (4294967295 : Int64)) * (2667333959 : Int64)) &&& (4294967295 : Int64))), .second, .unset] [(.int ((((((q1 &&& (4294967295 : Int64)) * (2667333959 : Int64)) &&& (4294967295 : Int64)).toUInt64 >>> ((27 : Int32) &&& 0x3f).toInt64.toUInt64).toInt64).toInt32))]))
    have e_all := own_eq q1 (-1627633337 : Int32) (2667333959 : Int64) (by decide)
    rw [← e_got] at e_all
    have q212 : ((((((q1 &&& (4294967295 : Int64)) * (2667333959 : Int64)) &&& (4294967295 : Int64)).toUInt64 >>> ((27 : Int32) &&& 0x3f).toInt64.toUInt64).toInt64).toInt32) = got := e_all.1.symm
    rw [q212]
    show Go p.tables e below _ (T210.setTop (mkF m 49 #[.val (.long q1), .second, .val (.int p1), .val (.int (6 : Int32)), .val (.ref b197), .val (.int got), .val (.long (q1 &&& (4294967295 : Int64))), .second, .val (.long (((q1 &&& (4294967295 : Int64)) * (2667333959 : Int64)) &&& (4294967295 : Int64))), .second, .unset] [(.int got)]))
    refine Go.step (fun _ kt => XS.istore X210.here hx rfl (hb hby at_49) rfl (l' := #[.val (.long q1), .second, .val (.int p1), .val (.int (6 : Int32)), .val (.ref b197), .val (.int got), .val (.long (q1 &&& (4294967295 : Int64))), .second, .val (.long (((q1 &&& (4294967295 : Int64)) * (2667333959 : Int64)) &&& (4294967295 : Int64))), .second, .val (.int got)]) rfl kt) ?_
    show Go p.tables e below _ (T210.setTop (mkF m 51 #[.val (.long q1), .second, .val (.int p1), .val (.int (6 : Int32)), .val (.ref b197), .val (.int got), .val (.long (q1 &&& (4294967295 : Int64))), .second, .val (.long (((q1 &&& (4294967295 : Int64)) * (2667333959 : Int64)) &&& (4294967295 : Int64))), .second, .val (.int got)] []))
    refine Go.step (fun _ kt => XS.iload X210.here hx rfl (hb hby at_51) rfl kt) ?_
    show Go p.tables e below _ (T210.setTop (mkF m 53 #[.val (.long q1), .second, .val (.int p1), .val (.int (6 : Int32)), .val (.ref b197), .val (.int got), .val (.long (q1 &&& (4294967295 : Int64))), .second, .val (.long (((q1 &&& (4294967295 : Int64)) * (2667333959 : Int64)) &&& (4294967295 : Int64))), .second, .val (.int got)] [(.int got)]))
    refine Go.step (fun _ kt => XS.iload X210.here hx rfl (hb hby at_53) rfl kt) ?_
    show Go p.tables e below _ (T210.setTop (mkF m 55 #[.val (.long q1), .second, .val (.int p1), .val (.int (6 : Int32)), .val (.ref b197), .val (.int got), .val (.long (q1 &&& (4294967295 : Int64))), .second, .val (.long (((q1 &&& (4294967295 : Int64)) * (2667333959 : Int64)) &&& (4294967295 : Int64))), .second, .val (.int got)] [(.int got), (.int got)]))
    refine Go.step (fun _ kt => XS.icmpNo X210.here hx rfl (hb hby at_55) rfl (teq (rfl : got = got)).2 kt) ?_
    show Go p.tables e below _ (T210.setTop (mkF m 58 #[.val (.long q1), .second, .val (.int p1), .val (.int (6 : Int32)), .val (.ref b197), .val (.int got), .val (.long (q1 &&& (4294967295 : Int64))), .second, .val (.long (((q1 &&& (4294967295 : Int64)) * (2667333959 : Int64)) &&& (4294967295 : Int64))), .second, .val (.int got)] []))
    refine Go.step (fun _ kt => XS.iload X210.here hx rfl (hb hby at_58) rfl kt) ?_
    show Go p.tables e below _ (T210.setTop (mkF m 60 #[.val (.long q1), .second, .val (.int p1), .val (.int (6 : Int32)), .val (.ref b197), .val (.int got), .val (.long (q1 &&& (4294967295 : Int64))), .second, .val (.long (((q1 &&& (4294967295 : Int64)) * (2667333959 : Int64)) &&& (4294967295 : Int64))), .second, .val (.int got)] [(.int got)]))
    refine Go.step (fun _ kt => XS.ifNo X210.here hx rfl (hb hby at_60) rfl ((if0 _ _).trans (flt e_all.2.1).1) kt) ?_
    show Go p.tables e below _ (T210.setTop (mkF m 63 #[.val (.long q1), .second, .val (.int p1), .val (.int (6 : Int32)), .val (.ref b197), .val (.int got), .val (.long (q1 &&& (4294967295 : Int64))), .second, .val (.long (((q1 &&& (4294967295 : Int64)) * (2667333959 : Int64)) &&& (4294967295 : Int64))), .second, .val (.int got)] []))
    refine Go.step (fun _ kt => XS.iload X210.here hx rfl (hb hby at_63) rfl kt) ?_
    show Go p.tables e below _ (T210.setTop (mkF m 65 #[.val (.long q1), .second, .val (.int p1), .val (.int (6 : Int32)), .val (.ref b197), .val (.int got), .val (.long (q1 &&& (4294967295 : Int64))), .second, .val (.long (((q1 &&& (4294967295 : Int64)) * (2667333959 : Int64)) &&& (4294967295 : Int64))), .second, .val (.int got)] [(.int got)]))
    refine Go.step (fun _ kt => XS.bipush X210.here hx rfl (hb hby at_65) kt) ?_
    show Go p.tables e below _ (T210.setTop (mkF m 67 #[.val (.long q1), .second, .val (.int p1), .val (.int (6 : Int32)), .val (.ref b197), .val (.int got), .val (.long (q1 &&& (4294967295 : Int64))), .second, .val (.long (((q1 &&& (4294967295 : Int64)) * (2667333959 : Int64)) &&& (4294967295 : Int64))), .second, .val (.int got)] [(.int (31 : Int32)), (.int got)]))
    refine Go.step (fun _ kt => XS.icmpNo X210.here hx rfl (hb hby at_67) rfl (flt e_all.2.2).2.2.1 kt) ?_
    show Go p.tables e below _ (T210.setTop (mkF m 70 #[.val (.long q1), .second, .val (.int p1), .val (.int (6 : Int32)), .val (.ref b197), .val (.int got), .val (.long (q1 &&& (4294967295 : Int64))), .second, .val (.long (((q1 &&& (4294967295 : Int64)) * (2667333959 : Int64)) &&& (4294967295 : Int64))), .second, .val (.int got)] []))
    refine Go.step (fun _ kt => XS.iconst X210.here hx rfl (hb hby at_70) kt) ?_
    show Go p.tables e below _ (T210.setTop (mkF m 71 #[.val (.long q1), .second, .val (.int p1), .val (.int (6 : Int32)), .val (.ref b197), .val (.int got), .val (.long (q1 &&& (4294967295 : Int64))), .second, .val (.long (((q1 &&& (4294967295 : Int64)) * (2667333959 : Int64)) &&& (4294967295 : Int64))), .second, .val (.int got)] [(.int (1 : Int32))]))
    refine Go.step (fun _ kt => XS.goto X210.here hx rfl (pc0 := 71) (pc' := 75) rfl (hb hby at_71) (by decide) (by decide) kt) ?_
    show Go p.tables e below _ (T210.setTop (mkF m 75 #[.val (.long q1), .second, .val (.int p1), .val (.int (6 : Int32)), .val (.ref b197), .val (.int got), .val (.long (q1 &&& (4294967295 : Int64))), .second, .val (.long (((q1 &&& (4294967295 : Int64)) * (2667333959 : Int64)) &&& (4294967295 : Int64))), .second, .val (.int got)] [(.int (1 : Int32))]))
    obtain ⟨fs, hr, hrun, hended, hW, hsame⟩ := X210.leave (v := some (.int (1 : Int32))) (fun h => by rw [Bd.returns] at h; cases h)
    refine ⟨_, _, retN X210 hx (t := .boolean) Bd.returns (by simp) (hb hby at_75) hr, hrun, hended, _, _, rfl, ?_, ⟨_, rfl⟩, hW, hsame.mono (by decide) (by decide)⟩
    show Qrm0 Z q1 p1 sa sk h0 n0 _ T210.heap _
    rw [eh210]
    exact ⟨rfl, N210⟩
  · rw [hk]
    show Go p.tables e below _ (s₁.setTop (mkF m 5 #[.val (.long q1), .second, .val (.int p1), .val (.int (7 : Int32)), .unset, .unset, .unset, .unset, .unset, .unset, .unset] []))
    obtain ⟨T213, h213, X213, e213, E213, A213, D213, -, st213⟩ := newO X0 hx hZ hown (hw _ (List.mem_of_getElem? (i := 0) rfl)) (hw _ (List.mem_of_getElem? (i := 1) rfl)) (hw _ (List.mem_of_getElem? (i := 2) rfl)) e0 (g := (mkF m 5 #[.val (.long q1), .second, .val (.int p1), .val (.int (7 : Int32)), .unset, .unset, .unset, .unset, .unset, .unset, .unset] [])) rfl (hb hby at_5) (by decide) (by decide)
    obtain ⟨b213, g213⟩ : ∃ z, z = h0.size := ⟨_, rfl⟩
    rw [← g213] at A213 D213 st213
    refine Go.step st213 ?_
    have ne_sa_b213 : sa ≠ b213 := Nat.ne_of_lt (Nat.lt_of_lt_of_le V1.lt (Nat.le_of_eq g213.symm))
    have g_b213 : n0 ≤ b213 := Nat.le_trans Z0 (Nat.le_of_eq g213.symm)
    have F214 : Sta Z h213 "com/example/sibyl/sibyl/core/BlockHash" "SALTS" "[I" (.ref sa) := (S1.ext E213)
    have F215 : Arv Z h213 sa sk .int (8 : Int32) [(.int (1203114875 : Int32)), (.int (1150766481 : Int32)), (.int (-2010862245 : Int32)), (.int (-1565054819 : Int32)), (.int (1884591559 : Int32)), (.int (770785867 : Int32)), (.int (-1627633337 : Int32)), (.int (1550580529 : Int32))] (.int (0 : Int32)) := (V1.ext E213)
    have Z216 : n0 ≤ h213.size := (Nat.le_trans Z0 E213.1)
    have F217 : Fld Z h213 b213 "com/example/sibyl/sibyl/core/BlockHash" "value" "J" (.long (0 : Int64)) := D213 (Or.inr (hw _ (List.mem_of_getElem? (i := 15) rfl))) (ty := .long) (by decide)
    show Go p.tables e below _ (T213.setTop (mkF m 8 #[.val (.long q1), .second, .val (.int p1), .val (.int (7 : Int32)), .unset, .unset, .unset, .unset, .unset, .unset, .unset] [(.ref b213)]))
    refine Go.step (fun _ kt => XS.dup X213.here hx rfl (hb hby at_8) rfl rfl kt) ?_
    show Go p.tables e below _ (T213.setTop (mkF m 9 #[.val (.long q1), .second, .val (.int p1), .val (.int (7 : Int32)), .unset, .unset, .unset, .unset, .unset, .unset, .unset] [(.ref b213), (.ref b213)]))
    refine Go.step (fun _ kt => XS.lloadN X213.here hx rfl (hb hby at_9) rfl kt) ?_
    show Go p.tables e below _ (T213.setTop (mkF m 10 #[.val (.long q1), .second, .val (.int p1), .val (.int (7 : Int32)), .unset, .unset, .unset, .unset, .unset, .unset, .unset] [(.long q1), (.ref b213), (.ref b213)]))
    obtain ⟨_, _, ⟨T218, L218, k218, n218⟩, -, X218, ⟨Lc218, hQ218, l218, y218, z218⟩, st218⟩ := X213.specialBack hx (y := (⟨"com/example/sibyl/sibyl/core/BlockHash", "<init>", "(J)V"⟩ : MethodName)) rfl hown (mvT hZ (hw _ (List.mem_of_getElem? (i := 3) rfl))) (mvT hZ (hw _ (List.mem_of_getElem? (i := 4) rfl))) (mvT hZ (hw _ (List.mem_of_getElem? (i := 5) rfl))) (by decide) (backOf (W := 1) (rm1 l Z a0 hw [] b213 q1 (.long (0 : Int64)) h213 n0 Z216 A213 F217 g_b213) hZ (hw _ (List.mem_of_getElem? (i := 5) rfl)) (hw _ (List.mem_of_getElem? (i := 2) rfl)) (by decide) (by decide)) (g := (mkF m 10 #[.val (.long q1), .second, .val (.int p1), .val (.int (7 : Int32)), .unset, .unset, .unset, .unset, .unset, .unset, .unset] [(.long q1), (.ref b213), (.ref b213)])) rfl (by rw [hml]; rfl) (Steps.refl _) (a := b213) (argsL := [(.long q1)]) (rest := [(.ref b213)]) (lenOf pd_1 rfl) rfl (by show 2 * 0 + _ ≤ _; exact Nat.le_of_eq rfl) (hb hby at_10) (fun _ _ => ⟨rfl, e213, (by decide : 1 + 0 ≤ _), (by decide : 1 + 0 ≤ _)⟩)
    dsimp only [Pt.U, Pt.locs, Pt.cells, Pt.slots] at X218 l218 y218 z218 st218 hQ218
    subst l218 y218 z218
    obtain ⟨rfl, N218q, Kq218, P219, P220⟩ := hQ218
    have F221 : Sta Z T218.heap "com/example/sibyl/sibyl/core/BlockHash" "SALTS" "[I" (.ref sa) := (own_sta_keep F214 A213 Kq218)
    have F222 : Arv Z T218.heap sa sk .int (8 : Int32) [(.int (1203114875 : Int32)), (.int (1150766481 : Int32)), (.int (-2010862245 : Int32)), (.int (-1565054819 : Int32)), (.int (1884591559 : Int32)), (.int (770785867 : Int32)), (.int (-1627633337 : Int32)), (.int (1550580529 : Int32))] (.int (0 : Int32)) := (F215.keep Kq218 (fun q => ne_sa_b213 (List.mem_singleton.mp q)))
    have F223 : Exa Z T218.heap b213 "com/example/sibyl/sibyl/core/BlockHash" := (A213.keep Kq218)
    have Z224 : n0 ≤ T218.heap.size := (Nat.le_trans Z216 Kq218.1)
    have N218 := Fr.app N0 N218q
    refine Go.step (fun _ kt => st218.trans kt) ?_
    show Go p.tables e below _ (T218.setTop (mkF m 13 #[.val (.long q1), .second, .val (.int p1), .val (.int (7 : Int32)), .unset, .unset, .unset, .unset, .unset, .unset, .unset] [(.ref b213)]))
    refine Go.step (fun _ kt => XS.astore X218.here hx rfl (hb hby at_13) rfl rfl (l' := #[.val (.long q1), .second, .val (.int p1), .val (.int (7 : Int32)), .val (.ref b213), .unset, .unset, .unset, .unset, .unset, .unset]) rfl kt) ?_
    show Go p.tables e below _ (T218.setTop (mkF m 15 #[.val (.long q1), .second, .val (.int p1), .val (.int (7 : Int32)), .val (.ref b213), .unset, .unset, .unset, .unset, .unset, .unset] []))
    refine Go.step (fun _ kt => XS.aload X218.here hx rfl (hb hby at_15) rfl rfl kt) ?_
    show Go p.tables e below _ (T218.setTop (mkF m 17 #[.val (.long q1), .second, .val (.int p1), .val (.int (7 : Int32)), .val (.ref b213), .unset, .unset, .unset, .unset, .unset, .unset] [(.ref b213)]))
    refine Go.step (fun _ kt => XS.iloadN X218.here hx rfl (hb hby at_17) rfl kt) ?_
    show Go p.tables e below _ (T218.setTop (mkF m 18 #[.val (.long q1), .second, .val (.int p1), .val (.int (7 : Int32)), .val (.ref b213), .unset, .unset, .unset, .unset, .unset, .unset] [(.int (7 : Int32)), (.ref b213)]))
    obtain ⟨cq225, kq225, q225a, q225b, q225c⟩ := isOf hZ rfl P219
    obtain ⟨_, _, ⟨T225, L225, k225, n225⟩, -, X225, ⟨Lc225, hQ225, l225, y225, z225⟩, st225⟩ := X218.virtualBack hx (y := (⟨"com/example/sibyl/sibyl/core/BlockHash", "bit", "(I)I"⟩ : MethodName)) (z := (⟨"com/example/sibyl/sibyl/core/BlockHash", "bit", "(I)I"⟩ : MethodName)) hown (mvT hZ (hw _ (List.mem_of_getElem? (i := 16) rfl))) (mvT hZ (hw _ (List.mem_of_getElem? (i := 17) rfl))) (notFace_of_selects (args := #[]) (mvT hZ (hw _ (List.mem_of_getElem? (i := 19) rfl)))) (mvT hZ (hw _ (List.mem_of_getElem? (i := 19) rfl))) (mvT hZ (hw _ (List.mem_of_getElem? (i := 18) rfl))) (by decide) (backOf (W := 0) (rmb7 l Z a0 hw [] b213 q1 sa sk T218.heap n0 Z224 P220 F221 F222 ) hZ (hw _ (List.mem_of_getElem? (i := 20) rfl)) (hw _ (List.mem_of_getElem? (i := 2) rfl)) (by decide) (by decide)) q225a q225c (g := (mkF m 18 #[.val (.long q1), .second, .val (.int p1), .val (.int (7 : Int32)), .val (.ref b213), .unset, .unset, .unset, .unset, .unset, .unset] [(.int (7 : Int32)), (.ref b213)])) rfl (by rw [hml]; rfl) (Steps.refl _) (argsL := [(.int (7 : Int32))]) (rest := []) (lenOf pd_2 rfl) rfl (by show 2 * 0 + _ ≤ _; exact Nat.le_of_eq rfl) (hb hby at_18) (fun _ _ => ⟨rfl, rfl, (by decide : 1 + 0 ≤ _), (by decide : 1 + 0 ≤ _)⟩)
    dsimp only [Pt.U, Pt.locs, Pt.cells, Pt.slots] at X225 l225 y225 z225 st225 hQ225
    subst l225 y225 z225
    obtain ⟨rfl, N225q, eh225⟩ := hQ225
    have N225 := Fr.app N218 N225q
    refine Go.step (fun _ kt => st225.trans kt) ?_
    show Go p.tables e below _ (T225.setTop (mkF m 21 #[.val (.long q1), .second, .val (.int p1), .val (.int (7 : Int32)), .val (.ref b213), .unset, .unset, .unset, .unset, .unset, .unset] [(.int (own_bit q1 (1550580529 : Int32)))]))
    obtain ⟨got, e_got⟩ : ∃ nm_, nm_ = (own_bit q1 (1550580529 : Int32)) := ⟨_, rfl⟩
    rw [← e_got]
    show Go p.tables e below _ (T225.setTop (mkF m 21 #[.val (.long q1), .second, .val (.int p1), .val (.int (7 : Int32)), .val (.ref b213), .unset, .unset, .unset, .unset, .unset, .unset] [(.int got)]))
    refine Go.step (fun _ kt => XS.istore X225.here hx rfl (hb hby at_21) rfl (l' := #[.val (.long q1), .second, .val (.int p1), .val (.int (7 : Int32)), .val (.ref b213), .val (.int got), .unset, .unset, .unset, .unset, .unset]) rfl kt) ?_
    show Go p.tables e below _ (T225.setTop (mkF m 23 #[.val (.long q1), .second, .val (.int p1), .val (.int (7 : Int32)), .val (.ref b213), .val (.int got), .unset, .unset, .unset, .unset, .unset] []))
    refine Go.step (fun _ kt => XS.lloadN X225.here hx rfl (hb hby at_23) rfl kt) ?_
    show Go p.tables e below _ (T225.setTop (mkF m 24 #[.val (.long q1), .second, .val (.int p1), .val (.int (7 : Int32)), .val (.ref b213), .val (.int got), .unset, .unset, .unset, .unset, .unset] [(.long q1)]))
    refine Go.step (X225.ldc2Long hx hown (mvT hZ (hw _ (List.mem_of_getElem? (i := 23) rfl))) (g := (mkF m 24 #[.val (.long q1), .second, .val (.int p1), .val (.int (7 : Int32)), .val (.ref b213), .val (.int got), .unset, .unset, .unset, .unset, .unset] [(.long q1)])) rfl (hb hby at_24)) ?_
    show Go p.tables e below _ (T225.setTop (mkF m 27 #[.val (.long q1), .second, .val (.int p1), .val (.int (7 : Int32)), .val (.ref b213), .val (.int got), .unset, .unset, .unset, .unset, .unset] [(.long (4294967295 : Int64)), (.long q1)]))
    refine Go.step (fun _ kt => XS.land X225.here hx rfl (hb hby at_27) rfl kt) ?_
    show Go p.tables e below _ (T225.setTop (mkF m 28 #[.val (.long q1), .second, .val (.int p1), .val (.int (7 : Int32)), .val (.ref b213), .val (.int got), .unset, .unset, .unset, .unset, .unset] [(.long (q1 &&& (4294967295 : Int64)))]))
    refine Go.step (fun _ kt => XS.lstore X225.here hx rfl (hb hby at_28) rfl (l' := #[.val (.long q1), .second, .val (.int p1), .val (.int (7 : Int32)), .val (.ref b213), .val (.int got), .val (.long (q1 &&& (4294967295 : Int64))), .second, .unset, .unset, .unset]) rfl kt) ?_
    show Go p.tables e below _ (T225.setTop (mkF m 30 #[.val (.long q1), .second, .val (.int p1), .val (.int (7 : Int32)), .val (.ref b213), .val (.int got), .val (.long (q1 &&& (4294967295 : Int64))), .second, .unset, .unset, .unset] []))
    refine Go.step (fun _ kt => XS.lload X225.here hx rfl (hb hby at_30) rfl kt) ?_
    show Go p.tables e below _ (T225.setTop (mkF m 32 #[.val (.long q1), .second, .val (.int p1), .val (.int (7 : Int32)), .val (.ref b213), .val (.int got), .val (.long (q1 &&& (4294967295 : Int64))), .second, .unset, .unset, .unset] [(.long (q1 &&& (4294967295 : Int64)))]))
    refine Go.step (fun _ kt => XS.iloadN X225.here hx rfl (hb hby at_32) rfl kt) ?_
    show Go p.tables e below _ (T225.setTop (mkF m 33 #[.val (.long q1), .second, .val (.int p1), .val (.int (7 : Int32)), .val (.ref b213), .val (.int got), .val (.long (q1 &&& (4294967295 : Int64))), .second, .unset, .unset, .unset] [(.int (7 : Int32)), (.long (q1 &&& (4294967295 : Int64)))]))
    obtain ⟨_, _, ⟨T226, L226, k226, n226⟩, -, X226, ⟨Lc226, hQ226, l226, y226, z226⟩, st226⟩ := Jvm.LawKit.callS X225 hx (y := (⟨"com/example/sibyl/sibyl/core/BlockHashBitPinLaw", "salt", "(I)J"⟩ : MethodName)) hown (mvT hZ (hw _ (List.mem_of_getElem? (i := 24) rfl))) (mvT hZ (hw _ (List.mem_of_getElem? (i := 25) rfl))) (mvT hZ (hw _ (List.mem_of_getElem? (i := 26) rfl))) (mvT hZ (hw _ (List.mem_of_getElem? (i := 27) rfl))) (by decide) (backOf (W := 2) (rm5 l Z a0 hw [] (7 : Int32)  T218.heap n0 Z224  ) hZ (hw _ (List.mem_of_getElem? (i := 27) rfl)) (hw _ (List.mem_of_getElem? (i := 26) rfl)) (by decide) (by decide)) (g := (mkF m 33 #[.val (.long q1), .second, .val (.int p1), .val (.int (7 : Int32)), .val (.ref b213), .val (.int got), .val (.long (q1 &&& (4294967295 : Int64))), .second, .unset, .unset, .unset] [(.int (7 : Int32)), (.long (q1 &&& (4294967295 : Int64)))])) rfl (by rw [hml]; rfl) (argsL := [(.int (7 : Int32))]) (rest := [(.long (q1 &&& (4294967295 : Int64)))]) (lenOf pd_3 rfl) rfl (by show 2 * 0 + _ ≤ _; exact Nat.le_of_eq rfl) (hb hby at_33) (fun _ _ => ⟨rfl, eh225, (by decide : 1 + 0 ≤ _), (by decide : 1 + 0 ≤ _)⟩)
    dsimp only [Pt.U, Pt.locs, Pt.cells, Pt.slots] at X226 l226 y226 z226 st226 hQ226
    subst l226 y226 z226
    obtain ⟨rfl, N226q, eh226⟩ := hQ226
    have N226 := Fr.app N225 N226q
    refine Go.step st226 ?_
    show Go p.tables e below _ (T226.setTop (mkF m 36 #[.val (.long q1), .second, .val (.int p1), .val (.int (7 : Int32)), .val (.ref b213), .val (.int got), .val (.long (q1 &&& (4294967295 : Int64))), .second, .unset, .unset, .unset] [(.long (own_salt (7 : Int32))), (.long (q1 &&& (4294967295 : Int64)))]))
    have q227 : (own_salt (7 : Int32)) = (1550580529 : Int64) := rfl
    rw [q227]
    show Go p.tables e below _ (T226.setTop (mkF m 36 #[.val (.long q1), .second, .val (.int p1), .val (.int (7 : Int32)), .val (.ref b213), .val (.int got), .val (.long (q1 &&& (4294967295 : Int64))), .second, .unset, .unset, .unset] [(.long (1550580529 : Int64)), (.long (q1 &&& (4294967295 : Int64)))]))
    refine Go.step (fun _ kt => XS.lmul X226.here hx rfl (hb hby at_36) rfl kt) ?_
    show Go p.tables e below _ (T226.setTop (mkF m 37 #[.val (.long q1), .second, .val (.int p1), .val (.int (7 : Int32)), .val (.ref b213), .val (.int got), .val (.long (q1 &&& (4294967295 : Int64))), .second, .unset, .unset, .unset] [(.long ((q1 &&& (4294967295 : Int64)) * (1550580529 : Int64)))]))
    refine Go.step (X226.ldc2Long hx hown (mvT hZ (hw _ (List.mem_of_getElem? (i := 23) rfl))) (g := (mkF m 37 #[.val (.long q1), .second, .val (.int p1), .val (.int (7 : Int32)), .val (.ref b213), .val (.int got), .val (.long (q1 &&& (4294967295 : Int64))), .second, .unset, .unset, .unset] [(.long ((q1 &&& (4294967295 : Int64)) * (1550580529 : Int64)))])) rfl (hb hby at_37)) ?_
    show Go p.tables e below _ (T226.setTop (mkF m 40 #[.val (.long q1), .second, .val (.int p1), .val (.int (7 : Int32)), .val (.ref b213), .val (.int got), .val (.long (q1 &&& (4294967295 : Int64))), .second, .unset, .unset, .unset] [(.long (4294967295 : Int64)), (.long ((q1 &&& (4294967295 : Int64)) * (1550580529 : Int64)))]))
    refine Go.step (fun _ kt => XS.land X226.here hx rfl (hb hby at_40) rfl kt) ?_
    show Go p.tables e below _ (T226.setTop (mkF m 41 #[.val (.long q1), .second, .val (.int p1), .val (.int (7 : Int32)), .val (.ref b213), .val (.int got), .val (.long (q1 &&& (4294967295 : Int64))), .second, .unset, .unset, .unset] [(.long (((q1 &&& (4294967295 : Int64)) * (1550580529 : Int64)) &&& (4294967295 : Int64)))]))
    refine Go.step (fun _ kt => XS.lstore X226.here hx rfl (hb hby at_41) rfl (l' := #[.val (.long q1), .second, .val (.int p1), .val (.int (7 : Int32)), .val (.ref b213), .val (.int got), .val (.long (q1 &&& (4294967295 : Int64))), .second, .val (.long (((q1 &&& (4294967295 : Int64)) * (1550580529 : Int64)) &&& (4294967295 : Int64))), .second, .unset]) rfl kt) ?_
    show Go p.tables e below _ (T226.setTop (mkF m 43 #[.val (.long q1), .second, .val (.int p1), .val (.int (7 : Int32)), .val (.ref b213), .val (.int got), .val (.long (q1 &&& (4294967295 : Int64))), .second, .val (.long (((q1 &&& (4294967295 : Int64)) * (1550580529 : Int64)) &&& (4294967295 : Int64))), .second, .unset] []))
    refine Go.step (fun _ kt => XS.lload X226.here hx rfl (hb hby at_43) rfl kt) ?_
    show Go p.tables e below _ (T226.setTop (mkF m 45 #[.val (.long q1), .second, .val (.int p1), .val (.int (7 : Int32)), .val (.ref b213), .val (.int got), .val (.long (q1 &&& (4294967295 : Int64))), .second, .val (.long (((q1 &&& (4294967295 : Int64)) * (1550580529 : Int64)) &&& (4294967295 : Int64))), .second, .unset] [(.long (((q1 &&& (4294967295 : Int64)) * (1550580529 : Int64)) &&& (4294967295 : Int64)))]))
    refine Go.step (fun _ kt => XS.bipush X226.here hx rfl (hb hby at_45) kt) ?_
    show Go p.tables e below _ (T226.setTop (mkF m 47 #[.val (.long q1), .second, .val (.int p1), .val (.int (7 : Int32)), .val (.ref b213), .val (.int got), .val (.long (q1 &&& (4294967295 : Int64))), .second, .val (.long (((q1 &&& (4294967295 : Int64)) * (1550580529 : Int64)) &&& (4294967295 : Int64))), .second, .unset] [(.int (27 : Int32)), (.long (((q1 &&& (4294967295 : Int64)) * (1550580529 : Int64)) &&& (4294967295 : Int64)))]))
    refine Go.step (fun _ kt => XS.lushr X226.here hx rfl (hb hby at_47) rfl kt) ?_
    show Go p.tables e below _ (T226.setTop (mkF m 48 #[.val (.long q1), .second, .val (.int p1), .val (.int (7 : Int32)), .val (.ref b213), .val (.int got), .val (.long (q1 &&& (4294967295 : Int64))), .second, .val (.long (((q1 &&& (4294967295 : Int64)) * (1550580529 : Int64)) &&& (4294967295 : Int64))), .second, .unset] [(.long (((((q1 &&& (4294967295 : Int64)) * (1550580529 : Int64)) &&& (4294967295 : Int64)).toUInt64 >>> ((27 : Int32) &&& 0x3f).toInt64.toUInt64).toInt64))]))
    refine Go.step (fun _ kt => XS.l2i X226.here hx rfl (hb hby at_48) rfl kt) ?_
    show Go p.tables e below _ (T226.setTop (mkF m 49 #[.val (.long q1), .second, .val (.int p1), .val (.int (7 : Int32)), .val (.ref b213), .val (.int got), .val (.long (q1 &&& (4294967295 : Int64))), .second, .val (.long (((q1 &&& (4294967295 : Int64)) * (1550580529 : Int64)) &&& (4294967295 : Int64))), .second, .unset] [(.int ((((((q1 &&& (4294967295 : Int64)) * (1550580529 : Int64)) &&& (4294967295 : Int64)).toUInt64 >>> ((27 : Int32) &&& 0x3f).toInt64.toUInt64).toInt64).toInt32))]))
    have e_all := own_eq q1 (1550580529 : Int32) (1550580529 : Int64) (by decide)
    rw [← e_got] at e_all
    have q228 : ((((((q1 &&& (4294967295 : Int64)) * (1550580529 : Int64)) &&& (4294967295 : Int64)).toUInt64 >>> ((27 : Int32) &&& 0x3f).toInt64.toUInt64).toInt64).toInt32) = got := e_all.1.symm
    rw [q228]
    show Go p.tables e below _ (T226.setTop (mkF m 49 #[.val (.long q1), .second, .val (.int p1), .val (.int (7 : Int32)), .val (.ref b213), .val (.int got), .val (.long (q1 &&& (4294967295 : Int64))), .second, .val (.long (((q1 &&& (4294967295 : Int64)) * (1550580529 : Int64)) &&& (4294967295 : Int64))), .second, .unset] [(.int got)]))
    refine Go.step (fun _ kt => XS.istore X226.here hx rfl (hb hby at_49) rfl (l' := #[.val (.long q1), .second, .val (.int p1), .val (.int (7 : Int32)), .val (.ref b213), .val (.int got), .val (.long (q1 &&& (4294967295 : Int64))), .second, .val (.long (((q1 &&& (4294967295 : Int64)) * (1550580529 : Int64)) &&& (4294967295 : Int64))), .second, .val (.int got)]) rfl kt) ?_
    show Go p.tables e below _ (T226.setTop (mkF m 51 #[.val (.long q1), .second, .val (.int p1), .val (.int (7 : Int32)), .val (.ref b213), .val (.int got), .val (.long (q1 &&& (4294967295 : Int64))), .second, .val (.long (((q1 &&& (4294967295 : Int64)) * (1550580529 : Int64)) &&& (4294967295 : Int64))), .second, .val (.int got)] []))
    refine Go.step (fun _ kt => XS.iload X226.here hx rfl (hb hby at_51) rfl kt) ?_
    show Go p.tables e below _ (T226.setTop (mkF m 53 #[.val (.long q1), .second, .val (.int p1), .val (.int (7 : Int32)), .val (.ref b213), .val (.int got), .val (.long (q1 &&& (4294967295 : Int64))), .second, .val (.long (((q1 &&& (4294967295 : Int64)) * (1550580529 : Int64)) &&& (4294967295 : Int64))), .second, .val (.int got)] [(.int got)]))
    refine Go.step (fun _ kt => XS.iload X226.here hx rfl (hb hby at_53) rfl kt) ?_
    show Go p.tables e below _ (T226.setTop (mkF m 55 #[.val (.long q1), .second, .val (.int p1), .val (.int (7 : Int32)), .val (.ref b213), .val (.int got), .val (.long (q1 &&& (4294967295 : Int64))), .second, .val (.long (((q1 &&& (4294967295 : Int64)) * (1550580529 : Int64)) &&& (4294967295 : Int64))), .second, .val (.int got)] [(.int got), (.int got)]))
    refine Go.step (fun _ kt => XS.icmpNo X226.here hx rfl (hb hby at_55) rfl (teq (rfl : got = got)).2 kt) ?_
    show Go p.tables e below _ (T226.setTop (mkF m 58 #[.val (.long q1), .second, .val (.int p1), .val (.int (7 : Int32)), .val (.ref b213), .val (.int got), .val (.long (q1 &&& (4294967295 : Int64))), .second, .val (.long (((q1 &&& (4294967295 : Int64)) * (1550580529 : Int64)) &&& (4294967295 : Int64))), .second, .val (.int got)] []))
    refine Go.step (fun _ kt => XS.iload X226.here hx rfl (hb hby at_58) rfl kt) ?_
    show Go p.tables e below _ (T226.setTop (mkF m 60 #[.val (.long q1), .second, .val (.int p1), .val (.int (7 : Int32)), .val (.ref b213), .val (.int got), .val (.long (q1 &&& (4294967295 : Int64))), .second, .val (.long (((q1 &&& (4294967295 : Int64)) * (1550580529 : Int64)) &&& (4294967295 : Int64))), .second, .val (.int got)] [(.int got)]))
    refine Go.step (fun _ kt => XS.ifNo X226.here hx rfl (hb hby at_60) rfl ((if0 _ _).trans (flt e_all.2.1).1) kt) ?_
    show Go p.tables e below _ (T226.setTop (mkF m 63 #[.val (.long q1), .second, .val (.int p1), .val (.int (7 : Int32)), .val (.ref b213), .val (.int got), .val (.long (q1 &&& (4294967295 : Int64))), .second, .val (.long (((q1 &&& (4294967295 : Int64)) * (1550580529 : Int64)) &&& (4294967295 : Int64))), .second, .val (.int got)] []))
    refine Go.step (fun _ kt => XS.iload X226.here hx rfl (hb hby at_63) rfl kt) ?_
    show Go p.tables e below _ (T226.setTop (mkF m 65 #[.val (.long q1), .second, .val (.int p1), .val (.int (7 : Int32)), .val (.ref b213), .val (.int got), .val (.long (q1 &&& (4294967295 : Int64))), .second, .val (.long (((q1 &&& (4294967295 : Int64)) * (1550580529 : Int64)) &&& (4294967295 : Int64))), .second, .val (.int got)] [(.int got)]))
    refine Go.step (fun _ kt => XS.bipush X226.here hx rfl (hb hby at_65) kt) ?_
    show Go p.tables e below _ (T226.setTop (mkF m 67 #[.val (.long q1), .second, .val (.int p1), .val (.int (7 : Int32)), .val (.ref b213), .val (.int got), .val (.long (q1 &&& (4294967295 : Int64))), .second, .val (.long (((q1 &&& (4294967295 : Int64)) * (1550580529 : Int64)) &&& (4294967295 : Int64))), .second, .val (.int got)] [(.int (31 : Int32)), (.int got)]))
    refine Go.step (fun _ kt => XS.icmpNo X226.here hx rfl (hb hby at_67) rfl (flt e_all.2.2).2.2.1 kt) ?_
    show Go p.tables e below _ (T226.setTop (mkF m 70 #[.val (.long q1), .second, .val (.int p1), .val (.int (7 : Int32)), .val (.ref b213), .val (.int got), .val (.long (q1 &&& (4294967295 : Int64))), .second, .val (.long (((q1 &&& (4294967295 : Int64)) * (1550580529 : Int64)) &&& (4294967295 : Int64))), .second, .val (.int got)] []))
    refine Go.step (fun _ kt => XS.iconst X226.here hx rfl (hb hby at_70) kt) ?_
    show Go p.tables e below _ (T226.setTop (mkF m 71 #[.val (.long q1), .second, .val (.int p1), .val (.int (7 : Int32)), .val (.ref b213), .val (.int got), .val (.long (q1 &&& (4294967295 : Int64))), .second, .val (.long (((q1 &&& (4294967295 : Int64)) * (1550580529 : Int64)) &&& (4294967295 : Int64))), .second, .val (.int got)] [(.int (1 : Int32))]))
    refine Go.step (fun _ kt => XS.goto X226.here hx rfl (pc0 := 71) (pc' := 75) rfl (hb hby at_71) (by decide) (by decide) kt) ?_
    show Go p.tables e below _ (T226.setTop (mkF m 75 #[.val (.long q1), .second, .val (.int p1), .val (.int (7 : Int32)), .val (.ref b213), .val (.int got), .val (.long (q1 &&& (4294967295 : Int64))), .second, .val (.long (((q1 &&& (4294967295 : Int64)) * (1550580529 : Int64)) &&& (4294967295 : Int64))), .second, .val (.int got)] [(.int (1 : Int32))]))
    obtain ⟨fs, hr, hrun, hended, hW, hsame⟩ := X226.leave (v := some (.int (1 : Int32))) (fun h => by rw [Bd.returns] at h; cases h)
    refine ⟨_, _, retN X226 hx (t := .boolean) Bd.returns (by simp) (hb hby at_75) hr, hrun, hended, _, _, rfl, ?_, ⟨_, rfl⟩, hW, hsame.mono (by decide) (by decide)⟩
    show Qrm0 Z q1 p1 sa sk h0 n0 _ T226.heap _
    rw [eh226]
    exact ⟨rfl, N226⟩
set_option maxRecDepth 65536 in
set_option maxHeartbeats 40000000 in
theorem comes_1 {Post : Tables → Env → Array Value → State → Outcome → State → Prop} (hpost : ∀ tb e args s v u, (limb_1_1.after args s (.returned v) u = true ∧ limb_1_2.after args s (.returned v) u = true ∧ True) → FrameEnd s (.returned v) u (Jvm.fieldLocs frame_1_writes args s ++ Jvm.arrayLocs frame_1_arrays args s ++ Jvm.staticLocs frame_1_statics s) 16 128 → Post tb e args s (.returned v) u) :
    ArmFor flags0 classFile x code maxLocals ret World_1 tables_1 room_1 Calls_1 rest_1 Pre_1 Post := by
  intro l hfl _ _ p e ha hc hk s m args below hf hA hF happ hP
  obtain ⟨hcalls, hrest, hpre⟩ := hP
  obtain ⟨-, -, -, hnamed, -, -, -, hat⟩ := (Spec.applies_iff hf).mp happ
  obtain ⟨hg, hn⟩ := and_e (Cond.before_iff.mp (show (Jvm.Cond.and given_1 narrow_1).before args s = true from hpre))
  obtain ⟨hcount, hg1⟩ := and_e hg
  obtain ⟨ga0, hg2⟩ := and_e hg1
  have ga1 := hg2
  obtain ⟨w0, w1, rfl⟩ : ∃ w0 w1 : Value, args = #[w0, w1] := by
    have hs : args.size = 2 := by simpa [Cond.value, given_1] using hcount
    obtain ⟨L⟩ := args
    match L, hs with
    | [w0, w1], _ => exact ⟨w0, w1, rfl⟩
  have hw := fun d (hd : d ∈ tables_1) => atoms_spec (ws := Jvm.Cond.code x code maxLocals ret :: tables_1) hat d (List.mem_cons_of_mem _ hd)
  have hfit : Fit s := fun {y c} hc i hi => by
    obtain ⟨ha, rfl⟩ := Array.getElem?_eq_some_iff.mp hc
    have q := List.all_eq_true.mp ((Array.all_eq_true_iff_forall_mem.mp hF) _ (Array.getElem_mem ha)) i (List.mem_range.mpr hi)
    simpa [Array.getElem?_eq_getElem hi] using q
  obtain ⟨i0, ei0⟩ := isL_v ga0
  obtain rfl : w0 = (.long i0) := Option.some.inj ei0
  obtain ⟨i1, ei1⟩ := is_v ga1
  obtain rfl : w1 = (.int i1) := Option.some.inj ei1
  obtain ⟨nq0, hn1⟩ := and_e hn
  obtain ⟨nq1, hn2⟩ := and_e hn1
  obtain ⟨nq2, hn3⟩ := and_e hn2
  obtain ⟨nq3, hn4⟩ := and_e hn3
  obtain ⟨nq4, hn5⟩ := and_e hn4
  obtain ⟨nq5, hn6⟩ := and_e hn5
  obtain ⟨nq6, hn7⟩ := and_e hn6
  obtain ⟨nq7, hn8⟩ := and_e hn7
  obtain ⟨nq8, hn9⟩ := and_e hn8
  have nq9 := hn9
  obtain ⟨sa, evS⟩ := arr_v nq0
  obtain ⟨cS, ArS⟩ := Arr.start evS nq0
  obtain ⟨lq1, lq2⟩ := own_len (own_eqI nq1) evS ArS.1
  have S1 : Sta s s.heap "com/example/sibyl/sibyl/core/BlockHash" "SALTS" "[I" (.ref sa) := Sta.start evS (Or.inr ⟨(hw _ (List.mem_of_getElem? (i := 2) rfl)), (hw _ (List.mem_of_getElem? (i := 22) rfl))⟩)
  have V1 : Arv s s.heap sa cS.cls .int (8 : Int32) [(.int (1203114875 : Int32)), (.int (1150766481 : Int32)), (.int (-2010862245 : Int32)), (.int (-1565054819 : Int32)), (.int (1884591559 : Int32)), (.int (770785867 : Int32)), (.int (-1627633337 : Int32)), (.int (1550580529 : Int32))] (.int (0 : Int32)) := Arv.start hfit ArS lq1 lq2 (by decide) rfl ⟨(elem_in (own_eqI nq2) evS rfl ArS.1).2, (elem_in (own_eqI nq3) evS rfl ArS.1).2, (elem_in (own_eqI nq4) evS rfl ArS.1).2, (elem_in (own_eqI nq5) evS rfl ArS.1).2, (elem_in (own_eqI nq6) evS rfl ArS.1).2, (elem_in (own_eqI nq7) evS rfl ArS.1).2, (elem_in (own_eqI nq8) evS rfl ArS.1).2, (elem_in (own_eqI nq9) evS rfl ArS.1).2, trivial⟩
  obtain ⟨n, o, h1, h2, h3, _, L, rfl, ⟨rfl, N⟩, hq⟩ := rm0 l s _ hw tables_1 i0 i1 sa cS.cls s.heap s.heap.size (Nat.le_refl _) S1 V1 p e ha hc hk s m _ below hf ((Spec.applies_iff_loose hf).mp happ).1 ⟨rfl, State.Warmed39.refl s, rfl⟩ trivial
  refine ⟨n, _, h1, h2, h3, hpost _ _ _ _ _ _ ⟨Cond.after_iff.mpr rfl, Cond.after_iff.mpr (eq_i res_at (Term.int_eval (1)) rfl), trivial⟩ ⟨hq.1, hq.2.1, (hq.2.2.sift fun y hy => Or.inr (N y hy)).mono (by decide) (by decide)⟩⟩
theorem main_1_1 : Claimed_1_1 := comes_1 fun _ _ _ _ _ _ h hF => ⟨h.1, hF⟩
theorem main_1_2 : Claimed_1_2 := comes_1 fun _ _ _ _ _ _ h hF => ⟨h.2.1, hF⟩
end Jvm.Pilot.@@N@@
namespace Jvm.Pilot.@@N@@
open Jvm Jvm.ClassFile Sem Op Lib Jvm.Free Jvm.Stand Jvm.Pilot.@@N@@.Jvm.D
/-! MADE BY PROGRAM (witnessworld.py) out of the Statement's table words and the real class files: 10 classes; the members and pool entries that the words name. The judged class is class 1, her method 2. -/
namespace start1
open Jvm.ClassFile
def u (s : String) : CpInfo := .utf8 (stringToUtf16 s)
/-- a pool by its gaps: so many unusable entries, then the entry; so many at the end -/
def gap : Nat → List CpInfo → List CpInfo
  | 0, r => r
  | n + 1, r => .unusable :: gap n r
def poolList (es : List (Nat × CpInfo)) (last : Nat) : List CpInfo := es.foldr (fun e r => gap e.1 (e.2 :: r)) (gap last [])
def pool (es : List (Nat × CpInfo)) (last : Nat) : Array CpInfo := ⟨poolList es last⟩
def fileOf (pool : Array CpInfo) (this : Nat) (attrs : Array Attribute := #[]) (ms : Array MethodInfo := #[]) (fl : Nat := 33) (sup : Nat := 0) (ifs : Array Nat := #[]) (fds : Array FieldInfo := #[]) : ClassFile where
  minorVersion := 0
  majorVersion := 65
  constantPool := pool
  accessFlags := fl
  thisClass := this
  superClass := sup
  interfaces := ifs
  fields := fds
  methods := ms
  attributes := attrs
def plain (name : String) (sup : Option ClassId) : Class where
  name := name
  kind := .ordinary
  loader := none
  accessFlags := 33
  super := sup
  interfaces := #[]
  cf := none
  fields := #[]
  methods := #[]
  instanceTypes := #[]
  staticTypes := #[]
  resolved := #[]
  callSites := []
  init := .initialized
  statics := none
  mirror := none

def pool0 : Array CpInfo := pool [(5, u "<init>"), (0, u "()V"), (1, .class_ 10), (1, u "java/lang/Object")] 113

def k0c0 : Code := { maxStack := 0, maxLocals := 1, code := object_method_1_code, exceptionTable := #[], attributes := #[] }
def k0m0 : Method := { name := "<init>", desc := "()V", sig := { parameters := [], returnType := none }, accessFlags := 1, code := some k0c0 }
/-- java/lang/Object -/
def k0 : Class := { plain "java/lang/Object" none with
  accessFlags := 33
  interfaces := #[]
  cf := some (fileOf pool0 8 #[] #[{ accessFlags := 1, nameIndex := 5, descriptorIndex := 6, attributes := #[] }] 33 0 #[] #[])
  fields := #[]
  methods := #[k0m0]
  instanceTypes := #[]
  staticTypes := #[]
  resolved := Array.replicate 124 none
  statics := none }

def pool1 : Array CpInfo := pool [(2, .class_ 4), (1, u "java/lang/Object"), (0, u "<init>"), (0, u "()V"), (0, .long 1203114875), (1, .long 1150766481), (1, .long 2284105051), (1, .long 2729912477), (1, .long 1884591559), (1, .long 770785867), (1, .long 2667333959), (1, .long 1550580529), (1, .class_ 24), (0, u "com/example/sibyl/sibyl/core/BlockHash"), (0, .methodref 23 26), (0, .nameAndType 5 27), (0, u "(J)V"), (0, .methodref 23 29), (0, .nameAndType 30 31), (0, u "bit"), (0, u "(I)I"), (0, .long 4294967295), (1, .methodref 35 36), (0, .class_ 37), (0, .nameAndType 38 39), (0, u "com/example/sibyl/sibyl/core/BlockHashBitPinLaw"), (0, u "salt"), (0, u "(I)J"), (3, u "law"), (0, u "(JI)Z")] 2

def k1m0 : Method := { name := "<init>", desc := "()V", sig := { parameters := [], returnType := none }, accessFlags := 2, code := none }
def k1c1 : Code := { maxStack := 2, maxLocals := 1, code := method_2_code, exceptionTable := #[], attributes := #[] }
def k1m1 : Method := { name := "salt", desc := "(I)J", sig := { parameters := [.int], returnType := some .long }, accessFlags := 10, code := some k1c1 }
def k1c2 : Code := { maxStack := 4, maxLocals := 11, code := code, exceptionTable := #[], attributes := #[] }
def k1m2 : Method := { name := "law", desc := "(JI)Z", sig := { parameters := [.long, .int], returnType := some .boolean }, accessFlags := 9, code := some k1c2 }
/-- com/example/sibyl/sibyl/core/BlockHashBitPinLaw -/
def k1 : Class := { plain "com/example/sibyl/sibyl/core/BlockHashBitPinLaw" (some 0) with
  accessFlags := 49
  interfaces := #[]
  cf := some (fileOf pool1 35 #[] #[{ accessFlags := 2, nameIndex := 5, descriptorIndex := 6, attributes := #[] }, { accessFlags := 10, nameIndex := 38, descriptorIndex := 39, attributes := #[] }, { accessFlags := 9, nameIndex := 43, descriptorIndex := 44, attributes := #[] }] 49 2 #[] #[])
  fields := #[]
  methods := #[k1m0, k1m1, k1m2]
  instanceTypes := #[]
  staticTypes := #[]
  resolved := Array.replicate 47 none
  statics := none }

def pool2 : Array CpInfo := pool [(1, .methodref 2 3), (0, .class_ 4), (0, .nameAndType 5 6), (0, u "java/lang/Object"), (0, u "<init>"), (0, u "()V"), (0, .class_ 8), (0, u "java/lang/Record")] 13

def k2c0 : Code := { maxStack := 1, maxLocals := 1, code := jdk_30_method_1_code, exceptionTable := #[], attributes := #[] }
def k2m0 : Method := { name := "<init>", desc := "()V", sig := { parameters := [], returnType := none }, accessFlags := 4, code := some k2c0 }
/-- java/lang/Record -/
def k2 : Class := { plain "java/lang/Record" (some 0) with
  accessFlags := 1057
  interfaces := #[]
  cf := some (fileOf pool2 7 #[] #[{ accessFlags := 4, nameIndex := 5, descriptorIndex := 6, attributes := #[] }] 1057 2 #[] #[])
  fields := #[]
  methods := #[k2m0]
  instanceTypes := #[]
  staticTypes := #[]
  resolved := Array.replicate 22 none
  statics := none }

def pool3 : Array CpInfo := pool [(1, .methodref 2 3), (0, .class_ 4), (0, .nameAndType 5 6), (0, u "java/lang/Record"), (0, u "<init>"), (0, u "()V"), (0, .fieldref 8 9), (0, .class_ 10), (0, .nameAndType 11 12), (0, u "com/example/sibyl/sibyl/core/BlockHash"), (0, u "value"), (0, u "J"), (8, u "(J)V"), (12, .fieldref 8 35), (0, .nameAndType 36 37), (0, u "SALTS"), (0, u "[I"), (20, u "BIT_SHIFT"), (0, u "I"), (8, u "(I)I"), (0, u "bit")] 24

def k3c0 : Code := { maxStack := 3, maxLocals := 3, code := prog_3_method_1_code, exceptionTable := #[], attributes := #[] }
def k3m0 : Method := { name := "<init>", desc := "(J)V", sig := { parameters := [.long], returnType := none }, accessFlags := 1, code := some k3c0 }
def k3c1 : Code := { maxStack := 3, maxLocals := 2, code := prog_3_method_6_code, exceptionTable := #[], attributes := #[] }
def k3m1 : Method := { name := "bit", desc := "(I)I", sig := { parameters := [.int], returnType := some .int }, accessFlags := 1, code := some k3c1 }
/-- com/example/sibyl/sibyl/core/BlockHash -/
def k3 : Class := { plain "com/example/sibyl/sibyl/core/BlockHash" (some 2) with
  accessFlags := 49
  interfaces := #[]
  cf := some (fileOf pool3 8 #[] #[{ accessFlags := 1, nameIndex := 5, descriptorIndex := 21, attributes := #[] }, { accessFlags := 1, nameIndex := 69, descriptorIndex := 68, attributes := #[] }] 49 2 #[] #[{ accessFlags := 18, nameIndex := 11, descriptorIndex := 12, attributes := #[] }, { accessFlags := 26, nameIndex := 36, descriptorIndex := 37, attributes := #[] }, { accessFlags := 26, nameIndex := 58, descriptorIndex := 59, attributes := #[] }])
  fields := #[{ name := "value", type := .long, accessFlags := 18, slot := 0, constantValue := 0 }, { name := "SALTS", type := (.array .int), accessFlags := 26, slot := 0, constantValue := 0 }, { name := "BIT_SHIFT", type := .int, accessFlags := 26, slot := 1, constantValue := 0 }]
  methods := #[k3m0, k3m1]
  instanceTypes := #[.long]
  staticTypes := #[(.array .int), .int]
  resolved := Array.replicate 94 none
  statics := some 0 }

def pool4 : Array CpInfo := pool [(1, u "java/lang/Cloneable"), (0, .class_ 1), (0, u "java/lang/Object"), (0, .class_ 3)] 3

/-- java/lang/Cloneable -/
def k4 : Class := { plain "java/lang/Cloneable" (some 0) with
  accessFlags := 1537
  interfaces := #[]
  cf := some (fileOf pool4 2 #[] #[] 1537 4 #[] #[])
  fields := #[]
  methods := #[]
  instanceTypes := #[]
  staticTypes := #[]
  resolved := Array.replicate 8 none
  statics := none }

def pool5 : Array CpInfo := pool [(1, u "java/io/Serializable"), (0, .class_ 1), (0, u "java/lang/Object"), (0, .class_ 3)] 3

/-- java/io/Serializable -/
def k5 : Class := { plain "java/io/Serializable" (some 0) with
  accessFlags := 1537
  interfaces := #[]
  cf := some (fileOf pool5 2 #[] #[] 1537 4 #[] #[])
  fields := #[]
  methods := #[]
  instanceTypes := #[]
  staticTypes := #[]
  resolved := Array.replicate 8 none
  statics := none }

/-- the primitive byte -/
def k6 : Class := { plain "byte" none with kind := .primitive 'B', accessFlags := 0x411 }
/-- [B -/
def k7 : Class := { plain "[B" (some 0) with kind := .array 6 .byte, interfaces := #[4, 5], accessFlags := 1041 }

/-- the primitive int -/
def k8 : Class := { plain "int" none with kind := .primitive 'I', accessFlags := 0x411 }
/-- [I -/
def k9 : Class := { plain "[I" (some 0) with kind := .array 8 .int, interfaces := #[4, 5], accessFlags := 1041 }

def heap : Heap := #[{ cls := 3, slots := #[.ref 1, .int 0], vm := .statics 3 },
  { cls := 9, slots := #[.int 1203114875, .int 1150766481, .int (-2010862245), .int (-1565054819), .int 1884591559, .int 770785867, .int (-1627633337), .int 1550580529], vm := .none }]
def classes : Array Class := #[k0, k1, k2, k3, k4, k5, k6, k7, k8, k9]
def interned : List (Array UInt16 × Addr) := []
def slotsUsed : Nat := 10
def theMethod : MethodId := ⟨1, 2⟩
def args0 : Array Value := #[.long 5, .int 9]
def aboutOver (below : List Frame) : State where
  vm := { classes := classes, interned := interned.toArray }
  heap := heap
  slotsUsed := slotsUsed
  threads := #[{ frames := .invoking theMethod args0 :: below }]
def below0 : List Frame := [.native { method := ⟨0, 0⟩, args := #[] }]
def about1 : State := aboutOver below0
def p0 : Program := .bare "" "" ""
def e0 : Env := launch0.env 0 0 0
theorem w_frames : about1.frames = Frame.invoking theMethod args0 :: below0 := rfl
set_option maxRecDepth 65536 in
theorem w_args : argsFit about1.vm theMethod args0 = true := by decide +kernel
set_option maxRecDepth 65536 in
theorem w_heap : heapFits about1 = true := by decide +kernel
set_option maxRecDepth 65536 in
theorem w_runnable : about1.curStatus? = some .runnable := by decide +kernel
set_option maxRecDepth 65536 in
theorem w_alone : about1.alone = true := by decide +kernel
set_option maxRecDepth 65536 in
theorem w_named : about1.methodNamed? x = some theMethod := by decide +kernel
set_option maxRecDepth 65536 in
theorem w_hears : about1.hears theMethod below0 = true := by decide +kernel
set_option maxRecDepth 65536 in
theorem w_ripe : about1.ripe theMethod args0 below0 = true := by decide +kernel
theorem w_running : about1.status = .running := rfl
set_option maxRecDepth 65536 in
theorem w_room : about1.hasRoom e0.platform room_1 = true :=
  launch0.hasRoom_least _ room_1 (by decide +kernel) (by decide +kernel) (by decide +kernel) (by decide +kernel) (by decide +kernel) (by decide +kernel)
theorem allAtoms_all (ts : List Jvm.Cond) (a : Array Jvm.Value) (st : Jvm.State) : (allAtoms ts).before a st = ts.all (fun c => c.before a st) := by
  induction ts with
  | nil => rfl
  | cons c t ih =>
    show (Jvm.Cond.and c (allAtoms t)).before a st = _
    rw [Jvm.Cond.before_and, ih, List.all_cons]
def words1 : List Jvm.Cond := Jvm.Cond.code x code maxLocals ret :: tables_1
/-- a 'code' word, met by the world's own term for the bytes: nothing is compared byte by byte -/
theorem code_word {y : MethodName} {bytes : ByteArray} {mx : Nat} {rt : Option FieldType} {a : Array Value} {s : State} {m : MethodId} {meth : Method} {c : Code} (h1 : s.methodNamed? y = some m) (h2 : s.vm.method? m = some meth) (h3 : meth.code = some c) (h4 : c.code = bytes)
    (h5 : (c.maxLocals == mx && c.exceptionTable.isEmpty && decide (c.maxStack ≤ mostOperands) && decide (meth.sig.returnType = rt) && !meth.locks && decide (parseMethodDescriptor y.desc = some meth.sig)) = true) : (Jvm.Cond.code y bytes mx rt).before a s = true := by
  simp only [Bool.and_eq_true, beq_iff_eq, Bool.not_eq_true', decide_eq_true_eq] at h5
  obtain ⟨⟨⟨⟨⟨g1, g2⟩, g3⟩, g4⟩, g5⟩, g6⟩ := h5
  simp [Cond.before, Cond.holds, Cond.value, h1, h2, h3, h4, g1, g2, g3, g4, g5, g6]
def isCode : Jvm.Cond → Bool
  | .code _ _ _ _ => true
  | _ => false
theorem all_split {L : List Jvm.Cond} {P : Jvm.Cond → Bool} (h1 : L.all (fun c => isCode c || P c) = true) (h2 : ∀ c ∈ L.filter isCode, P c = true) : L.all P = true := by
  refine List.all_eq_true.mpr fun c hc => ?_
  have h := List.all_eq_true.mp h1 c hc
  rcases Bool.eq_false_or_eq_true (isCode c) with hi | hi
  · exact h2 c (List.mem_filter.mpr ⟨hc, hi⟩)
  · simpa [hi] using h
set_option maxRecDepth 65536 in
theorem w_c0 : (Jvm.Cond.code x code maxLocals ret).before args0 about1 = true := code_word (m := ⟨1, 2⟩) (meth := k1m2) (c := k1c2) (by decide +kernel) rfl rfl rfl (by decide +kernel)
set_option maxRecDepth 65536 in
theorem w_c1 : (Jvm.Cond.code ({ cls := "com/example/sibyl/sibyl/core/BlockHash", name := "<init>", desc := "(J)V" } : Jvm.MethodName) prog_3_method_1_code (3 : Nat) (Option.none : Option Jvm.ClassFile.FieldType)).before args0 about1 = true := code_word (m := ⟨3, 0⟩) (meth := k3m0) (c := k3c0) (by decide +kernel) rfl rfl rfl (by decide +kernel)
set_option maxRecDepth 65536 in
theorem w_c2 : (Jvm.Cond.code ({ cls := "java/lang/Record", name := "<init>", desc := "()V" } : Jvm.MethodName) jdk_30_method_1_code (1 : Nat) (Option.none : Option Jvm.ClassFile.FieldType)).before args0 about1 = true := code_word (m := ⟨2, 0⟩) (meth := k2m0) (c := k2c0) (by decide +kernel) rfl rfl rfl (by decide +kernel)
set_option maxRecDepth 65536 in
theorem w_c3 : (Jvm.Cond.code ({ cls := "java/lang/Object", name := "<init>", desc := "()V" } : Jvm.MethodName) object_method_1_code (1 : Nat) (Option.none : Option Jvm.ClassFile.FieldType)).before args0 about1 = true := code_word (m := ⟨0, 0⟩) (meth := k0m0) (c := k0c0) (by decide +kernel) rfl rfl rfl (by decide +kernel)
set_option maxRecDepth 65536 in
theorem w_c4 : (Jvm.Cond.code ({ cls := "com/example/sibyl/sibyl/core/BlockHash", name := "bit", desc := "(I)I" } : Jvm.MethodName) prog_3_method_6_code (2 : Nat) (Option.some Jvm.ClassFile.FieldType.int)).before args0 about1 = true := code_word (m := ⟨3, 1⟩) (meth := k3m1) (c := k3c1) (by decide +kernel) rfl rfl rfl (by decide +kernel)
set_option maxRecDepth 65536 in
theorem w_c5 : (Jvm.Cond.code ({ cls := "com/example/sibyl/sibyl/core/BlockHashBitPinLaw", name := "salt", desc := "(I)J" } : Jvm.MethodName) method_2_code (1 : Nat) (Option.some Jvm.ClassFile.FieldType.long)).before args0 about1 = true := code_word (m := ⟨1, 1⟩) (meth := k1m1) (c := k1c1) (by decide +kernel) rfl rfl rfl (by decide +kernel)
def codes1 : List Jvm.Cond := [Jvm.Cond.code x code maxLocals ret, Jvm.Cond.code ({ cls := "com/example/sibyl/sibyl/core/BlockHash", name := "<init>", desc := "(J)V" } : Jvm.MethodName) prog_3_method_1_code (3 : Nat) (Option.none : Option Jvm.ClassFile.FieldType), Jvm.Cond.code ({ cls := "java/lang/Record", name := "<init>", desc := "()V" } : Jvm.MethodName) jdk_30_method_1_code (1 : Nat) (Option.none : Option Jvm.ClassFile.FieldType), Jvm.Cond.code ({ cls := "java/lang/Object", name := "<init>", desc := "()V" } : Jvm.MethodName) object_method_1_code (1 : Nat) (Option.none : Option Jvm.ClassFile.FieldType), Jvm.Cond.code ({ cls := "com/example/sibyl/sibyl/core/BlockHash", name := "bit", desc := "(I)I" } : Jvm.MethodName) prog_3_method_6_code (2 : Nat) (Option.some Jvm.ClassFile.FieldType.int), Jvm.Cond.code ({ cls := "com/example/sibyl/sibyl/core/BlockHashBitPinLaw", name := "salt", desc := "(I)J" } : Jvm.MethodName) method_2_code (1 : Nat) (Option.some Jvm.ClassFile.FieldType.long)]
set_option maxRecDepth 65536 in
theorem codes_eq : words1.filter isCode = codes1 := rfl
theorem w_codes : ∀ c ∈ words1.filter isCode, c.before args0 about1 = true := by
  rw [codes_eq]
  intro c hc
  simp only [codes1, List.mem_cons, List.not_mem_nil, or_false] at hc
  rcases hc with rfl | rfl | rfl | rfl | rfl | rfl
  · exact w_c0
  · exact w_c1
  · exact w_c2
  · exact w_c3
  · exact w_c4
  · exact w_c5
set_option maxRecDepth 65536 in
theorem w_t1 : (words1.take 24).all (fun c => isCode c || c.before args0 about1) = true := by decide +kernel
set_option maxRecDepth 65536 in
theorem w_t2 : (words1.drop 24).all (fun c => isCode c || c.before args0 about1) = true := by decide +kernel
theorem w_tables : (allAtoms (Jvm.Cond.code x code maxLocals ret :: tables_1)).before args0 about1 = true := by
  rw [allAtoms_all]
  show words1.all (fun c => c.before args0 about1) = true
  refine all_split ?_ w_codes
  rw [← List.take_append_drop 24 words1, List.all_append, w_t1, w_t2]
  rfl
set_option maxRecDepth 65536 in
theorem w_case : (Jvm.Cond.and given_1 narrow_1).before args0 about1 = true := by decide +kernel
theorem w_applies : (headSpec (Jvm.Cond.code x code maxLocals ret :: tables_1) room_1).applies x e0.platform about1 = true :=
  (Spec.applies_iff w_frames).mpr ⟨w_running, w_runnable, w_alone, w_named, w_hears, w_ripe, w_room, w_tables⟩
theorem atStart : AtStart classFile x code maxLocals ret World_1 tables_1 room_1 Calls_1 rest_1 Pre_1 launch0 p0 e0 about1 theMethod args0 below0 :=
  ⟨lists_1, trivial, launch0.admits_env _ _ _, launch0.least_env, fairChoices_fair.cas, fairChoices_fair.clock, w_frames, w_args, w_heap, w_applies, trivial, trivial, w_case⟩
end start1
theorem witness_1 : WitnessClaimed_1 := ⟨start1.p0, start1.e0, start1.about1, start1.theMethod, start1.args0, start1.below0, start1.atStart⟩
end Jvm.Pilot.@@N@@
