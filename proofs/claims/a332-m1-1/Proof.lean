import JvmDerived
import JvmDerived.Pilot.@@N@@Statement
import JvmDerived.Pilot.@@N@@Code
set_option linter.unusedVariables false
set_option linter.unusedSimpArgs false
namespace Jvm.RoadKit
open Sem ClassFile Op Lib Jvm.Stand Jvm.Free Jvm.LawKit
section New
variable {p : Program} {l : Launch} {e : Env} {R : Room} {s : State} {m : MethodId} {args : Array Value} {below : List Frame} {meth : Method} {c : Code} {T : State} {locs : List Loc} {cells slots : Nat}
theorem retI (X : Stand p l e R s m args below meth c T locs cells slots) (hx : p.tables.exec = Jvm.exec) {pc : Nat} {Ls : Array Slot} {z : Int32} {rest : List Value} (hret : meth.sig.returnType = some .int) (hd : decode c.code pc = .ok (.ireturn, 1)) {fs : List Frame}
    (hl : ∀ (f : JFrame) (acts : List Action), f.method = m → f.locked = none → f.entered = [] → (doReturn e (T.setTop f) acts (some (.int z))).1 = T.setFrames fs) : Steps p.tables e below (T.setTop (mkF m pc Ls (.int z :: rest))) (T.setFrames fs) := by
  have hm' : T.vm.method? m = some meth := X.method'
  have hn : narrow .int (.int z) = .int z := rfl
  show Steps p.tables e below (T.setTop { method := m, pc := pc, locals := Ls, stack := _ :: rest, locked := none }) _
  jvm_step X.here [X.here.top, hx, hd, hm', hret, hn]
  first | (intro acts; rw [hl _ acts rfl rfl rfl]) | rw [hl _ _ rfl rfl rfl]
  exact Steps.refl _
end New
/-- the run from S ends, with Post of its end -/
def Go (tb : Tables) (e : Env) (below : List Frame) (Post : Outcome → State → Prop) (S : State) : Prop := ∃ s₂ o, Steps tb e below S s₂ ∧ s₂.status = .running ∧ Ended s₂ below o ∧ Post o s₂
theorem Go.step {tb : Tables} {e : Env} {below : List Frame} {Post : Outcome → State → Prop} {S S' : State} (h : ∀ t, Steps tb e below S' t → Steps tb e below S t) (g : Go tb e below Post S') : Go tb e below Post S := by
  obtain ⟨s₂, o, a, b⟩ := g
  exact ⟨s₂, o, h _ a, b⟩
theorem at_of {c : Cell} {vs : List Value} {d v : Value} {j : Int32} (H : Has c vs d) (hin : ¬ (j < 0 ∨ c.slots.size ≤ j.toNatClampNeg)) (e : vs.getD j.toNatClampNeg d = v) : c.slots[j.toNatClampNeg]? = some v := by
  have q : j.toNatClampNeg < c.slots.size := Nat.lt_of_not_le (fun h => hin (Or.inr h))
  rw [H _ q, e]
end Jvm.RoadKit
namespace Jvm.Pilot.@@N@@
open Jvm Jvm.ClassFile Sem Op Lib Jvm.Free Jvm.Stand Jvm.LawKit Jvm.RoadKit Bundle Jvm.Pilot.@@N@@.Jvm.D
theorem own_eqI {args : Array Value} {s : State} {t : Term} {n : Int32} (h : (Jvm.Cond.eq t (.int n)).value args s none s [] = some true) : t.eval args s none [] s = some (.int n) := by
  simp only [Cond.value, Term.eval] at h
  cases ht : t.eval args s none [] s with
  | none => simp [ht] at h
  | some x => cases x <;> simp [ht] at h ⊢; exact h
theorem own_and3 (x : Int32) : (x &&& (3 : Int32)) = 0 ∨ (x &&& (3 : Int32)) = 1 ∨ (x &&& (3 : Int32)) = 2 ∨ (x &&& (3 : Int32)) = 3 := by
  have h := c_mask x 3 2 (by decide) (by decide)
  have e0 : (0 : Int32).toInt = 0 := by decide
  have e1 : (1 : Int32).toInt = 1 := by decide
  have e2 : (2 : Int32).toInt = 2 := by decide
  have e3 : (3 : Int32).toInt = 3 := by decide
  simp only [← Int32.toInt_inj]
  omega
def own_hv (a s t : Addr) : Int32 := if a = s then 1 else if a = t then 1 else 0
theorem pn_0 : plainName "com/example/patient_courier/patientcourier/store/DeliveryState" = true := by first | (simp [plainName, overriddenIn]; done) | decide +kernel
theorem d1_0 : decode prog_32_method_4_code 0 = .ok (.aload_n 0, 1) := by decide +kernel
theorem d1_1 : decode prog_32_method_4_code 1 = .ok (.getstatic 10, 3) := by decide +kernel
theorem d1_4 : decode prog_32_method_4_code 4 = .ok (.if_acmp .eq 10, 3) := by decide +kernel
theorem d1_7 : decode prog_32_method_4_code 7 = .ok (.aload_n 0, 1) := by decide +kernel
theorem d1_8 : decode prog_32_method_4_code 8 = .ok (.getstatic 13, 3) := by decide +kernel
theorem d1_11 : decode prog_32_method_4_code 11 = .ok (.if_acmp .ne 7, 3) := by decide +kernel
theorem d1_14 : decode prog_32_method_4_code 14 = .ok (.iconst 1, 1) := by decide +kernel
theorem d1_15 : decode prog_32_method_4_code 15 = .ok (.goto 4, 3) := by decide +kernel
theorem d1_18 : decode prog_32_method_4_code 18 = .ok (.iconst 0, 1) := by decide +kernel
theorem d1_19 : decode prog_32_method_4_code 19 = .ok (.ireturn, 1) := by decide +kernel
theorem ef_rm1 (m : MethodId) (a1 : Addr) (s_DELIVERED : Addr) (s_DEAD : Addr) : entryFrame m #[(.ref a1)] 1 = mkF m 0 #[.val (.ref a1)] [] := by first | (simp [entryFrame, mkF, argsToLocals, Value.category]; done) | rfl
def Qrm1 (Z : State) (a1 : Addr) (s_DELIVERED : Addr) (s_DEAD : Addr) (h0 : Heap) (n0 : Nat) (v : Option Value) (h : Heap) (L : List Loc) : Prop := v = some (.int (own_hv a1 s_DELIVERED s_DEAD)) ∧ Fr n0 L ∧ h = h0
set_option maxRecDepth 65536 in
set_option maxHeartbeats 40000000 in
theorem rm1 (l : Launch) (Z : State) (a0 : Array Value) (hw : ∀ d ∈ tables_1, d.before a0 Z = true) (ws : List Jvm.Cond) (a1 : Addr) (s_DELIVERED : Addr) (s_DEAD : Addr) (h0 : Heap) (n0 : Nat) (Z0 : n0 ≤ h0.size) (S_DELIVERED : Sta Z h0 "com/example/patient_courier/patientcourier/store/DeliveryState" "DELIVERED" "Lcom/example/patient_courier/patientcourier/store/DeliveryState;" (.ref s_DELIVERED)) (S_DEAD : Sta Z h0 "com/example/patient_courier/patientcourier/store/DeliveryState" "DEAD" "Lcom/example/patient_courier/patientcourier/store/DeliveryState;" (.ref s_DEAD)) :
    MetFree l (⟨"com/example/patient_courier/patientcourier/store/DeliveryState", "replayable", "()Z"⟩ : MethodName) (head1 (Jvm.Cond.code (⟨"com/example/patient_courier/patientcourier/store/DeliveryState", "replayable", "()Z"⟩ : MethodName) prog_32_method_4_code 1 (some .boolean) :: ws) ({ frames := 0, cells := 0, slots := 0, locals := 0 } : Room)) (fun a U => a = #[(.ref a1)] ∧ Z.Warmed39 U.vm ∧ U.heap = h0) (fun _ _ _ _ _ => True) (fun _ U o U' => ∃ v L, o = .returned v ∧ Qrm1 Z a1 s_DELIVERED s_DEAD h0 n0 v U'.heap L ∧ FrameEnd U o U' L ({ frames := 0, cells := 0, slots := 0, locals := 0 } : Room).cells ({ frames := 0, cells := 0, slots := 0, locals := 0 } : Room).slots) := by
  refine MetFree.of_bodySF (plainFor_of_name pn_0) hisR ?_
  intro p e s m args below meth c s₁ Bd hml0 hP hK
  obtain ⟨rfl, hZ, hh⟩ := hP
  have hx := Bd.exec
  have hby := Bd.bytes
  have hml : c.maxLocals = 1 := hml0
  have hown : s.vm.findClass "com/example/patient_courier/patientcourier/store/DeliveryState" = some m.cls := findClass_of_methodNamed Bd.named
  have hnm := (name_of_methodNamed Bd.named Bd.method).1
  have X0 : Stand p l e ({ frames := 0, cells := 0, slots := 0, locals := 0 } : Room) s m #[(.ref a1)] below meth c s₁ [] 0 0 := Stand.of_body Bd
  have e0 : s₁.heap = h0 := by rw [← hh, Bd.state]; rfl
  have N0 := Fr.nil n0
  show Go p.tables e below (fun o U' => ∃ v L, o = .returned v ∧ Qrm1 Z a1 s_DELIVERED s_DEAD h0 n0 v U'.heap L ∧ FrameEnd s o U' L ({ frames := 0, cells := 0, slots := 0, locals := 0 } : Room).cells ({ frames := 0, cells := 0, slots := 0, locals := 0 } : Room).slots) _
  refine Go.step (fun t k => castTop (ef_rm1 m a1 s_DELIVERED s_DEAD) k) ?_
  show Go p.tables e below _ (s₁.setTop (mkF m 0 #[.val (.ref a1)] []))
  refine Go.step (fun _ k => XS.aloadN X0.here hx rfl (hb hby d1_0) rfl rfl k) ?_
  show Go p.tables e below _ (s₁.setTop (mkF m 1 #[.val (.ref a1)] [(.ref a1)]))
  obtain ⟨T1, X1, e1, st1⟩ := getS2 X0 hx hZ hown (host := "") (Or.inl (hw _ (List.mem_of_getElem? (i := 8) rfl))) Via.refl e0 S_DELIVERED (g := (mkF m 1 #[.val (.ref a1)] [(.ref a1)])) rfl (hb hby d1_1)
  refine Go.step st1 ?_
  show Go p.tables e below _ (T1.setTop (mkF m 4 #[.val (.ref a1)] [(.ref s_DELIVERED), (.ref a1)]))
  by_cases hc4_2 : a1 = s_DELIVERED
  · refine Go.step (fun _ k => Jvm.RoadKit.acmp (g := (mkF m 4 #[.val (.ref a1)] [(.ref s_DELIVERED), (.ref a1)])) X1 hx rfl rfl rfl (pc0 := 4) (pc' := 14) (same := true) rfl (hb hby d1_4) rfl (decide_eq_true (congrArg Value.ref hc4_2)) (by decide) (by decide) k) ?_
    show Go p.tables e below _ (T1.setTop (mkF m 14 #[.val (.ref a1)] []))
    refine Go.step (fun _ k => XS.iconst X1.here hx rfl (hb hby d1_14) k) ?_
    show Go p.tables e below _ (T1.setTop (mkF m 15 #[.val (.ref a1)] [(.int (1 : Int32))]))
    refine Go.step (fun _ k => XS.goto X1.here hx rfl (pc0 := 15) (pc' := 19) rfl (hb hby d1_15) (by decide) (by decide) k) ?_
    show Go p.tables e below _ (T1.setTop (mkF m 19 #[.val (.ref a1)] [(.int (1 : Int32))]))
    obtain ⟨fs, hr, hrun, hended, hW, hsame⟩ := X1.leave (v := some (.int (1 : Int32))) (fun h => by rw [Bd.returns] at h; cases h)
    refine ⟨_, _, retN X1 hx (t := .boolean) Bd.returns (by simp) (hb hby d1_19) hr, hrun, hended, _, _, rfl, ?_, ⟨_, rfl⟩, hW, hsame.mono (by decide) (by decide)⟩
    show Qrm1 Z a1 s_DELIVERED s_DEAD h0 n0 _ T1.heap _
    rw [e1]
    refine ⟨?_, N0, rfl⟩
    have q : own_hv a1 s_DELIVERED s_DEAD = (1 : Int32) := by simp only [own_hv]; simp [hc4_2]
    rw [q]
  · refine Go.step (fun _ k => Jvm.RoadKit.acmp (g := (mkF m 4 #[.val (.ref a1)] [(.ref s_DELIVERED), (.ref a1)])) X1 hx rfl rfl rfl (pc0 := 4) (pc' := 7) (same := false) rfl (hb hby d1_4) rfl (decide_eq_false fun q => hc4_2 (Value.ref.inj q)) (by decide) (by decide) k) ?_
    show Go p.tables e below _ (T1.setTop (mkF m 7 #[.val (.ref a1)] []))
    refine Go.step (fun _ k => XS.aloadN X1.here hx rfl (hb hby d1_7) rfl rfl k) ?_
    show Go p.tables e below _ (T1.setTop (mkF m 8 #[.val (.ref a1)] [(.ref a1)]))
    obtain ⟨T3, X3, e3, st3⟩ := getS2 X1 hx hZ hown (host := "") (Or.inl (hw _ (List.mem_of_getElem? (i := 10) rfl))) Via.refl e1 S_DEAD (g := (mkF m 8 #[.val (.ref a1)] [(.ref a1)])) rfl (hb hby d1_8)
    refine Go.step st3 ?_
    show Go p.tables e below _ (T3.setTop (mkF m 11 #[.val (.ref a1)] [(.ref s_DEAD), (.ref a1)]))
    by_cases hc11_4 : a1 = s_DEAD
    · refine Go.step (fun _ k => Jvm.RoadKit.acmp (g := (mkF m 11 #[.val (.ref a1)] [(.ref s_DEAD), (.ref a1)])) X3 hx rfl rfl rfl (pc0 := 11) (pc' := 14) (same := true) rfl (hb hby d1_11) rfl (decide_eq_true (congrArg Value.ref hc11_4)) (by decide) (by decide) k) ?_
      show Go p.tables e below _ (T3.setTop (mkF m 14 #[.val (.ref a1)] []))
      refine Go.step (fun _ k => XS.iconst X3.here hx rfl (hb hby d1_14) k) ?_
      show Go p.tables e below _ (T3.setTop (mkF m 15 #[.val (.ref a1)] [(.int (1 : Int32))]))
      refine Go.step (fun _ k => XS.goto X3.here hx rfl (pc0 := 15) (pc' := 19) rfl (hb hby d1_15) (by decide) (by decide) k) ?_
      show Go p.tables e below _ (T3.setTop (mkF m 19 #[.val (.ref a1)] [(.int (1 : Int32))]))
      obtain ⟨fs, hr, hrun, hended, hW, hsame⟩ := X3.leave (v := some (.int (1 : Int32))) (fun h => by rw [Bd.returns] at h; cases h)
      refine ⟨_, _, retN X3 hx (t := .boolean) Bd.returns (by simp) (hb hby d1_19) hr, hrun, hended, _, _, rfl, ?_, ⟨_, rfl⟩, hW, hsame.mono (by decide) (by decide)⟩
      show Qrm1 Z a1 s_DELIVERED s_DEAD h0 n0 _ T3.heap _
      rw [e3]
      refine ⟨?_, N0, rfl⟩
      have q : own_hv a1 s_DELIVERED s_DEAD = (1 : Int32) := by simp only [own_hv]; simp [hc4_2, hc11_4]
      rw [q]
    · refine Go.step (fun _ k => Jvm.RoadKit.acmp (g := (mkF m 11 #[.val (.ref a1)] [(.ref s_DEAD), (.ref a1)])) X3 hx rfl rfl rfl (pc0 := 11) (pc' := 18) (same := false) rfl (hb hby d1_11) rfl (decide_eq_false fun q => hc11_4 (Value.ref.inj q)) (by decide) (by decide) k) ?_
      show Go p.tables e below _ (T3.setTop (mkF m 18 #[.val (.ref a1)] []))
      refine Go.step (fun _ k => XS.iconst X3.here hx rfl (hb hby d1_18) k) ?_
      show Go p.tables e below _ (T3.setTop (mkF m 19 #[.val (.ref a1)] [(.int (0 : Int32))]))
      obtain ⟨fs, hr, hrun, hended, hW, hsame⟩ := X3.leave (v := some (.int (0 : Int32))) (fun h => by rw [Bd.returns] at h; cases h)
      refine ⟨_, _, retN X3 hx (t := .boolean) Bd.returns (by simp) (hb hby d1_19) hr, hrun, hended, _, _, rfl, ?_, ⟨_, rfl⟩, hW, hsame.mono (by decide) (by decide)⟩
      show Qrm1 Z a1 s_DELIVERED s_DEAD h0 n0 _ T3.heap _
      rw [e3]
      refine ⟨?_, N0, rfl⟩
      have q : own_hv a1 s_DELIVERED s_DEAD = (0 : Int32) := by simp only [own_hv]; simp [hc4_2, hc11_4]
      rw [q]
theorem pd_0 : parseMethodDescriptor "()Z" = some ⟨[], some .boolean⟩ := by decide +kernel
theorem pn_1 : plainName "com/example/patient_courier/patientcourier/store/DeliveryStateReplayablePinLaw" = true := by first | (simp [plainName, overriddenIn]; done) | decide +kernel
theorem ef_rm0 (m : MethodId) (p1 : Int32) (s_DELIVERED : Addr) (s_DEAD : Addr) (s_PENDING : Addr) (s_RETRYING : Addr) : entryFrame m #[(.int p1)] maxLocals = mkF m 0 #[.val (.int p1), .unset, .unset, .unset] [] := by first | (simp [entryFrame, mkF, argsToLocals, Value.category, maxLocals]; done) | rfl
def Qrm0 (Z : State) (p1 : Int32) (s_DELIVERED : Addr) (s_DEAD : Addr) (s_PENDING : Addr) (s_RETRYING : Addr) (h0 : Heap) (n0 : Nat) (v : Option Value) (h : Heap) (L : List Loc) : Prop := v = some (.int 1) ∧ Fr n0 L
set_option maxRecDepth 65536 in
set_option maxHeartbeats 40000000 in
theorem rm0 (l : Launch) (Z : State) (a0 : Array Value) (hw : ∀ d ∈ tables_1, d.before a0 Z = true) (ws : List Jvm.Cond) (p1 : Int32) (s_DELIVERED : Addr) (s_DEAD : Addr) (s_PENDING : Addr) (s_RETRYING : Addr) (h0 : Heap) (n0 : Nat) (Z0 : n0 ≤ h0.size) (S_DELIVERED : Sta Z h0 "com/example/patient_courier/patientcourier/store/DeliveryState" "DELIVERED" "Lcom/example/patient_courier/patientcourier/store/DeliveryState;" (.ref s_DELIVERED)) (E_DELIVERED : Exa Z h0 s_DELIVERED "com/example/patient_courier/patientcourier/store/DeliveryState") (F_DELIVERED_ordinal : Fld Z h0 s_DELIVERED "java/lang/Enum" "ordinal" "I" (.int (2 : Int32))) (S_DEAD : Sta Z h0 "com/example/patient_courier/patientcourier/store/DeliveryState" "DEAD" "Lcom/example/patient_courier/patientcourier/store/DeliveryState;" (.ref s_DEAD)) (E_DEAD : Exa Z h0 s_DEAD "com/example/patient_courier/patientcourier/store/DeliveryState") (F_DEAD_ordinal : Fld Z h0 s_DEAD "java/lang/Enum" "ordinal" "I" (.int (3 : Int32))) (S_PENDING : Sta Z h0 "com/example/patient_courier/patientcourier/store/DeliveryState" "PENDING" "Lcom/example/patient_courier/patientcourier/store/DeliveryState;" (.ref s_PENDING)) (E_PENDING : Exa Z h0 s_PENDING "com/example/patient_courier/patientcourier/store/DeliveryState") (F_PENDING_ordinal : Fld Z h0 s_PENDING "java/lang/Enum" "ordinal" "I" (.int (0 : Int32))) (S_RETRYING : Sta Z h0 "com/example/patient_courier/patientcourier/store/DeliveryState" "RETRYING" "Lcom/example/patient_courier/patientcourier/store/DeliveryState;" (.ref s_RETRYING)) (E_RETRYING : Exa Z h0 s_RETRYING "com/example/patient_courier/patientcourier/store/DeliveryState") (F_RETRYING_ordinal : Fld Z h0 s_RETRYING "java/lang/Enum" "ordinal" "I" (.int (1 : Int32))) :
    MetFree l x (head1 (Jvm.Cond.code x code maxLocals ret :: ws) room_1) (fun a U => a = #[(.int p1)] ∧ Z.Warmed39 U.vm ∧ U.heap = h0) (fun _ _ _ _ _ => True) (fun _ U o U' => ∃ v L, o = .returned v ∧ Qrm0 Z p1 s_DELIVERED s_DEAD s_PENDING s_RETRYING h0 n0 v U'.heap L ∧ FrameEnd U o U' L room_1.cells room_1.slots) := by
  refine MetFree.of_bodySF (plainFor_of_name pn_1) hisR ?_
  intro p e s m args below meth c s₁ Bd hml0 hP hK
  obtain ⟨rfl, hZ, hh⟩ := hP
  have hx := Bd.exec
  have hby := Bd.bytes
  have hml : c.maxLocals = 4 := hml0
  have hown : s.vm.findClass "com/example/patient_courier/patientcourier/store/DeliveryStateReplayablePinLaw" = some m.cls := findClass_of_methodNamed Bd.named
  have hnm := (name_of_methodNamed Bd.named Bd.method).1
  have X0 : Stand p l e room_1 s m #[(.int p1)] below meth c s₁ [] 0 0 := Stand.of_body Bd
  have e0 : s₁.heap = h0 := by rw [← hh, Bd.state]; rfl
  have N0 := Fr.nil n0
  show Go p.tables e below (fun o U' => ∃ v L, o = .returned v ∧ Qrm0 Z p1 s_DELIVERED s_DEAD s_PENDING s_RETRYING h0 n0 v U'.heap L ∧ FrameEnd s o U' L room_1.cells room_1.slots) _
  refine Go.step (fun t k => castTop (ef_rm0 m p1 s_DELIVERED s_DEAD s_PENDING s_RETRYING) k) ?_
  show Go p.tables e below _ (s₁.setTop (mkF m 0 #[.val (.int p1), .unset, .unset, .unset] []))
  have ne_1_0 : s_DEAD ≠ s_DELIVERED := F_DEAD_ordinal.ne F_DELIVERED_ordinal (by decide)
  have ne_2_0 : s_PENDING ≠ s_DELIVERED := F_PENDING_ordinal.ne F_DELIVERED_ordinal (by decide)
  have ne_2_1 : s_PENDING ≠ s_DEAD := F_PENDING_ordinal.ne F_DEAD_ordinal (by decide)
  have ne_3_0 : s_RETRYING ≠ s_DELIVERED := F_RETRYING_ordinal.ne F_DELIVERED_ordinal (by decide)
  have ne_3_1 : s_RETRYING ≠ s_DEAD := F_RETRYING_ordinal.ne F_DEAD_ordinal (by decide)
  have ne_3_2 : s_RETRYING ≠ s_PENDING := F_RETRYING_ordinal.ne F_PENDING_ordinal (by decide)
  refine Go.step (fun _ k => XS.iloadN X0.here hx rfl (hb hby at_0) rfl k) ?_
  show Go p.tables e below _ (s₁.setTop (mkF m 1 #[.val (.int p1), .unset, .unset, .unset] [(.int p1)]))
  refine Go.step (fun _ k => XS.iconst X0.here hx rfl (hb hby at_1) k) ?_
  show Go p.tables e below _ (s₁.setTop (mkF m 2 #[.val (.int p1), .unset, .unset, .unset] [(.int (3 : Int32)), (.int p1)]))
  refine Go.step (fun _ k => XS.iand X0.here hx rfl (hb hby at_2) rfl k) ?_
  show Go p.tables e below _ (s₁.setTop (mkF m 3 #[.val (.int p1), .unset, .unset, .unset] [(.int (p1 &&& (3 : Int32)))]))
  refine Go.step (fun _ k => XS.istoreN X0.here hx rfl (hb hby at_3) rfl (l' := #[.val (.int p1), .val (.int (p1 &&& (3 : Int32))), .unset, .unset]) rfl k) ?_
  show Go p.tables e below _ (s₁.setTop (mkF m 4 #[.val (.int p1), .val (.int (p1 &&& (3 : Int32))), .unset, .unset] []))
  rcases own_and3 p1 with hk | hk | hk | hk
  · rw [hk]
    show Go p.tables e below _ (s₁.setTop (mkF m 4 #[.val (.int p1), .val (.int (0 : Int32)), .unset, .unset] []))
    refine Go.step (fun _ k => XS.iloadN X0.here hx rfl (hb hby at_4) rfl k) ?_
    show Go p.tables e below _ (s₁.setTop (mkF m 5 #[.val (.int p1), .val (.int (0 : Int32)), .unset, .unset] [(.int (0 : Int32))]))
    refine Go.step (fun _ k => XS.ifNo X0.here hx rfl (hb hby at_5) rfl ((if0 _ _).trans (teq (by decide : (0 : Int32) = (0 : Int32))).2) k) ?_
    show Go p.tables e below _ (s₁.setTop (mkF m 8 #[.val (.int p1), .val (.int (0 : Int32)), .unset, .unset] []))
    obtain ⟨T1, X1, e1, st1⟩ := getS2 X0 hx hZ hown (host := "") (Or.inl (hw _ (List.mem_of_getElem? (i := 0) rfl))) Via.refl e0 S_PENDING (g := (mkF m 8 #[.val (.int p1), .val (.int (0 : Int32)), .unset, .unset] [])) rfl (hb hby at_8)
    refine Go.step st1 ?_
    show Go p.tables e below _ (T1.setTop (mkF m 11 #[.val (.int p1), .val (.int (0 : Int32)), .unset, .unset] [(.ref s_PENDING)]))
    refine Go.step (fun _ k => XS.astoreN X1.here hx rfl (hb hby at_11) rfl rfl (l' := #[.val (.int p1), .val (.int (0 : Int32)), .val (.ref s_PENDING), .unset]) rfl k) ?_
    show Go p.tables e below _ (T1.setTop (mkF m 12 #[.val (.int p1), .val (.int (0 : Int32)), .val (.ref s_PENDING), .unset] []))
    refine Go.step (fun _ k => XS.iconst X1.here hx rfl (hb hby at_12) k) ?_
    show Go p.tables e below _ (T1.setTop (mkF m 13 #[.val (.int p1), .val (.int (0 : Int32)), .val (.ref s_PENDING), .unset] [(.int (0 : Int32))]))
    refine Go.step (fun _ k => XS.istoreN X1.here hx rfl (hb hby at_13) rfl (l' := #[.val (.int p1), .val (.int (0 : Int32)), .val (.ref s_PENDING), .val (.int (0 : Int32))]) rfl k) ?_
    show Go p.tables e below _ (T1.setTop (mkF m 14 #[.val (.int p1), .val (.int (0 : Int32)), .val (.ref s_PENDING), .val (.int (0 : Int32))] []))
    refine Go.step (fun _ k => XS.goto X1.here hx rfl (pc0 := 14) (pc' := 51) rfl (hb hby at_14) (by decide) (by decide) k) ?_
    show Go p.tables e below _ (T1.setTop (mkF m 51 #[.val (.int p1), .val (.int (0 : Int32)), .val (.ref s_PENDING), .val (.int (0 : Int32))] []))
    refine Go.step (fun _ k => XS.aloadN X1.here hx rfl (hb hby at_51) rfl rfl k) ?_
    show Go p.tables e below _ (T1.setTop (mkF m 52 #[.val (.int p1), .val (.int (0 : Int32)), .val (.ref s_PENDING), .val (.int (0 : Int32))] [(.ref s_PENDING)]))
    obtain ⟨cq2, kq2, q2a, q2b, q2c⟩ := isOf hZ e1 E_PENDING
    obtain ⟨_, _, ⟨T2, L2, k2, n2⟩, -, X2, ⟨Lc2, hQ2, l2, y2, z2⟩, st2⟩ := X1.virtualBack hx (y := (⟨"com/example/patient_courier/patientcourier/store/DeliveryState", "replayable", "()Z"⟩ : MethodName)) (z := (⟨"com/example/patient_courier/patientcourier/store/DeliveryState", "replayable", "()Z"⟩ : MethodName)) hown (mvT hZ (hw _ (List.mem_of_getElem? (i := 3) rfl))) (mvT hZ (hw _ (List.mem_of_getElem? (i := 4) rfl))) (notFace_of_selects (args := #[]) (mvT hZ (hw _ (List.mem_of_getElem? (i := 6) rfl)))) (mvT hZ (hw _ (List.mem_of_getElem? (i := 6) rfl))) (mvT hZ (hw _ (List.mem_of_getElem? (i := 5) rfl))) (by decide) (backOf (W := 0) (rm1 l Z a0 hw [] s_PENDING s_DELIVERED s_DEAD h0 n0 Z0 S_DELIVERED S_DEAD ) hZ (hw _ (List.mem_of_getElem? (i := 7) rfl)) (hw _ (List.mem_of_getElem? (i := 1) rfl)) (by decide) (by decide)) q2a q2c (g := (mkF m 52 #[.val (.int p1), .val (.int (0 : Int32)), .val (.ref s_PENDING), .val (.int (0 : Int32))] [(.ref s_PENDING)])) rfl (by rw [hml]; rfl) (Steps.refl _) (argsL := []) (rest := []) (lenOf pd_0 rfl) rfl (by show 2 * 0 + _ ≤ _; exact Nat.le_of_eq rfl) (hb hby at_52) (fun _ _ => ⟨rfl, e1, (by decide : 0 + 0 ≤ _), (by decide : 0 + 0 ≤ _)⟩)
    dsimp only [Pt.U, Pt.locs, Pt.cells, Pt.slots] at X2 l2 y2 z2 st2 hQ2
    subst l2 y2 z2
    obtain ⟨rfl, N2q, eh2⟩ := hQ2
    have N2 := Fr.app N0 N2q
    refine Go.step (fun _ k => st2.trans k) ?_
    show Go p.tables e below _ (T2.setTop (mkF m 55 #[.val (.int p1), .val (.int (0 : Int32)), .val (.ref s_PENDING), .val (.int (0 : Int32))] [(.int (own_hv s_PENDING s_DELIVERED s_DEAD))]))
    have q3 : (own_hv s_PENDING s_DELIVERED s_DEAD) = (0 : Int32) := by simp [own_hv, ne_2_0, ne_2_1]
    rw [q3]
    show Go p.tables e below _ (T2.setTop (mkF m 55 #[.val (.int p1), .val (.int (0 : Int32)), .val (.ref s_PENDING), .val (.int (0 : Int32))] [(.int (0 : Int32))]))
    refine Go.step (fun _ k => XS.iloadN X2.here hx rfl (hb hby at_55) rfl k) ?_
    show Go p.tables e below _ (T2.setTop (mkF m 56 #[.val (.int p1), .val (.int (0 : Int32)), .val (.ref s_PENDING), .val (.int (0 : Int32))] [(.int (0 : Int32)), (.int (0 : Int32))]))
    refine Go.step (fun _ k => XS.icmpNo X2.here hx rfl (hb hby at_56) rfl (teq (by decide : (0 : Int32) = (0 : Int32))).2 k) ?_
    show Go p.tables e below _ (T2.setTop (mkF m 59 #[.val (.int p1), .val (.int (0 : Int32)), .val (.ref s_PENDING), .val (.int (0 : Int32))] []))
    refine Go.step (fun _ k => XS.iconst X2.here hx rfl (hb hby at_59) k) ?_
    show Go p.tables e below _ (T2.setTop (mkF m 60 #[.val (.int p1), .val (.int (0 : Int32)), .val (.ref s_PENDING), .val (.int (0 : Int32))] [(.int (1 : Int32))]))
    refine Go.step (fun _ k => XS.goto X2.here hx rfl (pc0 := 60) (pc' := 64) rfl (hb hby at_60) (by decide) (by decide) k) ?_
    show Go p.tables e below _ (T2.setTop (mkF m 64 #[.val (.int p1), .val (.int (0 : Int32)), .val (.ref s_PENDING), .val (.int (0 : Int32))] [(.int (1 : Int32))]))
    obtain ⟨fs, hr, hrun, hended, hW, hsame⟩ := X2.leave (v := some (.int (1 : Int32))) (fun h => by rw [Bd.returns] at h; cases h)
    refine ⟨_, _, retN X2 hx (t := .boolean) Bd.returns (by simp) (hb hby at_64) hr, hrun, hended, _, _, rfl, ?_, ⟨_, rfl⟩, hW, hsame.mono (by decide) (by decide)⟩
    show Qrm0 Z p1 s_DELIVERED s_DEAD s_PENDING s_RETRYING h0 n0 _ T2.heap _
    rw [eh2]
    exact ⟨rfl, N2⟩
  · rw [hk]
    show Go p.tables e below _ (s₁.setTop (mkF m 4 #[.val (.int p1), .val (.int (1 : Int32)), .unset, .unset] []))
    refine Go.step (fun _ k => XS.iloadN X0.here hx rfl (hb hby at_4) rfl k) ?_
    show Go p.tables e below _ (s₁.setTop (mkF m 5 #[.val (.int p1), .val (.int (1 : Int32)), .unset, .unset] [(.int (1 : Int32))]))
    refine Go.step (fun _ k => XS.ifYes X0.here hx rfl (pc0 := 5) (pc' := 17) rfl (hb hby at_5) rfl ((if0 _ _).trans (feq (by decide : ¬ ((1 : Int32) = (0 : Int32)))).2) (by decide) (by decide) k) ?_
    show Go p.tables e below _ (s₁.setTop (mkF m 17 #[.val (.int p1), .val (.int (1 : Int32)), .unset, .unset] []))
    refine Go.step (fun _ k => XS.iloadN X0.here hx rfl (hb hby at_17) rfl k) ?_
    show Go p.tables e below _ (s₁.setTop (mkF m 18 #[.val (.int p1), .val (.int (1 : Int32)), .unset, .unset] [(.int (1 : Int32))]))
    refine Go.step (fun _ k => XS.iconst X0.here hx rfl (hb hby at_18) k) ?_
    show Go p.tables e below _ (s₁.setTop (mkF m 19 #[.val (.int p1), .val (.int (1 : Int32)), .unset, .unset] [(.int (1 : Int32)), (.int (1 : Int32))]))
    refine Go.step (fun _ k => XS.icmpNo X0.here hx rfl (hb hby at_19) rfl (teq (by decide : (1 : Int32) = (1 : Int32))).2 k) ?_
    show Go p.tables e below _ (s₁.setTop (mkF m 22 #[.val (.int p1), .val (.int (1 : Int32)), .unset, .unset] []))
    obtain ⟨T4, X4, e4, st4⟩ := getS2 X0 hx hZ hown (host := "") (Or.inl (hw _ (List.mem_of_getElem? (i := 14) rfl))) Via.refl e0 S_RETRYING (g := (mkF m 22 #[.val (.int p1), .val (.int (1 : Int32)), .unset, .unset] [])) rfl (hb hby at_22)
    refine Go.step st4 ?_
    show Go p.tables e below _ (T4.setTop (mkF m 25 #[.val (.int p1), .val (.int (1 : Int32)), .unset, .unset] [(.ref s_RETRYING)]))
    refine Go.step (fun _ k => XS.astoreN X4.here hx rfl (hb hby at_25) rfl rfl (l' := #[.val (.int p1), .val (.int (1 : Int32)), .val (.ref s_RETRYING), .unset]) rfl k) ?_
    show Go p.tables e below _ (T4.setTop (mkF m 26 #[.val (.int p1), .val (.int (1 : Int32)), .val (.ref s_RETRYING), .unset] []))
    refine Go.step (fun _ k => XS.iconst X4.here hx rfl (hb hby at_26) k) ?_
    show Go p.tables e below _ (T4.setTop (mkF m 27 #[.val (.int p1), .val (.int (1 : Int32)), .val (.ref s_RETRYING), .unset] [(.int (0 : Int32))]))
    refine Go.step (fun _ k => XS.istoreN X4.here hx rfl (hb hby at_27) rfl (l' := #[.val (.int p1), .val (.int (1 : Int32)), .val (.ref s_RETRYING), .val (.int (0 : Int32))]) rfl k) ?_
    show Go p.tables e below _ (T4.setTop (mkF m 28 #[.val (.int p1), .val (.int (1 : Int32)), .val (.ref s_RETRYING), .val (.int (0 : Int32))] []))
    refine Go.step (fun _ k => XS.goto X4.here hx rfl (pc0 := 28) (pc' := 51) rfl (hb hby at_28) (by decide) (by decide) k) ?_
    show Go p.tables e below _ (T4.setTop (mkF m 51 #[.val (.int p1), .val (.int (1 : Int32)), .val (.ref s_RETRYING), .val (.int (0 : Int32))] []))
    refine Go.step (fun _ k => XS.aloadN X4.here hx rfl (hb hby at_51) rfl rfl k) ?_
    show Go p.tables e below _ (T4.setTop (mkF m 52 #[.val (.int p1), .val (.int (1 : Int32)), .val (.ref s_RETRYING), .val (.int (0 : Int32))] [(.ref s_RETRYING)]))
    obtain ⟨cq5, kq5, q5a, q5b, q5c⟩ := isOf hZ e4 E_RETRYING
    obtain ⟨_, _, ⟨T5, L5, k5, n5⟩, -, X5, ⟨Lc5, hQ5, l5, y5, z5⟩, st5⟩ := X4.virtualBack hx (y := (⟨"com/example/patient_courier/patientcourier/store/DeliveryState", "replayable", "()Z"⟩ : MethodName)) (z := (⟨"com/example/patient_courier/patientcourier/store/DeliveryState", "replayable", "()Z"⟩ : MethodName)) hown (mvT hZ (hw _ (List.mem_of_getElem? (i := 3) rfl))) (mvT hZ (hw _ (List.mem_of_getElem? (i := 4) rfl))) (notFace_of_selects (args := #[]) (mvT hZ (hw _ (List.mem_of_getElem? (i := 6) rfl)))) (mvT hZ (hw _ (List.mem_of_getElem? (i := 6) rfl))) (mvT hZ (hw _ (List.mem_of_getElem? (i := 5) rfl))) (by decide) (backOf (W := 0) (rm1 l Z a0 hw [] s_RETRYING s_DELIVERED s_DEAD h0 n0 Z0 S_DELIVERED S_DEAD ) hZ (hw _ (List.mem_of_getElem? (i := 7) rfl)) (hw _ (List.mem_of_getElem? (i := 1) rfl)) (by decide) (by decide)) q5a q5c (g := (mkF m 52 #[.val (.int p1), .val (.int (1 : Int32)), .val (.ref s_RETRYING), .val (.int (0 : Int32))] [(.ref s_RETRYING)])) rfl (by rw [hml]; rfl) (Steps.refl _) (argsL := []) (rest := []) (lenOf pd_0 rfl) rfl (by show 2 * 0 + _ ≤ _; exact Nat.le_of_eq rfl) (hb hby at_52) (fun _ _ => ⟨rfl, e4, (by decide : 0 + 0 ≤ _), (by decide : 0 + 0 ≤ _)⟩)
    dsimp only [Pt.U, Pt.locs, Pt.cells, Pt.slots] at X5 l5 y5 z5 st5 hQ5
    subst l5 y5 z5
    obtain ⟨rfl, N5q, eh5⟩ := hQ5
    have N5 := Fr.app N0 N5q
    refine Go.step (fun _ k => st5.trans k) ?_
    show Go p.tables e below _ (T5.setTop (mkF m 55 #[.val (.int p1), .val (.int (1 : Int32)), .val (.ref s_RETRYING), .val (.int (0 : Int32))] [(.int (own_hv s_RETRYING s_DELIVERED s_DEAD))]))
    have q6 : (own_hv s_RETRYING s_DELIVERED s_DEAD) = (0 : Int32) := by simp [own_hv, ne_3_0, ne_3_1]
    rw [q6]
    show Go p.tables e below _ (T5.setTop (mkF m 55 #[.val (.int p1), .val (.int (1 : Int32)), .val (.ref s_RETRYING), .val (.int (0 : Int32))] [(.int (0 : Int32))]))
    refine Go.step (fun _ k => XS.iloadN X5.here hx rfl (hb hby at_55) rfl k) ?_
    show Go p.tables e below _ (T5.setTop (mkF m 56 #[.val (.int p1), .val (.int (1 : Int32)), .val (.ref s_RETRYING), .val (.int (0 : Int32))] [(.int (0 : Int32)), (.int (0 : Int32))]))
    refine Go.step (fun _ k => XS.icmpNo X5.here hx rfl (hb hby at_56) rfl (teq (by decide : (0 : Int32) = (0 : Int32))).2 k) ?_
    show Go p.tables e below _ (T5.setTop (mkF m 59 #[.val (.int p1), .val (.int (1 : Int32)), .val (.ref s_RETRYING), .val (.int (0 : Int32))] []))
    refine Go.step (fun _ k => XS.iconst X5.here hx rfl (hb hby at_59) k) ?_
    show Go p.tables e below _ (T5.setTop (mkF m 60 #[.val (.int p1), .val (.int (1 : Int32)), .val (.ref s_RETRYING), .val (.int (0 : Int32))] [(.int (1 : Int32))]))
    refine Go.step (fun _ k => XS.goto X5.here hx rfl (pc0 := 60) (pc' := 64) rfl (hb hby at_60) (by decide) (by decide) k) ?_
    show Go p.tables e below _ (T5.setTop (mkF m 64 #[.val (.int p1), .val (.int (1 : Int32)), .val (.ref s_RETRYING), .val (.int (0 : Int32))] [(.int (1 : Int32))]))
    obtain ⟨fs, hr, hrun, hended, hW, hsame⟩ := X5.leave (v := some (.int (1 : Int32))) (fun h => by rw [Bd.returns] at h; cases h)
    refine ⟨_, _, retN X5 hx (t := .boolean) Bd.returns (by simp) (hb hby at_64) hr, hrun, hended, _, _, rfl, ?_, ⟨_, rfl⟩, hW, hsame.mono (by decide) (by decide)⟩
    show Qrm0 Z p1 s_DELIVERED s_DEAD s_PENDING s_RETRYING h0 n0 _ T5.heap _
    rw [eh5]
    exact ⟨rfl, N5⟩
  · rw [hk]
    show Go p.tables e below _ (s₁.setTop (mkF m 4 #[.val (.int p1), .val (.int (2 : Int32)), .unset, .unset] []))
    refine Go.step (fun _ k => XS.iloadN X0.here hx rfl (hb hby at_4) rfl k) ?_
    show Go p.tables e below _ (s₁.setTop (mkF m 5 #[.val (.int p1), .val (.int (2 : Int32)), .unset, .unset] [(.int (2 : Int32))]))
    refine Go.step (fun _ k => XS.ifYes X0.here hx rfl (pc0 := 5) (pc' := 17) rfl (hb hby at_5) rfl ((if0 _ _).trans (feq (by decide : ¬ ((2 : Int32) = (0 : Int32)))).2) (by decide) (by decide) k) ?_
    show Go p.tables e below _ (s₁.setTop (mkF m 17 #[.val (.int p1), .val (.int (2 : Int32)), .unset, .unset] []))
    refine Go.step (fun _ k => XS.iloadN X0.here hx rfl (hb hby at_17) rfl k) ?_
    show Go p.tables e below _ (s₁.setTop (mkF m 18 #[.val (.int p1), .val (.int (2 : Int32)), .unset, .unset] [(.int (2 : Int32))]))
    refine Go.step (fun _ k => XS.iconst X0.here hx rfl (hb hby at_18) k) ?_
    show Go p.tables e below _ (s₁.setTop (mkF m 19 #[.val (.int p1), .val (.int (2 : Int32)), .unset, .unset] [(.int (1 : Int32)), (.int (2 : Int32))]))
    refine Go.step (fun _ k => XS.icmpYes X0.here hx rfl (pc0 := 19) (pc' := 31) rfl (hb hby at_19) rfl (feq (by decide : ¬ ((2 : Int32) = (1 : Int32)))).2 (by decide) (by decide) k) ?_
    show Go p.tables e below _ (s₁.setTop (mkF m 31 #[.val (.int p1), .val (.int (2 : Int32)), .unset, .unset] []))
    refine Go.step (fun _ k => XS.iloadN X0.here hx rfl (hb hby at_31) rfl k) ?_
    show Go p.tables e below _ (s₁.setTop (mkF m 32 #[.val (.int p1), .val (.int (2 : Int32)), .unset, .unset] [(.int (2 : Int32))]))
    refine Go.step (fun _ k => XS.iconst X0.here hx rfl (hb hby at_32) k) ?_
    show Go p.tables e below _ (s₁.setTop (mkF m 33 #[.val (.int p1), .val (.int (2 : Int32)), .unset, .unset] [(.int (2 : Int32)), (.int (2 : Int32))]))
    refine Go.step (fun _ k => XS.icmpNo X0.here hx rfl (hb hby at_33) rfl (teq (by decide : (2 : Int32) = (2 : Int32))).2 k) ?_
    show Go p.tables e below _ (s₁.setTop (mkF m 36 #[.val (.int p1), .val (.int (2 : Int32)), .unset, .unset] []))
    obtain ⟨T7, X7, e7, st7⟩ := getS2 X0 hx hZ hown (host := "") (Or.inl (hw _ (List.mem_of_getElem? (i := 13) rfl))) Via.refl e0 S_DELIVERED (g := (mkF m 36 #[.val (.int p1), .val (.int (2 : Int32)), .unset, .unset] [])) rfl (hb hby at_36)
    refine Go.step st7 ?_
    show Go p.tables e below _ (T7.setTop (mkF m 39 #[.val (.int p1), .val (.int (2 : Int32)), .unset, .unset] [(.ref s_DELIVERED)]))
    refine Go.step (fun _ k => XS.astoreN X7.here hx rfl (hb hby at_39) rfl rfl (l' := #[.val (.int p1), .val (.int (2 : Int32)), .val (.ref s_DELIVERED), .unset]) rfl k) ?_
    show Go p.tables e below _ (T7.setTop (mkF m 40 #[.val (.int p1), .val (.int (2 : Int32)), .val (.ref s_DELIVERED), .unset] []))
    refine Go.step (fun _ k => XS.iconst X7.here hx rfl (hb hby at_40) k) ?_
    show Go p.tables e below _ (T7.setTop (mkF m 41 #[.val (.int p1), .val (.int (2 : Int32)), .val (.ref s_DELIVERED), .unset] [(.int (1 : Int32))]))
    refine Go.step (fun _ k => XS.istoreN X7.here hx rfl (hb hby at_41) rfl (l' := #[.val (.int p1), .val (.int (2 : Int32)), .val (.ref s_DELIVERED), .val (.int (1 : Int32))]) rfl k) ?_
    show Go p.tables e below _ (T7.setTop (mkF m 42 #[.val (.int p1), .val (.int (2 : Int32)), .val (.ref s_DELIVERED), .val (.int (1 : Int32))] []))
    refine Go.step (fun _ k => XS.goto X7.here hx rfl (pc0 := 42) (pc' := 51) rfl (hb hby at_42) (by decide) (by decide) k) ?_
    show Go p.tables e below _ (T7.setTop (mkF m 51 #[.val (.int p1), .val (.int (2 : Int32)), .val (.ref s_DELIVERED), .val (.int (1 : Int32))] []))
    refine Go.step (fun _ k => XS.aloadN X7.here hx rfl (hb hby at_51) rfl rfl k) ?_
    show Go p.tables e below _ (T7.setTop (mkF m 52 #[.val (.int p1), .val (.int (2 : Int32)), .val (.ref s_DELIVERED), .val (.int (1 : Int32))] [(.ref s_DELIVERED)]))
    obtain ⟨cq8, kq8, q8a, q8b, q8c⟩ := isOf hZ e7 E_DELIVERED
    obtain ⟨_, _, ⟨T8, L8, k8, n8⟩, -, X8, ⟨Lc8, hQ8, l8, y8, z8⟩, st8⟩ := X7.virtualBack hx (y := (⟨"com/example/patient_courier/patientcourier/store/DeliveryState", "replayable", "()Z"⟩ : MethodName)) (z := (⟨"com/example/patient_courier/patientcourier/store/DeliveryState", "replayable", "()Z"⟩ : MethodName)) hown (mvT hZ (hw _ (List.mem_of_getElem? (i := 3) rfl))) (mvT hZ (hw _ (List.mem_of_getElem? (i := 4) rfl))) (notFace_of_selects (args := #[]) (mvT hZ (hw _ (List.mem_of_getElem? (i := 6) rfl)))) (mvT hZ (hw _ (List.mem_of_getElem? (i := 6) rfl))) (mvT hZ (hw _ (List.mem_of_getElem? (i := 5) rfl))) (by decide) (backOf (W := 0) (rm1 l Z a0 hw [] s_DELIVERED s_DELIVERED s_DEAD h0 n0 Z0 S_DELIVERED S_DEAD ) hZ (hw _ (List.mem_of_getElem? (i := 7) rfl)) (hw _ (List.mem_of_getElem? (i := 1) rfl)) (by decide) (by decide)) q8a q8c (g := (mkF m 52 #[.val (.int p1), .val (.int (2 : Int32)), .val (.ref s_DELIVERED), .val (.int (1 : Int32))] [(.ref s_DELIVERED)])) rfl (by rw [hml]; rfl) (Steps.refl _) (argsL := []) (rest := []) (lenOf pd_0 rfl) rfl (by show 2 * 0 + _ ≤ _; exact Nat.le_of_eq rfl) (hb hby at_52) (fun _ _ => ⟨rfl, e7, (by decide : 0 + 0 ≤ _), (by decide : 0 + 0 ≤ _)⟩)
    dsimp only [Pt.U, Pt.locs, Pt.cells, Pt.slots] at X8 l8 y8 z8 st8 hQ8
    subst l8 y8 z8
    obtain ⟨rfl, N8q, eh8⟩ := hQ8
    have N8 := Fr.app N0 N8q
    refine Go.step (fun _ k => st8.trans k) ?_
    show Go p.tables e below _ (T8.setTop (mkF m 55 #[.val (.int p1), .val (.int (2 : Int32)), .val (.ref s_DELIVERED), .val (.int (1 : Int32))] [(.int (own_hv s_DELIVERED s_DELIVERED s_DEAD))]))
    have q9 : (own_hv s_DELIVERED s_DELIVERED s_DEAD) = (1 : Int32) := by simp [own_hv]
    rw [q9]
    show Go p.tables e below _ (T8.setTop (mkF m 55 #[.val (.int p1), .val (.int (2 : Int32)), .val (.ref s_DELIVERED), .val (.int (1 : Int32))] [(.int (1 : Int32))]))
    refine Go.step (fun _ k => XS.iloadN X8.here hx rfl (hb hby at_55) rfl k) ?_
    show Go p.tables e below _ (T8.setTop (mkF m 56 #[.val (.int p1), .val (.int (2 : Int32)), .val (.ref s_DELIVERED), .val (.int (1 : Int32))] [(.int (1 : Int32)), (.int (1 : Int32))]))
    refine Go.step (fun _ k => XS.icmpNo X8.here hx rfl (hb hby at_56) rfl (teq (by decide : (1 : Int32) = (1 : Int32))).2 k) ?_
    show Go p.tables e below _ (T8.setTop (mkF m 59 #[.val (.int p1), .val (.int (2 : Int32)), .val (.ref s_DELIVERED), .val (.int (1 : Int32))] []))
    refine Go.step (fun _ k => XS.iconst X8.here hx rfl (hb hby at_59) k) ?_
    show Go p.tables e below _ (T8.setTop (mkF m 60 #[.val (.int p1), .val (.int (2 : Int32)), .val (.ref s_DELIVERED), .val (.int (1 : Int32))] [(.int (1 : Int32))]))
    refine Go.step (fun _ k => XS.goto X8.here hx rfl (pc0 := 60) (pc' := 64) rfl (hb hby at_60) (by decide) (by decide) k) ?_
    show Go p.tables e below _ (T8.setTop (mkF m 64 #[.val (.int p1), .val (.int (2 : Int32)), .val (.ref s_DELIVERED), .val (.int (1 : Int32))] [(.int (1 : Int32))]))
    obtain ⟨fs, hr, hrun, hended, hW, hsame⟩ := X8.leave (v := some (.int (1 : Int32))) (fun h => by rw [Bd.returns] at h; cases h)
    refine ⟨_, _, retN X8 hx (t := .boolean) Bd.returns (by simp) (hb hby at_64) hr, hrun, hended, _, _, rfl, ?_, ⟨_, rfl⟩, hW, hsame.mono (by decide) (by decide)⟩
    show Qrm0 Z p1 s_DELIVERED s_DEAD s_PENDING s_RETRYING h0 n0 _ T8.heap _
    rw [eh8]
    exact ⟨rfl, N8⟩
  · rw [hk]
    show Go p.tables e below _ (s₁.setTop (mkF m 4 #[.val (.int p1), .val (.int (3 : Int32)), .unset, .unset] []))
    refine Go.step (fun _ k => XS.iloadN X0.here hx rfl (hb hby at_4) rfl k) ?_
    show Go p.tables e below _ (s₁.setTop (mkF m 5 #[.val (.int p1), .val (.int (3 : Int32)), .unset, .unset] [(.int (3 : Int32))]))
    refine Go.step (fun _ k => XS.ifYes X0.here hx rfl (pc0 := 5) (pc' := 17) rfl (hb hby at_5) rfl ((if0 _ _).trans (feq (by decide : ¬ ((3 : Int32) = (0 : Int32)))).2) (by decide) (by decide) k) ?_
    show Go p.tables e below _ (s₁.setTop (mkF m 17 #[.val (.int p1), .val (.int (3 : Int32)), .unset, .unset] []))
    refine Go.step (fun _ k => XS.iloadN X0.here hx rfl (hb hby at_17) rfl k) ?_
    show Go p.tables e below _ (s₁.setTop (mkF m 18 #[.val (.int p1), .val (.int (3 : Int32)), .unset, .unset] [(.int (3 : Int32))]))
    refine Go.step (fun _ k => XS.iconst X0.here hx rfl (hb hby at_18) k) ?_
    show Go p.tables e below _ (s₁.setTop (mkF m 19 #[.val (.int p1), .val (.int (3 : Int32)), .unset, .unset] [(.int (1 : Int32)), (.int (3 : Int32))]))
    refine Go.step (fun _ k => XS.icmpYes X0.here hx rfl (pc0 := 19) (pc' := 31) rfl (hb hby at_19) rfl (feq (by decide : ¬ ((3 : Int32) = (1 : Int32)))).2 (by decide) (by decide) k) ?_
    show Go p.tables e below _ (s₁.setTop (mkF m 31 #[.val (.int p1), .val (.int (3 : Int32)), .unset, .unset] []))
    refine Go.step (fun _ k => XS.iloadN X0.here hx rfl (hb hby at_31) rfl k) ?_
    show Go p.tables e below _ (s₁.setTop (mkF m 32 #[.val (.int p1), .val (.int (3 : Int32)), .unset, .unset] [(.int (3 : Int32))]))
    refine Go.step (fun _ k => XS.iconst X0.here hx rfl (hb hby at_32) k) ?_
    show Go p.tables e below _ (s₁.setTop (mkF m 33 #[.val (.int p1), .val (.int (3 : Int32)), .unset, .unset] [(.int (2 : Int32)), (.int (3 : Int32))]))
    refine Go.step (fun _ k => XS.icmpYes X0.here hx rfl (pc0 := 33) (pc' := 45) rfl (hb hby at_33) rfl (feq (by decide : ¬ ((3 : Int32) = (2 : Int32)))).2 (by decide) (by decide) k) ?_
    show Go p.tables e below _ (s₁.setTop (mkF m 45 #[.val (.int p1), .val (.int (3 : Int32)), .unset, .unset] []))
    obtain ⟨T10, X10, e10, st10⟩ := getS2 X0 hx hZ hown (host := "") (Or.inl (hw _ (List.mem_of_getElem? (i := 12) rfl))) Via.refl e0 S_DEAD (g := (mkF m 45 #[.val (.int p1), .val (.int (3 : Int32)), .unset, .unset] [])) rfl (hb hby at_45)
    refine Go.step st10 ?_
    show Go p.tables e below _ (T10.setTop (mkF m 48 #[.val (.int p1), .val (.int (3 : Int32)), .unset, .unset] [(.ref s_DEAD)]))
    refine Go.step (fun _ k => XS.astoreN X10.here hx rfl (hb hby at_48) rfl rfl (l' := #[.val (.int p1), .val (.int (3 : Int32)), .val (.ref s_DEAD), .unset]) rfl k) ?_
    show Go p.tables e below _ (T10.setTop (mkF m 49 #[.val (.int p1), .val (.int (3 : Int32)), .val (.ref s_DEAD), .unset] []))
    refine Go.step (fun _ k => XS.iconst X10.here hx rfl (hb hby at_49) k) ?_
    show Go p.tables e below _ (T10.setTop (mkF m 50 #[.val (.int p1), .val (.int (3 : Int32)), .val (.ref s_DEAD), .unset] [(.int (1 : Int32))]))
    refine Go.step (fun _ k => XS.istoreN X10.here hx rfl (hb hby at_50) rfl (l' := #[.val (.int p1), .val (.int (3 : Int32)), .val (.ref s_DEAD), .val (.int (1 : Int32))]) rfl k) ?_
    show Go p.tables e below _ (T10.setTop (mkF m 51 #[.val (.int p1), .val (.int (3 : Int32)), .val (.ref s_DEAD), .val (.int (1 : Int32))] []))
    refine Go.step (fun _ k => XS.aloadN X10.here hx rfl (hb hby at_51) rfl rfl k) ?_
    show Go p.tables e below _ (T10.setTop (mkF m 52 #[.val (.int p1), .val (.int (3 : Int32)), .val (.ref s_DEAD), .val (.int (1 : Int32))] [(.ref s_DEAD)]))
    obtain ⟨cq11, kq11, q11a, q11b, q11c⟩ := isOf hZ e10 E_DEAD
    obtain ⟨_, _, ⟨T11, L11, k11, n11⟩, -, X11, ⟨Lc11, hQ11, l11, y11, z11⟩, st11⟩ := X10.virtualBack hx (y := (⟨"com/example/patient_courier/patientcourier/store/DeliveryState", "replayable", "()Z"⟩ : MethodName)) (z := (⟨"com/example/patient_courier/patientcourier/store/DeliveryState", "replayable", "()Z"⟩ : MethodName)) hown (mvT hZ (hw _ (List.mem_of_getElem? (i := 3) rfl))) (mvT hZ (hw _ (List.mem_of_getElem? (i := 4) rfl))) (notFace_of_selects (args := #[]) (mvT hZ (hw _ (List.mem_of_getElem? (i := 6) rfl)))) (mvT hZ (hw _ (List.mem_of_getElem? (i := 6) rfl))) (mvT hZ (hw _ (List.mem_of_getElem? (i := 5) rfl))) (by decide) (backOf (W := 0) (rm1 l Z a0 hw [] s_DEAD s_DELIVERED s_DEAD h0 n0 Z0 S_DELIVERED S_DEAD ) hZ (hw _ (List.mem_of_getElem? (i := 7) rfl)) (hw _ (List.mem_of_getElem? (i := 1) rfl)) (by decide) (by decide)) q11a q11c (g := (mkF m 52 #[.val (.int p1), .val (.int (3 : Int32)), .val (.ref s_DEAD), .val (.int (1 : Int32))] [(.ref s_DEAD)])) rfl (by rw [hml]; rfl) (Steps.refl _) (argsL := []) (rest := []) (lenOf pd_0 rfl) rfl (by show 2 * 0 + _ ≤ _; exact Nat.le_of_eq rfl) (hb hby at_52) (fun _ _ => ⟨rfl, e10, (by decide : 0 + 0 ≤ _), (by decide : 0 + 0 ≤ _)⟩)
    dsimp only [Pt.U, Pt.locs, Pt.cells, Pt.slots] at X11 l11 y11 z11 st11 hQ11
    subst l11 y11 z11
    obtain ⟨rfl, N11q, eh11⟩ := hQ11
    have N11 := Fr.app N0 N11q
    refine Go.step (fun _ k => st11.trans k) ?_
    show Go p.tables e below _ (T11.setTop (mkF m 55 #[.val (.int p1), .val (.int (3 : Int32)), .val (.ref s_DEAD), .val (.int (1 : Int32))] [(.int (own_hv s_DEAD s_DELIVERED s_DEAD))]))
    have q12 : (own_hv s_DEAD s_DELIVERED s_DEAD) = (1 : Int32) := by simp [own_hv]
    rw [q12]
    show Go p.tables e below _ (T11.setTop (mkF m 55 #[.val (.int p1), .val (.int (3 : Int32)), .val (.ref s_DEAD), .val (.int (1 : Int32))] [(.int (1 : Int32))]))
    refine Go.step (fun _ k => XS.iloadN X11.here hx rfl (hb hby at_55) rfl k) ?_
    show Go p.tables e below _ (T11.setTop (mkF m 56 #[.val (.int p1), .val (.int (3 : Int32)), .val (.ref s_DEAD), .val (.int (1 : Int32))] [(.int (1 : Int32)), (.int (1 : Int32))]))
    refine Go.step (fun _ k => XS.icmpNo X11.here hx rfl (hb hby at_56) rfl (teq (by decide : (1 : Int32) = (1 : Int32))).2 k) ?_
    show Go p.tables e below _ (T11.setTop (mkF m 59 #[.val (.int p1), .val (.int (3 : Int32)), .val (.ref s_DEAD), .val (.int (1 : Int32))] []))
    refine Go.step (fun _ k => XS.iconst X11.here hx rfl (hb hby at_59) k) ?_
    show Go p.tables e below _ (T11.setTop (mkF m 60 #[.val (.int p1), .val (.int (3 : Int32)), .val (.ref s_DEAD), .val (.int (1 : Int32))] [(.int (1 : Int32))]))
    refine Go.step (fun _ k => XS.goto X11.here hx rfl (pc0 := 60) (pc' := 64) rfl (hb hby at_60) (by decide) (by decide) k) ?_
    show Go p.tables e below _ (T11.setTop (mkF m 64 #[.val (.int p1), .val (.int (3 : Int32)), .val (.ref s_DEAD), .val (.int (1 : Int32))] [(.int (1 : Int32))]))
    obtain ⟨fs, hr, hrun, hended, hW, hsame⟩ := X11.leave (v := some (.int (1 : Int32))) (fun h => by rw [Bd.returns] at h; cases h)
    refine ⟨_, _, retN X11 hx (t := .boolean) Bd.returns (by simp) (hb hby at_64) hr, hrun, hended, _, _, rfl, ?_, ⟨_, rfl⟩, hW, hsame.mono (by decide) (by decide)⟩
    show Qrm0 Z p1 s_DELIVERED s_DEAD s_PENDING s_RETRYING h0 n0 _ T11.heap _
    rw [eh11]
    exact ⟨rfl, N11⟩
set_option maxRecDepth 65536 in
set_option maxHeartbeats 40000000 in
theorem comes_1 {Post : Tables → Env → Array Value → State → Outcome → State → Prop} (hpost : ∀ tb e args s v u, (limb_1_1.after args s (.returned v) u = true ∧ limb_1_2.after args s (.returned v) u = true ∧ True) → FrameEnd s (.returned v) u (Jvm.fieldLocs frame_1_writes args s ++ Jvm.arrayLocs frame_1_arrays args s ++ Jvm.staticLocs frame_1_statics s) 0 0 → Post tb e args s (.returned v) u) :
    ArmFor flags0 classFile x code maxLocals ret World_1 tables_1 room_1 Calls_1 rest_1 Pre_1 Post := by
  intro l hfl _ _ p e ha hc hk s m args below hf hA hF happ hP
  obtain ⟨hcalls, hrest, hpre⟩ := hP
  obtain ⟨-, -, -, hnamed, -, -, -, hat⟩ := (Spec.applies_iff hf).mp happ
  obtain ⟨hg, hn⟩ := and_e (Cond.before_iff.mp (show (Jvm.Cond.and given_1 narrow_1).before args s = true from hpre))
  obtain ⟨hcount, hg1⟩ := and_e hg
  have ga0 := hg1
  obtain ⟨w0, rfl⟩ : ∃ w0 : Value, args = #[w0] := by
    have hs : args.size = 1 := by simpa [Cond.value, given_1] using hcount
    obtain ⟨L⟩ := args
    match L, hs with
    | [w0], _ => exact ⟨w0, rfl⟩
  have hw := fun d (hd : d ∈ tables_1) => atoms_spec (ws := Jvm.Cond.code x code maxLocals ret :: tables_1) hat d (List.mem_cons_of_mem _ hd)
  have hfit : Fit s := fun {y c} hc i hi => by
    obtain ⟨ha, rfl⟩ := Array.getElem?_eq_some_iff.mp hc
    have q := List.all_eq_true.mp ((Array.all_eq_true_iff_forall_mem.mp hF) _ (Array.getElem_mem ha)) i (List.mem_range.mpr hi)
    simpa [Array.getElem?_eq_getElem hi] using q
  obtain ⟨i0, ei0⟩ := is_v ga0
  obtain rfl : w0 = (.int i0) := Option.some.inj ei0
  obtain ⟨nq0, hn1⟩ := and_e hn
  obtain ⟨nq1, hn2⟩ := and_e hn1
  obtain ⟨nq2, hn3⟩ := and_e hn2
  obtain ⟨nq3, hn4⟩ := and_e hn3
  obtain ⟨nq4, hn5⟩ := and_e hn4
  obtain ⟨nq5, hn6⟩ := and_e hn5
  obtain ⟨nq6, hn7⟩ := and_e hn6
  have nq7 := hn7
  obtain ⟨s_PENDING, ev_PENDING⟩ := exa_v nq0
  have S_PENDING : Sta s s.heap "com/example/patient_courier/patientcourier/store/DeliveryState" "PENDING" "Lcom/example/patient_courier/patientcourier/store/DeliveryState;" (.ref s_PENDING) := Sta.start ev_PENDING (Or.inr ⟨(hw _ (List.mem_of_getElem? (i := 1) rfl)), (hw _ (List.mem_of_getElem? (i := 2) rfl))⟩)
  have E_PENDING : Exa s s.heap s_PENDING "com/example/patient_courier/patientcourier/store/DeliveryState" := Exa.start ev_PENDING nq0
  have F_PENDING_ordinal : Fld s s.heap s_PENDING "java/lang/Enum" "ordinal" "I" (.int (0 : Int32)) := Fld.start ((fld_at ev_PENDING).symm.trans (own_eqI nq2))
  obtain ⟨s_DELIVERED, ev_DELIVERED⟩ := exa_v nq1
  have S_DELIVERED : Sta s s.heap "com/example/patient_courier/patientcourier/store/DeliveryState" "DELIVERED" "Lcom/example/patient_courier/patientcourier/store/DeliveryState;" (.ref s_DELIVERED) := Sta.start ev_DELIVERED (Or.inr ⟨(hw _ (List.mem_of_getElem? (i := 1) rfl)), (hw _ (List.mem_of_getElem? (i := 9) rfl))⟩)
  have E_DELIVERED : Exa s s.heap s_DELIVERED "com/example/patient_courier/patientcourier/store/DeliveryState" := Exa.start ev_DELIVERED nq1
  have F_DELIVERED_ordinal : Fld s s.heap s_DELIVERED "java/lang/Enum" "ordinal" "I" (.int (2 : Int32)) := Fld.start ((fld_at ev_DELIVERED).symm.trans (own_eqI nq3))
  obtain ⟨s_DEAD, ev_DEAD⟩ := exa_v nq4
  have S_DEAD : Sta s s.heap "com/example/patient_courier/patientcourier/store/DeliveryState" "DEAD" "Lcom/example/patient_courier/patientcourier/store/DeliveryState;" (.ref s_DEAD) := Sta.start ev_DEAD (Or.inr ⟨(hw _ (List.mem_of_getElem? (i := 1) rfl)), (hw _ (List.mem_of_getElem? (i := 11) rfl))⟩)
  have E_DEAD : Exa s s.heap s_DEAD "com/example/patient_courier/patientcourier/store/DeliveryState" := Exa.start ev_DEAD nq4
  have F_DEAD_ordinal : Fld s s.heap s_DEAD "java/lang/Enum" "ordinal" "I" (.int (3 : Int32)) := Fld.start ((fld_at ev_DEAD).symm.trans (own_eqI nq5))
  obtain ⟨s_RETRYING, ev_RETRYING⟩ := exa_v nq6
  have S_RETRYING : Sta s s.heap "com/example/patient_courier/patientcourier/store/DeliveryState" "RETRYING" "Lcom/example/patient_courier/patientcourier/store/DeliveryState;" (.ref s_RETRYING) := Sta.start ev_RETRYING (Or.inr ⟨(hw _ (List.mem_of_getElem? (i := 1) rfl)), (hw _ (List.mem_of_getElem? (i := 15) rfl))⟩)
  have E_RETRYING : Exa s s.heap s_RETRYING "com/example/patient_courier/patientcourier/store/DeliveryState" := Exa.start ev_RETRYING nq6
  have F_RETRYING_ordinal : Fld s s.heap s_RETRYING "java/lang/Enum" "ordinal" "I" (.int (1 : Int32)) := Fld.start ((fld_at ev_RETRYING).symm.trans (own_eqI nq7))
  obtain ⟨n, o, h1, h2, h3, _, L, rfl, ⟨rfl, N⟩, hq⟩ := rm0 l s _ hw tables_1 i0 s_DELIVERED s_DEAD s_PENDING s_RETRYING s.heap s.heap.size (Nat.le_refl _) S_DELIVERED E_DELIVERED F_DELIVERED_ordinal S_DEAD E_DEAD F_DEAD_ordinal S_PENDING E_PENDING F_PENDING_ordinal S_RETRYING E_RETRYING F_RETRYING_ordinal p e ha hc hk s m _ below hf ((Spec.applies_iff_loose hf).mp happ).1 ⟨rfl, State.Warmed39.refl s, rfl⟩ trivial
  refine ⟨n, _, h1, h2, h3, hpost _ _ _ _ _ _ ⟨Cond.after_iff.mpr rfl, Cond.after_iff.mpr (eq_i res_at (Term.int_eval (1)) rfl), trivial⟩ ⟨hq.1, hq.2.1, (hq.2.2.sift fun y hy => Or.inr (N y hy)).mono (by decide) (by decide)⟩⟩
theorem main_1_1 : Claimed_1_1 := comes_1 fun _ _ _ _ _ _ h hF => ⟨h.1, hF⟩
theorem main_1_2 : Claimed_1_2 := comes_1 fun _ _ _ _ _ _ h hF => ⟨h.2.1, hF⟩
end Jvm.Pilot.@@N@@
namespace Jvm.Pilot.@@N@@
open Jvm Jvm.ClassFile Sem Op Lib Jvm.Free Jvm.Stand Jvm.Pilot.@@N@@.Jvm.D
/-! MADE BY PROGRAM (witnessworld.py) out of the Statement's table words and the real class files: 13 classes; the members and pool entries that the words name. The judged class is class 1, her method 1. -/
namespace start1
open Jvm.ClassFile
def u (s : String) : CpInfo := .utf8 (stringToUtf16 s)
/-- a pool by its gaps: so many unusable entries, then the entry; so many at the end -/
def gap : Nat → List CpInfo → List CpInfo
  | 0, r => r
  | n + 1, r => .unusable :: gap n r
def poolList (es : List (Nat × CpInfo)) (last : Nat) : List CpInfo := es.foldr (fun e r => gap e.1 (e.2 :: r)) (gap last [])
def pool (es : List (Nat × CpInfo)) (last : Nat) : Array CpInfo := ⟨poolList es last⟩
def fileOf (pool : Array CpInfo) (this : Nat) (attrs : Array Attribute := #[]) (ms : Array MethodInfo := #[]) (fl : Nat := 33) (sup : Nat := 0) (ifs : Array Nat := #[]) (fds : Array FieldInfo := #[]) : ClassFile where
  minorVersion := 0
  majorVersion := 65
  constantPool := pool
  accessFlags := fl
  thisClass := this
  superClass := sup
  interfaces := ifs
  fields := fds
  methods := ms
  attributes := attrs
def plain (name : String) (sup : Option ClassId) : Class where
  name := name
  kind := .ordinary
  loader := none
  accessFlags := 33
  super := sup
  interfaces := #[]
  cf := none
  fields := #[]
  methods := #[]
  instanceTypes := #[]
  staticTypes := #[]
  resolved := #[]
  callSites := []
  init := .initialized
  statics := none
  mirror := none

def pool0 : Array CpInfo := pool [(5, u "<init>"), (0, u "()V"), (1, .class_ 10), (1, u "java/lang/Object")] 113

def k0m0 : Method := { name := "<init>", desc := "()V", sig := { parameters := [], returnType := none }, accessFlags := 1, code := none }
/-- java/lang/Object -/
def k0 : Class := { plain "java/lang/Object" none with
  accessFlags := 33
  interfaces := #[]
  cf := some (fileOf pool0 8 #[] #[{ accessFlags := 1, nameIndex := 5, descriptorIndex := 6, attributes := #[] }] 33 0 #[] #[])
  fields := #[]
  methods := #[k0m0]
  instanceTypes := #[]
  staticTypes := #[]
  resolved := Array.replicate 124 none
  statics := none }

def pool1 : Array CpInfo := pool [(2, .class_ 4), (1, u "java/lang/Object"), (0, u "<init>"), (0, u "()V"), (0, .fieldref 8 9), (0, .class_ 10), (0, .nameAndType 11 12), (0, u "com/example/patient_courier/patientcourier/store/DeliveryState"), (0, u "PENDING"), (0, u "Lcom/example/patient_courier/patientcourier/store/DeliveryState;"), (0, .fieldref 8 14), (0, .nameAndType 15 12), (0, u "RETRYING"), (0, .fieldref 8 17), (0, .nameAndType 18 12), (0, u "DELIVERED"), (0, .fieldref 8 20), (0, .nameAndType 21 12), (0, u "DEAD"), (0, .methodref 8 23), (0, .nameAndType 24 25), (0, u "replayable"), (0, u "()Z"), (0, .class_ 27), (0, u "com/example/patient_courier/patientcourier/store/DeliveryStateReplayablePinLaw"), (2, u "law"), (0, u "(I)Z")] 3

def k1m0 : Method := { name := "<init>", desc := "()V", sig := { parameters := [], returnType := none }, accessFlags := 2, code := none }
def k1c1 : Code := { maxStack := 2, maxLocals := 4, code := code, exceptionTable := #[], attributes := #[] }
def k1m1 : Method := { name := "law", desc := "(I)Z", sig := { parameters := [.int], returnType := some .boolean }, accessFlags := 9, code := some k1c1 }
/-- com/example/patient_courier/patientcourier/store/DeliveryStateReplayablePinLaw -/
def k1 : Class := { plain "com/example/patient_courier/patientcourier/store/DeliveryStateReplayablePinLaw" (some 0) with
  accessFlags := 49
  interfaces := #[]
  cf := some (fileOf pool1 26 #[] #[{ accessFlags := 2, nameIndex := 5, descriptorIndex := 6, attributes := #[] }, { accessFlags := 9, nameIndex := 30, descriptorIndex := 31, attributes := #[] }] 49 2 #[] #[])
  fields := #[]
  methods := #[k1m0, k1m1]
  instanceTypes := #[]
  staticTypes := #[]
  resolved := Array.replicate 35 none
  statics := none }

def pool2 : Array CpInfo := pool [(1, .class_ 2), (0, u "java/lang/constant/Constable"), (0, .class_ 4), (0, u "java/lang/Object")] 6

/-- java/lang/constant/Constable -/
def k2 : Class := { plain "java/lang/constant/Constable" (some 0) with
  accessFlags := 1537
  interfaces := #[]
  cf := some (fileOf pool2 1 #[] #[] 1537 3 #[] #[])
  fields := #[]
  methods := #[]
  instanceTypes := #[]
  staticTypes := #[]
  resolved := Array.replicate 11 none
  statics := none }

def pool3 : Array CpInfo := pool [(1, .class_ 2), (0, u "java/lang/Comparable"), (0, .class_ 4), (0, u "java/lang/Object")] 7

/-- java/lang/Comparable -/
def k3 : Class := { plain "java/lang/Comparable" (some 0) with
  accessFlags := 1537
  interfaces := #[]
  cf := some (fileOf pool3 1 #[] #[] 1537 3 #[] #[])
  fields := #[]
  methods := #[]
  instanceTypes := #[]
  staticTypes := #[]
  resolved := Array.replicate 12 none
  statics := none }

def pool4 : Array CpInfo := pool [(1, .class_ 2), (0, u "java/io/Serializable"), (0, .class_ 4), (0, u "java/lang/Object")] 2

/-- java/io/Serializable -/
def k4 : Class := { plain "java/io/Serializable" (some 0) with
  accessFlags := 1537
  interfaces := #[]
  cf := some (fileOf pool4 1 #[] #[] 1537 3 #[] #[])
  fields := #[]
  methods := #[]
  instanceTypes := #[]
  staticTypes := #[]
  resolved := Array.replicate 7 none
  statics := none }

def pool5 : Array CpInfo := pool [(2, .class_ 4), (1, u "java/lang/Enum"), (0, u "name"), (0, u "Ljava/lang/String;"), (2, u "ordinal"), (0, u "I"), (1, .class_ 14), (1, u "java/lang/Object"), (4, u "hash"), (86, .class_ 108), (1, u "java/lang/Enum$EnumDesc"), (2, .class_ 112), (0, u "java/lang/constant/Constable"), (0, .class_ 114), (0, u "java/lang/Comparable"), (0, .class_ 116), (0, u "java/io/Serializable")] 87

/-- java/lang/Enum -/
def k5 : Class := { plain "java/lang/Enum" (some 0) with
  accessFlags := 1057
  interfaces := #[2, 3, 4]
  cf := some (fileOf pool5 2 #[.nestMembers #[106]] #[] 1057 12 #[111, 113, 115] #[{ accessFlags := 18, nameIndex := 5, descriptorIndex := 6, attributes := #[] }, { accessFlags := 18, nameIndex := 9, descriptorIndex := 10, attributes := #[] }, { accessFlags := 2, nameIndex := 19, descriptorIndex := 10, attributes := #[] }])
  fields := #[{ name := "name", type := (.object "java/lang/String"), accessFlags := 18, slot := 0, constantValue := 0 }, { name := "ordinal", type := .int, accessFlags := 18, slot := 1, constantValue := 0 }, { name := "hash", type := .int, accessFlags := 2, slot := 2, constantValue := 0 }]
  methods := #[]
  instanceTypes := #[(.object "java/lang/String"), .int, .int]
  staticTypes := #[]
  resolved := Array.replicate 204 none
  statics := none }

def pool6 : Array CpInfo := pool [(2, .class_ 4), (1, u "com/example/patient_courier/patientcourier/WireNamed"), (39, .class_ 45), (0, u "java/lang/Object")] 9

/-- com/example/patient_courier/patientcourier/WireNamed -/
def k6 : Class := { plain "com/example/patient_courier/patientcourier/WireNamed" (some 0) with
  accessFlags := 1537
  interfaces := #[]
  cf := some (fileOf pool6 2 #[] #[] 1537 44 #[] #[])
  fields := #[]
  methods := #[]
  instanceTypes := #[]
  staticTypes := #[]
  resolved := Array.replicate 55 none
  statics := none }

def pool7 : Array CpInfo := pool [(1, .class_ 2), (0, u "com/example/patient_courier/patientcourier/store/DeliveryState"), (2, u "PENDING"), (0, u "Lcom/example/patient_courier/patientcourier/store/DeliveryState;"), (2, u "RETRYING"), (0, .fieldref 1 11), (0, .nameAndType 12 6), (0, u "DELIVERED"), (0, .fieldref 1 14), (0, .nameAndType 15 6), (0, u "DEAD"), (2, u "$VALUES"), (0, u "[Lcom/example/patient_courier/patientcourier/store/DeliveryState;"), (6, .class_ 28), (1, u "java/lang/Enum"), (15, .class_ 45), (0, u "com/example/patient_courier/patientcourier/WireNamed"), (7, u "replayable"), (0, u "()Z")] 5

def k7c0 : Code := { maxStack := 2, maxLocals := 1, code := prog_32_method_4_code, exceptionTable := #[], attributes := #[] }
def k7m0 : Method := { name := "replayable", desc := "()Z", sig := { parameters := [], returnType := some .boolean }, accessFlags := 1, code := some k7c0 }
/-- com/example/patient_courier/patientcourier/store/DeliveryState -/
def k7 : Class := { plain "com/example/patient_courier/patientcourier/store/DeliveryState" (some 5) with
  accessFlags := 16433
  interfaces := #[6]
  cf := some (fileOf pool7 1 #[] #[{ accessFlags := 1, nameIndex := 53, descriptorIndex := 54, attributes := #[] }] 16433 26 #[44] #[{ accessFlags := 16409, nameIndex := 5, descriptorIndex := 6, attributes := #[] }, { accessFlags := 16409, nameIndex := 9, descriptorIndex := 6, attributes := #[] }, { accessFlags := 16409, nameIndex := 12, descriptorIndex := 6, attributes := #[] }, { accessFlags := 16409, nameIndex := 15, descriptorIndex := 6, attributes := #[] }, { accessFlags := 4122, nameIndex := 18, descriptorIndex := 19, attributes := #[] }])
  fields := #[{ name := "PENDING", type := (.object "com/example/patient_courier/patientcourier/store/DeliveryState"), accessFlags := 16409, slot := 0, constantValue := 0 }, { name := "RETRYING", type := (.object "com/example/patient_courier/patientcourier/store/DeliveryState"), accessFlags := 16409, slot := 1, constantValue := 0 }, { name := "DELIVERED", type := (.object "com/example/patient_courier/patientcourier/store/DeliveryState"), accessFlags := 16409, slot := 2, constantValue := 0 }, { name := "DEAD", type := (.object "com/example/patient_courier/patientcourier/store/DeliveryState"), accessFlags := 16409, slot := 3, constantValue := 0 }, { name := "$VALUES", type := (.array (.object "com/example/patient_courier/patientcourier/store/DeliveryState")), accessFlags := 4122, slot := 4, constantValue := 0 }]
  methods := #[k7m0]
  instanceTypes := #[(.object "java/lang/String"), .int, .int]
  staticTypes := #[(.object "com/example/patient_courier/patientcourier/store/DeliveryState"), (.object "com/example/patient_courier/patientcourier/store/DeliveryState"), (.object "com/example/patient_courier/patientcourier/store/DeliveryState"), (.object "com/example/patient_courier/patientcourier/store/DeliveryState"), (.array (.object "com/example/patient_courier/patientcourier/store/DeliveryState"))]
  resolved := Array.replicate 60 none
  statics := some 0 }

def pool8 : Array CpInfo := pool [(1, u "java/lang/Cloneable"), (0, .class_ 1), (0, u "java/lang/Object"), (0, .class_ 3)] 3

/-- java/lang/Cloneable -/
def k8 : Class := { plain "java/lang/Cloneable" (some 0) with
  accessFlags := 1537
  interfaces := #[]
  cf := some (fileOf pool8 2 #[] #[] 1537 4 #[] #[])
  fields := #[]
  methods := #[]
  instanceTypes := #[]
  staticTypes := #[]
  resolved := Array.replicate 8 none
  statics := none }

/-- the primitive byte -/
def k9 : Class := { plain "byte" none with kind := .primitive 'B', accessFlags := 0x411 }
/-- [B -/
def k10 : Class := { plain "[B" (some 0) with kind := .array 9 .byte, interfaces := #[8, 4], accessFlags := 1041 }

/-- the primitive int -/
def k11 : Class := { plain "int" none with kind := .primitive 'I', accessFlags := 0x411 }
/-- [I -/
def k12 : Class := { plain "[I" (some 0) with kind := .array 11 .int, interfaces := #[8, 4], accessFlags := 1041 }

def heap : Heap := #[{ cls := 7, slots := #[.ref 3, .ref 4, .ref 1, .ref 2, .null], vm := .statics 7 },
  { cls := 7, slots := #[.null, .int 2, .int 0], vm := .none },
  { cls := 7, slots := #[.null, .int 3, .int 0], vm := .none },
  { cls := 7, slots := #[.null, .int 0, .int 0], vm := .none },
  { cls := 7, slots := #[.null, .int 1, .int 0], vm := .none }]
def classes : Array Class := #[k0, k1, k2, k3, k4, k5, k6, k7, k8, k9, k10, k11, k12]
def interned : List (Array UInt16 × Addr) := []
def slotsUsed : Nat := 17
def theMethod : MethodId := ⟨1, 1⟩
def args0 : Array Value := #[.int 5]
def aboutOver (below : List Frame) : State where
  vm := { classes := classes, interned := interned.toArray }
  heap := heap
  slotsUsed := slotsUsed
  threads := #[{ frames := .invoking theMethod args0 :: below }]
def below0 : List Frame := [.native { method := ⟨0, 0⟩, args := #[] }]
def about1 : State := aboutOver below0
def p0 : Program := .bare "" "" ""
def e0 : Env := launch0.env 0 0 0
theorem w_frames : about1.frames = Frame.invoking theMethod args0 :: below0 := rfl
set_option maxRecDepth 65536 in
theorem w_args : argsFit about1.vm theMethod args0 = true := by decide +kernel
set_option maxRecDepth 65536 in
theorem w_heap : heapFits about1 = true := by decide +kernel
set_option maxRecDepth 65536 in
theorem w_runnable : about1.curStatus? = some .runnable := by decide +kernel
set_option maxRecDepth 65536 in
theorem w_alone : about1.alone = true := by decide +kernel
set_option maxRecDepth 65536 in
theorem w_named : about1.methodNamed? x = some theMethod := by decide +kernel
set_option maxRecDepth 65536 in
theorem w_hears : about1.hears theMethod below0 = true := by decide +kernel
set_option maxRecDepth 65536 in
theorem w_ripe : about1.ripe theMethod args0 below0 = true := by decide +kernel
theorem w_running : about1.status = .running := rfl
set_option maxRecDepth 65536 in
theorem w_room : about1.hasRoom e0.platform room_1 = true :=
  launch0.hasRoom_least _ room_1 (by decide +kernel) (by decide +kernel) (by decide +kernel) (by decide +kernel) (by decide +kernel) (by decide +kernel)
theorem allAtoms_all (ts : List Jvm.Cond) (a : Array Jvm.Value) (st : Jvm.State) : (allAtoms ts).before a st = ts.all (fun c => c.before a st) := by
  induction ts with
  | nil => rfl
  | cons c t ih =>
    show (Jvm.Cond.and c (allAtoms t)).before a st = _
    rw [Jvm.Cond.before_and, ih, List.all_cons]
def words1 : List Jvm.Cond := Jvm.Cond.code x code maxLocals ret :: tables_1
/-- a 'code' word, met by the world's own term for the bytes: nothing is compared byte by byte -/
theorem code_word {y : MethodName} {bytes : ByteArray} {mx : Nat} {rt : Option FieldType} {a : Array Value} {s : State} {m : MethodId} {meth : Method} {c : Code} (h1 : s.methodNamed? y = some m) (h2 : s.vm.method? m = some meth) (h3 : meth.code = some c) (h4 : c.code = bytes)
    (h5 : (c.maxLocals == mx && c.exceptionTable.isEmpty && decide (c.maxStack ≤ mostOperands) && decide (meth.sig.returnType = rt) && !meth.locks && decide (parseMethodDescriptor y.desc = some meth.sig)) = true) : (Jvm.Cond.code y bytes mx rt).before a s = true := by
  simp only [Bool.and_eq_true, beq_iff_eq, Bool.not_eq_true', decide_eq_true_eq] at h5
  obtain ⟨⟨⟨⟨⟨g1, g2⟩, g3⟩, g4⟩, g5⟩, g6⟩ := h5
  simp [Cond.before, Cond.holds, Cond.value, h1, h2, h3, h4, g1, g2, g3, g4, g5, g6]
def isCode : Jvm.Cond → Bool
  | .code _ _ _ _ => true
  | _ => false
theorem all_split {L : List Jvm.Cond} {P : Jvm.Cond → Bool} (h1 : L.all (fun c => isCode c || P c) = true) (h2 : ∀ c ∈ L.filter isCode, P c = true) : L.all P = true := by
  refine List.all_eq_true.mpr fun c hc => ?_
  have h := List.all_eq_true.mp h1 c hc
  rcases Bool.eq_false_or_eq_true (isCode c) with hi | hi
  · exact h2 c (List.mem_filter.mpr ⟨hc, hi⟩)
  · simpa [hi] using h
set_option maxRecDepth 65536 in
theorem w_c0 : (Jvm.Cond.code x code maxLocals ret).before args0 about1 = true := code_word (m := ⟨1, 1⟩) (meth := k1m1) (c := k1c1) (by decide +kernel) rfl rfl rfl (by decide +kernel)
set_option maxRecDepth 65536 in
theorem w_c1 : (Jvm.Cond.code ({ cls := "com/example/patient_courier/patientcourier/store/DeliveryState", name := "replayable", desc := "()Z" } : Jvm.MethodName) prog_32_method_4_code (1 : Nat) (Option.some Jvm.ClassFile.FieldType.boolean)).before args0 about1 = true := code_word (m := ⟨7, 0⟩) (meth := k7m0) (c := k7c0) (by decide +kernel) rfl rfl rfl (by decide +kernel)
def codes1 : List Jvm.Cond := [Jvm.Cond.code x code maxLocals ret, Jvm.Cond.code ({ cls := "com/example/patient_courier/patientcourier/store/DeliveryState", name := "replayable", desc := "()Z" } : Jvm.MethodName) prog_32_method_4_code (1 : Nat) (Option.some Jvm.ClassFile.FieldType.boolean)]
set_option maxRecDepth 65536 in
theorem codes_eq : words1.filter isCode = codes1 := rfl
theorem w_codes : ∀ c ∈ words1.filter isCode, c.before args0 about1 = true := by
  rw [codes_eq]
  intro c hc
  simp only [codes1, List.mem_cons, List.not_mem_nil, or_false] at hc
  rcases hc with rfl | rfl
  · exact w_c0
  · exact w_c1
set_option maxRecDepth 65536 in
theorem w_t1 : words1.all (fun c => isCode c || c.before args0 about1) = true := by decide +kernel
theorem w_tables : (allAtoms (Jvm.Cond.code x code maxLocals ret :: tables_1)).before args0 about1 = true := by
  rw [allAtoms_all]
  show words1.all (fun c => c.before args0 about1) = true
  refine all_split ?_ w_codes
  rw [w_t1]
set_option maxRecDepth 65536 in
theorem w_case : (Jvm.Cond.and given_1 narrow_1).before args0 about1 = true := by decide +kernel
theorem w_applies : (headSpec (Jvm.Cond.code x code maxLocals ret :: tables_1) room_1).applies x e0.platform about1 = true :=
  (Spec.applies_iff w_frames).mpr ⟨w_running, w_runnable, w_alone, w_named, w_hears, w_ripe, w_room, w_tables⟩
theorem atStart : AtStart classFile x code maxLocals ret World_1 tables_1 room_1 Calls_1 rest_1 Pre_1 launch0 p0 e0 about1 theMethod args0 below0 :=
  ⟨lists_1, trivial, launch0.admits_env _ _ _, launch0.least_env, fairChoices_fair.cas, fairChoices_fair.clock, w_frames, w_args, w_heap, w_applies, trivial, trivial, w_case⟩
end start1
theorem witness_1 : WitnessClaimed_1 := ⟨start1.p0, start1.e0, start1.about1, start1.theMethod, start1.args0, start1.below0, start1.atStart⟩
end Jvm.Pilot.@@N@@
