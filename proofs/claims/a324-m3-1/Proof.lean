import JvmDerived
import JvmDerived.Pilot.@@N@@Statement
import JvmDerived.Pilot.@@N@@Code
set_option linter.unusedVariables false
set_option linter.unusedSimpArgs false
namespace Jvm.RoadKit
open Sem ClassFile Op Lib Jvm.Stand Jvm.Free Jvm.LawKit
section New
variable {p : Program} {l : Launch} {e : Env} {R : Room} {s : State} {m : MethodId} {args : Array Value} {below : List Frame} {meth : Method} {c : Code} {T : State} {locs : List Loc} {cells slots : Nat}
theorem retI (X : Stand p l e R s m args below meth c T locs cells slots) (hx : p.tables.exec = Jvm.exec) {pc : Nat} {Ls : Array Slot} {z : Int32} {rest : List Value} (hret : meth.sig.returnType = some .int) (hd : decode c.code pc = .ok (.ireturn, 1)) {fs : List Frame}
    (hl : ∀ (f : JFrame) (acts : List Action), f.method = m → f.locked = none → f.entered = [] → (doReturn e (T.setTop f) acts (some (.int z))).1 = T.setFrames fs) : Steps p.tables e below (T.setTop (mkF m pc Ls (.int z :: rest))) (T.setFrames fs) := by
  have hm' : T.vm.method? m = some meth := X.method'
  have hn : narrow .int (.int z) = .int z := rfl
  show Steps p.tables e below (T.setTop { method := m, pc := pc, locals := Ls, stack := _ :: rest, locked := none }) _
  jvm_step X.here [X.here.top, hx, hd, hm', hret, hn]
  first | (intro acts; rw [hl _ acts rfl rfl rfl]) | rw [hl _ _ rfl rfl rfl]
  exact Steps.refl _
end New
/-- the run from S ends, with Post of its end -/
def Go (tb : Tables) (e : Env) (below : List Frame) (Post : Outcome → State → Prop) (S : State) : Prop := ∃ s₂ o, Steps tb e below S s₂ ∧ s₂.status = .running ∧ Ended s₂ below o ∧ Post o s₂
theorem Go.step {tb : Tables} {e : Env} {below : List Frame} {Post : Outcome → State → Prop} {S S' : State} (h : ∀ t, Steps tb e below S' t → Steps tb e below S t) (g : Go tb e below Post S') : Go tb e below Post S := by
  obtain ⟨s₂, o, a, b⟩ := g
  exact ⟨s₂, o, h _ a, b⟩
theorem at_of {c : Cell} {vs : List Value} {d v : Value} {j : Int32} (H : Has c vs d) (hin : ¬ (j < 0 ∨ c.slots.size ≤ j.toNatClampNeg)) (e : vs.getD j.toNatClampNeg d = v) : c.slots[j.toNatClampNeg]? = some v := by
  have q : j.toNatClampNeg < c.slots.size := Nat.lt_of_not_le (fun h => hin (Or.inr h))
  rw [H _ q, e]
end Jvm.RoadKit
namespace Jvm.Pilot.@@N@@
open Jvm Jvm.ClassFile Sem Op Lib Jvm.Free Jvm.Stand Jvm.LawKit Jvm.RoadKit Bundle Jvm.Pilot.@@N@@.Jvm.D
theorem own_eqI {args : Array Value} {s : State} {t : Term} {n : Int32} (h : (Jvm.Cond.eq t (.int n)).value args s none s [] = some true) : t.eval args s none [] s = some (.int n) := by
  simp only [Cond.value, Term.eval] at h
  cases ht : t.eval args s none [] s with
  | none => simp [ht] at h
  | some x => cases x <;> simp [ht] at h ⊢; exact h
theorem own_and3 (x : Int32) : (x &&& (3 : Int32)) = 0 ∨ (x &&& (3 : Int32)) = 1 ∨ (x &&& (3 : Int32)) = 2 ∨ (x &&& (3 : Int32)) = 3 := by
  have h := c_mask x 3 2 (by decide) (by decide)
  have e0 : (0 : Int32).toInt = 0 := by decide
  have e1 : (1 : Int32).toInt = 1 := by decide
  have e2 : (2 : Int32).toInt = 2 := by decide
  have e3 : (3 : Int32).toInt = 3 := by decide
  simp only [← Int32.toInt_inj]
  omega
def own_pick (p : Int32) (a b c d : Addr) : Addr := if p = 0 then a else if p = 1 then b else if p = 2 then c else d
def own_hv (a s t : Addr) : Int32 := if a = s then 1 else if a = t then 1 else 0
theorem pn_0 : plainName "com/example/pech_david/pechdavid/model/StatusHasValuesPinLaw" = true := by first | (simp [plainName, overriddenIn]; done) | decide +kernel
theorem d1_0 : decode method_2_code 0 = .ok (.iload_n 0, 1) := by decide +kernel
theorem d1_1 : decode method_2_code 1 = .ok (.ifCond .ne 7, 3) := by decide +kernel
theorem d1_4 : decode method_2_code 4 = .ok (.getstatic 7, 3) := by decide +kernel
theorem d1_7 : decode method_2_code 7 = .ok (.areturn, 1) := by decide +kernel
theorem d1_8 : decode method_2_code 8 = .ok (.iload_n 0, 1) := by decide +kernel
theorem d1_9 : decode method_2_code 9 = .ok (.iconst 1, 1) := by decide +kernel
theorem d1_10 : decode method_2_code 10 = .ok (.if_icmp .ne 7, 3) := by decide +kernel
theorem d1_13 : decode method_2_code 13 = .ok (.getstatic 13, 3) := by decide +kernel
theorem d1_16 : decode method_2_code 16 = .ok (.areturn, 1) := by decide +kernel
theorem d1_17 : decode method_2_code 17 = .ok (.iload_n 0, 1) := by decide +kernel
theorem d1_18 : decode method_2_code 18 = .ok (.iconst 2, 1) := by decide +kernel
theorem d1_19 : decode method_2_code 19 = .ok (.if_icmp .ne 7, 3) := by decide +kernel
theorem d1_22 : decode method_2_code 22 = .ok (.getstatic 16, 3) := by decide +kernel
theorem d1_25 : decode method_2_code 25 = .ok (.areturn, 1) := by decide +kernel
theorem d1_26 : decode method_2_code 26 = .ok (.getstatic 19, 3) := by decide +kernel
theorem d1_29 : decode method_2_code 29 = .ok (.areturn, 1) := by decide +kernel
theorem ef_rm1 (m : MethodId) (p1 : Int32) (s_SATISFIED : Addr) (s_OPTIMAL : Addr) (s_UNSATISFIABLE : Addr) (s_UNKNOWN : Addr) : entryFrame m #[(.int p1)] 1 = mkF m 0 #[.val (.int p1)] [] := by first | (simp [entryFrame, mkF, argsToLocals, Value.category]; done) | rfl
def Qrm1 (Z : State) (p1 : Int32) (s_SATISFIED : Addr) (s_OPTIMAL : Addr) (s_UNSATISFIABLE : Addr) (s_UNKNOWN : Addr) (h0 : Heap) (n0 : Nat) (v : Option Value) (h : Heap) (L : List Loc) : Prop := v = some (.ref (own_pick p1 s_SATISFIED s_OPTIMAL s_UNSATISFIABLE s_UNKNOWN)) ∧ Fr n0 L ∧ h = h0
set_option maxRecDepth 65536 in
set_option maxHeartbeats 40000000 in
theorem rm1 (l : Launch) (Z : State) (a0 : Array Value) (hw : ∀ d ∈ tables_1, d.before a0 Z = true) (ws : List Jvm.Cond) (p1 : Int32) (s_SATISFIED : Addr) (s_OPTIMAL : Addr) (s_UNSATISFIABLE : Addr) (s_UNKNOWN : Addr) (h0 : Heap) (n0 : Nat) (Z0 : n0 ≤ h0.size) (S_SATISFIED : Sta Z h0 "com/example/pech_david/pechdavid/model/Status" "SATISFIED" "Lcom/example/pech_david/pechdavid/model/Status;" (.ref s_SATISFIED)) (S_OPTIMAL : Sta Z h0 "com/example/pech_david/pechdavid/model/Status" "OPTIMAL" "Lcom/example/pech_david/pechdavid/model/Status;" (.ref s_OPTIMAL)) (S_UNSATISFIABLE : Sta Z h0 "com/example/pech_david/pechdavid/model/Status" "UNSATISFIABLE" "Lcom/example/pech_david/pechdavid/model/Status;" (.ref s_UNSATISFIABLE)) (S_UNKNOWN : Sta Z h0 "com/example/pech_david/pechdavid/model/Status" "UNKNOWN" "Lcom/example/pech_david/pechdavid/model/Status;" (.ref s_UNKNOWN)) :
    MetFree l (⟨"com/example/pech_david/pechdavid/model/StatusHasValuesPinLaw", "pick", "(I)Lcom/example/pech_david/pechdavid/model/Status;"⟩ : MethodName) (head1 (Jvm.Cond.code (⟨"com/example/pech_david/pechdavid/model/StatusHasValuesPinLaw", "pick", "(I)Lcom/example/pech_david/pechdavid/model/Status;"⟩ : MethodName) method_2_code 1 (some (.object "com/example/pech_david/pechdavid/model/Status")) :: ws) ({ frames := 0, cells := 0, slots := 0, locals := 0 } : Room)) (fun a U => a = #[(.int p1)] ∧ Z.Warmed39 U.vm ∧ U.heap = h0) (fun _ _ _ _ _ => True) (fun _ U o U' => ∃ v L, o = .returned v ∧ Qrm1 Z p1 s_SATISFIED s_OPTIMAL s_UNSATISFIABLE s_UNKNOWN h0 n0 v U'.heap L ∧ FrameEnd U o U' L ({ frames := 0, cells := 0, slots := 0, locals := 0 } : Room).cells ({ frames := 0, cells := 0, slots := 0, locals := 0 } : Room).slots) := by
  refine MetFree.of_bodySF (plainFor_of_name pn_0) hisR ?_
  intro p e s m args below meth c s₁ Bd hml0 hP hK
  obtain ⟨rfl, hZ, hh⟩ := hP
  have hx := Bd.exec
  have hby := Bd.bytes
  have hml : c.maxLocals = 1 := hml0
  have hown : s.vm.findClass "com/example/pech_david/pechdavid/model/StatusHasValuesPinLaw" = some m.cls := findClass_of_methodNamed Bd.named
  have hnm := (name_of_methodNamed Bd.named Bd.method).1
  have X0 : Stand p l e ({ frames := 0, cells := 0, slots := 0, locals := 0 } : Room) s m #[(.int p1)] below meth c s₁ [] 0 0 := Stand.of_body Bd
  have e0 : s₁.heap = h0 := by rw [← hh, Bd.state]; rfl
  have N0 := Fr.nil n0
  show Go p.tables e below (fun o U' => ∃ v L, o = .returned v ∧ Qrm1 Z p1 s_SATISFIED s_OPTIMAL s_UNSATISFIABLE s_UNKNOWN h0 n0 v U'.heap L ∧ FrameEnd s o U' L ({ frames := 0, cells := 0, slots := 0, locals := 0 } : Room).cells ({ frames := 0, cells := 0, slots := 0, locals := 0 } : Room).slots) _
  refine Go.step (fun t k => castTop (ef_rm1 m p1 s_SATISFIED s_OPTIMAL s_UNSATISFIABLE s_UNKNOWN) k) ?_
  show Go p.tables e below _ (s₁.setTop (mkF m 0 #[.val (.int p1)] []))
  refine Go.step (fun _ k => XS.iloadN X0.here hx rfl (hb hby d1_0) rfl k) ?_
  show Go p.tables e below _ (s₁.setTop (mkF m 1 #[.val (.int p1)] [(.int p1)]))
  by_cases hc1_1 : p1 = (0 : Int32)
  · refine Go.step (fun _ k => XS.ifNo X0.here hx rfl (hb hby d1_1) rfl ((if0 _ _).trans (teq hc1_1).2) k) ?_
    show Go p.tables e below _ (s₁.setTop (mkF m 4 #[.val (.int p1)] []))
    obtain ⟨T2, X2, e2, st2⟩ := getS2 X0 hx hZ hown (host := "") (Or.inl (hw _ (List.mem_of_getElem? (i := 4) rfl))) Via.refl e0 S_SATISFIED (g := (mkF m 4 #[.val (.int p1)] [])) rfl (hb hby d1_4)
    refine Go.step st2 ?_
    show Go p.tables e below _ (T2.setTop (mkF m 7 #[.val (.int p1)] [(.ref s_SATISFIED)]))
    obtain ⟨fs, hr, hrun, hended, hW, hsame⟩ := X2.leave (v := some (.ref s_SATISFIED)) (fun h => by rw [Bd.returns] at h; cases h)
    refine ⟨_, _, retOut X2 hx Bd.returns rfl (Or.inr (Or.inr (Or.inr (Or.inr ⟨rfl, rfl, rfl⟩)))) (hb hby d1_7) hr, hrun, hended, _, _, rfl, ?_, ⟨_, rfl⟩, hW, hsame.mono (by decide) (by decide)⟩
    show Qrm1 Z p1 s_SATISFIED s_OPTIMAL s_UNSATISFIABLE s_UNKNOWN h0 n0 _ T2.heap _
    rw [e2]
    refine ⟨?_, N0, rfl⟩
    have q : own_pick p1 s_SATISFIED s_OPTIMAL s_UNSATISFIABLE s_UNKNOWN = s_SATISFIED := by simp only [own_pick]; simp [hc1_1]
    rw [q]
  · refine Go.step (fun _ k => XS.ifYes X0.here hx rfl (pc0 := 1) (pc' := 8) rfl (hb hby d1_1) rfl ((if0 _ _).trans (feq hc1_1).2) (by decide) (by decide) k) ?_
    show Go p.tables e below _ (s₁.setTop (mkF m 8 #[.val (.int p1)] []))
    refine Go.step (fun _ k => XS.iloadN X0.here hx rfl (hb hby d1_8) rfl k) ?_
    show Go p.tables e below _ (s₁.setTop (mkF m 9 #[.val (.int p1)] [(.int p1)]))
    refine Go.step (fun _ k => XS.iconst X0.here hx rfl (hb hby d1_9) k) ?_
    show Go p.tables e below _ (s₁.setTop (mkF m 10 #[.val (.int p1)] [(.int (1 : Int32)), (.int p1)]))
    by_cases hc10_3 : p1 = (1 : Int32)
    · refine Go.step (fun _ k => XS.icmpNo X0.here hx rfl (hb hby d1_10) rfl (teq hc10_3).2 k) ?_
      show Go p.tables e below _ (s₁.setTop (mkF m 13 #[.val (.int p1)] []))
      obtain ⟨T4, X4, e4, st4⟩ := getS2 X0 hx hZ hown (host := "") (Or.inl (hw _ (List.mem_of_getElem? (i := 19) rfl))) Via.refl e0 S_OPTIMAL (g := (mkF m 13 #[.val (.int p1)] [])) rfl (hb hby d1_13)
      refine Go.step st4 ?_
      show Go p.tables e below _ (T4.setTop (mkF m 16 #[.val (.int p1)] [(.ref s_OPTIMAL)]))
      obtain ⟨fs, hr, hrun, hended, hW, hsame⟩ := X4.leave (v := some (.ref s_OPTIMAL)) (fun h => by rw [Bd.returns] at h; cases h)
      refine ⟨_, _, retOut X4 hx Bd.returns rfl (Or.inr (Or.inr (Or.inr (Or.inr ⟨rfl, rfl, rfl⟩)))) (hb hby d1_16) hr, hrun, hended, _, _, rfl, ?_, ⟨_, rfl⟩, hW, hsame.mono (by decide) (by decide)⟩
      show Qrm1 Z p1 s_SATISFIED s_OPTIMAL s_UNSATISFIABLE s_UNKNOWN h0 n0 _ T4.heap _
      rw [e4]
      refine ⟨?_, N0, rfl⟩
      have q : own_pick p1 s_SATISFIED s_OPTIMAL s_UNSATISFIABLE s_UNKNOWN = s_OPTIMAL := by simp only [own_pick]; simp [hc1_1, hc10_3]
      rw [q]
    · refine Go.step (fun _ k => XS.icmpYes X0.here hx rfl (pc0 := 10) (pc' := 17) rfl (hb hby d1_10) rfl (feq hc10_3).2 (by decide) (by decide) k) ?_
      show Go p.tables e below _ (s₁.setTop (mkF m 17 #[.val (.int p1)] []))
      refine Go.step (fun _ k => XS.iloadN X0.here hx rfl (hb hby d1_17) rfl k) ?_
      show Go p.tables e below _ (s₁.setTop (mkF m 18 #[.val (.int p1)] [(.int p1)]))
      refine Go.step (fun _ k => XS.iconst X0.here hx rfl (hb hby d1_18) k) ?_
      show Go p.tables e below _ (s₁.setTop (mkF m 19 #[.val (.int p1)] [(.int (2 : Int32)), (.int p1)]))
      by_cases hc19_5 : p1 = (2 : Int32)
      · refine Go.step (fun _ k => XS.icmpNo X0.here hx rfl (hb hby d1_19) rfl (teq hc19_5).2 k) ?_
        show Go p.tables e below _ (s₁.setTop (mkF m 22 #[.val (.int p1)] []))
        obtain ⟨T6, X6, e6, st6⟩ := getS2 X0 hx hZ hown (host := "") (Or.inl (hw _ (List.mem_of_getElem? (i := 17) rfl))) Via.refl e0 S_UNSATISFIABLE (g := (mkF m 22 #[.val (.int p1)] [])) rfl (hb hby d1_22)
        refine Go.step st6 ?_
        show Go p.tables e below _ (T6.setTop (mkF m 25 #[.val (.int p1)] [(.ref s_UNSATISFIABLE)]))
        obtain ⟨fs, hr, hrun, hended, hW, hsame⟩ := X6.leave (v := some (.ref s_UNSATISFIABLE)) (fun h => by rw [Bd.returns] at h; cases h)
        refine ⟨_, _, retOut X6 hx Bd.returns rfl (Or.inr (Or.inr (Or.inr (Or.inr ⟨rfl, rfl, rfl⟩)))) (hb hby d1_25) hr, hrun, hended, _, _, rfl, ?_, ⟨_, rfl⟩, hW, hsame.mono (by decide) (by decide)⟩
        show Qrm1 Z p1 s_SATISFIED s_OPTIMAL s_UNSATISFIABLE s_UNKNOWN h0 n0 _ T6.heap _
        rw [e6]
        refine ⟨?_, N0, rfl⟩
        have q : own_pick p1 s_SATISFIED s_OPTIMAL s_UNSATISFIABLE s_UNKNOWN = s_UNSATISFIABLE := by simp only [own_pick]; simp [hc1_1, hc10_3, hc19_5]
        rw [q]
      · refine Go.step (fun _ k => XS.icmpYes X0.here hx rfl (pc0 := 19) (pc' := 26) rfl (hb hby d1_19) rfl (feq hc19_5).2 (by decide) (by decide) k) ?_
        show Go p.tables e below _ (s₁.setTop (mkF m 26 #[.val (.int p1)] []))
        obtain ⟨T7, X7, e7, st7⟩ := getS2 X0 hx hZ hown (host := "") (Or.inl (hw _ (List.mem_of_getElem? (i := 13) rfl))) Via.refl e0 S_UNKNOWN (g := (mkF m 26 #[.val (.int p1)] [])) rfl (hb hby d1_26)
        refine Go.step st7 ?_
        show Go p.tables e below _ (T7.setTop (mkF m 29 #[.val (.int p1)] [(.ref s_UNKNOWN)]))
        obtain ⟨fs, hr, hrun, hended, hW, hsame⟩ := X7.leave (v := some (.ref s_UNKNOWN)) (fun h => by rw [Bd.returns] at h; cases h)
        refine ⟨_, _, retOut X7 hx Bd.returns rfl (Or.inr (Or.inr (Or.inr (Or.inr ⟨rfl, rfl, rfl⟩)))) (hb hby d1_29) hr, hrun, hended, _, _, rfl, ?_, ⟨_, rfl⟩, hW, hsame.mono (by decide) (by decide)⟩
        show Qrm1 Z p1 s_SATISFIED s_OPTIMAL s_UNSATISFIABLE s_UNKNOWN h0 n0 _ T7.heap _
        rw [e7]
        refine ⟨?_, N0, rfl⟩
        have q : own_pick p1 s_SATISFIED s_OPTIMAL s_UNSATISFIABLE s_UNKNOWN = s_UNKNOWN := by simp only [own_pick]; simp [hc1_1, hc10_3, hc19_5]
        rw [q]
theorem pn_1 : plainName "com/example/pech_david/pechdavid/model/Status" = true := by first | (simp [plainName, overriddenIn]; done) | decide +kernel
theorem d2_0 : decode prog_131_method_4_code 0 = .ok (.aload_n 0, 1) := by decide +kernel
theorem d2_1 : decode prog_131_method_4_code 1 = .ok (.getstatic 3, 3) := by decide +kernel
theorem d2_4 : decode prog_131_method_4_code 4 = .ok (.if_acmp .eq 10, 3) := by decide +kernel
theorem d2_7 : decode prog_131_method_4_code 7 = .ok (.aload_n 0, 1) := by decide +kernel
theorem d2_8 : decode prog_131_method_4_code 8 = .ok (.getstatic 7, 3) := by decide +kernel
theorem d2_11 : decode prog_131_method_4_code 11 = .ok (.if_acmp .ne 7, 3) := by decide +kernel
theorem d2_14 : decode prog_131_method_4_code 14 = .ok (.iconst 1, 1) := by decide +kernel
theorem d2_15 : decode prog_131_method_4_code 15 = .ok (.goto 4, 3) := by decide +kernel
theorem d2_18 : decode prog_131_method_4_code 18 = .ok (.iconst 0, 1) := by decide +kernel
theorem d2_19 : decode prog_131_method_4_code 19 = .ok (.ireturn, 1) := by decide +kernel
theorem ef_rm2 (m : MethodId) (a1 : Addr) (s_SATISFIED : Addr) (s_OPTIMAL : Addr) : entryFrame m #[(.ref a1)] 1 = mkF m 0 #[.val (.ref a1)] [] := by first | (simp [entryFrame, mkF, argsToLocals, Value.category]; done) | rfl
def Qrm2 (Z : State) (a1 : Addr) (s_SATISFIED : Addr) (s_OPTIMAL : Addr) (h0 : Heap) (n0 : Nat) (v : Option Value) (h : Heap) (L : List Loc) : Prop := v = some (.int (own_hv a1 s_SATISFIED s_OPTIMAL)) ∧ Fr n0 L ∧ h = h0
set_option maxRecDepth 65536 in
set_option maxHeartbeats 40000000 in
theorem rm2 (l : Launch) (Z : State) (a0 : Array Value) (hw : ∀ d ∈ tables_1, d.before a0 Z = true) (ws : List Jvm.Cond) (a1 : Addr) (s_SATISFIED : Addr) (s_OPTIMAL : Addr) (h0 : Heap) (n0 : Nat) (Z0 : n0 ≤ h0.size) (S_SATISFIED : Sta Z h0 "com/example/pech_david/pechdavid/model/Status" "SATISFIED" "Lcom/example/pech_david/pechdavid/model/Status;" (.ref s_SATISFIED)) (S_OPTIMAL : Sta Z h0 "com/example/pech_david/pechdavid/model/Status" "OPTIMAL" "Lcom/example/pech_david/pechdavid/model/Status;" (.ref s_OPTIMAL)) :
    MetFree l (⟨"com/example/pech_david/pechdavid/model/Status", "hasValues", "()Z"⟩ : MethodName) (head1 (Jvm.Cond.code (⟨"com/example/pech_david/pechdavid/model/Status", "hasValues", "()Z"⟩ : MethodName) prog_131_method_4_code 1 (some .boolean) :: ws) ({ frames := 0, cells := 0, slots := 0, locals := 0 } : Room)) (fun a U => a = #[(.ref a1)] ∧ Z.Warmed39 U.vm ∧ U.heap = h0) (fun _ _ _ _ _ => True) (fun _ U o U' => ∃ v L, o = .returned v ∧ Qrm2 Z a1 s_SATISFIED s_OPTIMAL h0 n0 v U'.heap L ∧ FrameEnd U o U' L ({ frames := 0, cells := 0, slots := 0, locals := 0 } : Room).cells ({ frames := 0, cells := 0, slots := 0, locals := 0 } : Room).slots) := by
  refine MetFree.of_bodySF (plainFor_of_name pn_1) hisR ?_
  intro p e s m args below meth c s₁ Bd hml0 hP hK
  obtain ⟨rfl, hZ, hh⟩ := hP
  have hx := Bd.exec
  have hby := Bd.bytes
  have hml : c.maxLocals = 1 := hml0
  have hown : s.vm.findClass "com/example/pech_david/pechdavid/model/Status" = some m.cls := findClass_of_methodNamed Bd.named
  have hnm := (name_of_methodNamed Bd.named Bd.method).1
  have X0 : Stand p l e ({ frames := 0, cells := 0, slots := 0, locals := 0 } : Room) s m #[(.ref a1)] below meth c s₁ [] 0 0 := Stand.of_body Bd
  have e0 : s₁.heap = h0 := by rw [← hh, Bd.state]; rfl
  have N0 := Fr.nil n0
  show Go p.tables e below (fun o U' => ∃ v L, o = .returned v ∧ Qrm2 Z a1 s_SATISFIED s_OPTIMAL h0 n0 v U'.heap L ∧ FrameEnd s o U' L ({ frames := 0, cells := 0, slots := 0, locals := 0 } : Room).cells ({ frames := 0, cells := 0, slots := 0, locals := 0 } : Room).slots) _
  refine Go.step (fun t k => castTop (ef_rm2 m a1 s_SATISFIED s_OPTIMAL) k) ?_
  show Go p.tables e below _ (s₁.setTop (mkF m 0 #[.val (.ref a1)] []))
  refine Go.step (fun _ k => XS.aloadN X0.here hx rfl (hb hby d2_0) rfl rfl k) ?_
  show Go p.tables e below _ (s₁.setTop (mkF m 1 #[.val (.ref a1)] [(.ref a1)]))
  obtain ⟨T1, X1, e1, st1⟩ := getS2 X0 hx hZ hown (host := "") (Or.inl (hw _ (List.mem_of_getElem? (i := 12) rfl))) Via.refl e0 S_SATISFIED (g := (mkF m 1 #[.val (.ref a1)] [(.ref a1)])) rfl (hb hby d2_1)
  refine Go.step st1 ?_
  show Go p.tables e below _ (T1.setTop (mkF m 4 #[.val (.ref a1)] [(.ref s_SATISFIED), (.ref a1)]))
  by_cases hc4_2 : a1 = s_SATISFIED
  · refine Go.step (fun _ k => Jvm.RoadKit.acmp (g := (mkF m 4 #[.val (.ref a1)] [(.ref s_SATISFIED), (.ref a1)])) X1 hx rfl rfl rfl (pc0 := 4) (pc' := 14) (same := true) rfl (hb hby d2_4) rfl (decide_eq_true (congrArg Value.ref hc4_2)) (by decide) (by decide) k) ?_
    show Go p.tables e below _ (T1.setTop (mkF m 14 #[.val (.ref a1)] []))
    refine Go.step (fun _ k => XS.iconst X1.here hx rfl (hb hby d2_14) k) ?_
    show Go p.tables e below _ (T1.setTop (mkF m 15 #[.val (.ref a1)] [(.int (1 : Int32))]))
    refine Go.step (fun _ k => XS.goto X1.here hx rfl (pc0 := 15) (pc' := 19) rfl (hb hby d2_15) (by decide) (by decide) k) ?_
    show Go p.tables e below _ (T1.setTop (mkF m 19 #[.val (.ref a1)] [(.int (1 : Int32))]))
    obtain ⟨fs, hr, hrun, hended, hW, hsame⟩ := X1.leave (v := some (.int (1 : Int32))) (fun h => by rw [Bd.returns] at h; cases h)
    refine ⟨_, _, retN X1 hx (t := .boolean) Bd.returns (by simp) (hb hby d2_19) hr, hrun, hended, _, _, rfl, ?_, ⟨_, rfl⟩, hW, hsame.mono (by decide) (by decide)⟩
    show Qrm2 Z a1 s_SATISFIED s_OPTIMAL h0 n0 _ T1.heap _
    rw [e1]
    refine ⟨?_, N0, rfl⟩
    have q : own_hv a1 s_SATISFIED s_OPTIMAL = (1 : Int32) := by simp only [own_hv]; simp [hc4_2]
    rw [q]
  · refine Go.step (fun _ k => Jvm.RoadKit.acmp (g := (mkF m 4 #[.val (.ref a1)] [(.ref s_SATISFIED), (.ref a1)])) X1 hx rfl rfl rfl (pc0 := 4) (pc' := 7) (same := false) rfl (hb hby d2_4) rfl (decide_eq_false fun q => hc4_2 (Value.ref.inj q)) (by decide) (by decide) k) ?_
    show Go p.tables e below _ (T1.setTop (mkF m 7 #[.val (.ref a1)] []))
    refine Go.step (fun _ k => XS.aloadN X1.here hx rfl (hb hby d2_7) rfl rfl k) ?_
    show Go p.tables e below _ (T1.setTop (mkF m 8 #[.val (.ref a1)] [(.ref a1)]))
    obtain ⟨T3, X3, e3, st3⟩ := getS2 X1 hx hZ hown (host := "") (Or.inl (hw _ (List.mem_of_getElem? (i := 15) rfl))) Via.refl e1 S_OPTIMAL (g := (mkF m 8 #[.val (.ref a1)] [(.ref a1)])) rfl (hb hby d2_8)
    refine Go.step st3 ?_
    show Go p.tables e below _ (T3.setTop (mkF m 11 #[.val (.ref a1)] [(.ref s_OPTIMAL), (.ref a1)]))
    by_cases hc11_4 : a1 = s_OPTIMAL
    · refine Go.step (fun _ k => Jvm.RoadKit.acmp (g := (mkF m 11 #[.val (.ref a1)] [(.ref s_OPTIMAL), (.ref a1)])) X3 hx rfl rfl rfl (pc0 := 11) (pc' := 14) (same := true) rfl (hb hby d2_11) rfl (decide_eq_true (congrArg Value.ref hc11_4)) (by decide) (by decide) k) ?_
      show Go p.tables e below _ (T3.setTop (mkF m 14 #[.val (.ref a1)] []))
      refine Go.step (fun _ k => XS.iconst X3.here hx rfl (hb hby d2_14) k) ?_
      show Go p.tables e below _ (T3.setTop (mkF m 15 #[.val (.ref a1)] [(.int (1 : Int32))]))
      refine Go.step (fun _ k => XS.goto X3.here hx rfl (pc0 := 15) (pc' := 19) rfl (hb hby d2_15) (by decide) (by decide) k) ?_
      show Go p.tables e below _ (T3.setTop (mkF m 19 #[.val (.ref a1)] [(.int (1 : Int32))]))
      obtain ⟨fs, hr, hrun, hended, hW, hsame⟩ := X3.leave (v := some (.int (1 : Int32))) (fun h => by rw [Bd.returns] at h; cases h)
      refine ⟨_, _, retN X3 hx (t := .boolean) Bd.returns (by simp) (hb hby d2_19) hr, hrun, hended, _, _, rfl, ?_, ⟨_, rfl⟩, hW, hsame.mono (by decide) (by decide)⟩
      show Qrm2 Z a1 s_SATISFIED s_OPTIMAL h0 n0 _ T3.heap _
      rw [e3]
      refine ⟨?_, N0, rfl⟩
      have q : own_hv a1 s_SATISFIED s_OPTIMAL = (1 : Int32) := by simp only [own_hv]; simp [hc4_2, hc11_4]
      rw [q]
    · refine Go.step (fun _ k => Jvm.RoadKit.acmp (g := (mkF m 11 #[.val (.ref a1)] [(.ref s_OPTIMAL), (.ref a1)])) X3 hx rfl rfl rfl (pc0 := 11) (pc' := 18) (same := false) rfl (hb hby d2_11) rfl (decide_eq_false fun q => hc11_4 (Value.ref.inj q)) (by decide) (by decide) k) ?_
      show Go p.tables e below _ (T3.setTop (mkF m 18 #[.val (.ref a1)] []))
      refine Go.step (fun _ k => XS.iconst X3.here hx rfl (hb hby d2_18) k) ?_
      show Go p.tables e below _ (T3.setTop (mkF m 19 #[.val (.ref a1)] [(.int (0 : Int32))]))
      obtain ⟨fs, hr, hrun, hended, hW, hsame⟩ := X3.leave (v := some (.int (0 : Int32))) (fun h => by rw [Bd.returns] at h; cases h)
      refine ⟨_, _, retN X3 hx (t := .boolean) Bd.returns (by simp) (hb hby d2_19) hr, hrun, hended, _, _, rfl, ?_, ⟨_, rfl⟩, hW, hsame.mono (by decide) (by decide)⟩
      show Qrm2 Z a1 s_SATISFIED s_OPTIMAL h0 n0 _ T3.heap _
      rw [e3]
      refine ⟨?_, N0, rfl⟩
      have q : own_hv a1 s_SATISFIED s_OPTIMAL = (0 : Int32) := by simp only [own_hv]; simp [hc4_2, hc11_4]
      rw [q]
theorem pd_0 : parseMethodDescriptor "(I)Lcom/example/pech_david/pechdavid/model/Status;" = some ⟨[.int], some (.object "com/example/pech_david/pechdavid/model/Status")⟩ := by decide +kernel
theorem pd_1 : parseMethodDescriptor "()Z" = some ⟨[], some .boolean⟩ := by decide +kernel
theorem ef_rm0 (m : MethodId) (p1 : Int32) (s_SATISFIED : Addr) (s_OPTIMAL : Addr) (s_UNSATISFIABLE : Addr) (s_UNKNOWN : Addr) : entryFrame m #[(.int p1)] maxLocals = mkF m 0 #[.val (.int p1), .unset, .unset, .unset] [] := by first | (simp [entryFrame, mkF, argsToLocals, Value.category, maxLocals]; done) | rfl
def Qrm0 (Z : State) (p1 : Int32) (s_SATISFIED : Addr) (s_OPTIMAL : Addr) (s_UNSATISFIABLE : Addr) (s_UNKNOWN : Addr) (h0 : Heap) (n0 : Nat) (v : Option Value) (h : Heap) (L : List Loc) : Prop := v = some (.int 1) ∧ Fr n0 L
set_option maxRecDepth 65536 in
set_option maxHeartbeats 40000000 in
theorem rm0 (l : Launch) (Z : State) (a0 : Array Value) (hw : ∀ d ∈ tables_1, d.before a0 Z = true) (ws : List Jvm.Cond) (p1 : Int32) (s_SATISFIED : Addr) (s_OPTIMAL : Addr) (s_UNSATISFIABLE : Addr) (s_UNKNOWN : Addr) (h0 : Heap) (n0 : Nat) (Z0 : n0 ≤ h0.size) (S_SATISFIED : Sta Z h0 "com/example/pech_david/pechdavid/model/Status" "SATISFIED" "Lcom/example/pech_david/pechdavid/model/Status;" (.ref s_SATISFIED)) (E_SATISFIED : Exa Z h0 s_SATISFIED "com/example/pech_david/pechdavid/model/Status") (F_SATISFIED_ordinal : Fld Z h0 s_SATISFIED "java/lang/Enum" "ordinal" "I" (.int (0 : Int32))) (S_OPTIMAL : Sta Z h0 "com/example/pech_david/pechdavid/model/Status" "OPTIMAL" "Lcom/example/pech_david/pechdavid/model/Status;" (.ref s_OPTIMAL)) (E_OPTIMAL : Exa Z h0 s_OPTIMAL "com/example/pech_david/pechdavid/model/Status") (F_OPTIMAL_ordinal : Fld Z h0 s_OPTIMAL "java/lang/Enum" "ordinal" "I" (.int (1 : Int32))) (S_UNSATISFIABLE : Sta Z h0 "com/example/pech_david/pechdavid/model/Status" "UNSATISFIABLE" "Lcom/example/pech_david/pechdavid/model/Status;" (.ref s_UNSATISFIABLE)) (E_UNSATISFIABLE : Exa Z h0 s_UNSATISFIABLE "com/example/pech_david/pechdavid/model/Status") (F_UNSATISFIABLE_ordinal : Fld Z h0 s_UNSATISFIABLE "java/lang/Enum" "ordinal" "I" (.int (2 : Int32))) (S_UNKNOWN : Sta Z h0 "com/example/pech_david/pechdavid/model/Status" "UNKNOWN" "Lcom/example/pech_david/pechdavid/model/Status;" (.ref s_UNKNOWN)) (E_UNKNOWN : Exa Z h0 s_UNKNOWN "com/example/pech_david/pechdavid/model/Status") (F_UNKNOWN_ordinal : Fld Z h0 s_UNKNOWN "java/lang/Enum" "ordinal" "I" (.int (3 : Int32))) :
    MetFree l x (head1 (Jvm.Cond.code x code maxLocals ret :: ws) room_1) (fun a U => a = #[(.int p1)] ∧ Z.Warmed39 U.vm ∧ U.heap = h0) (fun _ _ _ _ _ => True) (fun _ U o U' => ∃ v L, o = .returned v ∧ Qrm0 Z p1 s_SATISFIED s_OPTIMAL s_UNSATISFIABLE s_UNKNOWN h0 n0 v U'.heap L ∧ FrameEnd U o U' L room_1.cells room_1.slots) := by
  refine MetFree.of_bodySF (plainFor_of_name pn_0) hisR ?_
  intro p e s m args below meth c s₁ Bd hml0 hP hK
  obtain ⟨rfl, hZ, hh⟩ := hP
  have hx := Bd.exec
  have hby := Bd.bytes
  have hml : c.maxLocals = 4 := hml0
  have hown : s.vm.findClass "com/example/pech_david/pechdavid/model/StatusHasValuesPinLaw" = some m.cls := findClass_of_methodNamed Bd.named
  have hnm := (name_of_methodNamed Bd.named Bd.method).1
  have X0 : Stand p l e room_1 s m #[(.int p1)] below meth c s₁ [] 0 0 := Stand.of_body Bd
  have e0 : s₁.heap = h0 := by rw [← hh, Bd.state]; rfl
  have N0 := Fr.nil n0
  show Go p.tables e below (fun o U' => ∃ v L, o = .returned v ∧ Qrm0 Z p1 s_SATISFIED s_OPTIMAL s_UNSATISFIABLE s_UNKNOWN h0 n0 v U'.heap L ∧ FrameEnd s o U' L room_1.cells room_1.slots) _
  refine Go.step (fun t k => castTop (ef_rm0 m p1 s_SATISFIED s_OPTIMAL s_UNSATISFIABLE s_UNKNOWN) k) ?_
  show Go p.tables e below _ (s₁.setTop (mkF m 0 #[.val (.int p1), .unset, .unset, .unset] []))
  have ne_1_0 : s_OPTIMAL ≠ s_SATISFIED := F_OPTIMAL_ordinal.ne F_SATISFIED_ordinal (by decide)
  have ne_2_0 : s_UNSATISFIABLE ≠ s_SATISFIED := F_UNSATISFIABLE_ordinal.ne F_SATISFIED_ordinal (by decide)
  have ne_2_1 : s_UNSATISFIABLE ≠ s_OPTIMAL := F_UNSATISFIABLE_ordinal.ne F_OPTIMAL_ordinal (by decide)
  have ne_3_0 : s_UNKNOWN ≠ s_SATISFIED := F_UNKNOWN_ordinal.ne F_SATISFIED_ordinal (by decide)
  have ne_3_1 : s_UNKNOWN ≠ s_OPTIMAL := F_UNKNOWN_ordinal.ne F_OPTIMAL_ordinal (by decide)
  have ne_3_2 : s_UNKNOWN ≠ s_UNSATISFIABLE := F_UNKNOWN_ordinal.ne F_UNSATISFIABLE_ordinal (by decide)
  refine Go.step (fun _ k => XS.iloadN X0.here hx rfl (hb hby at_0) rfl k) ?_
  show Go p.tables e below _ (s₁.setTop (mkF m 1 #[.val (.int p1), .unset, .unset, .unset] [(.int p1)]))
  refine Go.step (fun _ k => XS.iconst X0.here hx rfl (hb hby at_1) k) ?_
  show Go p.tables e below _ (s₁.setTop (mkF m 2 #[.val (.int p1), .unset, .unset, .unset] [(.int (3 : Int32)), (.int p1)]))
  refine Go.step (fun _ k => XS.iand X0.here hx rfl (hb hby at_2) rfl k) ?_
  show Go p.tables e below _ (s₁.setTop (mkF m 3 #[.val (.int p1), .unset, .unset, .unset] [(.int (p1 &&& (3 : Int32)))]))
  refine Go.step (fun _ k => XS.istoreN X0.here hx rfl (hb hby at_3) rfl (l' := #[.val (.int p1), .val (.int (p1 &&& (3 : Int32))), .unset, .unset]) rfl k) ?_
  show Go p.tables e below _ (s₁.setTop (mkF m 4 #[.val (.int p1), .val (.int (p1 &&& (3 : Int32))), .unset, .unset] []))
  rcases own_and3 p1 with hk | hk | hk | hk
  · rw [hk]
    show Go p.tables e below _ (s₁.setTop (mkF m 4 #[.val (.int p1), .val (.int (0 : Int32)), .unset, .unset] []))
    refine Go.step (fun _ k => XS.iloadN X0.here hx rfl (hb hby at_4) rfl k) ?_
    show Go p.tables e below _ (s₁.setTop (mkF m 5 #[.val (.int p1), .val (.int (0 : Int32)), .unset, .unset] [(.int (0 : Int32))]))
    obtain ⟨_, _, ⟨T1, L1, k1, n1⟩, -, X1, ⟨Lc1, hQ1, l1, y1, z1⟩, st1⟩ := Jvm.LawKit.callS X0 hx (y := (⟨"com/example/pech_david/pechdavid/model/StatusHasValuesPinLaw", "pick", "(I)Lcom/example/pech_david/pechdavid/model/Status;"⟩ : MethodName)) hown (mvT hZ (hw _ (List.mem_of_getElem? (i := 0) rfl))) (mvT hZ (hw _ (List.mem_of_getElem? (i := 1) rfl))) (mvT hZ (hw _ (List.mem_of_getElem? (i := 2) rfl))) (mvT hZ (hw _ (List.mem_of_getElem? (i := 3) rfl))) (by decide) (backOf (W := 0) (rm1 l Z a0 hw [] (0 : Int32) s_SATISFIED s_OPTIMAL s_UNSATISFIABLE s_UNKNOWN h0 n0 Z0 S_SATISFIED S_OPTIMAL S_UNSATISFIABLE S_UNKNOWN ) hZ (hw _ (List.mem_of_getElem? (i := 3) rfl)) (hw _ (List.mem_of_getElem? (i := 2) rfl)) (by decide) (by decide)) (g := (mkF m 5 #[.val (.int p1), .val (.int (0 : Int32)), .unset, .unset] [(.int (0 : Int32))])) rfl (by rw [hml]; rfl) (argsL := [(.int (0 : Int32))]) (rest := []) (lenOf pd_0 rfl) rfl (by show 2 * 0 + _ ≤ _; exact Nat.le_of_eq rfl) (hb hby at_5) (fun _ _ => ⟨rfl, e0, (by decide : 0 + 0 ≤ _), (by decide : 0 + 0 ≤ _)⟩)
    dsimp only [Pt.U, Pt.locs, Pt.cells, Pt.slots] at X1 l1 y1 z1 st1 hQ1
    subst l1 y1 z1
    obtain ⟨rfl, N1q, eh1⟩ := hQ1
    have N1 := Fr.app N0 N1q
    refine Go.step st1 ?_
    show Go p.tables e below _ (T1.setTop (mkF m 8 #[.val (.int p1), .val (.int (0 : Int32)), .unset, .unset] [(.ref (own_pick (0 : Int32) s_SATISFIED s_OPTIMAL s_UNSATISFIABLE s_UNKNOWN))]))
    have q2 : (own_pick (0 : Int32) s_SATISFIED s_OPTIMAL s_UNSATISFIABLE s_UNKNOWN) = s_SATISFIED := rfl
    rw [q2]
    show Go p.tables e below _ (T1.setTop (mkF m 8 #[.val (.int p1), .val (.int (0 : Int32)), .unset, .unset] [(.ref s_SATISFIED)]))
    refine Go.step (fun _ k => XS.astoreN X1.here hx rfl (hb hby at_8) rfl rfl (l' := #[.val (.int p1), .val (.int (0 : Int32)), .val (.ref s_SATISFIED), .unset]) rfl k) ?_
    show Go p.tables e below _ (T1.setTop (mkF m 9 #[.val (.int p1), .val (.int (0 : Int32)), .val (.ref s_SATISFIED), .unset] []))
    refine Go.step (fun _ k => XS.iloadN X1.here hx rfl (hb hby at_9) rfl k) ?_
    show Go p.tables e below _ (T1.setTop (mkF m 10 #[.val (.int p1), .val (.int (0 : Int32)), .val (.ref s_SATISFIED), .unset] [(.int (0 : Int32))]))
    refine Go.step (fun _ k => XS.ifYes X1.here hx rfl (pc0 := 10) (pc' := 18) rfl (hb hby at_10) rfl ((if0 _ _).trans (teq (by decide : (0 : Int32) = (0 : Int32))).1) (by decide) (by decide) k) ?_
    show Go p.tables e below _ (T1.setTop (mkF m 18 #[.val (.int p1), .val (.int (0 : Int32)), .val (.ref s_SATISFIED), .unset] []))
    refine Go.step (fun _ k => XS.iconst X1.here hx rfl (hb hby at_18) k) ?_
    show Go p.tables e below _ (T1.setTop (mkF m 19 #[.val (.int p1), .val (.int (0 : Int32)), .val (.ref s_SATISFIED), .unset] [(.int (1 : Int32))]))
    refine Go.step (fun _ k => XS.goto X1.here hx rfl (pc0 := 19) (pc' := 23) rfl (hb hby at_19) (by decide) (by decide) k) ?_
    show Go p.tables e below _ (T1.setTop (mkF m 23 #[.val (.int p1), .val (.int (0 : Int32)), .val (.ref s_SATISFIED), .unset] [(.int (1 : Int32))]))
    refine Go.step (fun _ k => XS.istoreN X1.here hx rfl (hb hby at_23) rfl (l' := #[.val (.int p1), .val (.int (0 : Int32)), .val (.ref s_SATISFIED), .val (.int (1 : Int32))]) rfl k) ?_
    show Go p.tables e below _ (T1.setTop (mkF m 24 #[.val (.int p1), .val (.int (0 : Int32)), .val (.ref s_SATISFIED), .val (.int (1 : Int32))] []))
    refine Go.step (fun _ k => XS.aloadN X1.here hx rfl (hb hby at_24) rfl rfl k) ?_
    show Go p.tables e below _ (T1.setTop (mkF m 25 #[.val (.int p1), .val (.int (0 : Int32)), .val (.ref s_SATISFIED), .val (.int (1 : Int32))] [(.ref s_SATISFIED)]))
    obtain ⟨cq3, kq3, q3a, q3b, q3c⟩ := isOf hZ eh1 E_SATISFIED
    obtain ⟨_, _, ⟨T3, L3, k3, n3⟩, -, X3, ⟨Lc3, hQ3, l3, y3, z3⟩, st3⟩ := X1.virtualBack hx (y := (⟨"com/example/pech_david/pechdavid/model/Status", "hasValues", "()Z"⟩ : MethodName)) (z := (⟨"com/example/pech_david/pechdavid/model/Status", "hasValues", "()Z"⟩ : MethodName)) hown (mvT hZ (hw _ (List.mem_of_getElem? (i := 7) rfl))) (mvT hZ (hw _ (List.mem_of_getElem? (i := 8) rfl))) (notFace_of_selects (args := #[]) (mvT hZ (hw _ (List.mem_of_getElem? (i := 10) rfl)))) (mvT hZ (hw _ (List.mem_of_getElem? (i := 10) rfl))) (mvT hZ (hw _ (List.mem_of_getElem? (i := 9) rfl))) (by decide) (backOf (W := 0) (rm2 l Z a0 hw [] s_SATISFIED s_SATISFIED s_OPTIMAL h0 n0 Z0 S_SATISFIED S_OPTIMAL ) hZ (hw _ (List.mem_of_getElem? (i := 11) rfl)) (hw _ (List.mem_of_getElem? (i := 5) rfl)) (by decide) (by decide)) q3a q3c (g := (mkF m 25 #[.val (.int p1), .val (.int (0 : Int32)), .val (.ref s_SATISFIED), .val (.int (1 : Int32))] [(.ref s_SATISFIED)])) rfl (by rw [hml]; rfl) (Steps.refl _) (argsL := []) (rest := []) (lenOf pd_1 rfl) rfl (by show 2 * 0 + _ ≤ _; exact Nat.le_of_eq rfl) (hb hby at_25) (fun _ _ => ⟨rfl, eh1, (by decide : 0 + 0 ≤ _), (by decide : 0 + 0 ≤ _)⟩)
    dsimp only [Pt.U, Pt.locs, Pt.cells, Pt.slots] at X3 l3 y3 z3 st3 hQ3
    subst l3 y3 z3
    obtain ⟨rfl, N3q, eh3⟩ := hQ3
    have N3 := Fr.app N1 N3q
    refine Go.step (fun _ k => st3.trans k) ?_
    show Go p.tables e below _ (T3.setTop (mkF m 28 #[.val (.int p1), .val (.int (0 : Int32)), .val (.ref s_SATISFIED), .val (.int (1 : Int32))] [(.int (own_hv s_SATISFIED s_SATISFIED s_OPTIMAL))]))
    have q4 : (own_hv s_SATISFIED s_SATISFIED s_OPTIMAL) = (1 : Int32) := by simp [own_hv]
    rw [q4]
    show Go p.tables e below _ (T3.setTop (mkF m 28 #[.val (.int p1), .val (.int (0 : Int32)), .val (.ref s_SATISFIED), .val (.int (1 : Int32))] [(.int (1 : Int32))]))
    refine Go.step (fun _ k => XS.iloadN X3.here hx rfl (hb hby at_28) rfl k) ?_
    show Go p.tables e below _ (T3.setTop (mkF m 29 #[.val (.int p1), .val (.int (0 : Int32)), .val (.ref s_SATISFIED), .val (.int (1 : Int32))] [(.int (1 : Int32)), (.int (1 : Int32))]))
    refine Go.step (fun _ k => XS.icmpNo X3.here hx rfl (hb hby at_29) rfl (teq (by decide : (1 : Int32) = (1 : Int32))).2 k) ?_
    show Go p.tables e below _ (T3.setTop (mkF m 32 #[.val (.int p1), .val (.int (0 : Int32)), .val (.ref s_SATISFIED), .val (.int (1 : Int32))] []))
    refine Go.step (fun _ k => XS.iconst X3.here hx rfl (hb hby at_32) k) ?_
    show Go p.tables e below _ (T3.setTop (mkF m 33 #[.val (.int p1), .val (.int (0 : Int32)), .val (.ref s_SATISFIED), .val (.int (1 : Int32))] [(.int (1 : Int32))]))
    refine Go.step (fun _ k => XS.goto X3.here hx rfl (pc0 := 33) (pc' := 37) rfl (hb hby at_33) (by decide) (by decide) k) ?_
    show Go p.tables e below _ (T3.setTop (mkF m 37 #[.val (.int p1), .val (.int (0 : Int32)), .val (.ref s_SATISFIED), .val (.int (1 : Int32))] [(.int (1 : Int32))]))
    obtain ⟨fs, hr, hrun, hended, hW, hsame⟩ := X3.leave (v := some (.int (1 : Int32))) (fun h => by rw [Bd.returns] at h; cases h)
    refine ⟨_, _, retN X3 hx (t := .boolean) Bd.returns (by simp) (hb hby at_37) hr, hrun, hended, _, _, rfl, ?_, ⟨_, rfl⟩, hW, hsame.mono (by decide) (by decide)⟩
    show Qrm0 Z p1 s_SATISFIED s_OPTIMAL s_UNSATISFIABLE s_UNKNOWN h0 n0 _ T3.heap _
    rw [eh3]
    exact ⟨rfl, N3⟩
  · rw [hk]
    show Go p.tables e below _ (s₁.setTop (mkF m 4 #[.val (.int p1), .val (.int (1 : Int32)), .unset, .unset] []))
    refine Go.step (fun _ k => XS.iloadN X0.here hx rfl (hb hby at_4) rfl k) ?_
    show Go p.tables e below _ (s₁.setTop (mkF m 5 #[.val (.int p1), .val (.int (1 : Int32)), .unset, .unset] [(.int (1 : Int32))]))
    obtain ⟨_, _, ⟨T5, L5, k5, n5⟩, -, X5, ⟨Lc5, hQ5, l5, y5, z5⟩, st5⟩ := Jvm.LawKit.callS X0 hx (y := (⟨"com/example/pech_david/pechdavid/model/StatusHasValuesPinLaw", "pick", "(I)Lcom/example/pech_david/pechdavid/model/Status;"⟩ : MethodName)) hown (mvT hZ (hw _ (List.mem_of_getElem? (i := 0) rfl))) (mvT hZ (hw _ (List.mem_of_getElem? (i := 1) rfl))) (mvT hZ (hw _ (List.mem_of_getElem? (i := 2) rfl))) (mvT hZ (hw _ (List.mem_of_getElem? (i := 3) rfl))) (by decide) (backOf (W := 0) (rm1 l Z a0 hw [] (1 : Int32) s_SATISFIED s_OPTIMAL s_UNSATISFIABLE s_UNKNOWN h0 n0 Z0 S_SATISFIED S_OPTIMAL S_UNSATISFIABLE S_UNKNOWN ) hZ (hw _ (List.mem_of_getElem? (i := 3) rfl)) (hw _ (List.mem_of_getElem? (i := 2) rfl)) (by decide) (by decide)) (g := (mkF m 5 #[.val (.int p1), .val (.int (1 : Int32)), .unset, .unset] [(.int (1 : Int32))])) rfl (by rw [hml]; rfl) (argsL := [(.int (1 : Int32))]) (rest := []) (lenOf pd_0 rfl) rfl (by show 2 * 0 + _ ≤ _; exact Nat.le_of_eq rfl) (hb hby at_5) (fun _ _ => ⟨rfl, e0, (by decide : 0 + 0 ≤ _), (by decide : 0 + 0 ≤ _)⟩)
    dsimp only [Pt.U, Pt.locs, Pt.cells, Pt.slots] at X5 l5 y5 z5 st5 hQ5
    subst l5 y5 z5
    obtain ⟨rfl, N5q, eh5⟩ := hQ5
    have N5 := Fr.app N0 N5q
    refine Go.step st5 ?_
    show Go p.tables e below _ (T5.setTop (mkF m 8 #[.val (.int p1), .val (.int (1 : Int32)), .unset, .unset] [(.ref (own_pick (1 : Int32) s_SATISFIED s_OPTIMAL s_UNSATISFIABLE s_UNKNOWN))]))
    have q6 : (own_pick (1 : Int32) s_SATISFIED s_OPTIMAL s_UNSATISFIABLE s_UNKNOWN) = s_OPTIMAL := rfl
    rw [q6]
    show Go p.tables e below _ (T5.setTop (mkF m 8 #[.val (.int p1), .val (.int (1 : Int32)), .unset, .unset] [(.ref s_OPTIMAL)]))
    refine Go.step (fun _ k => XS.astoreN X5.here hx rfl (hb hby at_8) rfl rfl (l' := #[.val (.int p1), .val (.int (1 : Int32)), .val (.ref s_OPTIMAL), .unset]) rfl k) ?_
    show Go p.tables e below _ (T5.setTop (mkF m 9 #[.val (.int p1), .val (.int (1 : Int32)), .val (.ref s_OPTIMAL), .unset] []))
    refine Go.step (fun _ k => XS.iloadN X5.here hx rfl (hb hby at_9) rfl k) ?_
    show Go p.tables e below _ (T5.setTop (mkF m 10 #[.val (.int p1), .val (.int (1 : Int32)), .val (.ref s_OPTIMAL), .unset] [(.int (1 : Int32))]))
    refine Go.step (fun _ k => XS.ifNo X5.here hx rfl (hb hby at_10) rfl ((if0 _ _).trans (feq (by decide : ¬ ((1 : Int32) = (0 : Int32)))).1) k) ?_
    show Go p.tables e below _ (T5.setTop (mkF m 13 #[.val (.int p1), .val (.int (1 : Int32)), .val (.ref s_OPTIMAL), .unset] []))
    refine Go.step (fun _ k => XS.iloadN X5.here hx rfl (hb hby at_13) rfl k) ?_
    show Go p.tables e below _ (T5.setTop (mkF m 14 #[.val (.int p1), .val (.int (1 : Int32)), .val (.ref s_OPTIMAL), .unset] [(.int (1 : Int32))]))
    refine Go.step (fun _ k => XS.iconst X5.here hx rfl (hb hby at_14) k) ?_
    show Go p.tables e below _ (T5.setTop (mkF m 15 #[.val (.int p1), .val (.int (1 : Int32)), .val (.ref s_OPTIMAL), .unset] [(.int (1 : Int32)), (.int (1 : Int32))]))
    refine Go.step (fun _ k => XS.icmpNo X5.here hx rfl (hb hby at_15) rfl (teq (by decide : (1 : Int32) = (1 : Int32))).2 k) ?_
    show Go p.tables e below _ (T5.setTop (mkF m 18 #[.val (.int p1), .val (.int (1 : Int32)), .val (.ref s_OPTIMAL), .unset] []))
    refine Go.step (fun _ k => XS.iconst X5.here hx rfl (hb hby at_18) k) ?_
    show Go p.tables e below _ (T5.setTop (mkF m 19 #[.val (.int p1), .val (.int (1 : Int32)), .val (.ref s_OPTIMAL), .unset] [(.int (1 : Int32))]))
    refine Go.step (fun _ k => XS.goto X5.here hx rfl (pc0 := 19) (pc' := 23) rfl (hb hby at_19) (by decide) (by decide) k) ?_
    show Go p.tables e below _ (T5.setTop (mkF m 23 #[.val (.int p1), .val (.int (1 : Int32)), .val (.ref s_OPTIMAL), .unset] [(.int (1 : Int32))]))
    refine Go.step (fun _ k => XS.istoreN X5.here hx rfl (hb hby at_23) rfl (l' := #[.val (.int p1), .val (.int (1 : Int32)), .val (.ref s_OPTIMAL), .val (.int (1 : Int32))]) rfl k) ?_
    show Go p.tables e below _ (T5.setTop (mkF m 24 #[.val (.int p1), .val (.int (1 : Int32)), .val (.ref s_OPTIMAL), .val (.int (1 : Int32))] []))
    refine Go.step (fun _ k => XS.aloadN X5.here hx rfl (hb hby at_24) rfl rfl k) ?_
    show Go p.tables e below _ (T5.setTop (mkF m 25 #[.val (.int p1), .val (.int (1 : Int32)), .val (.ref s_OPTIMAL), .val (.int (1 : Int32))] [(.ref s_OPTIMAL)]))
    obtain ⟨cq7, kq7, q7a, q7b, q7c⟩ := isOf hZ eh5 E_OPTIMAL
    obtain ⟨_, _, ⟨T7, L7, k7, n7⟩, -, X7, ⟨Lc7, hQ7, l7, y7, z7⟩, st7⟩ := X5.virtualBack hx (y := (⟨"com/example/pech_david/pechdavid/model/Status", "hasValues", "()Z"⟩ : MethodName)) (z := (⟨"com/example/pech_david/pechdavid/model/Status", "hasValues", "()Z"⟩ : MethodName)) hown (mvT hZ (hw _ (List.mem_of_getElem? (i := 7) rfl))) (mvT hZ (hw _ (List.mem_of_getElem? (i := 8) rfl))) (notFace_of_selects (args := #[]) (mvT hZ (hw _ (List.mem_of_getElem? (i := 10) rfl)))) (mvT hZ (hw _ (List.mem_of_getElem? (i := 10) rfl))) (mvT hZ (hw _ (List.mem_of_getElem? (i := 9) rfl))) (by decide) (backOf (W := 0) (rm2 l Z a0 hw [] s_OPTIMAL s_SATISFIED s_OPTIMAL h0 n0 Z0 S_SATISFIED S_OPTIMAL ) hZ (hw _ (List.mem_of_getElem? (i := 11) rfl)) (hw _ (List.mem_of_getElem? (i := 5) rfl)) (by decide) (by decide)) q7a q7c (g := (mkF m 25 #[.val (.int p1), .val (.int (1 : Int32)), .val (.ref s_OPTIMAL), .val (.int (1 : Int32))] [(.ref s_OPTIMAL)])) rfl (by rw [hml]; rfl) (Steps.refl _) (argsL := []) (rest := []) (lenOf pd_1 rfl) rfl (by show 2 * 0 + _ ≤ _; exact Nat.le_of_eq rfl) (hb hby at_25) (fun _ _ => ⟨rfl, eh5, (by decide : 0 + 0 ≤ _), (by decide : 0 + 0 ≤ _)⟩)
    dsimp only [Pt.U, Pt.locs, Pt.cells, Pt.slots] at X7 l7 y7 z7 st7 hQ7
    subst l7 y7 z7
    obtain ⟨rfl, N7q, eh7⟩ := hQ7
    have N7 := Fr.app N5 N7q
    refine Go.step (fun _ k => st7.trans k) ?_
    show Go p.tables e below _ (T7.setTop (mkF m 28 #[.val (.int p1), .val (.int (1 : Int32)), .val (.ref s_OPTIMAL), .val (.int (1 : Int32))] [(.int (own_hv s_OPTIMAL s_SATISFIED s_OPTIMAL))]))
    have q8 : (own_hv s_OPTIMAL s_SATISFIED s_OPTIMAL) = (1 : Int32) := by simp [own_hv]
    rw [q8]
    show Go p.tables e below _ (T7.setTop (mkF m 28 #[.val (.int p1), .val (.int (1 : Int32)), .val (.ref s_OPTIMAL), .val (.int (1 : Int32))] [(.int (1 : Int32))]))
    refine Go.step (fun _ k => XS.iloadN X7.here hx rfl (hb hby at_28) rfl k) ?_
    show Go p.tables e below _ (T7.setTop (mkF m 29 #[.val (.int p1), .val (.int (1 : Int32)), .val (.ref s_OPTIMAL), .val (.int (1 : Int32))] [(.int (1 : Int32)), (.int (1 : Int32))]))
    refine Go.step (fun _ k => XS.icmpNo X7.here hx rfl (hb hby at_29) rfl (teq (by decide : (1 : Int32) = (1 : Int32))).2 k) ?_
    show Go p.tables e below _ (T7.setTop (mkF m 32 #[.val (.int p1), .val (.int (1 : Int32)), .val (.ref s_OPTIMAL), .val (.int (1 : Int32))] []))
    refine Go.step (fun _ k => XS.iconst X7.here hx rfl (hb hby at_32) k) ?_
    show Go p.tables e below _ (T7.setTop (mkF m 33 #[.val (.int p1), .val (.int (1 : Int32)), .val (.ref s_OPTIMAL), .val (.int (1 : Int32))] [(.int (1 : Int32))]))
    refine Go.step (fun _ k => XS.goto X7.here hx rfl (pc0 := 33) (pc' := 37) rfl (hb hby at_33) (by decide) (by decide) k) ?_
    show Go p.tables e below _ (T7.setTop (mkF m 37 #[.val (.int p1), .val (.int (1 : Int32)), .val (.ref s_OPTIMAL), .val (.int (1 : Int32))] [(.int (1 : Int32))]))
    obtain ⟨fs, hr, hrun, hended, hW, hsame⟩ := X7.leave (v := some (.int (1 : Int32))) (fun h => by rw [Bd.returns] at h; cases h)
    refine ⟨_, _, retN X7 hx (t := .boolean) Bd.returns (by simp) (hb hby at_37) hr, hrun, hended, _, _, rfl, ?_, ⟨_, rfl⟩, hW, hsame.mono (by decide) (by decide)⟩
    show Qrm0 Z p1 s_SATISFIED s_OPTIMAL s_UNSATISFIABLE s_UNKNOWN h0 n0 _ T7.heap _
    rw [eh7]
    exact ⟨rfl, N7⟩
  · rw [hk]
    show Go p.tables e below _ (s₁.setTop (mkF m 4 #[.val (.int p1), .val (.int (2 : Int32)), .unset, .unset] []))
    refine Go.step (fun _ k => XS.iloadN X0.here hx rfl (hb hby at_4) rfl k) ?_
    show Go p.tables e below _ (s₁.setTop (mkF m 5 #[.val (.int p1), .val (.int (2 : Int32)), .unset, .unset] [(.int (2 : Int32))]))
    obtain ⟨_, _, ⟨T9, L9, k9, n9⟩, -, X9, ⟨Lc9, hQ9, l9, y9, z9⟩, st9⟩ := Jvm.LawKit.callS X0 hx (y := (⟨"com/example/pech_david/pechdavid/model/StatusHasValuesPinLaw", "pick", "(I)Lcom/example/pech_david/pechdavid/model/Status;"⟩ : MethodName)) hown (mvT hZ (hw _ (List.mem_of_getElem? (i := 0) rfl))) (mvT hZ (hw _ (List.mem_of_getElem? (i := 1) rfl))) (mvT hZ (hw _ (List.mem_of_getElem? (i := 2) rfl))) (mvT hZ (hw _ (List.mem_of_getElem? (i := 3) rfl))) (by decide) (backOf (W := 0) (rm1 l Z a0 hw [] (2 : Int32) s_SATISFIED s_OPTIMAL s_UNSATISFIABLE s_UNKNOWN h0 n0 Z0 S_SATISFIED S_OPTIMAL S_UNSATISFIABLE S_UNKNOWN ) hZ (hw _ (List.mem_of_getElem? (i := 3) rfl)) (hw _ (List.mem_of_getElem? (i := 2) rfl)) (by decide) (by decide)) (g := (mkF m 5 #[.val (.int p1), .val (.int (2 : Int32)), .unset, .unset] [(.int (2 : Int32))])) rfl (by rw [hml]; rfl) (argsL := [(.int (2 : Int32))]) (rest := []) (lenOf pd_0 rfl) rfl (by show 2 * 0 + _ ≤ _; exact Nat.le_of_eq rfl) (hb hby at_5) (fun _ _ => ⟨rfl, e0, (by decide : 0 + 0 ≤ _), (by decide : 0 + 0 ≤ _)⟩)
    dsimp only [Pt.U, Pt.locs, Pt.cells, Pt.slots] at X9 l9 y9 z9 st9 hQ9
    subst l9 y9 z9
    obtain ⟨rfl, N9q, eh9⟩ := hQ9
    have N9 := Fr.app N0 N9q
    refine Go.step st9 ?_
    show Go p.tables e below _ (T9.setTop (mkF m 8 #[.val (.int p1), .val (.int (2 : Int32)), .unset, .unset] [(.ref (own_pick (2 : Int32) s_SATISFIED s_OPTIMAL s_UNSATISFIABLE s_UNKNOWN))]))
    have q10 : (own_pick (2 : Int32) s_SATISFIED s_OPTIMAL s_UNSATISFIABLE s_UNKNOWN) = s_UNSATISFIABLE := rfl
    rw [q10]
    show Go p.tables e below _ (T9.setTop (mkF m 8 #[.val (.int p1), .val (.int (2 : Int32)), .unset, .unset] [(.ref s_UNSATISFIABLE)]))
    refine Go.step (fun _ k => XS.astoreN X9.here hx rfl (hb hby at_8) rfl rfl (l' := #[.val (.int p1), .val (.int (2 : Int32)), .val (.ref s_UNSATISFIABLE), .unset]) rfl k) ?_
    show Go p.tables e below _ (T9.setTop (mkF m 9 #[.val (.int p1), .val (.int (2 : Int32)), .val (.ref s_UNSATISFIABLE), .unset] []))
    refine Go.step (fun _ k => XS.iloadN X9.here hx rfl (hb hby at_9) rfl k) ?_
    show Go p.tables e below _ (T9.setTop (mkF m 10 #[.val (.int p1), .val (.int (2 : Int32)), .val (.ref s_UNSATISFIABLE), .unset] [(.int (2 : Int32))]))
    refine Go.step (fun _ k => XS.ifNo X9.here hx rfl (hb hby at_10) rfl ((if0 _ _).trans (feq (by decide : ¬ ((2 : Int32) = (0 : Int32)))).1) k) ?_
    show Go p.tables e below _ (T9.setTop (mkF m 13 #[.val (.int p1), .val (.int (2 : Int32)), .val (.ref s_UNSATISFIABLE), .unset] []))
    refine Go.step (fun _ k => XS.iloadN X9.here hx rfl (hb hby at_13) rfl k) ?_
    show Go p.tables e below _ (T9.setTop (mkF m 14 #[.val (.int p1), .val (.int (2 : Int32)), .val (.ref s_UNSATISFIABLE), .unset] [(.int (2 : Int32))]))
    refine Go.step (fun _ k => XS.iconst X9.here hx rfl (hb hby at_14) k) ?_
    show Go p.tables e below _ (T9.setTop (mkF m 15 #[.val (.int p1), .val (.int (2 : Int32)), .val (.ref s_UNSATISFIABLE), .unset] [(.int (1 : Int32)), (.int (2 : Int32))]))
    refine Go.step (fun _ k => XS.icmpYes X9.here hx rfl (pc0 := 15) (pc' := 22) rfl (hb hby at_15) rfl (feq (by decide : ¬ ((2 : Int32) = (1 : Int32)))).2 (by decide) (by decide) k) ?_
    show Go p.tables e below _ (T9.setTop (mkF m 22 #[.val (.int p1), .val (.int (2 : Int32)), .val (.ref s_UNSATISFIABLE), .unset] []))
    refine Go.step (fun _ k => XS.iconst X9.here hx rfl (hb hby at_22) k) ?_
    show Go p.tables e below _ (T9.setTop (mkF m 23 #[.val (.int p1), .val (.int (2 : Int32)), .val (.ref s_UNSATISFIABLE), .unset] [(.int (0 : Int32))]))
    refine Go.step (fun _ k => XS.istoreN X9.here hx rfl (hb hby at_23) rfl (l' := #[.val (.int p1), .val (.int (2 : Int32)), .val (.ref s_UNSATISFIABLE), .val (.int (0 : Int32))]) rfl k) ?_
    show Go p.tables e below _ (T9.setTop (mkF m 24 #[.val (.int p1), .val (.int (2 : Int32)), .val (.ref s_UNSATISFIABLE), .val (.int (0 : Int32))] []))
    refine Go.step (fun _ k => XS.aloadN X9.here hx rfl (hb hby at_24) rfl rfl k) ?_
    show Go p.tables e below _ (T9.setTop (mkF m 25 #[.val (.int p1), .val (.int (2 : Int32)), .val (.ref s_UNSATISFIABLE), .val (.int (0 : Int32))] [(.ref s_UNSATISFIABLE)]))
    obtain ⟨cq11, kq11, q11a, q11b, q11c⟩ := isOf hZ eh9 E_UNSATISFIABLE
    obtain ⟨_, _, ⟨T11, L11, k11, n11⟩, -, X11, ⟨Lc11, hQ11, l11, y11, z11⟩, st11⟩ := X9.virtualBack hx (y := (⟨"com/example/pech_david/pechdavid/model/Status", "hasValues", "()Z"⟩ : MethodName)) (z := (⟨"com/example/pech_david/pechdavid/model/Status", "hasValues", "()Z"⟩ : MethodName)) hown (mvT hZ (hw _ (List.mem_of_getElem? (i := 7) rfl))) (mvT hZ (hw _ (List.mem_of_getElem? (i := 8) rfl))) (notFace_of_selects (args := #[]) (mvT hZ (hw _ (List.mem_of_getElem? (i := 10) rfl)))) (mvT hZ (hw _ (List.mem_of_getElem? (i := 10) rfl))) (mvT hZ (hw _ (List.mem_of_getElem? (i := 9) rfl))) (by decide) (backOf (W := 0) (rm2 l Z a0 hw [] s_UNSATISFIABLE s_SATISFIED s_OPTIMAL h0 n0 Z0 S_SATISFIED S_OPTIMAL ) hZ (hw _ (List.mem_of_getElem? (i := 11) rfl)) (hw _ (List.mem_of_getElem? (i := 5) rfl)) (by decide) (by decide)) q11a q11c (g := (mkF m 25 #[.val (.int p1), .val (.int (2 : Int32)), .val (.ref s_UNSATISFIABLE), .val (.int (0 : Int32))] [(.ref s_UNSATISFIABLE)])) rfl (by rw [hml]; rfl) (Steps.refl _) (argsL := []) (rest := []) (lenOf pd_1 rfl) rfl (by show 2 * 0 + _ ≤ _; exact Nat.le_of_eq rfl) (hb hby at_25) (fun _ _ => ⟨rfl, eh9, (by decide : 0 + 0 ≤ _), (by decide : 0 + 0 ≤ _)⟩)
    dsimp only [Pt.U, Pt.locs, Pt.cells, Pt.slots] at X11 l11 y11 z11 st11 hQ11
    subst l11 y11 z11
    obtain ⟨rfl, N11q, eh11⟩ := hQ11
    have N11 := Fr.app N9 N11q
    refine Go.step (fun _ k => st11.trans k) ?_
    show Go p.tables e below _ (T11.setTop (mkF m 28 #[.val (.int p1), .val (.int (2 : Int32)), .val (.ref s_UNSATISFIABLE), .val (.int (0 : Int32))] [(.int (own_hv s_UNSATISFIABLE s_SATISFIED s_OPTIMAL))]))
    have q12 : (own_hv s_UNSATISFIABLE s_SATISFIED s_OPTIMAL) = (0 : Int32) := by simp [own_hv, ne_2_0, ne_2_1]
    rw [q12]
    show Go p.tables e below _ (T11.setTop (mkF m 28 #[.val (.int p1), .val (.int (2 : Int32)), .val (.ref s_UNSATISFIABLE), .val (.int (0 : Int32))] [(.int (0 : Int32))]))
    refine Go.step (fun _ k => XS.iloadN X11.here hx rfl (hb hby at_28) rfl k) ?_
    show Go p.tables e below _ (T11.setTop (mkF m 29 #[.val (.int p1), .val (.int (2 : Int32)), .val (.ref s_UNSATISFIABLE), .val (.int (0 : Int32))] [(.int (0 : Int32)), (.int (0 : Int32))]))
    refine Go.step (fun _ k => XS.icmpNo X11.here hx rfl (hb hby at_29) rfl (teq (by decide : (0 : Int32) = (0 : Int32))).2 k) ?_
    show Go p.tables e below _ (T11.setTop (mkF m 32 #[.val (.int p1), .val (.int (2 : Int32)), .val (.ref s_UNSATISFIABLE), .val (.int (0 : Int32))] []))
    refine Go.step (fun _ k => XS.iconst X11.here hx rfl (hb hby at_32) k) ?_
    show Go p.tables e below _ (T11.setTop (mkF m 33 #[.val (.int p1), .val (.int (2 : Int32)), .val (.ref s_UNSATISFIABLE), .val (.int (0 : Int32))] [(.int (1 : Int32))]))
    refine Go.step (fun _ k => XS.goto X11.here hx rfl (pc0 := 33) (pc' := 37) rfl (hb hby at_33) (by decide) (by decide) k) ?_
    show Go p.tables e below _ (T11.setTop (mkF m 37 #[.val (.int p1), .val (.int (2 : Int32)), .val (.ref s_UNSATISFIABLE), .val (.int (0 : Int32))] [(.int (1 : Int32))]))
    obtain ⟨fs, hr, hrun, hended, hW, hsame⟩ := X11.leave (v := some (.int (1 : Int32))) (fun h => by rw [Bd.returns] at h; cases h)
    refine ⟨_, _, retN X11 hx (t := .boolean) Bd.returns (by simp) (hb hby at_37) hr, hrun, hended, _, _, rfl, ?_, ⟨_, rfl⟩, hW, hsame.mono (by decide) (by decide)⟩
    show Qrm0 Z p1 s_SATISFIED s_OPTIMAL s_UNSATISFIABLE s_UNKNOWN h0 n0 _ T11.heap _
    rw [eh11]
    exact ⟨rfl, N11⟩
  · rw [hk]
    show Go p.tables e below _ (s₁.setTop (mkF m 4 #[.val (.int p1), .val (.int (3 : Int32)), .unset, .unset] []))
    refine Go.step (fun _ k => XS.iloadN X0.here hx rfl (hb hby at_4) rfl k) ?_
    show Go p.tables e below _ (s₁.setTop (mkF m 5 #[.val (.int p1), .val (.int (3 : Int32)), .unset, .unset] [(.int (3 : Int32))]))
    obtain ⟨_, _, ⟨T13, L13, k13, n13⟩, -, X13, ⟨Lc13, hQ13, l13, y13, z13⟩, st13⟩ := Jvm.LawKit.callS X0 hx (y := (⟨"com/example/pech_david/pechdavid/model/StatusHasValuesPinLaw", "pick", "(I)Lcom/example/pech_david/pechdavid/model/Status;"⟩ : MethodName)) hown (mvT hZ (hw _ (List.mem_of_getElem? (i := 0) rfl))) (mvT hZ (hw _ (List.mem_of_getElem? (i := 1) rfl))) (mvT hZ (hw _ (List.mem_of_getElem? (i := 2) rfl))) (mvT hZ (hw _ (List.mem_of_getElem? (i := 3) rfl))) (by decide) (backOf (W := 0) (rm1 l Z a0 hw [] (3 : Int32) s_SATISFIED s_OPTIMAL s_UNSATISFIABLE s_UNKNOWN h0 n0 Z0 S_SATISFIED S_OPTIMAL S_UNSATISFIABLE S_UNKNOWN ) hZ (hw _ (List.mem_of_getElem? (i := 3) rfl)) (hw _ (List.mem_of_getElem? (i := 2) rfl)) (by decide) (by decide)) (g := (mkF m 5 #[.val (.int p1), .val (.int (3 : Int32)), .unset, .unset] [(.int (3 : Int32))])) rfl (by rw [hml]; rfl) (argsL := [(.int (3 : Int32))]) (rest := []) (lenOf pd_0 rfl) rfl (by show 2 * 0 + _ ≤ _; exact Nat.le_of_eq rfl) (hb hby at_5) (fun _ _ => ⟨rfl, e0, (by decide : 0 + 0 ≤ _), (by decide : 0 + 0 ≤ _)⟩)
    dsimp only [Pt.U, Pt.locs, Pt.cells, Pt.slots] at X13 l13 y13 z13 st13 hQ13
    subst l13 y13 z13
    obtain ⟨rfl, N13q, eh13⟩ := hQ13
    have N13 := Fr.app N0 N13q
    refine Go.step st13 ?_
    show Go p.tables e below _ (T13.setTop (mkF m 8 #[.val (.int p1), .val (.int (3 : Int32)), .unset, .unset] [(.ref (own_pick (3 : Int32) s_SATISFIED s_OPTIMAL s_UNSATISFIABLE s_UNKNOWN))]))
    have q14 : (own_pick (3 : Int32) s_SATISFIED s_OPTIMAL s_UNSATISFIABLE s_UNKNOWN) = s_UNKNOWN := rfl
    rw [q14]
    show Go p.tables e below _ (T13.setTop (mkF m 8 #[.val (.int p1), .val (.int (3 : Int32)), .unset, .unset] [(.ref s_UNKNOWN)]))
    refine Go.step (fun _ k => XS.astoreN X13.here hx rfl (hb hby at_8) rfl rfl (l' := #[.val (.int p1), .val (.int (3 : Int32)), .val (.ref s_UNKNOWN), .unset]) rfl k) ?_
    show Go p.tables e below _ (T13.setTop (mkF m 9 #[.val (.int p1), .val (.int (3 : Int32)), .val (.ref s_UNKNOWN), .unset] []))
    refine Go.step (fun _ k => XS.iloadN X13.here hx rfl (hb hby at_9) rfl k) ?_
    show Go p.tables e below _ (T13.setTop (mkF m 10 #[.val (.int p1), .val (.int (3 : Int32)), .val (.ref s_UNKNOWN), .unset] [(.int (3 : Int32))]))
    refine Go.step (fun _ k => XS.ifNo X13.here hx rfl (hb hby at_10) rfl ((if0 _ _).trans (feq (by decide : ¬ ((3 : Int32) = (0 : Int32)))).1) k) ?_
    show Go p.tables e below _ (T13.setTop (mkF m 13 #[.val (.int p1), .val (.int (3 : Int32)), .val (.ref s_UNKNOWN), .unset] []))
    refine Go.step (fun _ k => XS.iloadN X13.here hx rfl (hb hby at_13) rfl k) ?_
    show Go p.tables e below _ (T13.setTop (mkF m 14 #[.val (.int p1), .val (.int (3 : Int32)), .val (.ref s_UNKNOWN), .unset] [(.int (3 : Int32))]))
    refine Go.step (fun _ k => XS.iconst X13.here hx rfl (hb hby at_14) k) ?_
    show Go p.tables e below _ (T13.setTop (mkF m 15 #[.val (.int p1), .val (.int (3 : Int32)), .val (.ref s_UNKNOWN), .unset] [(.int (1 : Int32)), (.int (3 : Int32))]))
    refine Go.step (fun _ k => XS.icmpYes X13.here hx rfl (pc0 := 15) (pc' := 22) rfl (hb hby at_15) rfl (feq (by decide : ¬ ((3 : Int32) = (1 : Int32)))).2 (by decide) (by decide) k) ?_
    show Go p.tables e below _ (T13.setTop (mkF m 22 #[.val (.int p1), .val (.int (3 : Int32)), .val (.ref s_UNKNOWN), .unset] []))
    refine Go.step (fun _ k => XS.iconst X13.here hx rfl (hb hby at_22) k) ?_
    show Go p.tables e below _ (T13.setTop (mkF m 23 #[.val (.int p1), .val (.int (3 : Int32)), .val (.ref s_UNKNOWN), .unset] [(.int (0 : Int32))]))
    refine Go.step (fun _ k => XS.istoreN X13.here hx rfl (hb hby at_23) rfl (l' := #[.val (.int p1), .val (.int (3 : Int32)), .val (.ref s_UNKNOWN), .val (.int (0 : Int32))]) rfl k) ?_
    show Go p.tables e below _ (T13.setTop (mkF m 24 #[.val (.int p1), .val (.int (3 : Int32)), .val (.ref s_UNKNOWN), .val (.int (0 : Int32))] []))
    refine Go.step (fun _ k => XS.aloadN X13.here hx rfl (hb hby at_24) rfl rfl k) ?_
    show Go p.tables e below _ (T13.setTop (mkF m 25 #[.val (.int p1), .val (.int (3 : Int32)), .val (.ref s_UNKNOWN), .val (.int (0 : Int32))] [(.ref s_UNKNOWN)]))
    obtain ⟨cq15, kq15, q15a, q15b, q15c⟩ := isOf hZ eh13 E_UNKNOWN
    obtain ⟨_, _, ⟨T15, L15, k15, n15⟩, -, X15, ⟨Lc15, hQ15, l15, y15, z15⟩, st15⟩ := X13.virtualBack hx (y := (⟨"com/example/pech_david/pechdavid/model/Status", "hasValues", "()Z"⟩ : MethodName)) (z := (⟨"com/example/pech_david/pechdavid/model/Status", "hasValues", "()Z"⟩ : MethodName)) hown (mvT hZ (hw _ (List.mem_of_getElem? (i := 7) rfl))) (mvT hZ (hw _ (List.mem_of_getElem? (i := 8) rfl))) (notFace_of_selects (args := #[]) (mvT hZ (hw _ (List.mem_of_getElem? (i := 10) rfl)))) (mvT hZ (hw _ (List.mem_of_getElem? (i := 10) rfl))) (mvT hZ (hw _ (List.mem_of_getElem? (i := 9) rfl))) (by decide) (backOf (W := 0) (rm2 l Z a0 hw [] s_UNKNOWN s_SATISFIED s_OPTIMAL h0 n0 Z0 S_SATISFIED S_OPTIMAL ) hZ (hw _ (List.mem_of_getElem? (i := 11) rfl)) (hw _ (List.mem_of_getElem? (i := 5) rfl)) (by decide) (by decide)) q15a q15c (g := (mkF m 25 #[.val (.int p1), .val (.int (3 : Int32)), .val (.ref s_UNKNOWN), .val (.int (0 : Int32))] [(.ref s_UNKNOWN)])) rfl (by rw [hml]; rfl) (Steps.refl _) (argsL := []) (rest := []) (lenOf pd_1 rfl) rfl (by show 2 * 0 + _ ≤ _; exact Nat.le_of_eq rfl) (hb hby at_25) (fun _ _ => ⟨rfl, eh13, (by decide : 0 + 0 ≤ _), (by decide : 0 + 0 ≤ _)⟩)
    dsimp only [Pt.U, Pt.locs, Pt.cells, Pt.slots] at X15 l15 y15 z15 st15 hQ15
    subst l15 y15 z15
    obtain ⟨rfl, N15q, eh15⟩ := hQ15
    have N15 := Fr.app N13 N15q
    refine Go.step (fun _ k => st15.trans k) ?_
    show Go p.tables e below _ (T15.setTop (mkF m 28 #[.val (.int p1), .val (.int (3 : Int32)), .val (.ref s_UNKNOWN), .val (.int (0 : Int32))] [(.int (own_hv s_UNKNOWN s_SATISFIED s_OPTIMAL))]))
    have q16 : (own_hv s_UNKNOWN s_SATISFIED s_OPTIMAL) = (0 : Int32) := by simp [own_hv, ne_3_0, ne_3_1]
    rw [q16]
    show Go p.tables e below _ (T15.setTop (mkF m 28 #[.val (.int p1), .val (.int (3 : Int32)), .val (.ref s_UNKNOWN), .val (.int (0 : Int32))] [(.int (0 : Int32))]))
    refine Go.step (fun _ k => XS.iloadN X15.here hx rfl (hb hby at_28) rfl k) ?_
    show Go p.tables e below _ (T15.setTop (mkF m 29 #[.val (.int p1), .val (.int (3 : Int32)), .val (.ref s_UNKNOWN), .val (.int (0 : Int32))] [(.int (0 : Int32)), (.int (0 : Int32))]))
    refine Go.step (fun _ k => XS.icmpNo X15.here hx rfl (hb hby at_29) rfl (teq (by decide : (0 : Int32) = (0 : Int32))).2 k) ?_
    show Go p.tables e below _ (T15.setTop (mkF m 32 #[.val (.int p1), .val (.int (3 : Int32)), .val (.ref s_UNKNOWN), .val (.int (0 : Int32))] []))
    refine Go.step (fun _ k => XS.iconst X15.here hx rfl (hb hby at_32) k) ?_
    show Go p.tables e below _ (T15.setTop (mkF m 33 #[.val (.int p1), .val (.int (3 : Int32)), .val (.ref s_UNKNOWN), .val (.int (0 : Int32))] [(.int (1 : Int32))]))
    refine Go.step (fun _ k => XS.goto X15.here hx rfl (pc0 := 33) (pc' := 37) rfl (hb hby at_33) (by decide) (by decide) k) ?_
    show Go p.tables e below _ (T15.setTop (mkF m 37 #[.val (.int p1), .val (.int (3 : Int32)), .val (.ref s_UNKNOWN), .val (.int (0 : Int32))] [(.int (1 : Int32))]))
    obtain ⟨fs, hr, hrun, hended, hW, hsame⟩ := X15.leave (v := some (.int (1 : Int32))) (fun h => by rw [Bd.returns] at h; cases h)
    refine ⟨_, _, retN X15 hx (t := .boolean) Bd.returns (by simp) (hb hby at_37) hr, hrun, hended, _, _, rfl, ?_, ⟨_, rfl⟩, hW, hsame.mono (by decide) (by decide)⟩
    show Qrm0 Z p1 s_SATISFIED s_OPTIMAL s_UNSATISFIABLE s_UNKNOWN h0 n0 _ T15.heap _
    rw [eh15]
    exact ⟨rfl, N15⟩
set_option maxRecDepth 65536 in
set_option maxHeartbeats 40000000 in
theorem comes_1 {Post : Tables → Env → Array Value → State → Outcome → State → Prop} (hpost : ∀ tb e args s v u, (limb_1_1.after args s (.returned v) u = true ∧ limb_1_2.after args s (.returned v) u = true ∧ True) → FrameEnd s (.returned v) u (Jvm.fieldLocs frame_1_writes args s ++ Jvm.arrayLocs frame_1_arrays args s ++ Jvm.staticLocs frame_1_statics s) 0 0 → Post tb e args s (.returned v) u) :
    ArmFor flags0 classFile x code maxLocals ret World_1 tables_1 room_1 Calls_1 rest_1 Pre_1 Post := by
  intro l hfl _ _ p e ha hc hk s m args below hf hA hF happ hP
  obtain ⟨hcalls, hrest, hpre⟩ := hP
  obtain ⟨-, -, -, hnamed, -, -, -, hat⟩ := (Spec.applies_iff hf).mp happ
  obtain ⟨hg, hn⟩ := and_e (Cond.before_iff.mp (show (Jvm.Cond.and given_1 narrow_1).before args s = true from hpre))
  obtain ⟨hcount, hg1⟩ := and_e hg
  have ga0 := hg1
  obtain ⟨w0, rfl⟩ : ∃ w0 : Value, args = #[w0] := by
    have hs : args.size = 1 := by simpa [Cond.value, given_1] using hcount
    obtain ⟨L⟩ := args
    match L, hs with
    | [w0], _ => exact ⟨w0, rfl⟩
  have hw := fun d (hd : d ∈ tables_1) => atoms_spec (ws := Jvm.Cond.code x code maxLocals ret :: tables_1) hat d (List.mem_cons_of_mem _ hd)
  have hfit : Fit s := fun {y c} hc i hi => by
    obtain ⟨ha, rfl⟩ := Array.getElem?_eq_some_iff.mp hc
    have q := List.all_eq_true.mp ((Array.all_eq_true_iff_forall_mem.mp hF) _ (Array.getElem_mem ha)) i (List.mem_range.mpr hi)
    simpa [Array.getElem?_eq_getElem hi] using q
  obtain ⟨i0, ei0⟩ := is_v ga0
  obtain rfl : w0 = (.int i0) := Option.some.inj ei0
  obtain ⟨nq0, hn1⟩ := and_e hn
  obtain ⟨nq1, hn2⟩ := and_e hn1
  obtain ⟨nq2, hn3⟩ := and_e hn2
  obtain ⟨nq3, hn4⟩ := and_e hn3
  obtain ⟨nq4, hn5⟩ := and_e hn4
  obtain ⟨nq5, hn6⟩ := and_e hn5
  obtain ⟨nq6, hn7⟩ := and_e hn6
  have nq7 := hn7
  obtain ⟨s_SATISFIED, ev_SATISFIED⟩ := exa_v nq0
  have S_SATISFIED : Sta s s.heap "com/example/pech_david/pechdavid/model/Status" "SATISFIED" "Lcom/example/pech_david/pechdavid/model/Status;" (.ref s_SATISFIED) := Sta.start ev_SATISFIED (Or.inr ⟨(hw _ (List.mem_of_getElem? (i := 5) rfl)), (hw _ (List.mem_of_getElem? (i := 6) rfl))⟩)
  have E_SATISFIED : Exa s s.heap s_SATISFIED "com/example/pech_david/pechdavid/model/Status" := Exa.start ev_SATISFIED nq0
  have F_SATISFIED_ordinal : Fld s s.heap s_SATISFIED "java/lang/Enum" "ordinal" "I" (.int (0 : Int32)) := Fld.start ((fld_at ev_SATISFIED).symm.trans (own_eqI nq3))
  obtain ⟨s_UNKNOWN, ev_UNKNOWN⟩ := exa_v nq1
  have S_UNKNOWN : Sta s s.heap "com/example/pech_david/pechdavid/model/Status" "UNKNOWN" "Lcom/example/pech_david/pechdavid/model/Status;" (.ref s_UNKNOWN) := Sta.start ev_UNKNOWN (Or.inr ⟨(hw _ (List.mem_of_getElem? (i := 5) rfl)), (hw _ (List.mem_of_getElem? (i := 14) rfl))⟩)
  have E_UNKNOWN : Exa s s.heap s_UNKNOWN "com/example/pech_david/pechdavid/model/Status" := Exa.start ev_UNKNOWN nq1
  have F_UNKNOWN_ordinal : Fld s s.heap s_UNKNOWN "java/lang/Enum" "ordinal" "I" (.int (3 : Int32)) := Fld.start ((fld_at ev_UNKNOWN).symm.trans (own_eqI nq2))
  obtain ⟨s_OPTIMAL, ev_OPTIMAL⟩ := exa_v nq4
  have S_OPTIMAL : Sta s s.heap "com/example/pech_david/pechdavid/model/Status" "OPTIMAL" "Lcom/example/pech_david/pechdavid/model/Status;" (.ref s_OPTIMAL) := Sta.start ev_OPTIMAL (Or.inr ⟨(hw _ (List.mem_of_getElem? (i := 5) rfl)), (hw _ (List.mem_of_getElem? (i := 16) rfl))⟩)
  have E_OPTIMAL : Exa s s.heap s_OPTIMAL "com/example/pech_david/pechdavid/model/Status" := Exa.start ev_OPTIMAL nq4
  have F_OPTIMAL_ordinal : Fld s s.heap s_OPTIMAL "java/lang/Enum" "ordinal" "I" (.int (1 : Int32)) := Fld.start ((fld_at ev_OPTIMAL).symm.trans (own_eqI nq5))
  obtain ⟨s_UNSATISFIABLE, ev_UNSATISFIABLE⟩ := exa_v nq6
  have S_UNSATISFIABLE : Sta s s.heap "com/example/pech_david/pechdavid/model/Status" "UNSATISFIABLE" "Lcom/example/pech_david/pechdavid/model/Status;" (.ref s_UNSATISFIABLE) := Sta.start ev_UNSATISFIABLE (Or.inr ⟨(hw _ (List.mem_of_getElem? (i := 5) rfl)), (hw _ (List.mem_of_getElem? (i := 18) rfl))⟩)
  have E_UNSATISFIABLE : Exa s s.heap s_UNSATISFIABLE "com/example/pech_david/pechdavid/model/Status" := Exa.start ev_UNSATISFIABLE nq6
  have F_UNSATISFIABLE_ordinal : Fld s s.heap s_UNSATISFIABLE "java/lang/Enum" "ordinal" "I" (.int (2 : Int32)) := Fld.start ((fld_at ev_UNSATISFIABLE).symm.trans (own_eqI nq7))
  obtain ⟨n, o, h1, h2, h3, _, L, rfl, ⟨rfl, N⟩, hq⟩ := rm0 l s _ hw tables_1 i0 s_SATISFIED s_OPTIMAL s_UNSATISFIABLE s_UNKNOWN s.heap s.heap.size (Nat.le_refl _) S_SATISFIED E_SATISFIED F_SATISFIED_ordinal S_OPTIMAL E_OPTIMAL F_OPTIMAL_ordinal S_UNSATISFIABLE E_UNSATISFIABLE F_UNSATISFIABLE_ordinal S_UNKNOWN E_UNKNOWN F_UNKNOWN_ordinal p e ha hc hk s m _ below hf ((Spec.applies_iff_loose hf).mp happ).1 ⟨rfl, State.Warmed39.refl s, rfl⟩ trivial
  refine ⟨n, _, h1, h2, h3, hpost _ _ _ _ _ _ ⟨Cond.after_iff.mpr rfl, Cond.after_iff.mpr (eq_i res_at (Term.int_eval (1)) rfl), trivial⟩ ⟨hq.1, hq.2.1, (hq.2.2.sift fun y hy => Or.inr (N y hy)).mono (by decide) (by decide)⟩⟩
theorem main_1_1 : Claimed_1_1 := comes_1 fun _ _ _ _ _ _ h hF => ⟨h.1, hF⟩
theorem main_1_2 : Claimed_1_2 := comes_1 fun _ _ _ _ _ _ h hF => ⟨h.2.1, hF⟩
end Jvm.Pilot.@@N@@
namespace Jvm.Pilot.@@N@@
open Jvm Jvm.ClassFile Sem Op Lib Jvm.Free Jvm.Stand Jvm.Pilot.@@N@@.Jvm.D
/-! MADE BY PROGRAM (witnessworld.py) out of the Statement's table words and the real class files: 12 classes; the members and pool entries that the words name. The judged class is class 1, her method 2. -/
namespace start1
open Jvm.ClassFile
def u (s : String) : CpInfo := .utf8 (stringToUtf16 s)
/-- a pool by its gaps: so many unusable entries, then the entry; so many at the end -/
def gap : Nat → List CpInfo → List CpInfo
  | 0, r => r
  | n + 1, r => .unusable :: gap n r
def poolList (es : List (Nat × CpInfo)) (last : Nat) : List CpInfo := es.foldr (fun e r => gap e.1 (e.2 :: r)) (gap last [])
def pool (es : List (Nat × CpInfo)) (last : Nat) : Array CpInfo := ⟨poolList es last⟩
def fileOf (pool : Array CpInfo) (this : Nat) (attrs : Array Attribute := #[]) (ms : Array MethodInfo := #[]) (fl : Nat := 33) (sup : Nat := 0) (ifs : Array Nat := #[]) (fds : Array FieldInfo := #[]) : ClassFile where
  minorVersion := 0
  majorVersion := 65
  constantPool := pool
  accessFlags := fl
  thisClass := this
  superClass := sup
  interfaces := ifs
  fields := fds
  methods := ms
  attributes := attrs
def plain (name : String) (sup : Option ClassId) : Class where
  name := name
  kind := .ordinary
  loader := none
  accessFlags := 33
  super := sup
  interfaces := #[]
  cf := none
  fields := #[]
  methods := #[]
  instanceTypes := #[]
  staticTypes := #[]
  resolved := #[]
  callSites := []
  init := .initialized
  statics := none
  mirror := none

def pool0 : Array CpInfo := pool [(5, u "<init>"), (0, u "()V"), (1, .class_ 10), (1, u "java/lang/Object")] 113

def k0m0 : Method := { name := "<init>", desc := "()V", sig := { parameters := [], returnType := none }, accessFlags := 1, code := none }
/-- java/lang/Object -/
def k0 : Class := { plain "java/lang/Object" none with
  accessFlags := 33
  interfaces := #[]
  cf := some (fileOf pool0 8 #[] #[{ accessFlags := 1, nameIndex := 5, descriptorIndex := 6, attributes := #[] }] 33 0 #[] #[])
  fields := #[]
  methods := #[k0m0]
  instanceTypes := #[]
  staticTypes := #[]
  resolved := Array.replicate 124 none
  statics := none }

def pool1 : Array CpInfo := pool [(2, .class_ 4), (1, u "java/lang/Object"), (0, u "<init>"), (0, u "()V"), (0, .fieldref 8 9), (0, .class_ 10), (0, .nameAndType 11 12), (0, u "com/example/pech_david/pechdavid/model/Status"), (0, u "SATISFIED"), (0, u "Lcom/example/pech_david/pechdavid/model/Status;"), (0, .fieldref 8 14), (0, .nameAndType 15 12), (0, u "OPTIMAL"), (0, .fieldref 8 17), (0, .nameAndType 18 12), (0, u "UNSATISFIABLE"), (0, .fieldref 8 20), (0, .nameAndType 21 12), (0, u "UNKNOWN"), (0, .methodref 23 24), (0, .class_ 25), (0, .nameAndType 26 27), (0, u "com/example/pech_david/pechdavid/model/StatusHasValuesPinLaw"), (0, u "pick"), (0, u "(I)Lcom/example/pech_david/pechdavid/model/Status;"), (0, .methodref 8 29), (0, .nameAndType 30 31), (0, u "hasValues"), (0, u "()Z"), (3, u "law"), (0, u "(I)Z")] 2

def k1m0 : Method := { name := "<init>", desc := "()V", sig := { parameters := [], returnType := none }, accessFlags := 2, code := none }
def k1c1 : Code := { maxStack := 2, maxLocals := 1, code := method_2_code, exceptionTable := #[], attributes := #[] }
def k1m1 : Method := { name := "pick", desc := "(I)Lcom/example/pech_david/pechdavid/model/Status;", sig := { parameters := [.int], returnType := some (.object "com/example/pech_david/pechdavid/model/Status") }, accessFlags := 10, code := some k1c1 }
def k1c2 : Code := { maxStack := 2, maxLocals := 4, code := code, exceptionTable := #[], attributes := #[] }
def k1m2 : Method := { name := "law", desc := "(I)Z", sig := { parameters := [.int], returnType := some .boolean }, accessFlags := 9, code := some k1c2 }
/-- com/example/pech_david/pechdavid/model/StatusHasValuesPinLaw -/
def k1 : Class := { plain "com/example/pech_david/pechdavid/model/StatusHasValuesPinLaw" (some 0) with
  accessFlags := 49
  interfaces := #[]
  cf := some (fileOf pool1 23 #[] #[{ accessFlags := 2, nameIndex := 5, descriptorIndex := 6, attributes := #[] }, { accessFlags := 10, nameIndex := 26, descriptorIndex := 27, attributes := #[] }, { accessFlags := 9, nameIndex := 35, descriptorIndex := 36, attributes := #[] }] 49 2 #[] #[])
  fields := #[]
  methods := #[k1m0, k1m1, k1m2]
  instanceTypes := #[]
  staticTypes := #[]
  resolved := Array.replicate 39 none
  statics := none }

def pool2 : Array CpInfo := pool [(1, .class_ 2), (0, u "java/lang/constant/Constable"), (0, .class_ 4), (0, u "java/lang/Object")] 6

/-- java/lang/constant/Constable -/
def k2 : Class := { plain "java/lang/constant/Constable" (some 0) with
  accessFlags := 1537
  interfaces := #[]
  cf := some (fileOf pool2 1 #[] #[] 1537 3 #[] #[])
  fields := #[]
  methods := #[]
  instanceTypes := #[]
  staticTypes := #[]
  resolved := Array.replicate 11 none
  statics := none }

def pool3 : Array CpInfo := pool [(1, .class_ 2), (0, u "java/lang/Comparable"), (0, .class_ 4), (0, u "java/lang/Object")] 7

/-- java/lang/Comparable -/
def k3 : Class := { plain "java/lang/Comparable" (some 0) with
  accessFlags := 1537
  interfaces := #[]
  cf := some (fileOf pool3 1 #[] #[] 1537 3 #[] #[])
  fields := #[]
  methods := #[]
  instanceTypes := #[]
  staticTypes := #[]
  resolved := Array.replicate 12 none
  statics := none }

def pool4 : Array CpInfo := pool [(1, .class_ 2), (0, u "java/io/Serializable"), (0, .class_ 4), (0, u "java/lang/Object")] 2

/-- java/io/Serializable -/
def k4 : Class := { plain "java/io/Serializable" (some 0) with
  accessFlags := 1537
  interfaces := #[]
  cf := some (fileOf pool4 1 #[] #[] 1537 3 #[] #[])
  fields := #[]
  methods := #[]
  instanceTypes := #[]
  staticTypes := #[]
  resolved := Array.replicate 7 none
  statics := none }

def pool5 : Array CpInfo := pool [(2, .class_ 4), (1, u "java/lang/Enum"), (0, u "name"), (0, u "Ljava/lang/String;"), (2, u "ordinal"), (0, u "I"), (1, .class_ 14), (1, u "java/lang/Object"), (4, u "hash"), (86, .class_ 108), (1, u "java/lang/Enum$EnumDesc"), (2, .class_ 112), (0, u "java/lang/constant/Constable"), (0, .class_ 114), (0, u "java/lang/Comparable"), (0, .class_ 116), (0, u "java/io/Serializable")] 87

/-- java/lang/Enum -/
def k5 : Class := { plain "java/lang/Enum" (some 0) with
  accessFlags := 1057
  interfaces := #[2, 3, 4]
  cf := some (fileOf pool5 2 #[.nestMembers #[106]] #[] 1057 12 #[111, 113, 115] #[{ accessFlags := 18, nameIndex := 5, descriptorIndex := 6, attributes := #[] }, { accessFlags := 18, nameIndex := 9, descriptorIndex := 10, attributes := #[] }, { accessFlags := 2, nameIndex := 19, descriptorIndex := 10, attributes := #[] }])
  fields := #[{ name := "name", type := (.object "java/lang/String"), accessFlags := 18, slot := 0, constantValue := 0 }, { name := "ordinal", type := .int, accessFlags := 18, slot := 1, constantValue := 0 }, { name := "hash", type := .int, accessFlags := 2, slot := 2, constantValue := 0 }]
  methods := #[]
  instanceTypes := #[(.object "java/lang/String"), .int, .int]
  staticTypes := #[]
  resolved := Array.replicate 204 none
  statics := none }

def pool6 : Array CpInfo := pool [(1, .class_ 2), (0, u "com/example/pech_david/pechdavid/model/Status"), (0, .fieldref 1 4), (0, .nameAndType 5 6), (0, u "SATISFIED"), (0, u "Lcom/example/pech_david/pechdavid/model/Status;"), (0, .fieldref 1 8), (0, .nameAndType 9 6), (0, u "OPTIMAL"), (2, u "UNSATISFIABLE"), (2, u "UNKNOWN"), (2, u "$VALUES"), (0, u "[Lcom/example/pech_david/pechdavid/model/Status;"), (6, .class_ 28), (1, u "java/lang/Enum"), (22, u "hasValues"), (0, u "()Z")] 5

def k6c0 : Code := { maxStack := 2, maxLocals := 1, code := prog_131_method_4_code, exceptionTable := #[], attributes := #[] }
def k6m0 : Method := { name := "hasValues", desc := "()Z", sig := { parameters := [], returnType := some .boolean }, accessFlags := 1, code := some k6c0 }
/-- com/example/pech_david/pechdavid/model/Status -/
def k6 : Class := { plain "com/example/pech_david/pechdavid/model/Status" (some 5) with
  accessFlags := 16433
  interfaces := #[]
  cf := some (fileOf pool6 1 #[] #[{ accessFlags := 1, nameIndex := 51, descriptorIndex := 52, attributes := #[] }] 16433 26 #[] #[{ accessFlags := 16409, nameIndex := 5, descriptorIndex := 6, attributes := #[] }, { accessFlags := 16409, nameIndex := 9, descriptorIndex := 6, attributes := #[] }, { accessFlags := 16409, nameIndex := 12, descriptorIndex := 6, attributes := #[] }, { accessFlags := 16409, nameIndex := 15, descriptorIndex := 6, attributes := #[] }, { accessFlags := 4122, nameIndex := 18, descriptorIndex := 19, attributes := #[] }])
  fields := #[{ name := "SATISFIED", type := (.object "com/example/pech_david/pechdavid/model/Status"), accessFlags := 16409, slot := 0, constantValue := 0 }, { name := "OPTIMAL", type := (.object "com/example/pech_david/pechdavid/model/Status"), accessFlags := 16409, slot := 1, constantValue := 0 }, { name := "UNSATISFIABLE", type := (.object "com/example/pech_david/pechdavid/model/Status"), accessFlags := 16409, slot := 2, constantValue := 0 }, { name := "UNKNOWN", type := (.object "com/example/pech_david/pechdavid/model/Status"), accessFlags := 16409, slot := 3, constantValue := 0 }, { name := "$VALUES", type := (.array (.object "com/example/pech_david/pechdavid/model/Status")), accessFlags := 4122, slot := 4, constantValue := 0 }]
  methods := #[k6m0]
  instanceTypes := #[(.object "java/lang/String"), .int, .int]
  staticTypes := #[(.object "com/example/pech_david/pechdavid/model/Status"), (.object "com/example/pech_david/pechdavid/model/Status"), (.object "com/example/pech_david/pechdavid/model/Status"), (.object "com/example/pech_david/pechdavid/model/Status"), (.array (.object "com/example/pech_david/pechdavid/model/Status"))]
  resolved := Array.replicate 58 none
  statics := some 0 }

def pool7 : Array CpInfo := pool [(1, u "java/lang/Cloneable"), (0, .class_ 1), (0, u "java/lang/Object"), (0, .class_ 3)] 3

/-- java/lang/Cloneable -/
def k7 : Class := { plain "java/lang/Cloneable" (some 0) with
  accessFlags := 1537
  interfaces := #[]
  cf := some (fileOf pool7 2 #[] #[] 1537 4 #[] #[])
  fields := #[]
  methods := #[]
  instanceTypes := #[]
  staticTypes := #[]
  resolved := Array.replicate 8 none
  statics := none }

/-- the primitive byte -/
def k8 : Class := { plain "byte" none with kind := .primitive 'B', accessFlags := 0x411 }
/-- [B -/
def k9 : Class := { plain "[B" (some 0) with kind := .array 8 .byte, interfaces := #[7, 4], accessFlags := 1041 }

/-- the primitive int -/
def k10 : Class := { plain "int" none with kind := .primitive 'I', accessFlags := 0x411 }
/-- [I -/
def k11 : Class := { plain "[I" (some 0) with kind := .array 10 .int, interfaces := #[7, 4], accessFlags := 1041 }

def heap : Heap := #[{ cls := 6, slots := #[.ref 1, .ref 2, .ref 3, .ref 4, .null], vm := .statics 6 },
  { cls := 6, slots := #[.null, .int 0, .int 0], vm := .none },
  { cls := 6, slots := #[.null, .int 1, .int 0], vm := .none },
  { cls := 6, slots := #[.null, .int 2, .int 0], vm := .none },
  { cls := 6, slots := #[.null, .int 3, .int 0], vm := .none }]
def classes : Array Class := #[k0, k1, k2, k3, k4, k5, k6, k7, k8, k9, k10, k11]
def interned : List (Array UInt16 × Addr) := []
def slotsUsed : Nat := 17
def theMethod : MethodId := ⟨1, 2⟩
def args0 : Array Value := #[.int 5]
def aboutOver (below : List Frame) : State where
  vm := { classes := classes, interned := interned.toArray }
  heap := heap
  slotsUsed := slotsUsed
  threads := #[{ frames := .invoking theMethod args0 :: below }]
def below0 : List Frame := [.native { method := ⟨0, 0⟩, args := #[] }]
def about1 : State := aboutOver below0
def p0 : Program := .bare "" "" ""
def e0 : Env := launch0.env 0 0 0
theorem w_frames : about1.frames = Frame.invoking theMethod args0 :: below0 := rfl
set_option maxRecDepth 65536 in
theorem w_args : argsFit about1.vm theMethod args0 = true := by decide +kernel
set_option maxRecDepth 65536 in
theorem w_heap : heapFits about1 = true := by decide +kernel
set_option maxRecDepth 65536 in
theorem w_runnable : about1.curStatus? = some .runnable := by decide +kernel
set_option maxRecDepth 65536 in
theorem w_alone : about1.alone = true := by decide +kernel
set_option maxRecDepth 65536 in
theorem w_named : about1.methodNamed? x = some theMethod := by decide +kernel
set_option maxRecDepth 65536 in
theorem w_hears : about1.hears theMethod below0 = true := by decide +kernel
set_option maxRecDepth 65536 in
theorem w_ripe : about1.ripe theMethod args0 below0 = true := by decide +kernel
theorem w_running : about1.status = .running := rfl
set_option maxRecDepth 65536 in
theorem w_room : about1.hasRoom e0.platform room_1 = true :=
  launch0.hasRoom_least _ room_1 (by decide +kernel) (by decide +kernel) (by decide +kernel) (by decide +kernel) (by decide +kernel) (by decide +kernel)
theorem allAtoms_all (ts : List Jvm.Cond) (a : Array Jvm.Value) (st : Jvm.State) : (allAtoms ts).before a st = ts.all (fun c => c.before a st) := by
  induction ts with
  | nil => rfl
  | cons c t ih =>
    show (Jvm.Cond.and c (allAtoms t)).before a st = _
    rw [Jvm.Cond.before_and, ih, List.all_cons]
def words1 : List Jvm.Cond := Jvm.Cond.code x code maxLocals ret :: tables_1
/-- a 'code' word, met by the world's own term for the bytes: nothing is compared byte by byte -/
theorem code_word {y : MethodName} {bytes : ByteArray} {mx : Nat} {rt : Option FieldType} {a : Array Value} {s : State} {m : MethodId} {meth : Method} {c : Code} (h1 : s.methodNamed? y = some m) (h2 : s.vm.method? m = some meth) (h3 : meth.code = some c) (h4 : c.code = bytes)
    (h5 : (c.maxLocals == mx && c.exceptionTable.isEmpty && decide (c.maxStack ≤ mostOperands) && decide (meth.sig.returnType = rt) && !meth.locks && decide (parseMethodDescriptor y.desc = some meth.sig)) = true) : (Jvm.Cond.code y bytes mx rt).before a s = true := by
  simp only [Bool.and_eq_true, beq_iff_eq, Bool.not_eq_true', decide_eq_true_eq] at h5
  obtain ⟨⟨⟨⟨⟨g1, g2⟩, g3⟩, g4⟩, g5⟩, g6⟩ := h5
  simp [Cond.before, Cond.holds, Cond.value, h1, h2, h3, h4, g1, g2, g3, g4, g5, g6]
def isCode : Jvm.Cond → Bool
  | .code _ _ _ _ => true
  | _ => false
theorem all_split {L : List Jvm.Cond} {P : Jvm.Cond → Bool} (h1 : L.all (fun c => isCode c || P c) = true) (h2 : ∀ c ∈ L.filter isCode, P c = true) : L.all P = true := by
  refine List.all_eq_true.mpr fun c hc => ?_
  have h := List.all_eq_true.mp h1 c hc
  rcases Bool.eq_false_or_eq_true (isCode c) with hi | hi
  · exact h2 c (List.mem_filter.mpr ⟨hc, hi⟩)
  · simpa [hi] using h
set_option maxRecDepth 65536 in
theorem w_c0 : (Jvm.Cond.code x code maxLocals ret).before args0 about1 = true := code_word (m := ⟨1, 2⟩) (meth := k1m2) (c := k1c2) (by decide +kernel) rfl rfl rfl (by decide +kernel)
set_option maxRecDepth 65536 in
theorem w_c1 : (Jvm.Cond.code ({ cls := "com/example/pech_david/pechdavid/model/StatusHasValuesPinLaw", name := "pick", desc := "(I)Lcom/example/pech_david/pechdavid/model/Status;" } : Jvm.MethodName) method_2_code (1 : Nat) (Option.some (Jvm.ClassFile.FieldType.object "com/example/pech_david/pechdavid/model/Status"))).before args0 about1 = true := code_word (m := ⟨1, 1⟩) (meth := k1m1) (c := k1c1) (by decide +kernel) rfl rfl rfl (by decide +kernel)
set_option maxRecDepth 65536 in
theorem w_c2 : (Jvm.Cond.code ({ cls := "com/example/pech_david/pechdavid/model/Status", name := "hasValues", desc := "()Z" } : Jvm.MethodName) prog_131_method_4_code (1 : Nat) (Option.some Jvm.ClassFile.FieldType.boolean)).before args0 about1 = true := code_word (m := ⟨6, 0⟩) (meth := k6m0) (c := k6c0) (by decide +kernel) rfl rfl rfl (by decide +kernel)
def codes1 : List Jvm.Cond := [Jvm.Cond.code x code maxLocals ret, Jvm.Cond.code ({ cls := "com/example/pech_david/pechdavid/model/StatusHasValuesPinLaw", name := "pick", desc := "(I)Lcom/example/pech_david/pechdavid/model/Status;" } : Jvm.MethodName) method_2_code (1 : Nat) (Option.some (Jvm.ClassFile.FieldType.object "com/example/pech_david/pechdavid/model/Status")), Jvm.Cond.code ({ cls := "com/example/pech_david/pechdavid/model/Status", name := "hasValues", desc := "()Z" } : Jvm.MethodName) prog_131_method_4_code (1 : Nat) (Option.some Jvm.ClassFile.FieldType.boolean)]
set_option maxRecDepth 65536 in
theorem codes_eq : words1.filter isCode = codes1 := rfl
theorem w_codes : ∀ c ∈ words1.filter isCode, c.before args0 about1 = true := by
  rw [codes_eq]
  intro c hc
  simp only [codes1, List.mem_cons, List.not_mem_nil, or_false] at hc
  rcases hc with rfl | rfl | rfl
  · exact w_c0
  · exact w_c1
  · exact w_c2
set_option maxRecDepth 65536 in
theorem w_t1 : words1.all (fun c => isCode c || c.before args0 about1) = true := by decide +kernel
theorem w_tables : (allAtoms (Jvm.Cond.code x code maxLocals ret :: tables_1)).before args0 about1 = true := by
  rw [allAtoms_all]
  show words1.all (fun c => c.before args0 about1) = true
  refine all_split ?_ w_codes
  rw [w_t1]
set_option maxRecDepth 65536 in
theorem w_case : (Jvm.Cond.and given_1 narrow_1).before args0 about1 = true := by decide +kernel
theorem w_applies : (headSpec (Jvm.Cond.code x code maxLocals ret :: tables_1) room_1).applies x e0.platform about1 = true :=
  (Spec.applies_iff w_frames).mpr ⟨w_running, w_runnable, w_alone, w_named, w_hears, w_ripe, w_room, w_tables⟩
theorem atStart : AtStart classFile x code maxLocals ret World_1 tables_1 room_1 Calls_1 rest_1 Pre_1 launch0 p0 e0 about1 theMethod args0 below0 :=
  ⟨lists_1, trivial, launch0.admits_env _ _ _, launch0.least_env, fairChoices_fair.cas, fairChoices_fair.clock, w_frames, w_args, w_heap, w_applies, trivial, trivial, w_case⟩
end start1
theorem witness_1 : WitnessClaimed_1 := ⟨start1.p0, start1.e0, start1.about1, start1.theMethod, start1.args0, start1.below0, start1.atStart⟩
end Jvm.Pilot.@@N@@
