import JvmDerived
import JvmDerived.Pilot.@@N@@Statement
import JvmDerived.Pilot.@@N@@Code
set_option linter.unusedVariables false
set_option linter.unusedSimpArgs false
namespace Jvm.RoadKit
open Sem ClassFile Op Lib Jvm.Stand Jvm.Free Jvm.LawKit
section New
variable {p : Program} {l : Launch} {e : Env} {R : Room} {s : State} {m : MethodId} {args : Array Value} {below : List Frame} {meth : Method} {c : Code} {T : State} {locs : List Loc} {cells slots : Nat}
theorem retI (X : Stand p l e R s m args below meth c T locs cells slots) (hx : p.tables.exec = Jvm.exec) {pc : Nat} {Ls : Array Slot} {z : Int32} {rest : List Value} (hret : meth.sig.returnType = some .int) (hd : decode c.code pc = .ok (.ireturn, 1)) {fs : List Frame}
    (hl : ∀ (f : JFrame) (acts : List Action), f.method = m → f.locked = none → f.entered = [] → (doReturn e (T.setTop f) acts (some (.int z))).1 = T.setFrames fs) : Steps p.tables e below (T.setTop (mkF m pc Ls (.int z :: rest))) (T.setFrames fs) := by
  have hm' : T.vm.method? m = some meth := X.method'
  have hn : narrow .int (.int z) = .int z := rfl
  show Steps p.tables e below (T.setTop { method := m, pc := pc, locals := Ls, stack := _ :: rest, locked := none }) _
  jvm_step X.here [X.here.top, hx, hd, hm', hret, hn]
  first | (intro acts; rw [hl _ acts rfl rfl rfl]) | rw [hl _ _ rfl rfl rfl]
  exact Steps.refl _
end New
/-- the run from S ends, with Post of its end -/
def Go (tb : Tables) (e : Env) (below : List Frame) (Post : Outcome → State → Prop) (S : State) : Prop := ∃ s₂ o, Steps tb e below S s₂ ∧ s₂.status = .running ∧ Ended s₂ below o ∧ Post o s₂
theorem Go.step {tb : Tables} {e : Env} {below : List Frame} {Post : Outcome → State → Prop} {S S' : State} (h : ∀ t, Steps tb e below S' t → Steps tb e below S t) (g : Go tb e below Post S') : Go tb e below Post S := by
  obtain ⟨s₂, o, a, b⟩ := g
  exact ⟨s₂, o, h _ a, b⟩
theorem at_of {c : Cell} {vs : List Value} {d v : Value} {j : Int32} (H : Has c vs d) (hin : ¬ (j < 0 ∨ c.slots.size ≤ j.toNatClampNeg)) (e : vs.getD j.toNatClampNeg d = v) : c.slots[j.toNatClampNeg]? = some v := by
  have q : j.toNatClampNeg < c.slots.size := Nat.lt_of_not_le (fun h => hin (Or.inr h))
  rw [H _ q, e]
end Jvm.RoadKit
namespace Jvm.Pilot.@@N@@
open Jvm Jvm.ClassFile Sem Op Lib Jvm.Free Jvm.Stand Jvm.LawKit Jvm.RoadKit Bundle Jvm.Pilot.@@N@@.Jvm.D
theorem own_eqI {args : Array Value} {s : State} {t : Term} {n : Int32} (h : (Jvm.Cond.eq t (.int n)).value args s none s [] = some true) : t.eval args s none [] s = some (.int n) := by
  simp only [Cond.value, Term.eval] at h
  cases ht : t.eval args s none [] s with
  | none => simp [ht] at h
  | some x => cases x <;> simp [ht] at h ⊢; exact h
theorem own_rem6 (x : Int32) : let k := (x &&& (2147483647 : Int32)) % (6 : Int32); k = 0 ∨ k = 1 ∨ k = 2 ∨ k = 3 ∨ k = 4 ∨ k = 5 := by
  intro k
  have h := c_mask x 2147483647 31 (by decide) (by decide)
  have h2 := (c_irem (x &&& (2147483647 : Int32)) 6 6 (by decide)).1 (by omega)
  have e0 : (0 : Int32).toInt = 0 := by decide
  have e1 : (1 : Int32).toInt = 1 := by decide
  have e2 : (2 : Int32).toInt = 2 := by decide
  have e3 : (3 : Int32).toInt = 3 := by decide
  have e4 : (4 : Int32).toInt = 4 := by decide
  have e5 : (5 : Int32).toInt = 5 := by decide
  have h3 : k.toInt = (x &&& (2147483647 : Int32)).toInt % 6 := h2
  simp only [← Int32.toInt_inj]
  omega
def own_pick (p : Int32) (a b c d e f : Addr) : Addr := if p = 0 then a else if p = 1 then b else if p = 2 then c else if p = 3 then d else if p = 4 then e else f
def own_ord (a s t : Addr) : Int32 := if a = s then 0 else if a = t then 0 else 1
def own_b (b : Bool) : Int32 := if b = true then 1 else 0
theorem pn_0 : plainName "com/example/pech_david/pechdavid/model/RelationOrdersPinLaw" = true := by first | (simp [plainName, overriddenIn]; done) | decide +kernel
theorem d1_0 : decode method_2_code 0 = .ok (.iload_n 0, 1) := by decide +kernel
theorem d1_1 : decode method_2_code 1 = .ok (.ifCond .ne 7, 3) := by decide +kernel
theorem d1_4 : decode method_2_code 4 = .ok (.getstatic 7, 3) := by decide +kernel
theorem d1_7 : decode method_2_code 7 = .ok (.areturn, 1) := by decide +kernel
theorem d1_8 : decode method_2_code 8 = .ok (.iload_n 0, 1) := by decide +kernel
theorem d1_9 : decode method_2_code 9 = .ok (.iconst 1, 1) := by decide +kernel
theorem d1_10 : decode method_2_code 10 = .ok (.if_icmp .ne 7, 3) := by decide +kernel
theorem d1_13 : decode method_2_code 13 = .ok (.getstatic 13, 3) := by decide +kernel
theorem d1_16 : decode method_2_code 16 = .ok (.areturn, 1) := by decide +kernel
theorem d1_17 : decode method_2_code 17 = .ok (.iload_n 0, 1) := by decide +kernel
theorem d1_18 : decode method_2_code 18 = .ok (.iconst 2, 1) := by decide +kernel
theorem d1_19 : decode method_2_code 19 = .ok (.if_icmp .ne 7, 3) := by decide +kernel
theorem d1_22 : decode method_2_code 22 = .ok (.getstatic 16, 3) := by decide +kernel
theorem d1_25 : decode method_2_code 25 = .ok (.areturn, 1) := by decide +kernel
theorem d1_26 : decode method_2_code 26 = .ok (.iload_n 0, 1) := by decide +kernel
theorem d1_27 : decode method_2_code 27 = .ok (.iconst 3, 1) := by decide +kernel
theorem d1_28 : decode method_2_code 28 = .ok (.if_icmp .ne 7, 3) := by decide +kernel
theorem d1_31 : decode method_2_code 31 = .ok (.getstatic 19, 3) := by decide +kernel
theorem d1_34 : decode method_2_code 34 = .ok (.areturn, 1) := by decide +kernel
theorem d1_35 : decode method_2_code 35 = .ok (.iload_n 0, 1) := by decide +kernel
theorem d1_36 : decode method_2_code 36 = .ok (.iconst 4, 1) := by decide +kernel
theorem d1_37 : decode method_2_code 37 = .ok (.if_icmp .ne 7, 3) := by decide +kernel
theorem d1_40 : decode method_2_code 40 = .ok (.getstatic 22, 3) := by decide +kernel
theorem d1_43 : decode method_2_code 43 = .ok (.areturn, 1) := by decide +kernel
theorem d1_44 : decode method_2_code 44 = .ok (.getstatic 25, 3) := by decide +kernel
theorem d1_47 : decode method_2_code 47 = .ok (.areturn, 1) := by decide +kernel
theorem ef_rm1 (m : MethodId) (p1 : Int32) (s_EQUAL : Addr) (s_NOT_EQUAL : Addr) (s_LESS : Addr) (s_LESS_OR_EQUAL : Addr) (s_GREATER : Addr) (s_GREATER_OR_EQUAL : Addr) : entryFrame m #[(.int p1)] 1 = mkF m 0 #[.val (.int p1)] [] := by first | (simp [entryFrame, mkF, argsToLocals, Value.category]; done) | rfl
def Qrm1 (Z : State) (p1 : Int32) (s_EQUAL : Addr) (s_NOT_EQUAL : Addr) (s_LESS : Addr) (s_LESS_OR_EQUAL : Addr) (s_GREATER : Addr) (s_GREATER_OR_EQUAL : Addr) (h0 : Heap) (n0 : Nat) (v : Option Value) (h : Heap) (L : List Loc) : Prop := v = some (.ref (own_pick p1 s_EQUAL s_NOT_EQUAL s_LESS s_LESS_OR_EQUAL s_GREATER s_GREATER_OR_EQUAL)) ∧ Fr n0 L ∧ h = h0
set_option maxRecDepth 65536 in
set_option maxHeartbeats 40000000 in
theorem rm1 (l : Launch) (Z : State) (a0 : Array Value) (hw : ∀ d ∈ tables_1, d.before a0 Z = true) (ws : List Jvm.Cond) (p1 : Int32) (s_EQUAL : Addr) (s_NOT_EQUAL : Addr) (s_LESS : Addr) (s_LESS_OR_EQUAL : Addr) (s_GREATER : Addr) (s_GREATER_OR_EQUAL : Addr) (h0 : Heap) (n0 : Nat) (Z0 : n0 ≤ h0.size) (S_EQUAL : Sta Z h0 "com/example/pech_david/pechdavid/model/Relation" "EQUAL" "Lcom/example/pech_david/pechdavid/model/Relation;" (.ref s_EQUAL)) (S_NOT_EQUAL : Sta Z h0 "com/example/pech_david/pechdavid/model/Relation" "NOT_EQUAL" "Lcom/example/pech_david/pechdavid/model/Relation;" (.ref s_NOT_EQUAL)) (S_LESS : Sta Z h0 "com/example/pech_david/pechdavid/model/Relation" "LESS" "Lcom/example/pech_david/pechdavid/model/Relation;" (.ref s_LESS)) (S_LESS_OR_EQUAL : Sta Z h0 "com/example/pech_david/pechdavid/model/Relation" "LESS_OR_EQUAL" "Lcom/example/pech_david/pechdavid/model/Relation;" (.ref s_LESS_OR_EQUAL)) (S_GREATER : Sta Z h0 "com/example/pech_david/pechdavid/model/Relation" "GREATER" "Lcom/example/pech_david/pechdavid/model/Relation;" (.ref s_GREATER)) (S_GREATER_OR_EQUAL : Sta Z h0 "com/example/pech_david/pechdavid/model/Relation" "GREATER_OR_EQUAL" "Lcom/example/pech_david/pechdavid/model/Relation;" (.ref s_GREATER_OR_EQUAL)) :
    MetFree l (⟨"com/example/pech_david/pechdavid/model/RelationOrdersPinLaw", "pick", "(I)Lcom/example/pech_david/pechdavid/model/Relation;"⟩ : MethodName) (head1 (Jvm.Cond.code (⟨"com/example/pech_david/pechdavid/model/RelationOrdersPinLaw", "pick", "(I)Lcom/example/pech_david/pechdavid/model/Relation;"⟩ : MethodName) method_2_code 1 (some (.object "com/example/pech_david/pechdavid/model/Relation")) :: ws) ({ frames := 0, cells := 0, slots := 0, locals := 0 } : Room)) (fun a U => a = #[(.int p1)] ∧ Z.Warmed39 U.vm ∧ U.heap = h0) (fun _ _ _ _ _ => True) (fun _ U o U' => ∃ v L, o = .returned v ∧ Qrm1 Z p1 s_EQUAL s_NOT_EQUAL s_LESS s_LESS_OR_EQUAL s_GREATER s_GREATER_OR_EQUAL h0 n0 v U'.heap L ∧ FrameEnd U o U' L ({ frames := 0, cells := 0, slots := 0, locals := 0 } : Room).cells ({ frames := 0, cells := 0, slots := 0, locals := 0 } : Room).slots) := by
  refine MetFree.of_bodySF (plainFor_of_name pn_0) hisR ?_
  intro p e s m args below meth c s₁ Bd hml0 hP hK
  obtain ⟨rfl, hZ, hh⟩ := hP
  have hx := Bd.exec
  have hby := Bd.bytes
  have hml : c.maxLocals = 1 := hml0
  have hown : s.vm.findClass "com/example/pech_david/pechdavid/model/RelationOrdersPinLaw" = some m.cls := findClass_of_methodNamed Bd.named
  have hnm := (name_of_methodNamed Bd.named Bd.method).1
  have X0 : Stand p l e ({ frames := 0, cells := 0, slots := 0, locals := 0 } : Room) s m #[(.int p1)] below meth c s₁ [] 0 0 := Stand.of_body Bd
  have e0 : s₁.heap = h0 := by rw [← hh, Bd.state]; rfl
  have N0 := Fr.nil n0
  show Go p.tables e below (fun o U' => ∃ v L, o = .returned v ∧ Qrm1 Z p1 s_EQUAL s_NOT_EQUAL s_LESS s_LESS_OR_EQUAL s_GREATER s_GREATER_OR_EQUAL h0 n0 v U'.heap L ∧ FrameEnd s o U' L ({ frames := 0, cells := 0, slots := 0, locals := 0 } : Room).cells ({ frames := 0, cells := 0, slots := 0, locals := 0 } : Room).slots) _
  refine Go.step (fun t kt => castTop (ef_rm1 m p1 s_EQUAL s_NOT_EQUAL s_LESS s_LESS_OR_EQUAL s_GREATER s_GREATER_OR_EQUAL) kt) ?_
  show Go p.tables e below _ (s₁.setTop (mkF m 0 #[.val (.int p1)] []))
  refine Go.step (fun _ kt => XS.iloadN X0.here hx rfl (hb hby d1_0) rfl kt) ?_
  show Go p.tables e below _ (s₁.setTop (mkF m 1 #[.val (.int p1)] [(.int p1)]))
  by_cases hc1_101 : p1 = (0 : Int32)
  · refine Go.step (fun _ kt => XS.ifNo X0.here hx rfl (hb hby d1_1) rfl ((if0 _ _).trans (teq hc1_101).2) kt) ?_
    show Go p.tables e below _ (s₁.setTop (mkF m 4 #[.val (.int p1)] []))
    obtain ⟨T102, X102, e102, st102⟩ := getS2 X0 hx hZ hown (host := "") (Or.inl (hw _ (List.mem_of_getElem? (i := 5) rfl))) Via.refl e0 S_EQUAL (g := (mkF m 4 #[.val (.int p1)] [])) rfl (hb hby d1_4)
    refine Go.step st102 ?_
    show Go p.tables e below _ (T102.setTop (mkF m 7 #[.val (.int p1)] [(.ref s_EQUAL)]))
    obtain ⟨fs, hr, hrun, hended, hW, hsame⟩ := X102.leave (v := some (.ref s_EQUAL)) (fun h => by rw [Bd.returns] at h; cases h)
    refine ⟨_, _, retOut X102 hx Bd.returns rfl (Or.inr (Or.inr (Or.inr (Or.inr ⟨rfl, rfl, rfl⟩)))) (hb hby d1_7) hr, hrun, hended, _, _, rfl, ?_, ⟨_, rfl⟩, hW, hsame.mono (by decide) (by decide)⟩
    show Qrm1 Z p1 s_EQUAL s_NOT_EQUAL s_LESS s_LESS_OR_EQUAL s_GREATER s_GREATER_OR_EQUAL h0 n0 _ T102.heap _
    rw [e102]
    refine ⟨?_, N0, rfl⟩
    have q : own_pick p1 s_EQUAL s_NOT_EQUAL s_LESS s_LESS_OR_EQUAL s_GREATER s_GREATER_OR_EQUAL = s_EQUAL := by simp only [own_pick]; simp [hc1_101]
    rw [q]
  · refine Go.step (fun _ kt => XS.ifYes X0.here hx rfl (pc0 := 1) (pc' := 8) rfl (hb hby d1_1) rfl ((if0 _ _).trans (feq hc1_101).2) (by decide) (by decide) kt) ?_
    show Go p.tables e below _ (s₁.setTop (mkF m 8 #[.val (.int p1)] []))
    refine Go.step (fun _ kt => XS.iloadN X0.here hx rfl (hb hby d1_8) rfl kt) ?_
    show Go p.tables e below _ (s₁.setTop (mkF m 9 #[.val (.int p1)] [(.int p1)]))
    refine Go.step (fun _ kt => XS.iconst X0.here hx rfl (hb hby d1_9) kt) ?_
    show Go p.tables e below _ (s₁.setTop (mkF m 10 #[.val (.int p1)] [(.int (1 : Int32)), (.int p1)]))
    by_cases hc10_103 : p1 = (1 : Int32)
    · refine Go.step (fun _ kt => XS.icmpNo X0.here hx rfl (hb hby d1_10) rfl (teq hc10_103).2 kt) ?_
      show Go p.tables e below _ (s₁.setTop (mkF m 13 #[.val (.int p1)] []))
      obtain ⟨T104, X104, e104, st104⟩ := getS2 X0 hx hZ hown (host := "") (Or.inl (hw _ (List.mem_of_getElem? (i := 34) rfl))) Via.refl e0 S_NOT_EQUAL (g := (mkF m 13 #[.val (.int p1)] [])) rfl (hb hby d1_13)
      refine Go.step st104 ?_
      show Go p.tables e below _ (T104.setTop (mkF m 16 #[.val (.int p1)] [(.ref s_NOT_EQUAL)]))
      obtain ⟨fs, hr, hrun, hended, hW, hsame⟩ := X104.leave (v := some (.ref s_NOT_EQUAL)) (fun h => by rw [Bd.returns] at h; cases h)
      refine ⟨_, _, retOut X104 hx Bd.returns rfl (Or.inr (Or.inr (Or.inr (Or.inr ⟨rfl, rfl, rfl⟩)))) (hb hby d1_16) hr, hrun, hended, _, _, rfl, ?_, ⟨_, rfl⟩, hW, hsame.mono (by decide) (by decide)⟩
      show Qrm1 Z p1 s_EQUAL s_NOT_EQUAL s_LESS s_LESS_OR_EQUAL s_GREATER s_GREATER_OR_EQUAL h0 n0 _ T104.heap _
      rw [e104]
      refine ⟨?_, N0, rfl⟩
      have q : own_pick p1 s_EQUAL s_NOT_EQUAL s_LESS s_LESS_OR_EQUAL s_GREATER s_GREATER_OR_EQUAL = s_NOT_EQUAL := by simp only [own_pick]; simp [hc1_101, hc10_103]
      rw [q]
    · refine Go.step (fun _ kt => XS.icmpYes X0.here hx rfl (pc0 := 10) (pc' := 17) rfl (hb hby d1_10) rfl (feq hc10_103).2 (by decide) (by decide) kt) ?_
      show Go p.tables e below _ (s₁.setTop (mkF m 17 #[.val (.int p1)] []))
      refine Go.step (fun _ kt => XS.iloadN X0.here hx rfl (hb hby d1_17) rfl kt) ?_
      show Go p.tables e below _ (s₁.setTop (mkF m 18 #[.val (.int p1)] [(.int p1)]))
      refine Go.step (fun _ kt => XS.iconst X0.here hx rfl (hb hby d1_18) kt) ?_
      show Go p.tables e below _ (s₁.setTop (mkF m 19 #[.val (.int p1)] [(.int (2 : Int32)), (.int p1)]))
      by_cases hc19_105 : p1 = (2 : Int32)
      · refine Go.step (fun _ kt => XS.icmpNo X0.here hx rfl (hb hby d1_19) rfl (teq hc19_105).2 kt) ?_
        show Go p.tables e below _ (s₁.setTop (mkF m 22 #[.val (.int p1)] []))
        obtain ⟨T106, X106, e106, st106⟩ := getS2 X0 hx hZ hown (host := "") (Or.inl (hw _ (List.mem_of_getElem? (i := 32) rfl))) Via.refl e0 S_LESS (g := (mkF m 22 #[.val (.int p1)] [])) rfl (hb hby d1_22)
        refine Go.step st106 ?_
        show Go p.tables e below _ (T106.setTop (mkF m 25 #[.val (.int p1)] [(.ref s_LESS)]))
        obtain ⟨fs, hr, hrun, hended, hW, hsame⟩ := X106.leave (v := some (.ref s_LESS)) (fun h => by rw [Bd.returns] at h; cases h)
        refine ⟨_, _, retOut X106 hx Bd.returns rfl (Or.inr (Or.inr (Or.inr (Or.inr ⟨rfl, rfl, rfl⟩)))) (hb hby d1_25) hr, hrun, hended, _, _, rfl, ?_, ⟨_, rfl⟩, hW, hsame.mono (by decide) (by decide)⟩
        show Qrm1 Z p1 s_EQUAL s_NOT_EQUAL s_LESS s_LESS_OR_EQUAL s_GREATER s_GREATER_OR_EQUAL h0 n0 _ T106.heap _
        rw [e106]
        refine ⟨?_, N0, rfl⟩
        have q : own_pick p1 s_EQUAL s_NOT_EQUAL s_LESS s_LESS_OR_EQUAL s_GREATER s_GREATER_OR_EQUAL = s_LESS := by simp only [own_pick]; simp [hc1_101, hc10_103, hc19_105]
        rw [q]
      · refine Go.step (fun _ kt => XS.icmpYes X0.here hx rfl (pc0 := 19) (pc' := 26) rfl (hb hby d1_19) rfl (feq hc19_105).2 (by decide) (by decide) kt) ?_
        show Go p.tables e below _ (s₁.setTop (mkF m 26 #[.val (.int p1)] []))
        refine Go.step (fun _ kt => XS.iloadN X0.here hx rfl (hb hby d1_26) rfl kt) ?_
        show Go p.tables e below _ (s₁.setTop (mkF m 27 #[.val (.int p1)] [(.int p1)]))
        refine Go.step (fun _ kt => XS.iconst X0.here hx rfl (hb hby d1_27) kt) ?_
        show Go p.tables e below _ (s₁.setTop (mkF m 28 #[.val (.int p1)] [(.int (3 : Int32)), (.int p1)]))
        by_cases hc28_107 : p1 = (3 : Int32)
        · refine Go.step (fun _ kt => XS.icmpNo X0.here hx rfl (hb hby d1_28) rfl (teq hc28_107).2 kt) ?_
          show Go p.tables e below _ (s₁.setTop (mkF m 31 #[.val (.int p1)] []))
          obtain ⟨T108, X108, e108, st108⟩ := getS2 X0 hx hZ hown (host := "") (Or.inl (hw _ (List.mem_of_getElem? (i := 28) rfl))) Via.refl e0 S_LESS_OR_EQUAL (g := (mkF m 31 #[.val (.int p1)] [])) rfl (hb hby d1_31)
          refine Go.step st108 ?_
          show Go p.tables e below _ (T108.setTop (mkF m 34 #[.val (.int p1)] [(.ref s_LESS_OR_EQUAL)]))
          obtain ⟨fs, hr, hrun, hended, hW, hsame⟩ := X108.leave (v := some (.ref s_LESS_OR_EQUAL)) (fun h => by rw [Bd.returns] at h; cases h)
          refine ⟨_, _, retOut X108 hx Bd.returns rfl (Or.inr (Or.inr (Or.inr (Or.inr ⟨rfl, rfl, rfl⟩)))) (hb hby d1_34) hr, hrun, hended, _, _, rfl, ?_, ⟨_, rfl⟩, hW, hsame.mono (by decide) (by decide)⟩
          show Qrm1 Z p1 s_EQUAL s_NOT_EQUAL s_LESS s_LESS_OR_EQUAL s_GREATER s_GREATER_OR_EQUAL h0 n0 _ T108.heap _
          rw [e108]
          refine ⟨?_, N0, rfl⟩
          have q : own_pick p1 s_EQUAL s_NOT_EQUAL s_LESS s_LESS_OR_EQUAL s_GREATER s_GREATER_OR_EQUAL = s_LESS_OR_EQUAL := by simp only [own_pick]; simp [hc1_101, hc10_103, hc19_105, hc28_107]
          rw [q]
        · refine Go.step (fun _ kt => XS.icmpYes X0.here hx rfl (pc0 := 28) (pc' := 35) rfl (hb hby d1_28) rfl (feq hc28_107).2 (by decide) (by decide) kt) ?_
          show Go p.tables e below _ (s₁.setTop (mkF m 35 #[.val (.int p1)] []))
          refine Go.step (fun _ kt => XS.iloadN X0.here hx rfl (hb hby d1_35) rfl kt) ?_
          show Go p.tables e below _ (s₁.setTop (mkF m 36 #[.val (.int p1)] [(.int p1)]))
          refine Go.step (fun _ kt => XS.iconst X0.here hx rfl (hb hby d1_36) kt) ?_
          show Go p.tables e below _ (s₁.setTop (mkF m 37 #[.val (.int p1)] [(.int (4 : Int32)), (.int p1)]))
          by_cases hc37_109 : p1 = (4 : Int32)
          · refine Go.step (fun _ kt => XS.icmpNo X0.here hx rfl (hb hby d1_37) rfl (teq hc37_109).2 kt) ?_
            show Go p.tables e below _ (s₁.setTop (mkF m 40 #[.val (.int p1)] []))
            obtain ⟨T110, X110, e110, st110⟩ := getS2 X0 hx hZ hown (host := "") (Or.inl (hw _ (List.mem_of_getElem? (i := 37) rfl))) Via.refl e0 S_GREATER (g := (mkF m 40 #[.val (.int p1)] [])) rfl (hb hby d1_40)
            refine Go.step st110 ?_
            show Go p.tables e below _ (T110.setTop (mkF m 43 #[.val (.int p1)] [(.ref s_GREATER)]))
            obtain ⟨fs, hr, hrun, hended, hW, hsame⟩ := X110.leave (v := some (.ref s_GREATER)) (fun h => by rw [Bd.returns] at h; cases h)
            refine ⟨_, _, retOut X110 hx Bd.returns rfl (Or.inr (Or.inr (Or.inr (Or.inr ⟨rfl, rfl, rfl⟩)))) (hb hby d1_43) hr, hrun, hended, _, _, rfl, ?_, ⟨_, rfl⟩, hW, hsame.mono (by decide) (by decide)⟩
            show Qrm1 Z p1 s_EQUAL s_NOT_EQUAL s_LESS s_LESS_OR_EQUAL s_GREATER s_GREATER_OR_EQUAL h0 n0 _ T110.heap _
            rw [e110]
            refine ⟨?_, N0, rfl⟩
            have q : own_pick p1 s_EQUAL s_NOT_EQUAL s_LESS s_LESS_OR_EQUAL s_GREATER s_GREATER_OR_EQUAL = s_GREATER := by simp only [own_pick]; simp [hc1_101, hc10_103, hc19_105, hc28_107, hc37_109]
            rw [q]
          · refine Go.step (fun _ kt => XS.icmpYes X0.here hx rfl (pc0 := 37) (pc' := 44) rfl (hb hby d1_37) rfl (feq hc37_109).2 (by decide) (by decide) kt) ?_
            show Go p.tables e below _ (s₁.setTop (mkF m 44 #[.val (.int p1)] []))
            obtain ⟨T111, X111, e111, st111⟩ := getS2 X0 hx hZ hown (host := "") (Or.inl (hw _ (List.mem_of_getElem? (i := 35) rfl))) Via.refl e0 S_GREATER_OR_EQUAL (g := (mkF m 44 #[.val (.int p1)] [])) rfl (hb hby d1_44)
            refine Go.step st111 ?_
            show Go p.tables e below _ (T111.setTop (mkF m 47 #[.val (.int p1)] [(.ref s_GREATER_OR_EQUAL)]))
            obtain ⟨fs, hr, hrun, hended, hW, hsame⟩ := X111.leave (v := some (.ref s_GREATER_OR_EQUAL)) (fun h => by rw [Bd.returns] at h; cases h)
            refine ⟨_, _, retOut X111 hx Bd.returns rfl (Or.inr (Or.inr (Or.inr (Or.inr ⟨rfl, rfl, rfl⟩)))) (hb hby d1_47) hr, hrun, hended, _, _, rfl, ?_, ⟨_, rfl⟩, hW, hsame.mono (by decide) (by decide)⟩
            show Qrm1 Z p1 s_EQUAL s_NOT_EQUAL s_LESS s_LESS_OR_EQUAL s_GREATER s_GREATER_OR_EQUAL h0 n0 _ T111.heap _
            rw [e111]
            refine ⟨?_, N0, rfl⟩
            have q : own_pick p1 s_EQUAL s_NOT_EQUAL s_LESS s_LESS_OR_EQUAL s_GREATER s_GREATER_OR_EQUAL = s_GREATER_OR_EQUAL := by simp only [own_pick]; simp [hc1_101, hc10_103, hc19_105, hc28_107, hc37_109]
            rw [q]
theorem pn_1 : plainName "com/example/pech_david/pechdavid/model/Relation" = true := by first | (simp [plainName, overriddenIn]; done) | decide +kernel
theorem d2_0 : decode prog_124_method_5_code 0 = .ok (.aload_n 0, 1) := by decide +kernel
theorem d2_1 : decode prog_124_method_5_code 1 = .ok (.getstatic 3, 3) := by decide +kernel
theorem d2_4 : decode prog_124_method_5_code 4 = .ok (.if_acmp .eq 14, 3) := by decide +kernel
theorem d2_7 : decode prog_124_method_5_code 7 = .ok (.aload_n 0, 1) := by decide +kernel
theorem d2_8 : decode prog_124_method_5_code 8 = .ok (.getstatic 7, 3) := by decide +kernel
theorem d2_11 : decode prog_124_method_5_code 11 = .ok (.if_acmp .eq 7, 3) := by decide +kernel
theorem d2_14 : decode prog_124_method_5_code 14 = .ok (.iconst 1, 1) := by decide +kernel
theorem d2_15 : decode prog_124_method_5_code 15 = .ok (.goto 4, 3) := by decide +kernel
theorem d2_18 : decode prog_124_method_5_code 18 = .ok (.iconst 0, 1) := by decide +kernel
theorem d2_19 : decode prog_124_method_5_code 19 = .ok (.ireturn, 1) := by decide +kernel
theorem ef_rm2 (m : MethodId) (a1 : Addr) (s_EQUAL : Addr) (s_NOT_EQUAL : Addr) : entryFrame m #[(.ref a1)] 1 = mkF m 0 #[.val (.ref a1)] [] := by first | (simp [entryFrame, mkF, argsToLocals, Value.category]; done) | rfl
def Qrm2 (Z : State) (a1 : Addr) (s_EQUAL : Addr) (s_NOT_EQUAL : Addr) (h0 : Heap) (n0 : Nat) (v : Option Value) (h : Heap) (L : List Loc) : Prop := v = some (.int (own_ord a1 s_EQUAL s_NOT_EQUAL)) ∧ Fr n0 L ∧ h = h0
set_option maxRecDepth 65536 in
set_option maxHeartbeats 40000000 in
theorem rm2 (l : Launch) (Z : State) (a0 : Array Value) (hw : ∀ d ∈ tables_1, d.before a0 Z = true) (ws : List Jvm.Cond) (a1 : Addr) (s_EQUAL : Addr) (s_NOT_EQUAL : Addr) (h0 : Heap) (n0 : Nat) (Z0 : n0 ≤ h0.size) (S_EQUAL : Sta Z h0 "com/example/pech_david/pechdavid/model/Relation" "EQUAL" "Lcom/example/pech_david/pechdavid/model/Relation;" (.ref s_EQUAL)) (S_NOT_EQUAL : Sta Z h0 "com/example/pech_david/pechdavid/model/Relation" "NOT_EQUAL" "Lcom/example/pech_david/pechdavid/model/Relation;" (.ref s_NOT_EQUAL)) :
    MetFree l (⟨"com/example/pech_david/pechdavid/model/Relation", "orders", "()Z"⟩ : MethodName) (head1 (Jvm.Cond.code (⟨"com/example/pech_david/pechdavid/model/Relation", "orders", "()Z"⟩ : MethodName) prog_124_method_5_code 1 (some .boolean) :: ws) ({ frames := 0, cells := 0, slots := 0, locals := 0 } : Room)) (fun a U => a = #[(.ref a1)] ∧ Z.Warmed39 U.vm ∧ U.heap = h0) (fun _ _ _ _ _ => True) (fun _ U o U' => ∃ v L, o = .returned v ∧ Qrm2 Z a1 s_EQUAL s_NOT_EQUAL h0 n0 v U'.heap L ∧ FrameEnd U o U' L ({ frames := 0, cells := 0, slots := 0, locals := 0 } : Room).cells ({ frames := 0, cells := 0, slots := 0, locals := 0 } : Room).slots) := by
  refine MetFree.of_bodySF (plainFor_of_name pn_1) hisR ?_
  intro p e s m args below meth c s₁ Bd hml0 hP hK
  obtain ⟨rfl, hZ, hh⟩ := hP
  have hx := Bd.exec
  have hby := Bd.bytes
  have hml : c.maxLocals = 1 := hml0
  have hown : s.vm.findClass "com/example/pech_david/pechdavid/model/Relation" = some m.cls := findClass_of_methodNamed Bd.named
  have hnm := (name_of_methodNamed Bd.named Bd.method).1
  have X0 : Stand p l e ({ frames := 0, cells := 0, slots := 0, locals := 0 } : Room) s m #[(.ref a1)] below meth c s₁ [] 0 0 := Stand.of_body Bd
  have e0 : s₁.heap = h0 := by rw [← hh, Bd.state]; rfl
  have N0 := Fr.nil n0
  show Go p.tables e below (fun o U' => ∃ v L, o = .returned v ∧ Qrm2 Z a1 s_EQUAL s_NOT_EQUAL h0 n0 v U'.heap L ∧ FrameEnd s o U' L ({ frames := 0, cells := 0, slots := 0, locals := 0 } : Room).cells ({ frames := 0, cells := 0, slots := 0, locals := 0 } : Room).slots) _
  refine Go.step (fun t kt => castTop (ef_rm2 m a1 s_EQUAL s_NOT_EQUAL) kt) ?_
  show Go p.tables e below _ (s₁.setTop (mkF m 0 #[.val (.ref a1)] []))
  refine Go.step (fun _ kt => XS.aloadN X0.here hx rfl (hb hby d2_0) rfl rfl kt) ?_
  show Go p.tables e below _ (s₁.setTop (mkF m 1 #[.val (.ref a1)] [(.ref a1)]))
  obtain ⟨T101, X101, e101, st101⟩ := getS2 X0 hx hZ hown (host := "") (Or.inl (hw _ (List.mem_of_getElem? (i := 13) rfl))) Via.refl e0 S_EQUAL (g := (mkF m 1 #[.val (.ref a1)] [(.ref a1)])) rfl (hb hby d2_1)
  refine Go.step st101 ?_
  show Go p.tables e below _ (T101.setTop (mkF m 4 #[.val (.ref a1)] [(.ref s_EQUAL), (.ref a1)]))
  by_cases hc4_102 : a1 = s_EQUAL
  · refine Go.step (fun _ kt => Jvm.RoadKit.acmp (g := (mkF m 4 #[.val (.ref a1)] [(.ref s_EQUAL), (.ref a1)])) X101 hx rfl rfl rfl (pc0 := 4) (pc' := 18) (same := true) rfl (hb hby d2_4) rfl (decide_eq_true (congrArg Value.ref hc4_102)) (by decide) (by decide) kt) ?_
    show Go p.tables e below _ (T101.setTop (mkF m 18 #[.val (.ref a1)] []))
    refine Go.step (fun _ kt => XS.iconst X101.here hx rfl (hb hby d2_18) kt) ?_
    show Go p.tables e below _ (T101.setTop (mkF m 19 #[.val (.ref a1)] [(.int (0 : Int32))]))
    obtain ⟨fs, hr, hrun, hended, hW, hsame⟩ := X101.leave (v := some (.int (0 : Int32))) (fun h => by rw [Bd.returns] at h; cases h)
    refine ⟨_, _, retN X101 hx (t := .boolean) Bd.returns (by simp) (hb hby d2_19) hr, hrun, hended, _, _, rfl, ?_, ⟨_, rfl⟩, hW, hsame.mono (by decide) (by decide)⟩
    show Qrm2 Z a1 s_EQUAL s_NOT_EQUAL h0 n0 _ T101.heap _
    rw [e101]
    refine ⟨?_, N0, rfl⟩
    have q : own_ord a1 s_EQUAL s_NOT_EQUAL = (0 : Int32) := by simp only [own_ord]; simp [hc4_102]
    rw [q]
  · refine Go.step (fun _ kt => Jvm.RoadKit.acmp (g := (mkF m 4 #[.val (.ref a1)] [(.ref s_EQUAL), (.ref a1)])) X101 hx rfl rfl rfl (pc0 := 4) (pc' := 7) (same := false) rfl (hb hby d2_4) rfl (decide_eq_false fun q => hc4_102 (Value.ref.inj q)) (by decide) (by decide) kt) ?_
    show Go p.tables e below _ (T101.setTop (mkF m 7 #[.val (.ref a1)] []))
    refine Go.step (fun _ kt => XS.aloadN X101.here hx rfl (hb hby d2_7) rfl rfl kt) ?_
    show Go p.tables e below _ (T101.setTop (mkF m 8 #[.val (.ref a1)] [(.ref a1)]))
    obtain ⟨T103, X103, e103, st103⟩ := getS2 X101 hx hZ hown (host := "") (Or.inl (hw _ (List.mem_of_getElem? (i := 30) rfl))) Via.refl e101 S_NOT_EQUAL (g := (mkF m 8 #[.val (.ref a1)] [(.ref a1)])) rfl (hb hby d2_8)
    refine Go.step st103 ?_
    show Go p.tables e below _ (T103.setTop (mkF m 11 #[.val (.ref a1)] [(.ref s_NOT_EQUAL), (.ref a1)]))
    by_cases hc11_104 : a1 = s_NOT_EQUAL
    · refine Go.step (fun _ kt => Jvm.RoadKit.acmp (g := (mkF m 11 #[.val (.ref a1)] [(.ref s_NOT_EQUAL), (.ref a1)])) X103 hx rfl rfl rfl (pc0 := 11) (pc' := 18) (same := true) rfl (hb hby d2_11) rfl (decide_eq_true (congrArg Value.ref hc11_104)) (by decide) (by decide) kt) ?_
      show Go p.tables e below _ (T103.setTop (mkF m 18 #[.val (.ref a1)] []))
      refine Go.step (fun _ kt => XS.iconst X103.here hx rfl (hb hby d2_18) kt) ?_
      show Go p.tables e below _ (T103.setTop (mkF m 19 #[.val (.ref a1)] [(.int (0 : Int32))]))
      obtain ⟨fs, hr, hrun, hended, hW, hsame⟩ := X103.leave (v := some (.int (0 : Int32))) (fun h => by rw [Bd.returns] at h; cases h)
      refine ⟨_, _, retN X103 hx (t := .boolean) Bd.returns (by simp) (hb hby d2_19) hr, hrun, hended, _, _, rfl, ?_, ⟨_, rfl⟩, hW, hsame.mono (by decide) (by decide)⟩
      show Qrm2 Z a1 s_EQUAL s_NOT_EQUAL h0 n0 _ T103.heap _
      rw [e103]
      refine ⟨?_, N0, rfl⟩
      have q : own_ord a1 s_EQUAL s_NOT_EQUAL = (0 : Int32) := by simp only [own_ord]; simp [hc4_102, hc11_104]
      rw [q]
    · refine Go.step (fun _ kt => Jvm.RoadKit.acmp (g := (mkF m 11 #[.val (.ref a1)] [(.ref s_NOT_EQUAL), (.ref a1)])) X103 hx rfl rfl rfl (pc0 := 11) (pc' := 14) (same := false) rfl (hb hby d2_11) rfl (decide_eq_false fun q => hc11_104 (Value.ref.inj q)) (by decide) (by decide) kt) ?_
      show Go p.tables e below _ (T103.setTop (mkF m 14 #[.val (.ref a1)] []))
      refine Go.step (fun _ kt => XS.iconst X103.here hx rfl (hb hby d2_14) kt) ?_
      show Go p.tables e below _ (T103.setTop (mkF m 15 #[.val (.ref a1)] [(.int (1 : Int32))]))
      refine Go.step (fun _ kt => XS.goto X103.here hx rfl (pc0 := 15) (pc' := 19) rfl (hb hby d2_15) (by decide) (by decide) kt) ?_
      show Go p.tables e below _ (T103.setTop (mkF m 19 #[.val (.ref a1)] [(.int (1 : Int32))]))
      obtain ⟨fs, hr, hrun, hended, hW, hsame⟩ := X103.leave (v := some (.int (1 : Int32))) (fun h => by rw [Bd.returns] at h; cases h)
      refine ⟨_, _, retN X103 hx (t := .boolean) Bd.returns (by simp) (hb hby d2_19) hr, hrun, hended, _, _, rfl, ?_, ⟨_, rfl⟩, hW, hsame.mono (by decide) (by decide)⟩
      show Qrm2 Z a1 s_EQUAL s_NOT_EQUAL h0 n0 _ T103.heap _
      rw [e103]
      refine ⟨?_, N0, rfl⟩
      have q : own_ord a1 s_EQUAL s_NOT_EQUAL = (1 : Int32) := by simp only [own_ord]; simp [hc4_102, hc11_104]
      rw [q]
theorem pn_2 : plainName "java/lang/Enum" = true := by first | (simp [plainName, overriddenIn]; done) | decide +kernel
theorem d4_0 : decode jdk_37_method_2_code 0 = .ok (.aload_n 0, 1) := by decide +kernel
theorem d4_1 : decode jdk_37_method_2_code 1 = .ok (.getfield 7, 3) := by decide +kernel
theorem d4_4 : decode jdk_37_method_2_code 4 = .ok (.ireturn, 1) := by decide +kernel
theorem ef_rm4 (m : MethodId) (a1 : Addr) (k : Int32) : entryFrame m #[(.ref a1)] 1 = mkF m 0 #[.val (.ref a1)] [] := by first | (simp [entryFrame, mkF, argsToLocals, Value.category]; done) | rfl
def Qrm4 (Z : State) (a1 : Addr) (k : Int32) (h0 : Heap) (n0 : Nat) (v : Option Value) (h : Heap) (L : List Loc) : Prop := v = some (.int k) ∧ Fr n0 L ∧ h = h0
set_option maxRecDepth 65536 in
set_option maxHeartbeats 40000000 in
theorem rm4 (l : Launch) (Z : State) (a0 : Array Value) (hw : ∀ d ∈ tables_1, d.before a0 Z = true) (ws : List Jvm.Cond) (a1 : Addr) (k : Int32) (h0 : Heap) (n0 : Nat) (Z0 : n0 ≤ h0.size) (F1 : Fld Z h0 a1 "java/lang/Enum" "ordinal" "I" (.int k)) :
    MetFree l (⟨"java/lang/Enum", "ordinal", "()I"⟩ : MethodName) (head1 (Jvm.Cond.code (⟨"java/lang/Enum", "ordinal", "()I"⟩ : MethodName) jdk_37_method_2_code 1 (some .int) :: ws) ({ frames := 0, cells := 0, slots := 0, locals := 0 } : Room)) (fun a U => a = #[(.ref a1)] ∧ Z.Warmed39 U.vm ∧ U.heap = h0) (fun _ _ _ _ _ => True) (fun _ U o U' => ∃ v L, o = .returned v ∧ Qrm4 Z a1 k h0 n0 v U'.heap L ∧ FrameEnd U o U' L ({ frames := 0, cells := 0, slots := 0, locals := 0 } : Room).cells ({ frames := 0, cells := 0, slots := 0, locals := 0 } : Room).slots) := by
  refine MetFree.of_bodySF (plainFor_of_name pn_2) hisR ?_
  intro p e s m args below meth c s₁ Bd hml0 hP hK
  obtain ⟨rfl, hZ, hh⟩ := hP
  have hx := Bd.exec
  have hby := Bd.bytes
  have hml : c.maxLocals = 1 := hml0
  have hown : s.vm.findClass "java/lang/Enum" = some m.cls := findClass_of_methodNamed Bd.named
  have hnm := (name_of_methodNamed Bd.named Bd.method).1
  have X0 : Stand p l e ({ frames := 0, cells := 0, slots := 0, locals := 0 } : Room) s m #[(.ref a1)] below meth c s₁ [] 0 0 := Stand.of_body Bd
  have e0 : s₁.heap = h0 := by rw [← hh, Bd.state]; rfl
  have N0 := Fr.nil n0
  show Go p.tables e below (fun o U' => ∃ v L, o = .returned v ∧ Qrm4 Z a1 k h0 n0 v U'.heap L ∧ FrameEnd s o U' L ({ frames := 0, cells := 0, slots := 0, locals := 0 } : Room).cells ({ frames := 0, cells := 0, slots := 0, locals := 0 } : Room).slots) _
  refine Go.step (fun t kt => castTop (ef_rm4 m a1 k) kt) ?_
  show Go p.tables e below _ (s₁.setTop (mkF m 0 #[.val (.ref a1)] []))
  refine Go.step (fun _ kt => XS.aloadN X0.here hx rfl (hb hby d4_0) rfl rfl kt) ?_
  show Go p.tables e below _ (s₁.setTop (mkF m 1 #[.val (.ref a1)] [(.ref a1)]))
  obtain ⟨T101, X101, e101, st101⟩ := getF X0 hx hZ hown (host := "") (Or.inl (hw _ (List.mem_of_getElem? (i := 26) rfl))) Via.refl e0 F1 (g := (mkF m 1 #[.val (.ref a1)] [(.ref a1)])) rfl rfl (hb hby d4_1)
  refine Go.step st101 ?_
  show Go p.tables e below _ (T101.setTop (mkF m 4 #[.val (.ref a1)] [(.int k)]))
  obtain ⟨fs, hr, hrun, hended, hW, hsame⟩ := X101.leave (v := some (.int k)) (fun h => by rw [Bd.returns] at h; cases h)
  refine ⟨_, _, retI X101 hx Bd.returns (hb hby d4_4) hr, hrun, hended, _, _, rfl, ?_, ⟨_, rfl⟩, hW, hsame.mono (by decide) (by decide)⟩
  show Qrm4 Z a1 k h0 n0 _ T101.heap _
  rw [e101]
  refine ⟨?_, N0, rfl⟩
  rfl
def own_h0 (x y : Int64) : Int32 := if lcmpW x y = 0 then 1 else 0
theorem pd_0 : parseMethodDescriptor "()I" = some ⟨[], some .int⟩ := by decide +kernel
theorem d3_0 : decode prog_124_method_6_code 0 = .ok (.aload_n 0, 1) := by decide +kernel
theorem d3_1 : decode prog_124_method_6_code 1 = .ok (.invokevirtual 45, 3) := by decide +kernel
theorem d3_4 : decode prog_124_method_6_code 4 = .ok (.tableswitch 40 0 5 #[50, 64, 78, 92, 106, 120], 40) := by decide +kernel
theorem d3_54 : decode prog_124_method_6_code 54 = .ok (.lload_n 1, 1) := by decide +kernel
theorem d3_55 : decode prog_124_method_6_code 55 = .ok (.lload_n 3, 1) := by decide +kernel
theorem d3_56 : decode prog_124_method_6_code 56 = .ok (.lcmp, 1) := by decide +kernel
theorem d3_57 : decode prog_124_method_6_code 57 = .ok (.ifCond .ne 7, 3) := by decide +kernel
theorem d3_60 : decode prog_124_method_6_code 60 = .ok (.iconst 1, 1) := by decide +kernel
theorem d3_61 : decode prog_124_method_6_code 61 = .ok (.goto 74, 3) := by decide +kernel
theorem d3_64 : decode prog_124_method_6_code 64 = .ok (.iconst 0, 1) := by decide +kernel
theorem d3_65 : decode prog_124_method_6_code 65 = .ok (.goto 70, 3) := by decide +kernel
theorem d3_135 : decode prog_124_method_6_code 135 = .ok (.ireturn, 1) := by decide +kernel
theorem ef_rmh0 (m : MethodId) (a1 : Addr) (q1 : Int64) (q2 : Int64) : entryFrame m #[(.ref a1), (.long q1), (.long q2)] 5 = mkF m 0 #[.val (.ref a1), .val (.long q1), .second, .val (.long q2), .second] [] := by first | (simp [entryFrame, mkF, argsToLocals, Value.category]; done) | rfl
def Qrmh0 (Z : State) (a1 : Addr) (q1 : Int64) (q2 : Int64) (h0 : Heap) (n0 : Nat) (v : Option Value) (h : Heap) (L : List Loc) : Prop := v = some (.int (own_h0 q1 q2)) ∧ Fr n0 L ∧ h = h0
set_option maxRecDepth 65536 in
set_option maxHeartbeats 40000000 in
theorem rmh0 (l : Launch) (Z : State) (a0 : Array Value) (hw : ∀ d ∈ tables_1, d.before a0 Z = true) (ws : List Jvm.Cond) (a1 : Addr) (q1 : Int64) (q2 : Int64) (h0 : Heap) (n0 : Nat) (Z0 : n0 ≤ h0.size) (E1 : Exa Z h0 a1 "com/example/pech_david/pechdavid/model/Relation") (F1 : Fld Z h0 a1 "java/lang/Enum" "ordinal" "I" (.int (0 : Int32))) :
    MetFree l (⟨"com/example/pech_david/pechdavid/model/Relation", "holds", "(JJ)Z"⟩ : MethodName) (head1 (Jvm.Cond.code (⟨"com/example/pech_david/pechdavid/model/Relation", "holds", "(JJ)Z"⟩ : MethodName) prog_124_method_6_code 5 (some .boolean) :: ws) ({ frames := 1, cells := 0, slots := 0, locals := 12 } : Room)) (fun a U => a = #[(.ref a1), (.long q1), (.long q2)] ∧ Z.Warmed39 U.vm ∧ U.heap = h0) (fun _ _ _ _ _ => True) (fun _ U o U' => ∃ v L, o = .returned v ∧ Qrmh0 Z a1 q1 q2 h0 n0 v U'.heap L ∧ FrameEnd U o U' L ({ frames := 1, cells := 0, slots := 0, locals := 12 } : Room).cells ({ frames := 1, cells := 0, slots := 0, locals := 12 } : Room).slots) := by
  refine MetFree.of_bodySF (plainFor_of_name pn_1) hisR ?_
  intro p e s m args below meth c s₁ Bd hml0 hP hK
  obtain ⟨rfl, hZ, hh⟩ := hP
  have hx := Bd.exec
  have hby := Bd.bytes
  have hml : c.maxLocals = 5 := hml0
  have hown : s.vm.findClass "com/example/pech_david/pechdavid/model/Relation" = some m.cls := findClass_of_methodNamed Bd.named
  have hnm := (name_of_methodNamed Bd.named Bd.method).1
  have X0 : Stand p l e ({ frames := 1, cells := 0, slots := 0, locals := 12 } : Room) s m #[(.ref a1), (.long q1), (.long q2)] below meth c s₁ [] 0 0 := Stand.of_body Bd
  have e0 : s₁.heap = h0 := by rw [← hh, Bd.state]; rfl
  have N0 := Fr.nil n0
  show Go p.tables e below (fun o U' => ∃ v L, o = .returned v ∧ Qrmh0 Z a1 q1 q2 h0 n0 v U'.heap L ∧ FrameEnd s o U' L ({ frames := 1, cells := 0, slots := 0, locals := 12 } : Room).cells ({ frames := 1, cells := 0, slots := 0, locals := 12 } : Room).slots) _
  refine Go.step (fun t kt => castTop (ef_rmh0 m a1 q1 q2) kt) ?_
  show Go p.tables e below _ (s₁.setTop (mkF m 0 #[.val (.ref a1), .val (.long q1), .second, .val (.long q2), .second] []))
  refine Go.step (fun _ kt => XS.aloadN X0.here hx rfl (hb hby d3_0) rfl rfl kt) ?_
  show Go p.tables e below _ (s₁.setTop (mkF m 1 #[.val (.ref a1), .val (.long q1), .second, .val (.long q2), .second] [(.ref a1)]))
  obtain ⟨cq101, kq101, q101a, q101b, q101c⟩ := isOf hZ e0 E1
  obtain ⟨_, _, ⟨T101, L101, k101, n101⟩, -, X101, ⟨Lc101, hQ101, l101, y101, z101⟩, st101⟩ := X0.virtualBackUp hx (x := (⟨"com/example/pech_david/pechdavid/model/Relation", "ordinal", "()I"⟩ : MethodName)) (y := (⟨"java/lang/Enum", "ordinal", "()I"⟩ : MethodName)) (owner := "java/lang/Enum") hown (mvT hZ (hw _ (List.mem_of_getElem? (i := 19) rfl))) (mvT hZ (hw _ (List.mem_of_getElem? (i := 20) rfl))) (mvT hZ (hw _ (List.mem_of_getElem? (i := 21) rfl))) (by decide) (mvT hZ (hw _ (List.mem_of_getElem? (i := 23) rfl))) (mvT hZ (hw _ (List.mem_of_getElem? (i := 22) rfl))) (backOf (W := 0) (rm4 l Z a0 hw [] a1 (0 : Int32) h0 n0 Z0 F1 ) hZ (hw _ (List.mem_of_getElem? (i := 25) rfl)) (hw _ (List.mem_of_getElem? (i := 24) rfl)) (by decide) (by decide)) q101a q101c (g := (mkF m 1 #[.val (.ref a1), .val (.long q1), .second, .val (.long q2), .second] [(.ref a1)])) rfl (by rw [hml]; rfl) (Steps.refl _) (argsL := []) (rest := []) (lenOf pd_0 rfl) rfl (by show 2 * 0 + _ ≤ _; exact Nat.le_of_eq rfl) (hb hby d3_1) (fun _ _ => ⟨rfl, e0, (by decide : 0 + 0 ≤ _), (by decide : 0 + 0 ≤ _)⟩)
  dsimp only [Pt.U, Pt.locs, Pt.cells, Pt.slots] at X101 l101 y101 z101 st101 hQ101
  subst l101 y101 z101
  obtain ⟨rfl, N101q, eh101⟩ := hQ101
  have N101 := Fr.app N0 N101q
  refine Go.step (fun _ kt => st101.trans kt) ?_
  show Go p.tables e below _ (T101.setTop (mkF m 4 #[.val (.ref a1), .val (.long q1), .second, .val (.long q2), .second] [(.int (0 : Int32))]))
  refine Go.step (fun _ kt => XS.tswIn X101.here hx rfl (o := 50) (pc0 := 4) (pc' := 54) rfl (hb hby d3_4) rfl (by decide) (by decide) (by decide) (by decide) kt) ?_
  show Go p.tables e below _ (T101.setTop (mkF m 54 #[.val (.ref a1), .val (.long q1), .second, .val (.long q2), .second] []))
  refine Go.step (fun _ kt => XS.lloadN X101.here hx rfl (hb hby d3_54) rfl kt) ?_
  show Go p.tables e below _ (T101.setTop (mkF m 55 #[.val (.ref a1), .val (.long q1), .second, .val (.long q2), .second] [(.long q1)]))
  refine Go.step (fun _ kt => XS.lloadN X101.here hx rfl (hb hby d3_55) rfl kt) ?_
  show Go p.tables e below _ (T101.setTop (mkF m 56 #[.val (.ref a1), .val (.long q1), .second, .val (.long q2), .second] [(.long q2), (.long q1)]))
  refine Go.step (fun _ kt => XS.lcmp X101.here hx rfl (hb hby d3_56) rfl kt) ?_
  show Go p.tables e below _ (T101.setTop (mkF m 57 #[.val (.ref a1), .val (.long q1), .second, .val (.long q2), .second] [(.int (lcmpW q1 q2))]))
  by_cases hc57_102 : (lcmpW q1 q2) = (0 : Int32)
  · refine Go.step (fun _ kt => XS.ifNo X101.here hx rfl (hb hby d3_57) rfl ((if0 _ _).trans (teq hc57_102).2) kt) ?_
    show Go p.tables e below _ (T101.setTop (mkF m 60 #[.val (.ref a1), .val (.long q1), .second, .val (.long q2), .second] []))
    refine Go.step (fun _ kt => XS.iconst X101.here hx rfl (hb hby d3_60) kt) ?_
    show Go p.tables e below _ (T101.setTop (mkF m 61 #[.val (.ref a1), .val (.long q1), .second, .val (.long q2), .second] [(.int (1 : Int32))]))
    refine Go.step (fun _ kt => XS.goto X101.here hx rfl (pc0 := 61) (pc' := 135) rfl (hb hby d3_61) (by decide) (by decide) kt) ?_
    show Go p.tables e below _ (T101.setTop (mkF m 135 #[.val (.ref a1), .val (.long q1), .second, .val (.long q2), .second] [(.int (1 : Int32))]))
    obtain ⟨fs, hr, hrun, hended, hW, hsame⟩ := X101.leave (v := some (.int (1 : Int32))) (fun h => by rw [Bd.returns] at h; cases h)
    refine ⟨_, _, retN X101 hx (t := .boolean) Bd.returns (by simp) (hb hby d3_135) hr, hrun, hended, _, _, rfl, ?_, ⟨_, rfl⟩, hW, hsame.mono (by decide) (by decide)⟩
    show Qrmh0 Z a1 q1 q2 h0 n0 _ T101.heap _
    rw [eh101]
    refine ⟨?_, N101, rfl⟩
    have q : own_h0 q1 q2 = (1 : Int32) := by simp only [own_h0]; simp [hc57_102]
    rw [q]
  · refine Go.step (fun _ kt => XS.ifYes X101.here hx rfl (pc0 := 57) (pc' := 64) rfl (hb hby d3_57) rfl ((if0 _ _).trans (feq hc57_102).2) (by decide) (by decide) kt) ?_
    show Go p.tables e below _ (T101.setTop (mkF m 64 #[.val (.ref a1), .val (.long q1), .second, .val (.long q2), .second] []))
    refine Go.step (fun _ kt => XS.iconst X101.here hx rfl (hb hby d3_64) kt) ?_
    show Go p.tables e below _ (T101.setTop (mkF m 65 #[.val (.ref a1), .val (.long q1), .second, .val (.long q2), .second] [(.int (0 : Int32))]))
    refine Go.step (fun _ kt => XS.goto X101.here hx rfl (pc0 := 65) (pc' := 135) rfl (hb hby d3_65) (by decide) (by decide) kt) ?_
    show Go p.tables e below _ (T101.setTop (mkF m 135 #[.val (.ref a1), .val (.long q1), .second, .val (.long q2), .second] [(.int (0 : Int32))]))
    obtain ⟨fs, hr, hrun, hended, hW, hsame⟩ := X101.leave (v := some (.int (0 : Int32))) (fun h => by rw [Bd.returns] at h; cases h)
    refine ⟨_, _, retN X101 hx (t := .boolean) Bd.returns (by simp) (hb hby d3_135) hr, hrun, hended, _, _, rfl, ?_, ⟨_, rfl⟩, hW, hsame.mono (by decide) (by decide)⟩
    show Qrmh0 Z a1 q1 q2 h0 n0 _ T101.heap _
    rw [eh101]
    refine ⟨?_, N101, rfl⟩
    have q : own_h0 q1 q2 = (0 : Int32) := by simp only [own_h0]; simp [hc57_102]
    rw [q]
def own_h1 (x y : Int64) : Int32 := if ¬ lcmpW x y = 0 then 1 else 0
theorem d3_68 : decode prog_124_method_6_code 68 = .ok (.lload_n 1, 1) := by decide +kernel
theorem d3_69 : decode prog_124_method_6_code 69 = .ok (.lload_n 3, 1) := by decide +kernel
theorem d3_70 : decode prog_124_method_6_code 70 = .ok (.lcmp, 1) := by decide +kernel
theorem d3_71 : decode prog_124_method_6_code 71 = .ok (.ifCond .eq 7, 3) := by decide +kernel
theorem d3_74 : decode prog_124_method_6_code 74 = .ok (.iconst 1, 1) := by decide +kernel
theorem d3_75 : decode prog_124_method_6_code 75 = .ok (.goto 60, 3) := by decide +kernel
theorem d3_78 : decode prog_124_method_6_code 78 = .ok (.iconst 0, 1) := by decide +kernel
theorem d3_79 : decode prog_124_method_6_code 79 = .ok (.goto 56, 3) := by decide +kernel
theorem ef_rmh1 (m : MethodId) (a1 : Addr) (q1 : Int64) (q2 : Int64) : entryFrame m #[(.ref a1), (.long q1), (.long q2)] 5 = mkF m 0 #[.val (.ref a1), .val (.long q1), .second, .val (.long q2), .second] [] := by first | (simp [entryFrame, mkF, argsToLocals, Value.category]; done) | rfl
def Qrmh1 (Z : State) (a1 : Addr) (q1 : Int64) (q2 : Int64) (h0 : Heap) (n0 : Nat) (v : Option Value) (h : Heap) (L : List Loc) : Prop := v = some (.int (own_h1 q1 q2)) ∧ Fr n0 L ∧ h = h0
set_option maxRecDepth 65536 in
set_option maxHeartbeats 40000000 in
theorem rmh1 (l : Launch) (Z : State) (a0 : Array Value) (hw : ∀ d ∈ tables_1, d.before a0 Z = true) (ws : List Jvm.Cond) (a1 : Addr) (q1 : Int64) (q2 : Int64) (h0 : Heap) (n0 : Nat) (Z0 : n0 ≤ h0.size) (E1 : Exa Z h0 a1 "com/example/pech_david/pechdavid/model/Relation") (F1 : Fld Z h0 a1 "java/lang/Enum" "ordinal" "I" (.int (1 : Int32))) :
    MetFree l (⟨"com/example/pech_david/pechdavid/model/Relation", "holds", "(JJ)Z"⟩ : MethodName) (head1 (Jvm.Cond.code (⟨"com/example/pech_david/pechdavid/model/Relation", "holds", "(JJ)Z"⟩ : MethodName) prog_124_method_6_code 5 (some .boolean) :: ws) ({ frames := 1, cells := 0, slots := 0, locals := 12 } : Room)) (fun a U => a = #[(.ref a1), (.long q1), (.long q2)] ∧ Z.Warmed39 U.vm ∧ U.heap = h0) (fun _ _ _ _ _ => True) (fun _ U o U' => ∃ v L, o = .returned v ∧ Qrmh1 Z a1 q1 q2 h0 n0 v U'.heap L ∧ FrameEnd U o U' L ({ frames := 1, cells := 0, slots := 0, locals := 12 } : Room).cells ({ frames := 1, cells := 0, slots := 0, locals := 12 } : Room).slots) := by
  refine MetFree.of_bodySF (plainFor_of_name pn_1) hisR ?_
  intro p e s m args below meth c s₁ Bd hml0 hP hK
  obtain ⟨rfl, hZ, hh⟩ := hP
  have hx := Bd.exec
  have hby := Bd.bytes
  have hml : c.maxLocals = 5 := hml0
  have hown : s.vm.findClass "com/example/pech_david/pechdavid/model/Relation" = some m.cls := findClass_of_methodNamed Bd.named
  have hnm := (name_of_methodNamed Bd.named Bd.method).1
  have X0 : Stand p l e ({ frames := 1, cells := 0, slots := 0, locals := 12 } : Room) s m #[(.ref a1), (.long q1), (.long q2)] below meth c s₁ [] 0 0 := Stand.of_body Bd
  have e0 : s₁.heap = h0 := by rw [← hh, Bd.state]; rfl
  have N0 := Fr.nil n0
  show Go p.tables e below (fun o U' => ∃ v L, o = .returned v ∧ Qrmh1 Z a1 q1 q2 h0 n0 v U'.heap L ∧ FrameEnd s o U' L ({ frames := 1, cells := 0, slots := 0, locals := 12 } : Room).cells ({ frames := 1, cells := 0, slots := 0, locals := 12 } : Room).slots) _
  refine Go.step (fun t kt => castTop (ef_rmh1 m a1 q1 q2) kt) ?_
  show Go p.tables e below _ (s₁.setTop (mkF m 0 #[.val (.ref a1), .val (.long q1), .second, .val (.long q2), .second] []))
  refine Go.step (fun _ kt => XS.aloadN X0.here hx rfl (hb hby d3_0) rfl rfl kt) ?_
  show Go p.tables e below _ (s₁.setTop (mkF m 1 #[.val (.ref a1), .val (.long q1), .second, .val (.long q2), .second] [(.ref a1)]))
  obtain ⟨cq101, kq101, q101a, q101b, q101c⟩ := isOf hZ e0 E1
  obtain ⟨_, _, ⟨T101, L101, k101, n101⟩, -, X101, ⟨Lc101, hQ101, l101, y101, z101⟩, st101⟩ := X0.virtualBackUp hx (x := (⟨"com/example/pech_david/pechdavid/model/Relation", "ordinal", "()I"⟩ : MethodName)) (y := (⟨"java/lang/Enum", "ordinal", "()I"⟩ : MethodName)) (owner := "java/lang/Enum") hown (mvT hZ (hw _ (List.mem_of_getElem? (i := 19) rfl))) (mvT hZ (hw _ (List.mem_of_getElem? (i := 20) rfl))) (mvT hZ (hw _ (List.mem_of_getElem? (i := 21) rfl))) (by decide) (mvT hZ (hw _ (List.mem_of_getElem? (i := 23) rfl))) (mvT hZ (hw _ (List.mem_of_getElem? (i := 22) rfl))) (backOf (W := 0) (rm4 l Z a0 hw [] a1 (1 : Int32) h0 n0 Z0 F1 ) hZ (hw _ (List.mem_of_getElem? (i := 25) rfl)) (hw _ (List.mem_of_getElem? (i := 24) rfl)) (by decide) (by decide)) q101a q101c (g := (mkF m 1 #[.val (.ref a1), .val (.long q1), .second, .val (.long q2), .second] [(.ref a1)])) rfl (by rw [hml]; rfl) (Steps.refl _) (argsL := []) (rest := []) (lenOf pd_0 rfl) rfl (by show 2 * 0 + _ ≤ _; exact Nat.le_of_eq rfl) (hb hby d3_1) (fun _ _ => ⟨rfl, e0, (by decide : 0 + 0 ≤ _), (by decide : 0 + 0 ≤ _)⟩)
  dsimp only [Pt.U, Pt.locs, Pt.cells, Pt.slots] at X101 l101 y101 z101 st101 hQ101
  subst l101 y101 z101
  obtain ⟨rfl, N101q, eh101⟩ := hQ101
  have N101 := Fr.app N0 N101q
  refine Go.step (fun _ kt => st101.trans kt) ?_
  show Go p.tables e below _ (T101.setTop (mkF m 4 #[.val (.ref a1), .val (.long q1), .second, .val (.long q2), .second] [(.int (1 : Int32))]))
  refine Go.step (fun _ kt => XS.tswIn X101.here hx rfl (o := 64) (pc0 := 4) (pc' := 68) rfl (hb hby d3_4) rfl (by decide) (by decide) (by decide) (by decide) kt) ?_
  show Go p.tables e below _ (T101.setTop (mkF m 68 #[.val (.ref a1), .val (.long q1), .second, .val (.long q2), .second] []))
  refine Go.step (fun _ kt => XS.lloadN X101.here hx rfl (hb hby d3_68) rfl kt) ?_
  show Go p.tables e below _ (T101.setTop (mkF m 69 #[.val (.ref a1), .val (.long q1), .second, .val (.long q2), .second] [(.long q1)]))
  refine Go.step (fun _ kt => XS.lloadN X101.here hx rfl (hb hby d3_69) rfl kt) ?_
  show Go p.tables e below _ (T101.setTop (mkF m 70 #[.val (.ref a1), .val (.long q1), .second, .val (.long q2), .second] [(.long q2), (.long q1)]))
  refine Go.step (fun _ kt => XS.lcmp X101.here hx rfl (hb hby d3_70) rfl kt) ?_
  show Go p.tables e below _ (T101.setTop (mkF m 71 #[.val (.ref a1), .val (.long q1), .second, .val (.long q2), .second] [(.int (lcmpW q1 q2))]))
  by_cases hc71_102 : (lcmpW q1 q2) = (0 : Int32)
  · refine Go.step (fun _ kt => XS.ifYes X101.here hx rfl (pc0 := 71) (pc' := 78) rfl (hb hby d3_71) rfl ((if0 _ _).trans (teq hc71_102).1) (by decide) (by decide) kt) ?_
    show Go p.tables e below _ (T101.setTop (mkF m 78 #[.val (.ref a1), .val (.long q1), .second, .val (.long q2), .second] []))
    refine Go.step (fun _ kt => XS.iconst X101.here hx rfl (hb hby d3_78) kt) ?_
    show Go p.tables e below _ (T101.setTop (mkF m 79 #[.val (.ref a1), .val (.long q1), .second, .val (.long q2), .second] [(.int (0 : Int32))]))
    refine Go.step (fun _ kt => XS.goto X101.here hx rfl (pc0 := 79) (pc' := 135) rfl (hb hby d3_79) (by decide) (by decide) kt) ?_
    show Go p.tables e below _ (T101.setTop (mkF m 135 #[.val (.ref a1), .val (.long q1), .second, .val (.long q2), .second] [(.int (0 : Int32))]))
    obtain ⟨fs, hr, hrun, hended, hW, hsame⟩ := X101.leave (v := some (.int (0 : Int32))) (fun h => by rw [Bd.returns] at h; cases h)
    refine ⟨_, _, retN X101 hx (t := .boolean) Bd.returns (by simp) (hb hby d3_135) hr, hrun, hended, _, _, rfl, ?_, ⟨_, rfl⟩, hW, hsame.mono (by decide) (by decide)⟩
    show Qrmh1 Z a1 q1 q2 h0 n0 _ T101.heap _
    rw [eh101]
    refine ⟨?_, N101, rfl⟩
    have q : own_h1 q1 q2 = (0 : Int32) := by simp only [own_h1]; simp [hc71_102]
    rw [q]
  · refine Go.step (fun _ kt => XS.ifNo X101.here hx rfl (hb hby d3_71) rfl ((if0 _ _).trans (feq hc71_102).1) kt) ?_
    show Go p.tables e below _ (T101.setTop (mkF m 74 #[.val (.ref a1), .val (.long q1), .second, .val (.long q2), .second] []))
    refine Go.step (fun _ kt => XS.iconst X101.here hx rfl (hb hby d3_74) kt) ?_
    show Go p.tables e below _ (T101.setTop (mkF m 75 #[.val (.ref a1), .val (.long q1), .second, .val (.long q2), .second] [(.int (1 : Int32))]))
    refine Go.step (fun _ kt => XS.goto X101.here hx rfl (pc0 := 75) (pc' := 135) rfl (hb hby d3_75) (by decide) (by decide) kt) ?_
    show Go p.tables e below _ (T101.setTop (mkF m 135 #[.val (.ref a1), .val (.long q1), .second, .val (.long q2), .second] [(.int (1 : Int32))]))
    obtain ⟨fs, hr, hrun, hended, hW, hsame⟩ := X101.leave (v := some (.int (1 : Int32))) (fun h => by rw [Bd.returns] at h; cases h)
    refine ⟨_, _, retN X101 hx (t := .boolean) Bd.returns (by simp) (hb hby d3_135) hr, hrun, hended, _, _, rfl, ?_, ⟨_, rfl⟩, hW, hsame.mono (by decide) (by decide)⟩
    show Qrmh1 Z a1 q1 q2 h0 n0 _ T101.heap _
    rw [eh101]
    refine ⟨?_, N101, rfl⟩
    have q : own_h1 q1 q2 = (1 : Int32) := by simp only [own_h1]; simp [hc71_102]
    rw [q]
def own_h2 (x y : Int64) : Int32 := if lcmpW x y < 0 then 1 else 0
theorem d3_82 : decode prog_124_method_6_code 82 = .ok (.lload_n 1, 1) := by decide +kernel
theorem d3_83 : decode prog_124_method_6_code 83 = .ok (.lload_n 3, 1) := by decide +kernel
theorem d3_84 : decode prog_124_method_6_code 84 = .ok (.lcmp, 1) := by decide +kernel
theorem d3_85 : decode prog_124_method_6_code 85 = .ok (.ifCond .ge 7, 3) := by decide +kernel
theorem d3_88 : decode prog_124_method_6_code 88 = .ok (.iconst 1, 1) := by decide +kernel
theorem d3_89 : decode prog_124_method_6_code 89 = .ok (.goto 46, 3) := by decide +kernel
theorem d3_92 : decode prog_124_method_6_code 92 = .ok (.iconst 0, 1) := by decide +kernel
theorem d3_93 : decode prog_124_method_6_code 93 = .ok (.goto 42, 3) := by decide +kernel
theorem ef_rmh2 (m : MethodId) (a1 : Addr) (q1 : Int64) (q2 : Int64) : entryFrame m #[(.ref a1), (.long q1), (.long q2)] 5 = mkF m 0 #[.val (.ref a1), .val (.long q1), .second, .val (.long q2), .second] [] := by first | (simp [entryFrame, mkF, argsToLocals, Value.category]; done) | rfl
def Qrmh2 (Z : State) (a1 : Addr) (q1 : Int64) (q2 : Int64) (h0 : Heap) (n0 : Nat) (v : Option Value) (h : Heap) (L : List Loc) : Prop := v = some (.int (own_h2 q1 q2)) ∧ Fr n0 L ∧ h = h0
set_option maxRecDepth 65536 in
set_option maxHeartbeats 40000000 in
theorem rmh2 (l : Launch) (Z : State) (a0 : Array Value) (hw : ∀ d ∈ tables_1, d.before a0 Z = true) (ws : List Jvm.Cond) (a1 : Addr) (q1 : Int64) (q2 : Int64) (h0 : Heap) (n0 : Nat) (Z0 : n0 ≤ h0.size) (E1 : Exa Z h0 a1 "com/example/pech_david/pechdavid/model/Relation") (F1 : Fld Z h0 a1 "java/lang/Enum" "ordinal" "I" (.int (2 : Int32))) :
    MetFree l (⟨"com/example/pech_david/pechdavid/model/Relation", "holds", "(JJ)Z"⟩ : MethodName) (head1 (Jvm.Cond.code (⟨"com/example/pech_david/pechdavid/model/Relation", "holds", "(JJ)Z"⟩ : MethodName) prog_124_method_6_code 5 (some .boolean) :: ws) ({ frames := 1, cells := 0, slots := 0, locals := 12 } : Room)) (fun a U => a = #[(.ref a1), (.long q1), (.long q2)] ∧ Z.Warmed39 U.vm ∧ U.heap = h0) (fun _ _ _ _ _ => True) (fun _ U o U' => ∃ v L, o = .returned v ∧ Qrmh2 Z a1 q1 q2 h0 n0 v U'.heap L ∧ FrameEnd U o U' L ({ frames := 1, cells := 0, slots := 0, locals := 12 } : Room).cells ({ frames := 1, cells := 0, slots := 0, locals := 12 } : Room).slots) := by
  refine MetFree.of_bodySF (plainFor_of_name pn_1) hisR ?_
  intro p e s m args below meth c s₁ Bd hml0 hP hK
  obtain ⟨rfl, hZ, hh⟩ := hP
  have hx := Bd.exec
  have hby := Bd.bytes
  have hml : c.maxLocals = 5 := hml0
  have hown : s.vm.findClass "com/example/pech_david/pechdavid/model/Relation" = some m.cls := findClass_of_methodNamed Bd.named
  have hnm := (name_of_methodNamed Bd.named Bd.method).1
  have X0 : Stand p l e ({ frames := 1, cells := 0, slots := 0, locals := 12 } : Room) s m #[(.ref a1), (.long q1), (.long q2)] below meth c s₁ [] 0 0 := Stand.of_body Bd
  have e0 : s₁.heap = h0 := by rw [← hh, Bd.state]; rfl
  have N0 := Fr.nil n0
  show Go p.tables e below (fun o U' => ∃ v L, o = .returned v ∧ Qrmh2 Z a1 q1 q2 h0 n0 v U'.heap L ∧ FrameEnd s o U' L ({ frames := 1, cells := 0, slots := 0, locals := 12 } : Room).cells ({ frames := 1, cells := 0, slots := 0, locals := 12 } : Room).slots) _
  refine Go.step (fun t kt => castTop (ef_rmh2 m a1 q1 q2) kt) ?_
  show Go p.tables e below _ (s₁.setTop (mkF m 0 #[.val (.ref a1), .val (.long q1), .second, .val (.long q2), .second] []))
  refine Go.step (fun _ kt => XS.aloadN X0.here hx rfl (hb hby d3_0) rfl rfl kt) ?_
  show Go p.tables e below _ (s₁.setTop (mkF m 1 #[.val (.ref a1), .val (.long q1), .second, .val (.long q2), .second] [(.ref a1)]))
  obtain ⟨cq101, kq101, q101a, q101b, q101c⟩ := isOf hZ e0 E1
  obtain ⟨_, _, ⟨T101, L101, k101, n101⟩, -, X101, ⟨Lc101, hQ101, l101, y101, z101⟩, st101⟩ := X0.virtualBackUp hx (x := (⟨"com/example/pech_david/pechdavid/model/Relation", "ordinal", "()I"⟩ : MethodName)) (y := (⟨"java/lang/Enum", "ordinal", "()I"⟩ : MethodName)) (owner := "java/lang/Enum") hown (mvT hZ (hw _ (List.mem_of_getElem? (i := 19) rfl))) (mvT hZ (hw _ (List.mem_of_getElem? (i := 20) rfl))) (mvT hZ (hw _ (List.mem_of_getElem? (i := 21) rfl))) (by decide) (mvT hZ (hw _ (List.mem_of_getElem? (i := 23) rfl))) (mvT hZ (hw _ (List.mem_of_getElem? (i := 22) rfl))) (backOf (W := 0) (rm4 l Z a0 hw [] a1 (2 : Int32) h0 n0 Z0 F1 ) hZ (hw _ (List.mem_of_getElem? (i := 25) rfl)) (hw _ (List.mem_of_getElem? (i := 24) rfl)) (by decide) (by decide)) q101a q101c (g := (mkF m 1 #[.val (.ref a1), .val (.long q1), .second, .val (.long q2), .second] [(.ref a1)])) rfl (by rw [hml]; rfl) (Steps.refl _) (argsL := []) (rest := []) (lenOf pd_0 rfl) rfl (by show 2 * 0 + _ ≤ _; exact Nat.le_of_eq rfl) (hb hby d3_1) (fun _ _ => ⟨rfl, e0, (by decide : 0 + 0 ≤ _), (by decide : 0 + 0 ≤ _)⟩)
  dsimp only [Pt.U, Pt.locs, Pt.cells, Pt.slots] at X101 l101 y101 z101 st101 hQ101
  subst l101 y101 z101
  obtain ⟨rfl, N101q, eh101⟩ := hQ101
  have N101 := Fr.app N0 N101q
  refine Go.step (fun _ kt => st101.trans kt) ?_
  show Go p.tables e below _ (T101.setTop (mkF m 4 #[.val (.ref a1), .val (.long q1), .second, .val (.long q2), .second] [(.int (2 : Int32))]))
  refine Go.step (fun _ kt => XS.tswIn X101.here hx rfl (o := 78) (pc0 := 4) (pc' := 82) rfl (hb hby d3_4) rfl (by decide) (by decide) (by decide) (by decide) kt) ?_
  show Go p.tables e below _ (T101.setTop (mkF m 82 #[.val (.ref a1), .val (.long q1), .second, .val (.long q2), .second] []))
  refine Go.step (fun _ kt => XS.lloadN X101.here hx rfl (hb hby d3_82) rfl kt) ?_
  show Go p.tables e below _ (T101.setTop (mkF m 83 #[.val (.ref a1), .val (.long q1), .second, .val (.long q2), .second] [(.long q1)]))
  refine Go.step (fun _ kt => XS.lloadN X101.here hx rfl (hb hby d3_83) rfl kt) ?_
  show Go p.tables e below _ (T101.setTop (mkF m 84 #[.val (.ref a1), .val (.long q1), .second, .val (.long q2), .second] [(.long q2), (.long q1)]))
  refine Go.step (fun _ kt => XS.lcmp X101.here hx rfl (hb hby d3_84) rfl kt) ?_
  show Go p.tables e below _ (T101.setTop (mkF m 85 #[.val (.ref a1), .val (.long q1), .second, .val (.long q2), .second] [(.int (lcmpW q1 q2))]))
  by_cases hc85_102 : (lcmpW q1 q2) < (0 : Int32)
  · refine Go.step (fun _ kt => XS.ifNo X101.here hx rfl (hb hby d3_85) rfl ((if0 _ _).trans (tlt hc85_102).2.1) kt) ?_
    show Go p.tables e below _ (T101.setTop (mkF m 88 #[.val (.ref a1), .val (.long q1), .second, .val (.long q2), .second] []))
    refine Go.step (fun _ kt => XS.iconst X101.here hx rfl (hb hby d3_88) kt) ?_
    show Go p.tables e below _ (T101.setTop (mkF m 89 #[.val (.ref a1), .val (.long q1), .second, .val (.long q2), .second] [(.int (1 : Int32))]))
    refine Go.step (fun _ kt => XS.goto X101.here hx rfl (pc0 := 89) (pc' := 135) rfl (hb hby d3_89) (by decide) (by decide) kt) ?_
    show Go p.tables e below _ (T101.setTop (mkF m 135 #[.val (.ref a1), .val (.long q1), .second, .val (.long q2), .second] [(.int (1 : Int32))]))
    obtain ⟨fs, hr, hrun, hended, hW, hsame⟩ := X101.leave (v := some (.int (1 : Int32))) (fun h => by rw [Bd.returns] at h; cases h)
    refine ⟨_, _, retN X101 hx (t := .boolean) Bd.returns (by simp) (hb hby d3_135) hr, hrun, hended, _, _, rfl, ?_, ⟨_, rfl⟩, hW, hsame.mono (by decide) (by decide)⟩
    show Qrmh2 Z a1 q1 q2 h0 n0 _ T101.heap _
    rw [eh101]
    refine ⟨?_, N101, rfl⟩
    have q : own_h2 q1 q2 = (1 : Int32) := by simp only [own_h2]; simp [hc85_102]
    rw [q]
  · refine Go.step (fun _ kt => XS.ifYes X101.here hx rfl (pc0 := 85) (pc' := 92) rfl (hb hby d3_85) rfl ((if0 _ _).trans (flt hc85_102).2.1) (by decide) (by decide) kt) ?_
    show Go p.tables e below _ (T101.setTop (mkF m 92 #[.val (.ref a1), .val (.long q1), .second, .val (.long q2), .second] []))
    refine Go.step (fun _ kt => XS.iconst X101.here hx rfl (hb hby d3_92) kt) ?_
    show Go p.tables e below _ (T101.setTop (mkF m 93 #[.val (.ref a1), .val (.long q1), .second, .val (.long q2), .second] [(.int (0 : Int32))]))
    refine Go.step (fun _ kt => XS.goto X101.here hx rfl (pc0 := 93) (pc' := 135) rfl (hb hby d3_93) (by decide) (by decide) kt) ?_
    show Go p.tables e below _ (T101.setTop (mkF m 135 #[.val (.ref a1), .val (.long q1), .second, .val (.long q2), .second] [(.int (0 : Int32))]))
    obtain ⟨fs, hr, hrun, hended, hW, hsame⟩ := X101.leave (v := some (.int (0 : Int32))) (fun h => by rw [Bd.returns] at h; cases h)
    refine ⟨_, _, retN X101 hx (t := .boolean) Bd.returns (by simp) (hb hby d3_135) hr, hrun, hended, _, _, rfl, ?_, ⟨_, rfl⟩, hW, hsame.mono (by decide) (by decide)⟩
    show Qrmh2 Z a1 q1 q2 h0 n0 _ T101.heap _
    rw [eh101]
    refine ⟨?_, N101, rfl⟩
    have q : own_h2 q1 q2 = (0 : Int32) := by simp only [own_h2]; simp [hc85_102]
    rw [q]
def own_h3 (x y : Int64) : Int32 := if ¬ 0 < lcmpW x y then 1 else 0
theorem d3_96 : decode prog_124_method_6_code 96 = .ok (.lload_n 1, 1) := by decide +kernel
theorem d3_97 : decode prog_124_method_6_code 97 = .ok (.lload_n 3, 1) := by decide +kernel
theorem d3_98 : decode prog_124_method_6_code 98 = .ok (.lcmp, 1) := by decide +kernel
theorem d3_99 : decode prog_124_method_6_code 99 = .ok (.ifCond .gt 7, 3) := by decide +kernel
theorem d3_102 : decode prog_124_method_6_code 102 = .ok (.iconst 1, 1) := by decide +kernel
theorem d3_103 : decode prog_124_method_6_code 103 = .ok (.goto 32, 3) := by decide +kernel
theorem d3_106 : decode prog_124_method_6_code 106 = .ok (.iconst 0, 1) := by decide +kernel
theorem d3_107 : decode prog_124_method_6_code 107 = .ok (.goto 28, 3) := by decide +kernel
theorem ef_rmh3 (m : MethodId) (a1 : Addr) (q1 : Int64) (q2 : Int64) : entryFrame m #[(.ref a1), (.long q1), (.long q2)] 5 = mkF m 0 #[.val (.ref a1), .val (.long q1), .second, .val (.long q2), .second] [] := by first | (simp [entryFrame, mkF, argsToLocals, Value.category]; done) | rfl
def Qrmh3 (Z : State) (a1 : Addr) (q1 : Int64) (q2 : Int64) (h0 : Heap) (n0 : Nat) (v : Option Value) (h : Heap) (L : List Loc) : Prop := v = some (.int (own_h3 q1 q2)) ∧ Fr n0 L ∧ h = h0
set_option maxRecDepth 65536 in
set_option maxHeartbeats 40000000 in
theorem rmh3 (l : Launch) (Z : State) (a0 : Array Value) (hw : ∀ d ∈ tables_1, d.before a0 Z = true) (ws : List Jvm.Cond) (a1 : Addr) (q1 : Int64) (q2 : Int64) (h0 : Heap) (n0 : Nat) (Z0 : n0 ≤ h0.size) (E1 : Exa Z h0 a1 "com/example/pech_david/pechdavid/model/Relation") (F1 : Fld Z h0 a1 "java/lang/Enum" "ordinal" "I" (.int (3 : Int32))) :
    MetFree l (⟨"com/example/pech_david/pechdavid/model/Relation", "holds", "(JJ)Z"⟩ : MethodName) (head1 (Jvm.Cond.code (⟨"com/example/pech_david/pechdavid/model/Relation", "holds", "(JJ)Z"⟩ : MethodName) prog_124_method_6_code 5 (some .boolean) :: ws) ({ frames := 1, cells := 0, slots := 0, locals := 12 } : Room)) (fun a U => a = #[(.ref a1), (.long q1), (.long q2)] ∧ Z.Warmed39 U.vm ∧ U.heap = h0) (fun _ _ _ _ _ => True) (fun _ U o U' => ∃ v L, o = .returned v ∧ Qrmh3 Z a1 q1 q2 h0 n0 v U'.heap L ∧ FrameEnd U o U' L ({ frames := 1, cells := 0, slots := 0, locals := 12 } : Room).cells ({ frames := 1, cells := 0, slots := 0, locals := 12 } : Room).slots) := by
  refine MetFree.of_bodySF (plainFor_of_name pn_1) hisR ?_
  intro p e s m args below meth c s₁ Bd hml0 hP hK
  obtain ⟨rfl, hZ, hh⟩ := hP
  have hx := Bd.exec
  have hby := Bd.bytes
  have hml : c.maxLocals = 5 := hml0
  have hown : s.vm.findClass "com/example/pech_david/pechdavid/model/Relation" = some m.cls := findClass_of_methodNamed Bd.named
  have hnm := (name_of_methodNamed Bd.named Bd.method).1
  have X0 : Stand p l e ({ frames := 1, cells := 0, slots := 0, locals := 12 } : Room) s m #[(.ref a1), (.long q1), (.long q2)] below meth c s₁ [] 0 0 := Stand.of_body Bd
  have e0 : s₁.heap = h0 := by rw [← hh, Bd.state]; rfl
  have N0 := Fr.nil n0
  show Go p.tables e below (fun o U' => ∃ v L, o = .returned v ∧ Qrmh3 Z a1 q1 q2 h0 n0 v U'.heap L ∧ FrameEnd s o U' L ({ frames := 1, cells := 0, slots := 0, locals := 12 } : Room).cells ({ frames := 1, cells := 0, slots := 0, locals := 12 } : Room).slots) _
  refine Go.step (fun t kt => castTop (ef_rmh3 m a1 q1 q2) kt) ?_
  show Go p.tables e below _ (s₁.setTop (mkF m 0 #[.val (.ref a1), .val (.long q1), .second, .val (.long q2), .second] []))
  refine Go.step (fun _ kt => XS.aloadN X0.here hx rfl (hb hby d3_0) rfl rfl kt) ?_
  show Go p.tables e below _ (s₁.setTop (mkF m 1 #[.val (.ref a1), .val (.long q1), .second, .val (.long q2), .second] [(.ref a1)]))
  obtain ⟨cq101, kq101, q101a, q101b, q101c⟩ := isOf hZ e0 E1
  obtain ⟨_, _, ⟨T101, L101, k101, n101⟩, -, X101, ⟨Lc101, hQ101, l101, y101, z101⟩, st101⟩ := X0.virtualBackUp hx (x := (⟨"com/example/pech_david/pechdavid/model/Relation", "ordinal", "()I"⟩ : MethodName)) (y := (⟨"java/lang/Enum", "ordinal", "()I"⟩ : MethodName)) (owner := "java/lang/Enum") hown (mvT hZ (hw _ (List.mem_of_getElem? (i := 19) rfl))) (mvT hZ (hw _ (List.mem_of_getElem? (i := 20) rfl))) (mvT hZ (hw _ (List.mem_of_getElem? (i := 21) rfl))) (by decide) (mvT hZ (hw _ (List.mem_of_getElem? (i := 23) rfl))) (mvT hZ (hw _ (List.mem_of_getElem? (i := 22) rfl))) (backOf (W := 0) (rm4 l Z a0 hw [] a1 (3 : Int32) h0 n0 Z0 F1 ) hZ (hw _ (List.mem_of_getElem? (i := 25) rfl)) (hw _ (List.mem_of_getElem? (i := 24) rfl)) (by decide) (by decide)) q101a q101c (g := (mkF m 1 #[.val (.ref a1), .val (.long q1), .second, .val (.long q2), .second] [(.ref a1)])) rfl (by rw [hml]; rfl) (Steps.refl _) (argsL := []) (rest := []) (lenOf pd_0 rfl) rfl (by show 2 * 0 + _ ≤ _; exact Nat.le_of_eq rfl) (hb hby d3_1) (fun _ _ => ⟨rfl, e0, (by decide : 0 + 0 ≤ _), (by decide : 0 + 0 ≤ _)⟩)
  dsimp only [Pt.U, Pt.locs, Pt.cells, Pt.slots] at X101 l101 y101 z101 st101 hQ101
  subst l101 y101 z101
  obtain ⟨rfl, N101q, eh101⟩ := hQ101
  have N101 := Fr.app N0 N101q
  refine Go.step (fun _ kt => st101.trans kt) ?_
  show Go p.tables e below _ (T101.setTop (mkF m 4 #[.val (.ref a1), .val (.long q1), .second, .val (.long q2), .second] [(.int (3 : Int32))]))
  refine Go.step (fun _ kt => XS.tswIn X101.here hx rfl (o := 92) (pc0 := 4) (pc' := 96) rfl (hb hby d3_4) rfl (by decide) (by decide) (by decide) (by decide) kt) ?_
  show Go p.tables e below _ (T101.setTop (mkF m 96 #[.val (.ref a1), .val (.long q1), .second, .val (.long q2), .second] []))
  refine Go.step (fun _ kt => XS.lloadN X101.here hx rfl (hb hby d3_96) rfl kt) ?_
  show Go p.tables e below _ (T101.setTop (mkF m 97 #[.val (.ref a1), .val (.long q1), .second, .val (.long q2), .second] [(.long q1)]))
  refine Go.step (fun _ kt => XS.lloadN X101.here hx rfl (hb hby d3_97) rfl kt) ?_
  show Go p.tables e below _ (T101.setTop (mkF m 98 #[.val (.ref a1), .val (.long q1), .second, .val (.long q2), .second] [(.long q2), (.long q1)]))
  refine Go.step (fun _ kt => XS.lcmp X101.here hx rfl (hb hby d3_98) rfl kt) ?_
  show Go p.tables e below _ (T101.setTop (mkF m 99 #[.val (.ref a1), .val (.long q1), .second, .val (.long q2), .second] [(.int (lcmpW q1 q2))]))
  by_cases hc99_102 : (0 : Int32) < (lcmpW q1 q2)
  · refine Go.step (fun _ kt => XS.ifYes X101.here hx rfl (pc0 := 99) (pc' := 106) rfl (hb hby d3_99) rfl ((if0 _ _).trans (tlt hc99_102).2.2.1) (by decide) (by decide) kt) ?_
    show Go p.tables e below _ (T101.setTop (mkF m 106 #[.val (.ref a1), .val (.long q1), .second, .val (.long q2), .second] []))
    refine Go.step (fun _ kt => XS.iconst X101.here hx rfl (hb hby d3_106) kt) ?_
    show Go p.tables e below _ (T101.setTop (mkF m 107 #[.val (.ref a1), .val (.long q1), .second, .val (.long q2), .second] [(.int (0 : Int32))]))
    refine Go.step (fun _ kt => XS.goto X101.here hx rfl (pc0 := 107) (pc' := 135) rfl (hb hby d3_107) (by decide) (by decide) kt) ?_
    show Go p.tables e below _ (T101.setTop (mkF m 135 #[.val (.ref a1), .val (.long q1), .second, .val (.long q2), .second] [(.int (0 : Int32))]))
    obtain ⟨fs, hr, hrun, hended, hW, hsame⟩ := X101.leave (v := some (.int (0 : Int32))) (fun h => by rw [Bd.returns] at h; cases h)
    refine ⟨_, _, retN X101 hx (t := .boolean) Bd.returns (by simp) (hb hby d3_135) hr, hrun, hended, _, _, rfl, ?_, ⟨_, rfl⟩, hW, hsame.mono (by decide) (by decide)⟩
    show Qrmh3 Z a1 q1 q2 h0 n0 _ T101.heap _
    rw [eh101]
    refine ⟨?_, N101, rfl⟩
    have q : own_h3 q1 q2 = (0 : Int32) := by simp only [own_h3]; simp [hc99_102]
    rw [q]
  · refine Go.step (fun _ kt => XS.ifNo X101.here hx rfl (hb hby d3_99) rfl ((if0 _ _).trans (flt hc99_102).2.2.1) kt) ?_
    show Go p.tables e below _ (T101.setTop (mkF m 102 #[.val (.ref a1), .val (.long q1), .second, .val (.long q2), .second] []))
    refine Go.step (fun _ kt => XS.iconst X101.here hx rfl (hb hby d3_102) kt) ?_
    show Go p.tables e below _ (T101.setTop (mkF m 103 #[.val (.ref a1), .val (.long q1), .second, .val (.long q2), .second] [(.int (1 : Int32))]))
    refine Go.step (fun _ kt => XS.goto X101.here hx rfl (pc0 := 103) (pc' := 135) rfl (hb hby d3_103) (by decide) (by decide) kt) ?_
    show Go p.tables e below _ (T101.setTop (mkF m 135 #[.val (.ref a1), .val (.long q1), .second, .val (.long q2), .second] [(.int (1 : Int32))]))
    obtain ⟨fs, hr, hrun, hended, hW, hsame⟩ := X101.leave (v := some (.int (1 : Int32))) (fun h => by rw [Bd.returns] at h; cases h)
    refine ⟨_, _, retN X101 hx (t := .boolean) Bd.returns (by simp) (hb hby d3_135) hr, hrun, hended, _, _, rfl, ?_, ⟨_, rfl⟩, hW, hsame.mono (by decide) (by decide)⟩
    show Qrmh3 Z a1 q1 q2 h0 n0 _ T101.heap _
    rw [eh101]
    refine ⟨?_, N101, rfl⟩
    have q : own_h3 q1 q2 = (1 : Int32) := by simp only [own_h3]; simp [hc99_102]
    rw [q]
def own_h4 (x y : Int64) : Int32 := if 0 < lcmpW x y then 1 else 0
theorem d3_110 : decode prog_124_method_6_code 110 = .ok (.lload_n 1, 1) := by decide +kernel
theorem d3_111 : decode prog_124_method_6_code 111 = .ok (.lload_n 3, 1) := by decide +kernel
theorem d3_112 : decode prog_124_method_6_code 112 = .ok (.lcmp, 1) := by decide +kernel
theorem d3_113 : decode prog_124_method_6_code 113 = .ok (.ifCond .le 7, 3) := by decide +kernel
theorem d3_116 : decode prog_124_method_6_code 116 = .ok (.iconst 1, 1) := by decide +kernel
theorem d3_117 : decode prog_124_method_6_code 117 = .ok (.goto 18, 3) := by decide +kernel
theorem d3_120 : decode prog_124_method_6_code 120 = .ok (.iconst 0, 1) := by decide +kernel
theorem d3_121 : decode prog_124_method_6_code 121 = .ok (.goto 14, 3) := by decide +kernel
theorem ef_rmh4 (m : MethodId) (a1 : Addr) (q1 : Int64) (q2 : Int64) : entryFrame m #[(.ref a1), (.long q1), (.long q2)] 5 = mkF m 0 #[.val (.ref a1), .val (.long q1), .second, .val (.long q2), .second] [] := by first | (simp [entryFrame, mkF, argsToLocals, Value.category]; done) | rfl
def Qrmh4 (Z : State) (a1 : Addr) (q1 : Int64) (q2 : Int64) (h0 : Heap) (n0 : Nat) (v : Option Value) (h : Heap) (L : List Loc) : Prop := v = some (.int (own_h4 q1 q2)) ∧ Fr n0 L ∧ h = h0
set_option maxRecDepth 65536 in
set_option maxHeartbeats 40000000 in
theorem rmh4 (l : Launch) (Z : State) (a0 : Array Value) (hw : ∀ d ∈ tables_1, d.before a0 Z = true) (ws : List Jvm.Cond) (a1 : Addr) (q1 : Int64) (q2 : Int64) (h0 : Heap) (n0 : Nat) (Z0 : n0 ≤ h0.size) (E1 : Exa Z h0 a1 "com/example/pech_david/pechdavid/model/Relation") (F1 : Fld Z h0 a1 "java/lang/Enum" "ordinal" "I" (.int (4 : Int32))) :
    MetFree l (⟨"com/example/pech_david/pechdavid/model/Relation", "holds", "(JJ)Z"⟩ : MethodName) (head1 (Jvm.Cond.code (⟨"com/example/pech_david/pechdavid/model/Relation", "holds", "(JJ)Z"⟩ : MethodName) prog_124_method_6_code 5 (some .boolean) :: ws) ({ frames := 1, cells := 0, slots := 0, locals := 12 } : Room)) (fun a U => a = #[(.ref a1), (.long q1), (.long q2)] ∧ Z.Warmed39 U.vm ∧ U.heap = h0) (fun _ _ _ _ _ => True) (fun _ U o U' => ∃ v L, o = .returned v ∧ Qrmh4 Z a1 q1 q2 h0 n0 v U'.heap L ∧ FrameEnd U o U' L ({ frames := 1, cells := 0, slots := 0, locals := 12 } : Room).cells ({ frames := 1, cells := 0, slots := 0, locals := 12 } : Room).slots) := by
  refine MetFree.of_bodySF (plainFor_of_name pn_1) hisR ?_
  intro p e s m args below meth c s₁ Bd hml0 hP hK
  obtain ⟨rfl, hZ, hh⟩ := hP
  have hx := Bd.exec
  have hby := Bd.bytes
  have hml : c.maxLocals = 5 := hml0
  have hown : s.vm.findClass "com/example/pech_david/pechdavid/model/Relation" = some m.cls := findClass_of_methodNamed Bd.named
  have hnm := (name_of_methodNamed Bd.named Bd.method).1
  have X0 : Stand p l e ({ frames := 1, cells := 0, slots := 0, locals := 12 } : Room) s m #[(.ref a1), (.long q1), (.long q2)] below meth c s₁ [] 0 0 := Stand.of_body Bd
  have e0 : s₁.heap = h0 := by rw [← hh, Bd.state]; rfl
  have N0 := Fr.nil n0
  show Go p.tables e below (fun o U' => ∃ v L, o = .returned v ∧ Qrmh4 Z a1 q1 q2 h0 n0 v U'.heap L ∧ FrameEnd s o U' L ({ frames := 1, cells := 0, slots := 0, locals := 12 } : Room).cells ({ frames := 1, cells := 0, slots := 0, locals := 12 } : Room).slots) _
  refine Go.step (fun t kt => castTop (ef_rmh4 m a1 q1 q2) kt) ?_
  show Go p.tables e below _ (s₁.setTop (mkF m 0 #[.val (.ref a1), .val (.long q1), .second, .val (.long q2), .second] []))
  refine Go.step (fun _ kt => XS.aloadN X0.here hx rfl (hb hby d3_0) rfl rfl kt) ?_
  show Go p.tables e below _ (s₁.setTop (mkF m 1 #[.val (.ref a1), .val (.long q1), .second, .val (.long q2), .second] [(.ref a1)]))
  obtain ⟨cq101, kq101, q101a, q101b, q101c⟩ := isOf hZ e0 E1
  obtain ⟨_, _, ⟨T101, L101, k101, n101⟩, -, X101, ⟨Lc101, hQ101, l101, y101, z101⟩, st101⟩ := X0.virtualBackUp hx (x := (⟨"com/example/pech_david/pechdavid/model/Relation", "ordinal", "()I"⟩ : MethodName)) (y := (⟨"java/lang/Enum", "ordinal", "()I"⟩ : MethodName)) (owner := "java/lang/Enum") hown (mvT hZ (hw _ (List.mem_of_getElem? (i := 19) rfl))) (mvT hZ (hw _ (List.mem_of_getElem? (i := 20) rfl))) (mvT hZ (hw _ (List.mem_of_getElem? (i := 21) rfl))) (by decide) (mvT hZ (hw _ (List.mem_of_getElem? (i := 23) rfl))) (mvT hZ (hw _ (List.mem_of_getElem? (i := 22) rfl))) (backOf (W := 0) (rm4 l Z a0 hw [] a1 (4 : Int32) h0 n0 Z0 F1 ) hZ (hw _ (List.mem_of_getElem? (i := 25) rfl)) (hw _ (List.mem_of_getElem? (i := 24) rfl)) (by decide) (by decide)) q101a q101c (g := (mkF m 1 #[.val (.ref a1), .val (.long q1), .second, .val (.long q2), .second] [(.ref a1)])) rfl (by rw [hml]; rfl) (Steps.refl _) (argsL := []) (rest := []) (lenOf pd_0 rfl) rfl (by show 2 * 0 + _ ≤ _; exact Nat.le_of_eq rfl) (hb hby d3_1) (fun _ _ => ⟨rfl, e0, (by decide : 0 + 0 ≤ _), (by decide : 0 + 0 ≤ _)⟩)
  dsimp only [Pt.U, Pt.locs, Pt.cells, Pt.slots] at X101 l101 y101 z101 st101 hQ101
  subst l101 y101 z101
  obtain ⟨rfl, N101q, eh101⟩ := hQ101
  have N101 := Fr.app N0 N101q
  refine Go.step (fun _ kt => st101.trans kt) ?_
  show Go p.tables e below _ (T101.setTop (mkF m 4 #[.val (.ref a1), .val (.long q1), .second, .val (.long q2), .second] [(.int (4 : Int32))]))
  refine Go.step (fun _ kt => XS.tswIn X101.here hx rfl (o := 106) (pc0 := 4) (pc' := 110) rfl (hb hby d3_4) rfl (by decide) (by decide) (by decide) (by decide) kt) ?_
  show Go p.tables e below _ (T101.setTop (mkF m 110 #[.val (.ref a1), .val (.long q1), .second, .val (.long q2), .second] []))
  refine Go.step (fun _ kt => XS.lloadN X101.here hx rfl (hb hby d3_110) rfl kt) ?_
  show Go p.tables e below _ (T101.setTop (mkF m 111 #[.val (.ref a1), .val (.long q1), .second, .val (.long q2), .second] [(.long q1)]))
  refine Go.step (fun _ kt => XS.lloadN X101.here hx rfl (hb hby d3_111) rfl kt) ?_
  show Go p.tables e below _ (T101.setTop (mkF m 112 #[.val (.ref a1), .val (.long q1), .second, .val (.long q2), .second] [(.long q2), (.long q1)]))
  refine Go.step (fun _ kt => XS.lcmp X101.here hx rfl (hb hby d3_112) rfl kt) ?_
  show Go p.tables e below _ (T101.setTop (mkF m 113 #[.val (.ref a1), .val (.long q1), .second, .val (.long q2), .second] [(.int (lcmpW q1 q2))]))
  by_cases hc113_102 : (0 : Int32) < (lcmpW q1 q2)
  · refine Go.step (fun _ kt => XS.ifNo X101.here hx rfl (hb hby d3_113) rfl ((if0 _ _).trans (tlt hc113_102).2.2.2) kt) ?_
    show Go p.tables e below _ (T101.setTop (mkF m 116 #[.val (.ref a1), .val (.long q1), .second, .val (.long q2), .second] []))
    refine Go.step (fun _ kt => XS.iconst X101.here hx rfl (hb hby d3_116) kt) ?_
    show Go p.tables e below _ (T101.setTop (mkF m 117 #[.val (.ref a1), .val (.long q1), .second, .val (.long q2), .second] [(.int (1 : Int32))]))
    refine Go.step (fun _ kt => XS.goto X101.here hx rfl (pc0 := 117) (pc' := 135) rfl (hb hby d3_117) (by decide) (by decide) kt) ?_
    show Go p.tables e below _ (T101.setTop (mkF m 135 #[.val (.ref a1), .val (.long q1), .second, .val (.long q2), .second] [(.int (1 : Int32))]))
    obtain ⟨fs, hr, hrun, hended, hW, hsame⟩ := X101.leave (v := some (.int (1 : Int32))) (fun h => by rw [Bd.returns] at h; cases h)
    refine ⟨_, _, retN X101 hx (t := .boolean) Bd.returns (by simp) (hb hby d3_135) hr, hrun, hended, _, _, rfl, ?_, ⟨_, rfl⟩, hW, hsame.mono (by decide) (by decide)⟩
    show Qrmh4 Z a1 q1 q2 h0 n0 _ T101.heap _
    rw [eh101]
    refine ⟨?_, N101, rfl⟩
    have q : own_h4 q1 q2 = (1 : Int32) := by simp only [own_h4]; simp [hc113_102]
    rw [q]
  · refine Go.step (fun _ kt => XS.ifYes X101.here hx rfl (pc0 := 113) (pc' := 120) rfl (hb hby d3_113) rfl ((if0 _ _).trans (flt hc113_102).2.2.2) (by decide) (by decide) kt) ?_
    show Go p.tables e below _ (T101.setTop (mkF m 120 #[.val (.ref a1), .val (.long q1), .second, .val (.long q2), .second] []))
    refine Go.step (fun _ kt => XS.iconst X101.here hx rfl (hb hby d3_120) kt) ?_
    show Go p.tables e below _ (T101.setTop (mkF m 121 #[.val (.ref a1), .val (.long q1), .second, .val (.long q2), .second] [(.int (0 : Int32))]))
    refine Go.step (fun _ kt => XS.goto X101.here hx rfl (pc0 := 121) (pc' := 135) rfl (hb hby d3_121) (by decide) (by decide) kt) ?_
    show Go p.tables e below _ (T101.setTop (mkF m 135 #[.val (.ref a1), .val (.long q1), .second, .val (.long q2), .second] [(.int (0 : Int32))]))
    obtain ⟨fs, hr, hrun, hended, hW, hsame⟩ := X101.leave (v := some (.int (0 : Int32))) (fun h => by rw [Bd.returns] at h; cases h)
    refine ⟨_, _, retN X101 hx (t := .boolean) Bd.returns (by simp) (hb hby d3_135) hr, hrun, hended, _, _, rfl, ?_, ⟨_, rfl⟩, hW, hsame.mono (by decide) (by decide)⟩
    show Qrmh4 Z a1 q1 q2 h0 n0 _ T101.heap _
    rw [eh101]
    refine ⟨?_, N101, rfl⟩
    have q : own_h4 q1 q2 = (0 : Int32) := by simp only [own_h4]; simp [hc113_102]
    rw [q]
def own_h5 (x y : Int64) : Int32 := if ¬ lcmpW x y < 0 then 1 else 0
theorem d3_124 : decode prog_124_method_6_code 124 = .ok (.lload_n 1, 1) := by decide +kernel
theorem d3_125 : decode prog_124_method_6_code 125 = .ok (.lload_n 3, 1) := by decide +kernel
theorem d3_126 : decode prog_124_method_6_code 126 = .ok (.lcmp, 1) := by decide +kernel
theorem d3_127 : decode prog_124_method_6_code 127 = .ok (.ifCond .lt 7, 3) := by decide +kernel
theorem d3_130 : decode prog_124_method_6_code 130 = .ok (.iconst 1, 1) := by decide +kernel
theorem d3_131 : decode prog_124_method_6_code 131 = .ok (.goto 4, 3) := by decide +kernel
theorem d3_134 : decode prog_124_method_6_code 134 = .ok (.iconst 0, 1) := by decide +kernel
theorem ef_rmh5 (m : MethodId) (a1 : Addr) (q1 : Int64) (q2 : Int64) : entryFrame m #[(.ref a1), (.long q1), (.long q2)] 5 = mkF m 0 #[.val (.ref a1), .val (.long q1), .second, .val (.long q2), .second] [] := by first | (simp [entryFrame, mkF, argsToLocals, Value.category]; done) | rfl
def Qrmh5 (Z : State) (a1 : Addr) (q1 : Int64) (q2 : Int64) (h0 : Heap) (n0 : Nat) (v : Option Value) (h : Heap) (L : List Loc) : Prop := v = some (.int (own_h5 q1 q2)) ∧ Fr n0 L ∧ h = h0
set_option maxRecDepth 65536 in
set_option maxHeartbeats 40000000 in
theorem rmh5 (l : Launch) (Z : State) (a0 : Array Value) (hw : ∀ d ∈ tables_1, d.before a0 Z = true) (ws : List Jvm.Cond) (a1 : Addr) (q1 : Int64) (q2 : Int64) (h0 : Heap) (n0 : Nat) (Z0 : n0 ≤ h0.size) (E1 : Exa Z h0 a1 "com/example/pech_david/pechdavid/model/Relation") (F1 : Fld Z h0 a1 "java/lang/Enum" "ordinal" "I" (.int (5 : Int32))) :
    MetFree l (⟨"com/example/pech_david/pechdavid/model/Relation", "holds", "(JJ)Z"⟩ : MethodName) (head1 (Jvm.Cond.code (⟨"com/example/pech_david/pechdavid/model/Relation", "holds", "(JJ)Z"⟩ : MethodName) prog_124_method_6_code 5 (some .boolean) :: ws) ({ frames := 1, cells := 0, slots := 0, locals := 12 } : Room)) (fun a U => a = #[(.ref a1), (.long q1), (.long q2)] ∧ Z.Warmed39 U.vm ∧ U.heap = h0) (fun _ _ _ _ _ => True) (fun _ U o U' => ∃ v L, o = .returned v ∧ Qrmh5 Z a1 q1 q2 h0 n0 v U'.heap L ∧ FrameEnd U o U' L ({ frames := 1, cells := 0, slots := 0, locals := 12 } : Room).cells ({ frames := 1, cells := 0, slots := 0, locals := 12 } : Room).slots) := by
  refine MetFree.of_bodySF (plainFor_of_name pn_1) hisR ?_
  intro p e s m args below meth c s₁ Bd hml0 hP hK
  obtain ⟨rfl, hZ, hh⟩ := hP
  have hx := Bd.exec
  have hby := Bd.bytes
  have hml : c.maxLocals = 5 := hml0
  have hown : s.vm.findClass "com/example/pech_david/pechdavid/model/Relation" = some m.cls := findClass_of_methodNamed Bd.named
  have hnm := (name_of_methodNamed Bd.named Bd.method).1
  have X0 : Stand p l e ({ frames := 1, cells := 0, slots := 0, locals := 12 } : Room) s m #[(.ref a1), (.long q1), (.long q2)] below meth c s₁ [] 0 0 := Stand.of_body Bd
  have e0 : s₁.heap = h0 := by rw [← hh, Bd.state]; rfl
  have N0 := Fr.nil n0
  show Go p.tables e below (fun o U' => ∃ v L, o = .returned v ∧ Qrmh5 Z a1 q1 q2 h0 n0 v U'.heap L ∧ FrameEnd s o U' L ({ frames := 1, cells := 0, slots := 0, locals := 12 } : Room).cells ({ frames := 1, cells := 0, slots := 0, locals := 12 } : Room).slots) _
  refine Go.step (fun t kt => castTop (ef_rmh5 m a1 q1 q2) kt) ?_
  show Go p.tables e below _ (s₁.setTop (mkF m 0 #[.val (.ref a1), .val (.long q1), .second, .val (.long q2), .second] []))
  refine Go.step (fun _ kt => XS.aloadN X0.here hx rfl (hb hby d3_0) rfl rfl kt) ?_
  show Go p.tables e below _ (s₁.setTop (mkF m 1 #[.val (.ref a1), .val (.long q1), .second, .val (.long q2), .second] [(.ref a1)]))
  obtain ⟨cq101, kq101, q101a, q101b, q101c⟩ := isOf hZ e0 E1
  obtain ⟨_, _, ⟨T101, L101, k101, n101⟩, -, X101, ⟨Lc101, hQ101, l101, y101, z101⟩, st101⟩ := X0.virtualBackUp hx (x := (⟨"com/example/pech_david/pechdavid/model/Relation", "ordinal", "()I"⟩ : MethodName)) (y := (⟨"java/lang/Enum", "ordinal", "()I"⟩ : MethodName)) (owner := "java/lang/Enum") hown (mvT hZ (hw _ (List.mem_of_getElem? (i := 19) rfl))) (mvT hZ (hw _ (List.mem_of_getElem? (i := 20) rfl))) (mvT hZ (hw _ (List.mem_of_getElem? (i := 21) rfl))) (by decide) (mvT hZ (hw _ (List.mem_of_getElem? (i := 23) rfl))) (mvT hZ (hw _ (List.mem_of_getElem? (i := 22) rfl))) (backOf (W := 0) (rm4 l Z a0 hw [] a1 (5 : Int32) h0 n0 Z0 F1 ) hZ (hw _ (List.mem_of_getElem? (i := 25) rfl)) (hw _ (List.mem_of_getElem? (i := 24) rfl)) (by decide) (by decide)) q101a q101c (g := (mkF m 1 #[.val (.ref a1), .val (.long q1), .second, .val (.long q2), .second] [(.ref a1)])) rfl (by rw [hml]; rfl) (Steps.refl _) (argsL := []) (rest := []) (lenOf pd_0 rfl) rfl (by show 2 * 0 + _ ≤ _; exact Nat.le_of_eq rfl) (hb hby d3_1) (fun _ _ => ⟨rfl, e0, (by decide : 0 + 0 ≤ _), (by decide : 0 + 0 ≤ _)⟩)
  dsimp only [Pt.U, Pt.locs, Pt.cells, Pt.slots] at X101 l101 y101 z101 st101 hQ101
  subst l101 y101 z101
  obtain ⟨rfl, N101q, eh101⟩ := hQ101
  have N101 := Fr.app N0 N101q
  refine Go.step (fun _ kt => st101.trans kt) ?_
  show Go p.tables e below _ (T101.setTop (mkF m 4 #[.val (.ref a1), .val (.long q1), .second, .val (.long q2), .second] [(.int (5 : Int32))]))
  refine Go.step (fun _ kt => XS.tswIn X101.here hx rfl (o := 120) (pc0 := 4) (pc' := 124) rfl (hb hby d3_4) rfl (by decide) (by decide) (by decide) (by decide) kt) ?_
  show Go p.tables e below _ (T101.setTop (mkF m 124 #[.val (.ref a1), .val (.long q1), .second, .val (.long q2), .second] []))
  refine Go.step (fun _ kt => XS.lloadN X101.here hx rfl (hb hby d3_124) rfl kt) ?_
  show Go p.tables e below _ (T101.setTop (mkF m 125 #[.val (.ref a1), .val (.long q1), .second, .val (.long q2), .second] [(.long q1)]))
  refine Go.step (fun _ kt => XS.lloadN X101.here hx rfl (hb hby d3_125) rfl kt) ?_
  show Go p.tables e below _ (T101.setTop (mkF m 126 #[.val (.ref a1), .val (.long q1), .second, .val (.long q2), .second] [(.long q2), (.long q1)]))
  refine Go.step (fun _ kt => XS.lcmp X101.here hx rfl (hb hby d3_126) rfl kt) ?_
  show Go p.tables e below _ (T101.setTop (mkF m 127 #[.val (.ref a1), .val (.long q1), .second, .val (.long q2), .second] [(.int (lcmpW q1 q2))]))
  by_cases hc127_102 : (lcmpW q1 q2) < (0 : Int32)
  · refine Go.step (fun _ kt => XS.ifYes X101.here hx rfl (pc0 := 127) (pc' := 134) rfl (hb hby d3_127) rfl ((if0 _ _).trans (tlt hc127_102).1) (by decide) (by decide) kt) ?_
    show Go p.tables e below _ (T101.setTop (mkF m 134 #[.val (.ref a1), .val (.long q1), .second, .val (.long q2), .second] []))
    refine Go.step (fun _ kt => XS.iconst X101.here hx rfl (hb hby d3_134) kt) ?_
    show Go p.tables e below _ (T101.setTop (mkF m 135 #[.val (.ref a1), .val (.long q1), .second, .val (.long q2), .second] [(.int (0 : Int32))]))
    obtain ⟨fs, hr, hrun, hended, hW, hsame⟩ := X101.leave (v := some (.int (0 : Int32))) (fun h => by rw [Bd.returns] at h; cases h)
    refine ⟨_, _, retN X101 hx (t := .boolean) Bd.returns (by simp) (hb hby d3_135) hr, hrun, hended, _, _, rfl, ?_, ⟨_, rfl⟩, hW, hsame.mono (by decide) (by decide)⟩
    show Qrmh5 Z a1 q1 q2 h0 n0 _ T101.heap _
    rw [eh101]
    refine ⟨?_, N101, rfl⟩
    have q : own_h5 q1 q2 = (0 : Int32) := by simp only [own_h5]; simp [hc127_102]
    rw [q]
  · refine Go.step (fun _ kt => XS.ifNo X101.here hx rfl (hb hby d3_127) rfl ((if0 _ _).trans (flt hc127_102).1) kt) ?_
    show Go p.tables e below _ (T101.setTop (mkF m 130 #[.val (.ref a1), .val (.long q1), .second, .val (.long q2), .second] []))
    refine Go.step (fun _ kt => XS.iconst X101.here hx rfl (hb hby d3_130) kt) ?_
    show Go p.tables e below _ (T101.setTop (mkF m 131 #[.val (.ref a1), .val (.long q1), .second, .val (.long q2), .second] [(.int (1 : Int32))]))
    refine Go.step (fun _ kt => XS.goto X101.here hx rfl (pc0 := 131) (pc' := 135) rfl (hb hby d3_131) (by decide) (by decide) kt) ?_
    show Go p.tables e below _ (T101.setTop (mkF m 135 #[.val (.ref a1), .val (.long q1), .second, .val (.long q2), .second] [(.int (1 : Int32))]))
    obtain ⟨fs, hr, hrun, hended, hW, hsame⟩ := X101.leave (v := some (.int (1 : Int32))) (fun h => by rw [Bd.returns] at h; cases h)
    refine ⟨_, _, retN X101 hx (t := .boolean) Bd.returns (by simp) (hb hby d3_135) hr, hrun, hended, _, _, rfl, ?_, ⟨_, rfl⟩, hW, hsame.mono (by decide) (by decide)⟩
    show Qrmh5 Z a1 q1 q2 h0 n0 _ T101.heap _
    rw [eh101]
    refine ⟨?_, N101, rfl⟩
    have q : own_h5 q1 q2 = (1 : Int32) := by simp only [own_h5]; simp [hc127_102]
    rw [q]
theorem pd_1 : parseMethodDescriptor "(I)Lcom/example/pech_david/pechdavid/model/Relation;" = some ⟨[.int], some (.object "com/example/pech_david/pechdavid/model/Relation")⟩ := by decide +kernel
theorem pd_2 : parseMethodDescriptor "()Z" = some ⟨[], some .boolean⟩ := by decide +kernel
theorem pd_3 : parseMethodDescriptor "(JJ)Z" = some ⟨[.long, .long], some .boolean⟩ := by decide +kernel
theorem ef_rm0 (m : MethodId) (p1 : Int32) (s_EQUAL : Addr) (s_NOT_EQUAL : Addr) (s_LESS : Addr) (s_LESS_OR_EQUAL : Addr) (s_GREATER : Addr) (s_GREATER_OR_EQUAL : Addr) : entryFrame m #[(.int p1)] maxLocals = mkF m 0 #[.val (.int p1), .unset, .unset, .unset, .unset, .unset] [] := by first | (simp [entryFrame, mkF, argsToLocals, Value.category, maxLocals]; done) | rfl
def Qrm0 (Z : State) (p1 : Int32) (s_EQUAL : Addr) (s_NOT_EQUAL : Addr) (s_LESS : Addr) (s_LESS_OR_EQUAL : Addr) (s_GREATER : Addr) (s_GREATER_OR_EQUAL : Addr) (h0 : Heap) (n0 : Nat) (v : Option Value) (h : Heap) (L : List Loc) : Prop := v = some (.int 1) ∧ Fr n0 L
set_option maxRecDepth 65536 in
set_option maxHeartbeats 40000000 in
theorem rm0 (l : Launch) (Z : State) (a0 : Array Value) (hw : ∀ d ∈ tables_1, d.before a0 Z = true) (ws : List Jvm.Cond) (p1 : Int32) (s_EQUAL : Addr) (s_NOT_EQUAL : Addr) (s_LESS : Addr) (s_LESS_OR_EQUAL : Addr) (s_GREATER : Addr) (s_GREATER_OR_EQUAL : Addr) (h0 : Heap) (n0 : Nat) (Z0 : n0 ≤ h0.size) (S_EQUAL : Sta Z h0 "com/example/pech_david/pechdavid/model/Relation" "EQUAL" "Lcom/example/pech_david/pechdavid/model/Relation;" (.ref s_EQUAL)) (E_EQUAL : Exa Z h0 s_EQUAL "com/example/pech_david/pechdavid/model/Relation") (F_EQUAL_ordinal : Fld Z h0 s_EQUAL "java/lang/Enum" "ordinal" "I" (.int (0 : Int32))) (S_NOT_EQUAL : Sta Z h0 "com/example/pech_david/pechdavid/model/Relation" "NOT_EQUAL" "Lcom/example/pech_david/pechdavid/model/Relation;" (.ref s_NOT_EQUAL)) (E_NOT_EQUAL : Exa Z h0 s_NOT_EQUAL "com/example/pech_david/pechdavid/model/Relation") (F_NOT_EQUAL_ordinal : Fld Z h0 s_NOT_EQUAL "java/lang/Enum" "ordinal" "I" (.int (1 : Int32))) (S_LESS : Sta Z h0 "com/example/pech_david/pechdavid/model/Relation" "LESS" "Lcom/example/pech_david/pechdavid/model/Relation;" (.ref s_LESS)) (E_LESS : Exa Z h0 s_LESS "com/example/pech_david/pechdavid/model/Relation") (F_LESS_ordinal : Fld Z h0 s_LESS "java/lang/Enum" "ordinal" "I" (.int (2 : Int32))) (S_LESS_OR_EQUAL : Sta Z h0 "com/example/pech_david/pechdavid/model/Relation" "LESS_OR_EQUAL" "Lcom/example/pech_david/pechdavid/model/Relation;" (.ref s_LESS_OR_EQUAL)) (E_LESS_OR_EQUAL : Exa Z h0 s_LESS_OR_EQUAL "com/example/pech_david/pechdavid/model/Relation") (F_LESS_OR_EQUAL_ordinal : Fld Z h0 s_LESS_OR_EQUAL "java/lang/Enum" "ordinal" "I" (.int (3 : Int32))) (S_GREATER : Sta Z h0 "com/example/pech_david/pechdavid/model/Relation" "GREATER" "Lcom/example/pech_david/pechdavid/model/Relation;" (.ref s_GREATER)) (E_GREATER : Exa Z h0 s_GREATER "com/example/pech_david/pechdavid/model/Relation") (F_GREATER_ordinal : Fld Z h0 s_GREATER "java/lang/Enum" "ordinal" "I" (.int (4 : Int32))) (S_GREATER_OR_EQUAL : Sta Z h0 "com/example/pech_david/pechdavid/model/Relation" "GREATER_OR_EQUAL" "Lcom/example/pech_david/pechdavid/model/Relation;" (.ref s_GREATER_OR_EQUAL)) (E_GREATER_OR_EQUAL : Exa Z h0 s_GREATER_OR_EQUAL "com/example/pech_david/pechdavid/model/Relation") (F_GREATER_OR_EQUAL_ordinal : Fld Z h0 s_GREATER_OR_EQUAL "java/lang/Enum" "ordinal" "I" (.int (5 : Int32))) :
    MetFree l x (head1 (Jvm.Cond.code x code maxLocals ret :: ws) room_1) (fun a U => a = #[(.int p1)] ∧ Z.Warmed39 U.vm ∧ U.heap = h0) (fun _ _ _ _ _ => True) (fun _ U o U' => ∃ v L, o = .returned v ∧ Qrm0 Z p1 s_EQUAL s_NOT_EQUAL s_LESS s_LESS_OR_EQUAL s_GREATER s_GREATER_OR_EQUAL h0 n0 v U'.heap L ∧ FrameEnd U o U' L room_1.cells room_1.slots) := by
  refine MetFree.of_bodySF (plainFor_of_name pn_0) hisR ?_
  intro p e s m args below meth c s₁ Bd hml0 hP hK
  obtain ⟨rfl, hZ, hh⟩ := hP
  have hx := Bd.exec
  have hby := Bd.bytes
  have hml : c.maxLocals = 6 := hml0
  have hown : s.vm.findClass "com/example/pech_david/pechdavid/model/RelationOrdersPinLaw" = some m.cls := findClass_of_methodNamed Bd.named
  have hnm := (name_of_methodNamed Bd.named Bd.method).1
  have X0 : Stand p l e room_1 s m #[(.int p1)] below meth c s₁ [] 0 0 := Stand.of_body Bd
  have e0 : s₁.heap = h0 := by rw [← hh, Bd.state]; rfl
  have N0 := Fr.nil n0
  show Go p.tables e below (fun o U' => ∃ v L, o = .returned v ∧ Qrm0 Z p1 s_EQUAL s_NOT_EQUAL s_LESS s_LESS_OR_EQUAL s_GREATER s_GREATER_OR_EQUAL h0 n0 v U'.heap L ∧ FrameEnd s o U' L room_1.cells room_1.slots) _
  refine Go.step (fun t kt => castTop (ef_rm0 m p1 s_EQUAL s_NOT_EQUAL s_LESS s_LESS_OR_EQUAL s_GREATER s_GREATER_OR_EQUAL) kt) ?_
  show Go p.tables e below _ (s₁.setTop (mkF m 0 #[.val (.int p1), .unset, .unset, .unset, .unset, .unset] []))
  have ne_1_0 : s_NOT_EQUAL ≠ s_EQUAL := F_NOT_EQUAL_ordinal.ne F_EQUAL_ordinal (by decide)
  have ne_2_0 : s_LESS ≠ s_EQUAL := F_LESS_ordinal.ne F_EQUAL_ordinal (by decide)
  have ne_2_1 : s_LESS ≠ s_NOT_EQUAL := F_LESS_ordinal.ne F_NOT_EQUAL_ordinal (by decide)
  have ne_3_0 : s_LESS_OR_EQUAL ≠ s_EQUAL := F_LESS_OR_EQUAL_ordinal.ne F_EQUAL_ordinal (by decide)
  have ne_3_1 : s_LESS_OR_EQUAL ≠ s_NOT_EQUAL := F_LESS_OR_EQUAL_ordinal.ne F_NOT_EQUAL_ordinal (by decide)
  have ne_4_0 : s_GREATER ≠ s_EQUAL := F_GREATER_ordinal.ne F_EQUAL_ordinal (by decide)
  have ne_4_1 : s_GREATER ≠ s_NOT_EQUAL := F_GREATER_ordinal.ne F_NOT_EQUAL_ordinal (by decide)
  have ne_5_0 : s_GREATER_OR_EQUAL ≠ s_EQUAL := F_GREATER_OR_EQUAL_ordinal.ne F_EQUAL_ordinal (by decide)
  have ne_5_1 : s_GREATER_OR_EQUAL ≠ s_NOT_EQUAL := F_GREATER_OR_EQUAL_ordinal.ne F_NOT_EQUAL_ordinal (by decide)
  refine Go.step (fun _ kt => XS.iloadN X0.here hx rfl (hb hby at_0) rfl kt) ?_
  show Go p.tables e below _ (s₁.setTop (mkF m 1 #[.val (.int p1), .unset, .unset, .unset, .unset, .unset] [(.int p1)]))
  refine Go.step (X0.ldcInt hx hown (mvT hZ (hw _ (List.mem_of_getElem? (i := 0) rfl))) (g := (mkF m 1 #[.val (.int p1), .unset, .unset, .unset, .unset, .unset] [(.int p1)])) rfl (hb hby at_1)) ?_
  show Go p.tables e below _ (s₁.setTop (mkF m 3 #[.val (.int p1), .unset, .unset, .unset, .unset, .unset] [(.int (2147483647 : Int32)), (.int p1)]))
  refine Go.step (fun _ kt => XS.iand X0.here hx rfl (hb hby at_3) rfl kt) ?_
  show Go p.tables e below _ (s₁.setTop (mkF m 4 #[.val (.int p1), .unset, .unset, .unset, .unset, .unset] [(.int (p1 &&& (2147483647 : Int32)))]))
  refine Go.step (fun _ kt => XS.bipush X0.here hx rfl (hb hby at_4) kt) ?_
  show Go p.tables e below _ (s₁.setTop (mkF m 6 #[.val (.int p1), .unset, .unset, .unset, .unset, .unset] [(.int (6 : Int32)), (.int (p1 &&& (2147483647 : Int32)))]))
  refine Go.step (fun _ kt => iremM (g := (mkF m 6 #[.val (.int p1), .unset, .unset, .unset, .unset, .unset] [(.int (6 : Int32)), (.int (p1 &&& (2147483647 : Int32)))])) X0 hx rfl (hb hby at_6) rfl (by decide) kt) ?_
  show Go p.tables e below _ (s₁.setTop (mkF m 7 #[.val (.int p1), .unset, .unset, .unset, .unset, .unset] [(.int ((p1 &&& (2147483647 : Int32)) % (6 : Int32)))]))
  refine Go.step (fun _ kt => XS.istoreN X0.here hx rfl (hb hby at_7) rfl (l' := #[.val (.int p1), .val (.int ((p1 &&& (2147483647 : Int32)) % (6 : Int32))), .unset, .unset, .unset, .unset]) rfl kt) ?_
  show Go p.tables e below _ (s₁.setTop (mkF m 8 #[.val (.int p1), .val (.int ((p1 &&& (2147483647 : Int32)) % (6 : Int32))), .unset, .unset, .unset, .unset] []))
  rcases own_rem6 p1 with hk | hk | hk | hk | hk | hk
  · rw [hk]
    show Go p.tables e below _ (s₁.setTop (mkF m 8 #[.val (.int p1), .val (.int (0 : Int32)), .unset, .unset, .unset, .unset] []))
    refine Go.step (fun _ kt => XS.iloadN X0.here hx rfl (hb hby at_8) rfl kt) ?_
    show Go p.tables e below _ (s₁.setTop (mkF m 9 #[.val (.int p1), .val (.int (0 : Int32)), .unset, .unset, .unset, .unset] [(.int (0 : Int32))]))
    obtain ⟨_, _, ⟨T101, L101, k101, n101⟩, -, X101, ⟨Lc101, hQ101, l101, y101, z101⟩, st101⟩ := Jvm.LawKit.callS X0 hx (y := (⟨"com/example/pech_david/pechdavid/model/RelationOrdersPinLaw", "pick", "(I)Lcom/example/pech_david/pechdavid/model/Relation;"⟩ : MethodName)) hown (mvT hZ (hw _ (List.mem_of_getElem? (i := 1) rfl))) (mvT hZ (hw _ (List.mem_of_getElem? (i := 2) rfl))) (mvT hZ (hw _ (List.mem_of_getElem? (i := 3) rfl))) (mvT hZ (hw _ (List.mem_of_getElem? (i := 4) rfl))) (by decide) (backOf (W := 0) (rm1 l Z a0 hw [] (0 : Int32) s_EQUAL s_NOT_EQUAL s_LESS s_LESS_OR_EQUAL s_GREATER s_GREATER_OR_EQUAL h0 n0 Z0 S_EQUAL S_NOT_EQUAL S_LESS S_LESS_OR_EQUAL S_GREATER S_GREATER_OR_EQUAL ) hZ (hw _ (List.mem_of_getElem? (i := 4) rfl)) (hw _ (List.mem_of_getElem? (i := 3) rfl)) (by decide) (by decide)) (g := (mkF m 9 #[.val (.int p1), .val (.int (0 : Int32)), .unset, .unset, .unset, .unset] [(.int (0 : Int32))])) rfl (by rw [hml]; rfl) (argsL := [(.int (0 : Int32))]) (rest := []) (lenOf pd_1 rfl) rfl (by show 2 * 0 + _ ≤ _; exact Nat.le_of_eq rfl) (hb hby at_9) (fun _ _ => ⟨rfl, e0, (by decide : 0 + 0 ≤ _), (by decide : 0 + 0 ≤ _)⟩)
    dsimp only [Pt.U, Pt.locs, Pt.cells, Pt.slots] at X101 l101 y101 z101 st101 hQ101
    subst l101 y101 z101
    obtain ⟨rfl, N101q, eh101⟩ := hQ101
    have N101 := Fr.app N0 N101q
    refine Go.step st101 ?_
    show Go p.tables e below _ (T101.setTop (mkF m 12 #[.val (.int p1), .val (.int (0 : Int32)), .unset, .unset, .unset, .unset] [(.ref (own_pick (0 : Int32) s_EQUAL s_NOT_EQUAL s_LESS s_LESS_OR_EQUAL s_GREATER s_GREATER_OR_EQUAL))]))
    have q102 : (own_pick (0 : Int32) s_EQUAL s_NOT_EQUAL s_LESS s_LESS_OR_EQUAL s_GREATER s_GREATER_OR_EQUAL) = s_EQUAL := rfl
    rw [q102]
    show Go p.tables e below _ (T101.setTop (mkF m 12 #[.val (.int p1), .val (.int (0 : Int32)), .unset, .unset, .unset, .unset] [(.ref s_EQUAL)]))
    refine Go.step (fun _ kt => XS.astoreN X101.here hx rfl (hb hby at_12) rfl rfl (l' := #[.val (.int p1), .val (.int (0 : Int32)), .val (.ref s_EQUAL), .unset, .unset, .unset]) rfl kt) ?_
    show Go p.tables e below _ (T101.setTop (mkF m 13 #[.val (.int p1), .val (.int (0 : Int32)), .val (.ref s_EQUAL), .unset, .unset, .unset] []))
    refine Go.step (fun _ kt => XS.iloadN X101.here hx rfl (hb hby at_13) rfl kt) ?_
    show Go p.tables e below _ (T101.setTop (mkF m 14 #[.val (.int p1), .val (.int (0 : Int32)), .val (.ref s_EQUAL), .unset, .unset, .unset] [(.int (0 : Int32))]))
    refine Go.step (fun _ kt => XS.iconst X101.here hx rfl (hb hby at_14) kt) ?_
    show Go p.tables e below _ (T101.setTop (mkF m 15 #[.val (.int p1), .val (.int (0 : Int32)), .val (.ref s_EQUAL), .unset, .unset, .unset] [(.int (2 : Int32)), (.int (0 : Int32))]))
    refine Go.step (fun _ kt => XS.icmpYes X101.here hx rfl (pc0 := 15) (pc' := 22) rfl (hb hby at_15) rfl (tlt (by decide : (0 : Int32) < (2 : Int32))).1 (by decide) (by decide) kt) ?_
    show Go p.tables e below _ (T101.setTop (mkF m 22 #[.val (.int p1), .val (.int (0 : Int32)), .val (.ref s_EQUAL), .unset, .unset, .unset] []))
    refine Go.step (fun _ kt => XS.iconst X101.here hx rfl (hb hby at_22) kt) ?_
    show Go p.tables e below _ (T101.setTop (mkF m 23 #[.val (.int p1), .val (.int (0 : Int32)), .val (.ref s_EQUAL), .unset, .unset, .unset] [(.int (0 : Int32))]))
    refine Go.step (fun _ kt => XS.istoreN X101.here hx rfl (hb hby at_23) rfl (l' := #[.val (.int p1), .val (.int (0 : Int32)), .val (.ref s_EQUAL), .val (.int (0 : Int32)), .unset, .unset]) rfl kt) ?_
    show Go p.tables e below _ (T101.setTop (mkF m 24 #[.val (.int p1), .val (.int (0 : Int32)), .val (.ref s_EQUAL), .val (.int (0 : Int32)), .unset, .unset] []))
    refine Go.step (fun _ kt => XS.aloadN X101.here hx rfl (hb hby at_24) rfl rfl kt) ?_
    show Go p.tables e below _ (T101.setTop (mkF m 25 #[.val (.int p1), .val (.int (0 : Int32)), .val (.ref s_EQUAL), .val (.int (0 : Int32)), .unset, .unset] [(.ref s_EQUAL)]))
    obtain ⟨cq103, kq103, q103a, q103b, q103c⟩ := isOf hZ eh101 E_EQUAL
    obtain ⟨_, _, ⟨T103, L103, k103, n103⟩, -, X103, ⟨Lc103, hQ103, l103, y103, z103⟩, st103⟩ := X101.virtualBack hx (y := (⟨"com/example/pech_david/pechdavid/model/Relation", "orders", "()Z"⟩ : MethodName)) (z := (⟨"com/example/pech_david/pechdavid/model/Relation", "orders", "()Z"⟩ : MethodName)) hown (mvT hZ (hw _ (List.mem_of_getElem? (i := 8) rfl))) (mvT hZ (hw _ (List.mem_of_getElem? (i := 9) rfl))) (notFace_of_selects (args := #[]) (mvT hZ (hw _ (List.mem_of_getElem? (i := 11) rfl)))) (mvT hZ (hw _ (List.mem_of_getElem? (i := 11) rfl))) (mvT hZ (hw _ (List.mem_of_getElem? (i := 10) rfl))) (by decide) (backOf (W := 0) (rm2 l Z a0 hw [] s_EQUAL s_EQUAL s_NOT_EQUAL h0 n0 Z0 S_EQUAL S_NOT_EQUAL ) hZ (hw _ (List.mem_of_getElem? (i := 12) rfl)) (hw _ (List.mem_of_getElem? (i := 6) rfl)) (by decide) (by decide)) q103a q103c (g := (mkF m 25 #[.val (.int p1), .val (.int (0 : Int32)), .val (.ref s_EQUAL), .val (.int (0 : Int32)), .unset, .unset] [(.ref s_EQUAL)])) rfl (by rw [hml]; rfl) (Steps.refl _) (argsL := []) (rest := []) (lenOf pd_2 rfl) rfl (by show 2 * 0 + _ ≤ _; exact Nat.le_of_eq rfl) (hb hby at_25) (fun _ _ => ⟨rfl, eh101, (by decide : 0 + 0 ≤ _), (by decide : 0 + 0 ≤ _)⟩)
    dsimp only [Pt.U, Pt.locs, Pt.cells, Pt.slots] at X103 l103 y103 z103 st103 hQ103
    subst l103 y103 z103
    obtain ⟨rfl, N103q, eh103⟩ := hQ103
    have N103 := Fr.app N101 N103q
    refine Go.step (fun _ kt => st103.trans kt) ?_
    show Go p.tables e below _ (T103.setTop (mkF m 28 #[.val (.int p1), .val (.int (0 : Int32)), .val (.ref s_EQUAL), .val (.int (0 : Int32)), .unset, .unset] [(.int (own_ord s_EQUAL s_EQUAL s_NOT_EQUAL))]))
    have q104 : (own_ord s_EQUAL s_EQUAL s_NOT_EQUAL) = (0 : Int32) := by simp [own_ord]
    rw [q104]
    show Go p.tables e below _ (T103.setTop (mkF m 28 #[.val (.int p1), .val (.int (0 : Int32)), .val (.ref s_EQUAL), .val (.int (0 : Int32)), .unset, .unset] [(.int (0 : Int32))]))
    refine Go.step (fun _ kt => XS.istore X103.here hx rfl (hb hby at_28) rfl (l' := #[.val (.int p1), .val (.int (0 : Int32)), .val (.ref s_EQUAL), .val (.int (0 : Int32)), .val (.int (0 : Int32)), .unset]) rfl kt) ?_
    show Go p.tables e below _ (T103.setTop (mkF m 30 #[.val (.int p1), .val (.int (0 : Int32)), .val (.ref s_EQUAL), .val (.int (0 : Int32)), .val (.int (0 : Int32)), .unset] []))
    refine Go.step (fun _ kt => XS.aloadN X103.here hx rfl (hb hby at_30) rfl rfl kt) ?_
    show Go p.tables e below _ (T103.setTop (mkF m 31 #[.val (.int p1), .val (.int (0 : Int32)), .val (.ref s_EQUAL), .val (.int (0 : Int32)), .val (.int (0 : Int32)), .unset] [(.ref s_EQUAL)]))
    refine Go.step (fun _ kt => XS.lconst X103.here hx rfl (hb hby at_31) kt) ?_
    show Go p.tables e below _ (T103.setTop (mkF m 32 #[.val (.int p1), .val (.int (0 : Int32)), .val (.ref s_EQUAL), .val (.int (0 : Int32)), .val (.int (0 : Int32)), .unset] [(.long (0 : Int64)), (.ref s_EQUAL)]))
    refine Go.step (fun _ kt => XS.lconst X103.here hx rfl (hb hby at_32) kt) ?_
    show Go p.tables e below _ (T103.setTop (mkF m 33 #[.val (.int p1), .val (.int (0 : Int32)), .val (.ref s_EQUAL), .val (.int (0 : Int32)), .val (.int (0 : Int32)), .unset] [(.long (1 : Int64)), (.long (0 : Int64)), (.ref s_EQUAL)]))
    obtain ⟨cq105, kq105, q105a, q105b, q105c⟩ := isOf hZ eh103 E_EQUAL
    obtain ⟨_, _, ⟨T105, L105, k105, n105⟩, -, X105, ⟨Lc105, hQ105, l105, y105, z105⟩, st105⟩ := X103.virtualBack hx (y := (⟨"com/example/pech_david/pechdavid/model/Relation", "holds", "(JJ)Z"⟩ : MethodName)) (z := (⟨"com/example/pech_david/pechdavid/model/Relation", "holds", "(JJ)Z"⟩ : MethodName)) hown (mvT hZ (hw _ (List.mem_of_getElem? (i := 14) rfl))) (mvT hZ (hw _ (List.mem_of_getElem? (i := 15) rfl))) (notFace_of_selects (args := #[]) (mvT hZ (hw _ (List.mem_of_getElem? (i := 17) rfl)))) (mvT hZ (hw _ (List.mem_of_getElem? (i := 17) rfl))) (mvT hZ (hw _ (List.mem_of_getElem? (i := 16) rfl))) (by decide) (backOf (W := 0) (rmh0 l Z a0 hw [] s_EQUAL (0 : Int64) (1 : Int64)  h0 n0 Z0 E_EQUAL F_EQUAL_ordinal ) hZ (hw _ (List.mem_of_getElem? (i := 18) rfl)) (hw _ (List.mem_of_getElem? (i := 6) rfl)) (by decide) (by decide)) q105a q105c (g := (mkF m 33 #[.val (.int p1), .val (.int (0 : Int32)), .val (.ref s_EQUAL), .val (.int (0 : Int32)), .val (.int (0 : Int32)), .unset] [(.long (1 : Int64)), (.long (0 : Int64)), (.ref s_EQUAL)])) rfl (by rw [hml]; rfl) (Steps.refl _) (argsL := [(.long (0 : Int64)), (.long (1 : Int64))]) (rest := []) (lenOf pd_3 rfl) rfl (by show 2 * 0 + _ ≤ _; exact Nat.le_of_eq rfl) (hb hby at_33) (fun _ _ => ⟨rfl, eh103, (by decide : 0 + 0 ≤ _), (by decide : 0 + 0 ≤ _)⟩)
    dsimp only [Pt.U, Pt.locs, Pt.cells, Pt.slots] at X105 l105 y105 z105 st105 hQ105
    subst l105 y105 z105
    obtain ⟨rfl, N105q, eh105⟩ := hQ105
    have N105 := Fr.app N103 N105q
    refine Go.step (fun _ kt => st105.trans kt) ?_
    show Go p.tables e below _ (T105.setTop (mkF m 36 #[.val (.int p1), .val (.int (0 : Int32)), .val (.ref s_EQUAL), .val (.int (0 : Int32)), .val (.int (0 : Int32)), .unset] [(.int (own_h0 (0 : Int64) (1 : Int64)))]))
    have q106 : (own_h0 (0 : Int64) (1 : Int64)) = (0 : Int32) := by decide
    rw [q106]
    show Go p.tables e below _ (T105.setTop (mkF m 36 #[.val (.int p1), .val (.int (0 : Int32)), .val (.ref s_EQUAL), .val (.int (0 : Int32)), .val (.int (0 : Int32)), .unset] [(.int (0 : Int32))]))
    refine Go.step (fun _ kt => XS.aloadN X105.here hx rfl (hb hby at_36) rfl rfl kt) ?_
    show Go p.tables e below _ (T105.setTop (mkF m 37 #[.val (.int p1), .val (.int (0 : Int32)), .val (.ref s_EQUAL), .val (.int (0 : Int32)), .val (.int (0 : Int32)), .unset] [(.ref s_EQUAL), (.int (0 : Int32))]))
    refine Go.step (fun _ kt => XS.lconst X105.here hx rfl (hb hby at_37) kt) ?_
    show Go p.tables e below _ (T105.setTop (mkF m 38 #[.val (.int p1), .val (.int (0 : Int32)), .val (.ref s_EQUAL), .val (.int (0 : Int32)), .val (.int (0 : Int32)), .unset] [(.long (1 : Int64)), (.ref s_EQUAL), (.int (0 : Int32))]))
    refine Go.step (fun _ kt => XS.lconst X105.here hx rfl (hb hby at_38) kt) ?_
    show Go p.tables e below _ (T105.setTop (mkF m 39 #[.val (.int p1), .val (.int (0 : Int32)), .val (.ref s_EQUAL), .val (.int (0 : Int32)), .val (.int (0 : Int32)), .unset] [(.long (0 : Int64)), (.long (1 : Int64)), (.ref s_EQUAL), (.int (0 : Int32))]))
    obtain ⟨cq107, kq107, q107a, q107b, q107c⟩ := isOf hZ eh105 E_EQUAL
    obtain ⟨_, _, ⟨T107, L107, k107, n107⟩, -, X107, ⟨Lc107, hQ107, l107, y107, z107⟩, st107⟩ := X105.virtualBack hx (y := (⟨"com/example/pech_david/pechdavid/model/Relation", "holds", "(JJ)Z"⟩ : MethodName)) (z := (⟨"com/example/pech_david/pechdavid/model/Relation", "holds", "(JJ)Z"⟩ : MethodName)) hown (mvT hZ (hw _ (List.mem_of_getElem? (i := 14) rfl))) (mvT hZ (hw _ (List.mem_of_getElem? (i := 15) rfl))) (notFace_of_selects (args := #[]) (mvT hZ (hw _ (List.mem_of_getElem? (i := 17) rfl)))) (mvT hZ (hw _ (List.mem_of_getElem? (i := 17) rfl))) (mvT hZ (hw _ (List.mem_of_getElem? (i := 16) rfl))) (by decide) (backOf (W := 1) (rmh0 l Z a0 hw [] s_EQUAL (1 : Int64) (0 : Int64)  h0 n0 Z0 E_EQUAL F_EQUAL_ordinal ) hZ (hw _ (List.mem_of_getElem? (i := 18) rfl)) (hw _ (List.mem_of_getElem? (i := 6) rfl)) (by decide) (by decide)) q107a q107c (g := (mkF m 39 #[.val (.int p1), .val (.int (0 : Int32)), .val (.ref s_EQUAL), .val (.int (0 : Int32)), .val (.int (0 : Int32)), .unset] [(.long (0 : Int64)), (.long (1 : Int64)), (.ref s_EQUAL), (.int (0 : Int32))])) rfl (by rw [hml]; rfl) (Steps.refl _) (argsL := [(.long (1 : Int64)), (.long (0 : Int64))]) (rest := [(.int (0 : Int32))]) (lenOf pd_3 rfl) rfl (by show 2 * 0 + _ ≤ _; exact Nat.le_of_eq rfl) (hb hby at_39) (fun _ _ => ⟨rfl, eh105, (by decide : 0 + 0 ≤ _), (by decide : 0 + 0 ≤ _)⟩)
    dsimp only [Pt.U, Pt.locs, Pt.cells, Pt.slots] at X107 l107 y107 z107 st107 hQ107
    subst l107 y107 z107
    obtain ⟨rfl, N107q, eh107⟩ := hQ107
    have N107 := Fr.app N105 N107q
    refine Go.step (fun _ kt => st107.trans kt) ?_
    show Go p.tables e below _ (T107.setTop (mkF m 42 #[.val (.int p1), .val (.int (0 : Int32)), .val (.ref s_EQUAL), .val (.int (0 : Int32)), .val (.int (0 : Int32)), .unset] [(.int (own_h0 (1 : Int64) (0 : Int64))), (.int (0 : Int32))]))
    have q108 : (own_h0 (1 : Int64) (0 : Int64)) = (0 : Int32) := by decide
    rw [q108]
    show Go p.tables e below _ (T107.setTop (mkF m 42 #[.val (.int p1), .val (.int (0 : Int32)), .val (.ref s_EQUAL), .val (.int (0 : Int32)), .val (.int (0 : Int32)), .unset] [(.int (0 : Int32)), (.int (0 : Int32))]))
    refine Go.step (fun _ kt => XS.icmpYes X107.here hx rfl (pc0 := 42) (pc' := 49) rfl (hb hby at_42) rfl (teq (by decide : (0 : Int32) = (0 : Int32))).1 (by decide) (by decide) kt) ?_
    show Go p.tables e below _ (T107.setTop (mkF m 49 #[.val (.int p1), .val (.int (0 : Int32)), .val (.ref s_EQUAL), .val (.int (0 : Int32)), .val (.int (0 : Int32)), .unset] []))
    refine Go.step (fun _ kt => XS.iconst X107.here hx rfl (hb hby at_49) kt) ?_
    show Go p.tables e below _ (T107.setTop (mkF m 50 #[.val (.int p1), .val (.int (0 : Int32)), .val (.ref s_EQUAL), .val (.int (0 : Int32)), .val (.int (0 : Int32)), .unset] [(.int (0 : Int32))]))
    refine Go.step (fun _ kt => XS.istore X107.here hx rfl (hb hby at_50) rfl (l' := #[.val (.int p1), .val (.int (0 : Int32)), .val (.ref s_EQUAL), .val (.int (0 : Int32)), .val (.int (0 : Int32)), .val (.int (0 : Int32))]) rfl kt) ?_
    show Go p.tables e below _ (T107.setTop (mkF m 52 #[.val (.int p1), .val (.int (0 : Int32)), .val (.ref s_EQUAL), .val (.int (0 : Int32)), .val (.int (0 : Int32)), .val (.int (0 : Int32))] []))
    refine Go.step (fun _ kt => XS.iload X107.here hx rfl (hb hby at_52) rfl kt) ?_
    show Go p.tables e below _ (T107.setTop (mkF m 54 #[.val (.int p1), .val (.int (0 : Int32)), .val (.ref s_EQUAL), .val (.int (0 : Int32)), .val (.int (0 : Int32)), .val (.int (0 : Int32))] [(.int (0 : Int32))]))
    refine Go.step (fun _ kt => XS.iloadN X107.here hx rfl (hb hby at_54) rfl kt) ?_
    show Go p.tables e below _ (T107.setTop (mkF m 55 #[.val (.int p1), .val (.int (0 : Int32)), .val (.ref s_EQUAL), .val (.int (0 : Int32)), .val (.int (0 : Int32)), .val (.int (0 : Int32))] [(.int (0 : Int32)), (.int (0 : Int32))]))
    refine Go.step (fun _ kt => XS.icmpNo X107.here hx rfl (hb hby at_55) rfl (teq (by decide : (0 : Int32) = (0 : Int32))).2 kt) ?_
    show Go p.tables e below _ (T107.setTop (mkF m 58 #[.val (.int p1), .val (.int (0 : Int32)), .val (.ref s_EQUAL), .val (.int (0 : Int32)), .val (.int (0 : Int32)), .val (.int (0 : Int32))] []))
    refine Go.step (fun _ kt => XS.iload X107.here hx rfl (hb hby at_58) rfl kt) ?_
    show Go p.tables e below _ (T107.setTop (mkF m 60 #[.val (.int p1), .val (.int (0 : Int32)), .val (.ref s_EQUAL), .val (.int (0 : Int32)), .val (.int (0 : Int32)), .val (.int (0 : Int32))] [(.int (0 : Int32))]))
    refine Go.step (fun _ kt => XS.iload X107.here hx rfl (hb hby at_60) rfl kt) ?_
    show Go p.tables e below _ (T107.setTop (mkF m 62 #[.val (.int p1), .val (.int (0 : Int32)), .val (.ref s_EQUAL), .val (.int (0 : Int32)), .val (.int (0 : Int32)), .val (.int (0 : Int32))] [(.int (0 : Int32)), (.int (0 : Int32))]))
    refine Go.step (fun _ kt => XS.icmpNo X107.here hx rfl (hb hby at_62) rfl (teq (by decide : (0 : Int32) = (0 : Int32))).2 kt) ?_
    show Go p.tables e below _ (T107.setTop (mkF m 65 #[.val (.int p1), .val (.int (0 : Int32)), .val (.ref s_EQUAL), .val (.int (0 : Int32)), .val (.int (0 : Int32)), .val (.int (0 : Int32))] []))
    refine Go.step (fun _ kt => XS.iconst X107.here hx rfl (hb hby at_65) kt) ?_
    show Go p.tables e below _ (T107.setTop (mkF m 66 #[.val (.int p1), .val (.int (0 : Int32)), .val (.ref s_EQUAL), .val (.int (0 : Int32)), .val (.int (0 : Int32)), .val (.int (0 : Int32))] [(.int (1 : Int32))]))
    refine Go.step (fun _ kt => XS.goto X107.here hx rfl (pc0 := 66) (pc' := 70) rfl (hb hby at_66) (by decide) (by decide) kt) ?_
    show Go p.tables e below _ (T107.setTop (mkF m 70 #[.val (.int p1), .val (.int (0 : Int32)), .val (.ref s_EQUAL), .val (.int (0 : Int32)), .val (.int (0 : Int32)), .val (.int (0 : Int32))] [(.int (1 : Int32))]))
    obtain ⟨fs, hr, hrun, hended, hW, hsame⟩ := X107.leave (v := some (.int (1 : Int32))) (fun h => by rw [Bd.returns] at h; cases h)
    refine ⟨_, _, retN X107 hx (t := .boolean) Bd.returns (by simp) (hb hby at_70) hr, hrun, hended, _, _, rfl, ?_, ⟨_, rfl⟩, hW, hsame.mono (by decide) (by decide)⟩
    show Qrm0 Z p1 s_EQUAL s_NOT_EQUAL s_LESS s_LESS_OR_EQUAL s_GREATER s_GREATER_OR_EQUAL h0 n0 _ T107.heap _
    rw [eh107]
    exact ⟨rfl, N107⟩
  · rw [hk]
    show Go p.tables e below _ (s₁.setTop (mkF m 8 #[.val (.int p1), .val (.int (1 : Int32)), .unset, .unset, .unset, .unset] []))
    refine Go.step (fun _ kt => XS.iloadN X0.here hx rfl (hb hby at_8) rfl kt) ?_
    show Go p.tables e below _ (s₁.setTop (mkF m 9 #[.val (.int p1), .val (.int (1 : Int32)), .unset, .unset, .unset, .unset] [(.int (1 : Int32))]))
    obtain ⟨_, _, ⟨T109, L109, k109, n109⟩, -, X109, ⟨Lc109, hQ109, l109, y109, z109⟩, st109⟩ := Jvm.LawKit.callS X0 hx (y := (⟨"com/example/pech_david/pechdavid/model/RelationOrdersPinLaw", "pick", "(I)Lcom/example/pech_david/pechdavid/model/Relation;"⟩ : MethodName)) hown (mvT hZ (hw _ (List.mem_of_getElem? (i := 1) rfl))) (mvT hZ (hw _ (List.mem_of_getElem? (i := 2) rfl))) (mvT hZ (hw _ (List.mem_of_getElem? (i := 3) rfl))) (mvT hZ (hw _ (List.mem_of_getElem? (i := 4) rfl))) (by decide) (backOf (W := 0) (rm1 l Z a0 hw [] (1 : Int32) s_EQUAL s_NOT_EQUAL s_LESS s_LESS_OR_EQUAL s_GREATER s_GREATER_OR_EQUAL h0 n0 Z0 S_EQUAL S_NOT_EQUAL S_LESS S_LESS_OR_EQUAL S_GREATER S_GREATER_OR_EQUAL ) hZ (hw _ (List.mem_of_getElem? (i := 4) rfl)) (hw _ (List.mem_of_getElem? (i := 3) rfl)) (by decide) (by decide)) (g := (mkF m 9 #[.val (.int p1), .val (.int (1 : Int32)), .unset, .unset, .unset, .unset] [(.int (1 : Int32))])) rfl (by rw [hml]; rfl) (argsL := [(.int (1 : Int32))]) (rest := []) (lenOf pd_1 rfl) rfl (by show 2 * 0 + _ ≤ _; exact Nat.le_of_eq rfl) (hb hby at_9) (fun _ _ => ⟨rfl, e0, (by decide : 0 + 0 ≤ _), (by decide : 0 + 0 ≤ _)⟩)
    dsimp only [Pt.U, Pt.locs, Pt.cells, Pt.slots] at X109 l109 y109 z109 st109 hQ109
    subst l109 y109 z109
    obtain ⟨rfl, N109q, eh109⟩ := hQ109
    have N109 := Fr.app N0 N109q
    refine Go.step st109 ?_
    show Go p.tables e below _ (T109.setTop (mkF m 12 #[.val (.int p1), .val (.int (1 : Int32)), .unset, .unset, .unset, .unset] [(.ref (own_pick (1 : Int32) s_EQUAL s_NOT_EQUAL s_LESS s_LESS_OR_EQUAL s_GREATER s_GREATER_OR_EQUAL))]))
    have q110 : (own_pick (1 : Int32) s_EQUAL s_NOT_EQUAL s_LESS s_LESS_OR_EQUAL s_GREATER s_GREATER_OR_EQUAL) = s_NOT_EQUAL := rfl
    rw [q110]
    show Go p.tables e below _ (T109.setTop (mkF m 12 #[.val (.int p1), .val (.int (1 : Int32)), .unset, .unset, .unset, .unset] [(.ref s_NOT_EQUAL)]))
    refine Go.step (fun _ kt => XS.astoreN X109.here hx rfl (hb hby at_12) rfl rfl (l' := #[.val (.int p1), .val (.int (1 : Int32)), .val (.ref s_NOT_EQUAL), .unset, .unset, .unset]) rfl kt) ?_
    show Go p.tables e below _ (T109.setTop (mkF m 13 #[.val (.int p1), .val (.int (1 : Int32)), .val (.ref s_NOT_EQUAL), .unset, .unset, .unset] []))
    refine Go.step (fun _ kt => XS.iloadN X109.here hx rfl (hb hby at_13) rfl kt) ?_
    show Go p.tables e below _ (T109.setTop (mkF m 14 #[.val (.int p1), .val (.int (1 : Int32)), .val (.ref s_NOT_EQUAL), .unset, .unset, .unset] [(.int (1 : Int32))]))
    refine Go.step (fun _ kt => XS.iconst X109.here hx rfl (hb hby at_14) kt) ?_
    show Go p.tables e below _ (T109.setTop (mkF m 15 #[.val (.int p1), .val (.int (1 : Int32)), .val (.ref s_NOT_EQUAL), .unset, .unset, .unset] [(.int (2 : Int32)), (.int (1 : Int32))]))
    refine Go.step (fun _ kt => XS.icmpYes X109.here hx rfl (pc0 := 15) (pc' := 22) rfl (hb hby at_15) rfl (tlt (by decide : (1 : Int32) < (2 : Int32))).1 (by decide) (by decide) kt) ?_
    show Go p.tables e below _ (T109.setTop (mkF m 22 #[.val (.int p1), .val (.int (1 : Int32)), .val (.ref s_NOT_EQUAL), .unset, .unset, .unset] []))
    refine Go.step (fun _ kt => XS.iconst X109.here hx rfl (hb hby at_22) kt) ?_
    show Go p.tables e below _ (T109.setTop (mkF m 23 #[.val (.int p1), .val (.int (1 : Int32)), .val (.ref s_NOT_EQUAL), .unset, .unset, .unset] [(.int (0 : Int32))]))
    refine Go.step (fun _ kt => XS.istoreN X109.here hx rfl (hb hby at_23) rfl (l' := #[.val (.int p1), .val (.int (1 : Int32)), .val (.ref s_NOT_EQUAL), .val (.int (0 : Int32)), .unset, .unset]) rfl kt) ?_
    show Go p.tables e below _ (T109.setTop (mkF m 24 #[.val (.int p1), .val (.int (1 : Int32)), .val (.ref s_NOT_EQUAL), .val (.int (0 : Int32)), .unset, .unset] []))
    refine Go.step (fun _ kt => XS.aloadN X109.here hx rfl (hb hby at_24) rfl rfl kt) ?_
    show Go p.tables e below _ (T109.setTop (mkF m 25 #[.val (.int p1), .val (.int (1 : Int32)), .val (.ref s_NOT_EQUAL), .val (.int (0 : Int32)), .unset, .unset] [(.ref s_NOT_EQUAL)]))
    obtain ⟨cq111, kq111, q111a, q111b, q111c⟩ := isOf hZ eh109 E_NOT_EQUAL
    obtain ⟨_, _, ⟨T111, L111, k111, n111⟩, -, X111, ⟨Lc111, hQ111, l111, y111, z111⟩, st111⟩ := X109.virtualBack hx (y := (⟨"com/example/pech_david/pechdavid/model/Relation", "orders", "()Z"⟩ : MethodName)) (z := (⟨"com/example/pech_david/pechdavid/model/Relation", "orders", "()Z"⟩ : MethodName)) hown (mvT hZ (hw _ (List.mem_of_getElem? (i := 8) rfl))) (mvT hZ (hw _ (List.mem_of_getElem? (i := 9) rfl))) (notFace_of_selects (args := #[]) (mvT hZ (hw _ (List.mem_of_getElem? (i := 11) rfl)))) (mvT hZ (hw _ (List.mem_of_getElem? (i := 11) rfl))) (mvT hZ (hw _ (List.mem_of_getElem? (i := 10) rfl))) (by decide) (backOf (W := 0) (rm2 l Z a0 hw [] s_NOT_EQUAL s_EQUAL s_NOT_EQUAL h0 n0 Z0 S_EQUAL S_NOT_EQUAL ) hZ (hw _ (List.mem_of_getElem? (i := 12) rfl)) (hw _ (List.mem_of_getElem? (i := 6) rfl)) (by decide) (by decide)) q111a q111c (g := (mkF m 25 #[.val (.int p1), .val (.int (1 : Int32)), .val (.ref s_NOT_EQUAL), .val (.int (0 : Int32)), .unset, .unset] [(.ref s_NOT_EQUAL)])) rfl (by rw [hml]; rfl) (Steps.refl _) (argsL := []) (rest := []) (lenOf pd_2 rfl) rfl (by show 2 * 0 + _ ≤ _; exact Nat.le_of_eq rfl) (hb hby at_25) (fun _ _ => ⟨rfl, eh109, (by decide : 0 + 0 ≤ _), (by decide : 0 + 0 ≤ _)⟩)
    dsimp only [Pt.U, Pt.locs, Pt.cells, Pt.slots] at X111 l111 y111 z111 st111 hQ111
    subst l111 y111 z111
    obtain ⟨rfl, N111q, eh111⟩ := hQ111
    have N111 := Fr.app N109 N111q
    refine Go.step (fun _ kt => st111.trans kt) ?_
    show Go p.tables e below _ (T111.setTop (mkF m 28 #[.val (.int p1), .val (.int (1 : Int32)), .val (.ref s_NOT_EQUAL), .val (.int (0 : Int32)), .unset, .unset] [(.int (own_ord s_NOT_EQUAL s_EQUAL s_NOT_EQUAL))]))
    have q112 : (own_ord s_NOT_EQUAL s_EQUAL s_NOT_EQUAL) = (0 : Int32) := by simp [own_ord]
    rw [q112]
    show Go p.tables e below _ (T111.setTop (mkF m 28 #[.val (.int p1), .val (.int (1 : Int32)), .val (.ref s_NOT_EQUAL), .val (.int (0 : Int32)), .unset, .unset] [(.int (0 : Int32))]))
    refine Go.step (fun _ kt => XS.istore X111.here hx rfl (hb hby at_28) rfl (l' := #[.val (.int p1), .val (.int (1 : Int32)), .val (.ref s_NOT_EQUAL), .val (.int (0 : Int32)), .val (.int (0 : Int32)), .unset]) rfl kt) ?_
    show Go p.tables e below _ (T111.setTop (mkF m 30 #[.val (.int p1), .val (.int (1 : Int32)), .val (.ref s_NOT_EQUAL), .val (.int (0 : Int32)), .val (.int (0 : Int32)), .unset] []))
    refine Go.step (fun _ kt => XS.aloadN X111.here hx rfl (hb hby at_30) rfl rfl kt) ?_
    show Go p.tables e below _ (T111.setTop (mkF m 31 #[.val (.int p1), .val (.int (1 : Int32)), .val (.ref s_NOT_EQUAL), .val (.int (0 : Int32)), .val (.int (0 : Int32)), .unset] [(.ref s_NOT_EQUAL)]))
    refine Go.step (fun _ kt => XS.lconst X111.here hx rfl (hb hby at_31) kt) ?_
    show Go p.tables e below _ (T111.setTop (mkF m 32 #[.val (.int p1), .val (.int (1 : Int32)), .val (.ref s_NOT_EQUAL), .val (.int (0 : Int32)), .val (.int (0 : Int32)), .unset] [(.long (0 : Int64)), (.ref s_NOT_EQUAL)]))
    refine Go.step (fun _ kt => XS.lconst X111.here hx rfl (hb hby at_32) kt) ?_
    show Go p.tables e below _ (T111.setTop (mkF m 33 #[.val (.int p1), .val (.int (1 : Int32)), .val (.ref s_NOT_EQUAL), .val (.int (0 : Int32)), .val (.int (0 : Int32)), .unset] [(.long (1 : Int64)), (.long (0 : Int64)), (.ref s_NOT_EQUAL)]))
    obtain ⟨cq113, kq113, q113a, q113b, q113c⟩ := isOf hZ eh111 E_NOT_EQUAL
    obtain ⟨_, _, ⟨T113, L113, k113, n113⟩, -, X113, ⟨Lc113, hQ113, l113, y113, z113⟩, st113⟩ := X111.virtualBack hx (y := (⟨"com/example/pech_david/pechdavid/model/Relation", "holds", "(JJ)Z"⟩ : MethodName)) (z := (⟨"com/example/pech_david/pechdavid/model/Relation", "holds", "(JJ)Z"⟩ : MethodName)) hown (mvT hZ (hw _ (List.mem_of_getElem? (i := 14) rfl))) (mvT hZ (hw _ (List.mem_of_getElem? (i := 15) rfl))) (notFace_of_selects (args := #[]) (mvT hZ (hw _ (List.mem_of_getElem? (i := 17) rfl)))) (mvT hZ (hw _ (List.mem_of_getElem? (i := 17) rfl))) (mvT hZ (hw _ (List.mem_of_getElem? (i := 16) rfl))) (by decide) (backOf (W := 0) (rmh1 l Z a0 hw [] s_NOT_EQUAL (0 : Int64) (1 : Int64)  h0 n0 Z0 E_NOT_EQUAL F_NOT_EQUAL_ordinal ) hZ (hw _ (List.mem_of_getElem? (i := 18) rfl)) (hw _ (List.mem_of_getElem? (i := 6) rfl)) (by decide) (by decide)) q113a q113c (g := (mkF m 33 #[.val (.int p1), .val (.int (1 : Int32)), .val (.ref s_NOT_EQUAL), .val (.int (0 : Int32)), .val (.int (0 : Int32)), .unset] [(.long (1 : Int64)), (.long (0 : Int64)), (.ref s_NOT_EQUAL)])) rfl (by rw [hml]; rfl) (Steps.refl _) (argsL := [(.long (0 : Int64)), (.long (1 : Int64))]) (rest := []) (lenOf pd_3 rfl) rfl (by show 2 * 0 + _ ≤ _; exact Nat.le_of_eq rfl) (hb hby at_33) (fun _ _ => ⟨rfl, eh111, (by decide : 0 + 0 ≤ _), (by decide : 0 + 0 ≤ _)⟩)
    dsimp only [Pt.U, Pt.locs, Pt.cells, Pt.slots] at X113 l113 y113 z113 st113 hQ113
    subst l113 y113 z113
    obtain ⟨rfl, N113q, eh113⟩ := hQ113
    have N113 := Fr.app N111 N113q
    refine Go.step (fun _ kt => st113.trans kt) ?_
    show Go p.tables e below _ (T113.setTop (mkF m 36 #[.val (.int p1), .val (.int (1 : Int32)), .val (.ref s_NOT_EQUAL), .val (.int (0 : Int32)), .val (.int (0 : Int32)), .unset] [(.int (own_h1 (0 : Int64) (1 : Int64)))]))
    have q114 : (own_h1 (0 : Int64) (1 : Int64)) = (1 : Int32) := by decide
    rw [q114]
    show Go p.tables e below _ (T113.setTop (mkF m 36 #[.val (.int p1), .val (.int (1 : Int32)), .val (.ref s_NOT_EQUAL), .val (.int (0 : Int32)), .val (.int (0 : Int32)), .unset] [(.int (1 : Int32))]))
    refine Go.step (fun _ kt => XS.aloadN X113.here hx rfl (hb hby at_36) rfl rfl kt) ?_
    show Go p.tables e below _ (T113.setTop (mkF m 37 #[.val (.int p1), .val (.int (1 : Int32)), .val (.ref s_NOT_EQUAL), .val (.int (0 : Int32)), .val (.int (0 : Int32)), .unset] [(.ref s_NOT_EQUAL), (.int (1 : Int32))]))
    refine Go.step (fun _ kt => XS.lconst X113.here hx rfl (hb hby at_37) kt) ?_
    show Go p.tables e below _ (T113.setTop (mkF m 38 #[.val (.int p1), .val (.int (1 : Int32)), .val (.ref s_NOT_EQUAL), .val (.int (0 : Int32)), .val (.int (0 : Int32)), .unset] [(.long (1 : Int64)), (.ref s_NOT_EQUAL), (.int (1 : Int32))]))
    refine Go.step (fun _ kt => XS.lconst X113.here hx rfl (hb hby at_38) kt) ?_
    show Go p.tables e below _ (T113.setTop (mkF m 39 #[.val (.int p1), .val (.int (1 : Int32)), .val (.ref s_NOT_EQUAL), .val (.int (0 : Int32)), .val (.int (0 : Int32)), .unset] [(.long (0 : Int64)), (.long (1 : Int64)), (.ref s_NOT_EQUAL), (.int (1 : Int32))]))
    obtain ⟨cq115, kq115, q115a, q115b, q115c⟩ := isOf hZ eh113 E_NOT_EQUAL
    obtain ⟨_, _, ⟨T115, L115, k115, n115⟩, -, X115, ⟨Lc115, hQ115, l115, y115, z115⟩, st115⟩ := X113.virtualBack hx (y := (⟨"com/example/pech_david/pechdavid/model/Relation", "holds", "(JJ)Z"⟩ : MethodName)) (z := (⟨"com/example/pech_david/pechdavid/model/Relation", "holds", "(JJ)Z"⟩ : MethodName)) hown (mvT hZ (hw _ (List.mem_of_getElem? (i := 14) rfl))) (mvT hZ (hw _ (List.mem_of_getElem? (i := 15) rfl))) (notFace_of_selects (args := #[]) (mvT hZ (hw _ (List.mem_of_getElem? (i := 17) rfl)))) (mvT hZ (hw _ (List.mem_of_getElem? (i := 17) rfl))) (mvT hZ (hw _ (List.mem_of_getElem? (i := 16) rfl))) (by decide) (backOf (W := 1) (rmh1 l Z a0 hw [] s_NOT_EQUAL (1 : Int64) (0 : Int64)  h0 n0 Z0 E_NOT_EQUAL F_NOT_EQUAL_ordinal ) hZ (hw _ (List.mem_of_getElem? (i := 18) rfl)) (hw _ (List.mem_of_getElem? (i := 6) rfl)) (by decide) (by decide)) q115a q115c (g := (mkF m 39 #[.val (.int p1), .val (.int (1 : Int32)), .val (.ref s_NOT_EQUAL), .val (.int (0 : Int32)), .val (.int (0 : Int32)), .unset] [(.long (0 : Int64)), (.long (1 : Int64)), (.ref s_NOT_EQUAL), (.int (1 : Int32))])) rfl (by rw [hml]; rfl) (Steps.refl _) (argsL := [(.long (1 : Int64)), (.long (0 : Int64))]) (rest := [(.int (1 : Int32))]) (lenOf pd_3 rfl) rfl (by show 2 * 0 + _ ≤ _; exact Nat.le_of_eq rfl) (hb hby at_39) (fun _ _ => ⟨rfl, eh113, (by decide : 0 + 0 ≤ _), (by decide : 0 + 0 ≤ _)⟩)
    dsimp only [Pt.U, Pt.locs, Pt.cells, Pt.slots] at X115 l115 y115 z115 st115 hQ115
    subst l115 y115 z115
    obtain ⟨rfl, N115q, eh115⟩ := hQ115
    have N115 := Fr.app N113 N115q
    refine Go.step (fun _ kt => st115.trans kt) ?_
    show Go p.tables e below _ (T115.setTop (mkF m 42 #[.val (.int p1), .val (.int (1 : Int32)), .val (.ref s_NOT_EQUAL), .val (.int (0 : Int32)), .val (.int (0 : Int32)), .unset] [(.int (own_h1 (1 : Int64) (0 : Int64))), (.int (1 : Int32))]))
    have q116 : (own_h1 (1 : Int64) (0 : Int64)) = (1 : Int32) := by decide
    rw [q116]
    show Go p.tables e below _ (T115.setTop (mkF m 42 #[.val (.int p1), .val (.int (1 : Int32)), .val (.ref s_NOT_EQUAL), .val (.int (0 : Int32)), .val (.int (0 : Int32)), .unset] [(.int (1 : Int32)), (.int (1 : Int32))]))
    refine Go.step (fun _ kt => XS.icmpYes X115.here hx rfl (pc0 := 42) (pc' := 49) rfl (hb hby at_42) rfl (teq (by decide : (1 : Int32) = (1 : Int32))).1 (by decide) (by decide) kt) ?_
    show Go p.tables e below _ (T115.setTop (mkF m 49 #[.val (.int p1), .val (.int (1 : Int32)), .val (.ref s_NOT_EQUAL), .val (.int (0 : Int32)), .val (.int (0 : Int32)), .unset] []))
    refine Go.step (fun _ kt => XS.iconst X115.here hx rfl (hb hby at_49) kt) ?_
    show Go p.tables e below _ (T115.setTop (mkF m 50 #[.val (.int p1), .val (.int (1 : Int32)), .val (.ref s_NOT_EQUAL), .val (.int (0 : Int32)), .val (.int (0 : Int32)), .unset] [(.int (0 : Int32))]))
    refine Go.step (fun _ kt => XS.istore X115.here hx rfl (hb hby at_50) rfl (l' := #[.val (.int p1), .val (.int (1 : Int32)), .val (.ref s_NOT_EQUAL), .val (.int (0 : Int32)), .val (.int (0 : Int32)), .val (.int (0 : Int32))]) rfl kt) ?_
    show Go p.tables e below _ (T115.setTop (mkF m 52 #[.val (.int p1), .val (.int (1 : Int32)), .val (.ref s_NOT_EQUAL), .val (.int (0 : Int32)), .val (.int (0 : Int32)), .val (.int (0 : Int32))] []))
    refine Go.step (fun _ kt => XS.iload X115.here hx rfl (hb hby at_52) rfl kt) ?_
    show Go p.tables e below _ (T115.setTop (mkF m 54 #[.val (.int p1), .val (.int (1 : Int32)), .val (.ref s_NOT_EQUAL), .val (.int (0 : Int32)), .val (.int (0 : Int32)), .val (.int (0 : Int32))] [(.int (0 : Int32))]))
    refine Go.step (fun _ kt => XS.iloadN X115.here hx rfl (hb hby at_54) rfl kt) ?_
    show Go p.tables e below _ (T115.setTop (mkF m 55 #[.val (.int p1), .val (.int (1 : Int32)), .val (.ref s_NOT_EQUAL), .val (.int (0 : Int32)), .val (.int (0 : Int32)), .val (.int (0 : Int32))] [(.int (0 : Int32)), (.int (0 : Int32))]))
    refine Go.step (fun _ kt => XS.icmpNo X115.here hx rfl (hb hby at_55) rfl (teq (by decide : (0 : Int32) = (0 : Int32))).2 kt) ?_
    show Go p.tables e below _ (T115.setTop (mkF m 58 #[.val (.int p1), .val (.int (1 : Int32)), .val (.ref s_NOT_EQUAL), .val (.int (0 : Int32)), .val (.int (0 : Int32)), .val (.int (0 : Int32))] []))
    refine Go.step (fun _ kt => XS.iload X115.here hx rfl (hb hby at_58) rfl kt) ?_
    show Go p.tables e below _ (T115.setTop (mkF m 60 #[.val (.int p1), .val (.int (1 : Int32)), .val (.ref s_NOT_EQUAL), .val (.int (0 : Int32)), .val (.int (0 : Int32)), .val (.int (0 : Int32))] [(.int (0 : Int32))]))
    refine Go.step (fun _ kt => XS.iload X115.here hx rfl (hb hby at_60) rfl kt) ?_
    show Go p.tables e below _ (T115.setTop (mkF m 62 #[.val (.int p1), .val (.int (1 : Int32)), .val (.ref s_NOT_EQUAL), .val (.int (0 : Int32)), .val (.int (0 : Int32)), .val (.int (0 : Int32))] [(.int (0 : Int32)), (.int (0 : Int32))]))
    refine Go.step (fun _ kt => XS.icmpNo X115.here hx rfl (hb hby at_62) rfl (teq (by decide : (0 : Int32) = (0 : Int32))).2 kt) ?_
    show Go p.tables e below _ (T115.setTop (mkF m 65 #[.val (.int p1), .val (.int (1 : Int32)), .val (.ref s_NOT_EQUAL), .val (.int (0 : Int32)), .val (.int (0 : Int32)), .val (.int (0 : Int32))] []))
    refine Go.step (fun _ kt => XS.iconst X115.here hx rfl (hb hby at_65) kt) ?_
    show Go p.tables e below _ (T115.setTop (mkF m 66 #[.val (.int p1), .val (.int (1 : Int32)), .val (.ref s_NOT_EQUAL), .val (.int (0 : Int32)), .val (.int (0 : Int32)), .val (.int (0 : Int32))] [(.int (1 : Int32))]))
    refine Go.step (fun _ kt => XS.goto X115.here hx rfl (pc0 := 66) (pc' := 70) rfl (hb hby at_66) (by decide) (by decide) kt) ?_
    show Go p.tables e below _ (T115.setTop (mkF m 70 #[.val (.int p1), .val (.int (1 : Int32)), .val (.ref s_NOT_EQUAL), .val (.int (0 : Int32)), .val (.int (0 : Int32)), .val (.int (0 : Int32))] [(.int (1 : Int32))]))
    obtain ⟨fs, hr, hrun, hended, hW, hsame⟩ := X115.leave (v := some (.int (1 : Int32))) (fun h => by rw [Bd.returns] at h; cases h)
    refine ⟨_, _, retN X115 hx (t := .boolean) Bd.returns (by simp) (hb hby at_70) hr, hrun, hended, _, _, rfl, ?_, ⟨_, rfl⟩, hW, hsame.mono (by decide) (by decide)⟩
    show Qrm0 Z p1 s_EQUAL s_NOT_EQUAL s_LESS s_LESS_OR_EQUAL s_GREATER s_GREATER_OR_EQUAL h0 n0 _ T115.heap _
    rw [eh115]
    exact ⟨rfl, N115⟩
  · rw [hk]
    show Go p.tables e below _ (s₁.setTop (mkF m 8 #[.val (.int p1), .val (.int (2 : Int32)), .unset, .unset, .unset, .unset] []))
    refine Go.step (fun _ kt => XS.iloadN X0.here hx rfl (hb hby at_8) rfl kt) ?_
    show Go p.tables e below _ (s₁.setTop (mkF m 9 #[.val (.int p1), .val (.int (2 : Int32)), .unset, .unset, .unset, .unset] [(.int (2 : Int32))]))
    obtain ⟨_, _, ⟨T117, L117, k117, n117⟩, -, X117, ⟨Lc117, hQ117, l117, y117, z117⟩, st117⟩ := Jvm.LawKit.callS X0 hx (y := (⟨"com/example/pech_david/pechdavid/model/RelationOrdersPinLaw", "pick", "(I)Lcom/example/pech_david/pechdavid/model/Relation;"⟩ : MethodName)) hown (mvT hZ (hw _ (List.mem_of_getElem? (i := 1) rfl))) (mvT hZ (hw _ (List.mem_of_getElem? (i := 2) rfl))) (mvT hZ (hw _ (List.mem_of_getElem? (i := 3) rfl))) (mvT hZ (hw _ (List.mem_of_getElem? (i := 4) rfl))) (by decide) (backOf (W := 0) (rm1 l Z a0 hw [] (2 : Int32) s_EQUAL s_NOT_EQUAL s_LESS s_LESS_OR_EQUAL s_GREATER s_GREATER_OR_EQUAL h0 n0 Z0 S_EQUAL S_NOT_EQUAL S_LESS S_LESS_OR_EQUAL S_GREATER S_GREATER_OR_EQUAL ) hZ (hw _ (List.mem_of_getElem? (i := 4) rfl)) (hw _ (List.mem_of_getElem? (i := 3) rfl)) (by decide) (by decide)) (g := (mkF m 9 #[.val (.int p1), .val (.int (2 : Int32)), .unset, .unset, .unset, .unset] [(.int (2 : Int32))])) rfl (by rw [hml]; rfl) (argsL := [(.int (2 : Int32))]) (rest := []) (lenOf pd_1 rfl) rfl (by show 2 * 0 + _ ≤ _; exact Nat.le_of_eq rfl) (hb hby at_9) (fun _ _ => ⟨rfl, e0, (by decide : 0 + 0 ≤ _), (by decide : 0 + 0 ≤ _)⟩)
    dsimp only [Pt.U, Pt.locs, Pt.cells, Pt.slots] at X117 l117 y117 z117 st117 hQ117
    subst l117 y117 z117
    obtain ⟨rfl, N117q, eh117⟩ := hQ117
    have N117 := Fr.app N0 N117q
    refine Go.step st117 ?_
    show Go p.tables e below _ (T117.setTop (mkF m 12 #[.val (.int p1), .val (.int (2 : Int32)), .unset, .unset, .unset, .unset] [(.ref (own_pick (2 : Int32) s_EQUAL s_NOT_EQUAL s_LESS s_LESS_OR_EQUAL s_GREATER s_GREATER_OR_EQUAL))]))
    have q118 : (own_pick (2 : Int32) s_EQUAL s_NOT_EQUAL s_LESS s_LESS_OR_EQUAL s_GREATER s_GREATER_OR_EQUAL) = s_LESS := rfl
    rw [q118]
    show Go p.tables e below _ (T117.setTop (mkF m 12 #[.val (.int p1), .val (.int (2 : Int32)), .unset, .unset, .unset, .unset] [(.ref s_LESS)]))
    refine Go.step (fun _ kt => XS.astoreN X117.here hx rfl (hb hby at_12) rfl rfl (l' := #[.val (.int p1), .val (.int (2 : Int32)), .val (.ref s_LESS), .unset, .unset, .unset]) rfl kt) ?_
    show Go p.tables e below _ (T117.setTop (mkF m 13 #[.val (.int p1), .val (.int (2 : Int32)), .val (.ref s_LESS), .unset, .unset, .unset] []))
    refine Go.step (fun _ kt => XS.iloadN X117.here hx rfl (hb hby at_13) rfl kt) ?_
    show Go p.tables e below _ (T117.setTop (mkF m 14 #[.val (.int p1), .val (.int (2 : Int32)), .val (.ref s_LESS), .unset, .unset, .unset] [(.int (2 : Int32))]))
    refine Go.step (fun _ kt => XS.iconst X117.here hx rfl (hb hby at_14) kt) ?_
    show Go p.tables e below _ (T117.setTop (mkF m 15 #[.val (.int p1), .val (.int (2 : Int32)), .val (.ref s_LESS), .unset, .unset, .unset] [(.int (2 : Int32)), (.int (2 : Int32))]))
    refine Go.step (fun _ kt => XS.icmpNo X117.here hx rfl (hb hby at_15) rfl (flt (by decide : ¬ ((2 : Int32) < (2 : Int32)))).1 kt) ?_
    show Go p.tables e below _ (T117.setTop (mkF m 18 #[.val (.int p1), .val (.int (2 : Int32)), .val (.ref s_LESS), .unset, .unset, .unset] []))
    refine Go.step (fun _ kt => XS.iconst X117.here hx rfl (hb hby at_18) kt) ?_
    show Go p.tables e below _ (T117.setTop (mkF m 19 #[.val (.int p1), .val (.int (2 : Int32)), .val (.ref s_LESS), .unset, .unset, .unset] [(.int (1 : Int32))]))
    refine Go.step (fun _ kt => XS.goto X117.here hx rfl (pc0 := 19) (pc' := 23) rfl (hb hby at_19) (by decide) (by decide) kt) ?_
    show Go p.tables e below _ (T117.setTop (mkF m 23 #[.val (.int p1), .val (.int (2 : Int32)), .val (.ref s_LESS), .unset, .unset, .unset] [(.int (1 : Int32))]))
    refine Go.step (fun _ kt => XS.istoreN X117.here hx rfl (hb hby at_23) rfl (l' := #[.val (.int p1), .val (.int (2 : Int32)), .val (.ref s_LESS), .val (.int (1 : Int32)), .unset, .unset]) rfl kt) ?_
    show Go p.tables e below _ (T117.setTop (mkF m 24 #[.val (.int p1), .val (.int (2 : Int32)), .val (.ref s_LESS), .val (.int (1 : Int32)), .unset, .unset] []))
    refine Go.step (fun _ kt => XS.aloadN X117.here hx rfl (hb hby at_24) rfl rfl kt) ?_
    show Go p.tables e below _ (T117.setTop (mkF m 25 #[.val (.int p1), .val (.int (2 : Int32)), .val (.ref s_LESS), .val (.int (1 : Int32)), .unset, .unset] [(.ref s_LESS)]))
    obtain ⟨cq119, kq119, q119a, q119b, q119c⟩ := isOf hZ eh117 E_LESS
    obtain ⟨_, _, ⟨T119, L119, k119, n119⟩, -, X119, ⟨Lc119, hQ119, l119, y119, z119⟩, st119⟩ := X117.virtualBack hx (y := (⟨"com/example/pech_david/pechdavid/model/Relation", "orders", "()Z"⟩ : MethodName)) (z := (⟨"com/example/pech_david/pechdavid/model/Relation", "orders", "()Z"⟩ : MethodName)) hown (mvT hZ (hw _ (List.mem_of_getElem? (i := 8) rfl))) (mvT hZ (hw _ (List.mem_of_getElem? (i := 9) rfl))) (notFace_of_selects (args := #[]) (mvT hZ (hw _ (List.mem_of_getElem? (i := 11) rfl)))) (mvT hZ (hw _ (List.mem_of_getElem? (i := 11) rfl))) (mvT hZ (hw _ (List.mem_of_getElem? (i := 10) rfl))) (by decide) (backOf (W := 0) (rm2 l Z a0 hw [] s_LESS s_EQUAL s_NOT_EQUAL h0 n0 Z0 S_EQUAL S_NOT_EQUAL ) hZ (hw _ (List.mem_of_getElem? (i := 12) rfl)) (hw _ (List.mem_of_getElem? (i := 6) rfl)) (by decide) (by decide)) q119a q119c (g := (mkF m 25 #[.val (.int p1), .val (.int (2 : Int32)), .val (.ref s_LESS), .val (.int (1 : Int32)), .unset, .unset] [(.ref s_LESS)])) rfl (by rw [hml]; rfl) (Steps.refl _) (argsL := []) (rest := []) (lenOf pd_2 rfl) rfl (by show 2 * 0 + _ ≤ _; exact Nat.le_of_eq rfl) (hb hby at_25) (fun _ _ => ⟨rfl, eh117, (by decide : 0 + 0 ≤ _), (by decide : 0 + 0 ≤ _)⟩)
    dsimp only [Pt.U, Pt.locs, Pt.cells, Pt.slots] at X119 l119 y119 z119 st119 hQ119
    subst l119 y119 z119
    obtain ⟨rfl, N119q, eh119⟩ := hQ119
    have N119 := Fr.app N117 N119q
    refine Go.step (fun _ kt => st119.trans kt) ?_
    show Go p.tables e below _ (T119.setTop (mkF m 28 #[.val (.int p1), .val (.int (2 : Int32)), .val (.ref s_LESS), .val (.int (1 : Int32)), .unset, .unset] [(.int (own_ord s_LESS s_EQUAL s_NOT_EQUAL))]))
    have q120 : (own_ord s_LESS s_EQUAL s_NOT_EQUAL) = (1 : Int32) := by simp [own_ord, ne_2_0, ne_2_1]
    rw [q120]
    show Go p.tables e below _ (T119.setTop (mkF m 28 #[.val (.int p1), .val (.int (2 : Int32)), .val (.ref s_LESS), .val (.int (1 : Int32)), .unset, .unset] [(.int (1 : Int32))]))
    refine Go.step (fun _ kt => XS.istore X119.here hx rfl (hb hby at_28) rfl (l' := #[.val (.int p1), .val (.int (2 : Int32)), .val (.ref s_LESS), .val (.int (1 : Int32)), .val (.int (1 : Int32)), .unset]) rfl kt) ?_
    show Go p.tables e below _ (T119.setTop (mkF m 30 #[.val (.int p1), .val (.int (2 : Int32)), .val (.ref s_LESS), .val (.int (1 : Int32)), .val (.int (1 : Int32)), .unset] []))
    refine Go.step (fun _ kt => XS.aloadN X119.here hx rfl (hb hby at_30) rfl rfl kt) ?_
    show Go p.tables e below _ (T119.setTop (mkF m 31 #[.val (.int p1), .val (.int (2 : Int32)), .val (.ref s_LESS), .val (.int (1 : Int32)), .val (.int (1 : Int32)), .unset] [(.ref s_LESS)]))
    refine Go.step (fun _ kt => XS.lconst X119.here hx rfl (hb hby at_31) kt) ?_
    show Go p.tables e below _ (T119.setTop (mkF m 32 #[.val (.int p1), .val (.int (2 : Int32)), .val (.ref s_LESS), .val (.int (1 : Int32)), .val (.int (1 : Int32)), .unset] [(.long (0 : Int64)), (.ref s_LESS)]))
    refine Go.step (fun _ kt => XS.lconst X119.here hx rfl (hb hby at_32) kt) ?_
    show Go p.tables e below _ (T119.setTop (mkF m 33 #[.val (.int p1), .val (.int (2 : Int32)), .val (.ref s_LESS), .val (.int (1 : Int32)), .val (.int (1 : Int32)), .unset] [(.long (1 : Int64)), (.long (0 : Int64)), (.ref s_LESS)]))
    obtain ⟨cq121, kq121, q121a, q121b, q121c⟩ := isOf hZ eh119 E_LESS
    obtain ⟨_, _, ⟨T121, L121, k121, n121⟩, -, X121, ⟨Lc121, hQ121, l121, y121, z121⟩, st121⟩ := X119.virtualBack hx (y := (⟨"com/example/pech_david/pechdavid/model/Relation", "holds", "(JJ)Z"⟩ : MethodName)) (z := (⟨"com/example/pech_david/pechdavid/model/Relation", "holds", "(JJ)Z"⟩ : MethodName)) hown (mvT hZ (hw _ (List.mem_of_getElem? (i := 14) rfl))) (mvT hZ (hw _ (List.mem_of_getElem? (i := 15) rfl))) (notFace_of_selects (args := #[]) (mvT hZ (hw _ (List.mem_of_getElem? (i := 17) rfl)))) (mvT hZ (hw _ (List.mem_of_getElem? (i := 17) rfl))) (mvT hZ (hw _ (List.mem_of_getElem? (i := 16) rfl))) (by decide) (backOf (W := 0) (rmh2 l Z a0 hw [] s_LESS (0 : Int64) (1 : Int64)  h0 n0 Z0 E_LESS F_LESS_ordinal ) hZ (hw _ (List.mem_of_getElem? (i := 18) rfl)) (hw _ (List.mem_of_getElem? (i := 6) rfl)) (by decide) (by decide)) q121a q121c (g := (mkF m 33 #[.val (.int p1), .val (.int (2 : Int32)), .val (.ref s_LESS), .val (.int (1 : Int32)), .val (.int (1 : Int32)), .unset] [(.long (1 : Int64)), (.long (0 : Int64)), (.ref s_LESS)])) rfl (by rw [hml]; rfl) (Steps.refl _) (argsL := [(.long (0 : Int64)), (.long (1 : Int64))]) (rest := []) (lenOf pd_3 rfl) rfl (by show 2 * 0 + _ ≤ _; exact Nat.le_of_eq rfl) (hb hby at_33) (fun _ _ => ⟨rfl, eh119, (by decide : 0 + 0 ≤ _), (by decide : 0 + 0 ≤ _)⟩)
    dsimp only [Pt.U, Pt.locs, Pt.cells, Pt.slots] at X121 l121 y121 z121 st121 hQ121
    subst l121 y121 z121
    obtain ⟨rfl, N121q, eh121⟩ := hQ121
    have N121 := Fr.app N119 N121q
    refine Go.step (fun _ kt => st121.trans kt) ?_
    show Go p.tables e below _ (T121.setTop (mkF m 36 #[.val (.int p1), .val (.int (2 : Int32)), .val (.ref s_LESS), .val (.int (1 : Int32)), .val (.int (1 : Int32)), .unset] [(.int (own_h2 (0 : Int64) (1 : Int64)))]))
    have q122 : (own_h2 (0 : Int64) (1 : Int64)) = (1 : Int32) := by decide
    rw [q122]
    show Go p.tables e below _ (T121.setTop (mkF m 36 #[.val (.int p1), .val (.int (2 : Int32)), .val (.ref s_LESS), .val (.int (1 : Int32)), .val (.int (1 : Int32)), .unset] [(.int (1 : Int32))]))
    refine Go.step (fun _ kt => XS.aloadN X121.here hx rfl (hb hby at_36) rfl rfl kt) ?_
    show Go p.tables e below _ (T121.setTop (mkF m 37 #[.val (.int p1), .val (.int (2 : Int32)), .val (.ref s_LESS), .val (.int (1 : Int32)), .val (.int (1 : Int32)), .unset] [(.ref s_LESS), (.int (1 : Int32))]))
    refine Go.step (fun _ kt => XS.lconst X121.here hx rfl (hb hby at_37) kt) ?_
    show Go p.tables e below _ (T121.setTop (mkF m 38 #[.val (.int p1), .val (.int (2 : Int32)), .val (.ref s_LESS), .val (.int (1 : Int32)), .val (.int (1 : Int32)), .unset] [(.long (1 : Int64)), (.ref s_LESS), (.int (1 : Int32))]))
    refine Go.step (fun _ kt => XS.lconst X121.here hx rfl (hb hby at_38) kt) ?_
    show Go p.tables e below _ (T121.setTop (mkF m 39 #[.val (.int p1), .val (.int (2 : Int32)), .val (.ref s_LESS), .val (.int (1 : Int32)), .val (.int (1 : Int32)), .unset] [(.long (0 : Int64)), (.long (1 : Int64)), (.ref s_LESS), (.int (1 : Int32))]))
    obtain ⟨cq123, kq123, q123a, q123b, q123c⟩ := isOf hZ eh121 E_LESS
    obtain ⟨_, _, ⟨T123, L123, k123, n123⟩, -, X123, ⟨Lc123, hQ123, l123, y123, z123⟩, st123⟩ := X121.virtualBack hx (y := (⟨"com/example/pech_david/pechdavid/model/Relation", "holds", "(JJ)Z"⟩ : MethodName)) (z := (⟨"com/example/pech_david/pechdavid/model/Relation", "holds", "(JJ)Z"⟩ : MethodName)) hown (mvT hZ (hw _ (List.mem_of_getElem? (i := 14) rfl))) (mvT hZ (hw _ (List.mem_of_getElem? (i := 15) rfl))) (notFace_of_selects (args := #[]) (mvT hZ (hw _ (List.mem_of_getElem? (i := 17) rfl)))) (mvT hZ (hw _ (List.mem_of_getElem? (i := 17) rfl))) (mvT hZ (hw _ (List.mem_of_getElem? (i := 16) rfl))) (by decide) (backOf (W := 1) (rmh2 l Z a0 hw [] s_LESS (1 : Int64) (0 : Int64)  h0 n0 Z0 E_LESS F_LESS_ordinal ) hZ (hw _ (List.mem_of_getElem? (i := 18) rfl)) (hw _ (List.mem_of_getElem? (i := 6) rfl)) (by decide) (by decide)) q123a q123c (g := (mkF m 39 #[.val (.int p1), .val (.int (2 : Int32)), .val (.ref s_LESS), .val (.int (1 : Int32)), .val (.int (1 : Int32)), .unset] [(.long (0 : Int64)), (.long (1 : Int64)), (.ref s_LESS), (.int (1 : Int32))])) rfl (by rw [hml]; rfl) (Steps.refl _) (argsL := [(.long (1 : Int64)), (.long (0 : Int64))]) (rest := [(.int (1 : Int32))]) (lenOf pd_3 rfl) rfl (by show 2 * 0 + _ ≤ _; exact Nat.le_of_eq rfl) (hb hby at_39) (fun _ _ => ⟨rfl, eh121, (by decide : 0 + 0 ≤ _), (by decide : 0 + 0 ≤ _)⟩)
    dsimp only [Pt.U, Pt.locs, Pt.cells, Pt.slots] at X123 l123 y123 z123 st123 hQ123
    subst l123 y123 z123
    obtain ⟨rfl, N123q, eh123⟩ := hQ123
    have N123 := Fr.app N121 N123q
    refine Go.step (fun _ kt => st123.trans kt) ?_
    show Go p.tables e below _ (T123.setTop (mkF m 42 #[.val (.int p1), .val (.int (2 : Int32)), .val (.ref s_LESS), .val (.int (1 : Int32)), .val (.int (1 : Int32)), .unset] [(.int (own_h2 (1 : Int64) (0 : Int64))), (.int (1 : Int32))]))
    have q124 : (own_h2 (1 : Int64) (0 : Int64)) = (0 : Int32) := by decide
    rw [q124]
    show Go p.tables e below _ (T123.setTop (mkF m 42 #[.val (.int p1), .val (.int (2 : Int32)), .val (.ref s_LESS), .val (.int (1 : Int32)), .val (.int (1 : Int32)), .unset] [(.int (0 : Int32)), (.int (1 : Int32))]))
    refine Go.step (fun _ kt => XS.icmpNo X123.here hx rfl (hb hby at_42) rfl (feq (by decide : ¬ ((1 : Int32) = (0 : Int32)))).1 kt) ?_
    show Go p.tables e below _ (T123.setTop (mkF m 45 #[.val (.int p1), .val (.int (2 : Int32)), .val (.ref s_LESS), .val (.int (1 : Int32)), .val (.int (1 : Int32)), .unset] []))
    refine Go.step (fun _ kt => XS.iconst X123.here hx rfl (hb hby at_45) kt) ?_
    show Go p.tables e below _ (T123.setTop (mkF m 46 #[.val (.int p1), .val (.int (2 : Int32)), .val (.ref s_LESS), .val (.int (1 : Int32)), .val (.int (1 : Int32)), .unset] [(.int (1 : Int32))]))
    refine Go.step (fun _ kt => XS.goto X123.here hx rfl (pc0 := 46) (pc' := 50) rfl (hb hby at_46) (by decide) (by decide) kt) ?_
    show Go p.tables e below _ (T123.setTop (mkF m 50 #[.val (.int p1), .val (.int (2 : Int32)), .val (.ref s_LESS), .val (.int (1 : Int32)), .val (.int (1 : Int32)), .unset] [(.int (1 : Int32))]))
    refine Go.step (fun _ kt => XS.istore X123.here hx rfl (hb hby at_50) rfl (l' := #[.val (.int p1), .val (.int (2 : Int32)), .val (.ref s_LESS), .val (.int (1 : Int32)), .val (.int (1 : Int32)), .val (.int (1 : Int32))]) rfl kt) ?_
    show Go p.tables e below _ (T123.setTop (mkF m 52 #[.val (.int p1), .val (.int (2 : Int32)), .val (.ref s_LESS), .val (.int (1 : Int32)), .val (.int (1 : Int32)), .val (.int (1 : Int32))] []))
    refine Go.step (fun _ kt => XS.iload X123.here hx rfl (hb hby at_52) rfl kt) ?_
    show Go p.tables e below _ (T123.setTop (mkF m 54 #[.val (.int p1), .val (.int (2 : Int32)), .val (.ref s_LESS), .val (.int (1 : Int32)), .val (.int (1 : Int32)), .val (.int (1 : Int32))] [(.int (1 : Int32))]))
    refine Go.step (fun _ kt => XS.iloadN X123.here hx rfl (hb hby at_54) rfl kt) ?_
    show Go p.tables e below _ (T123.setTop (mkF m 55 #[.val (.int p1), .val (.int (2 : Int32)), .val (.ref s_LESS), .val (.int (1 : Int32)), .val (.int (1 : Int32)), .val (.int (1 : Int32))] [(.int (1 : Int32)), (.int (1 : Int32))]))
    refine Go.step (fun _ kt => XS.icmpNo X123.here hx rfl (hb hby at_55) rfl (teq (by decide : (1 : Int32) = (1 : Int32))).2 kt) ?_
    show Go p.tables e below _ (T123.setTop (mkF m 58 #[.val (.int p1), .val (.int (2 : Int32)), .val (.ref s_LESS), .val (.int (1 : Int32)), .val (.int (1 : Int32)), .val (.int (1 : Int32))] []))
    refine Go.step (fun _ kt => XS.iload X123.here hx rfl (hb hby at_58) rfl kt) ?_
    show Go p.tables e below _ (T123.setTop (mkF m 60 #[.val (.int p1), .val (.int (2 : Int32)), .val (.ref s_LESS), .val (.int (1 : Int32)), .val (.int (1 : Int32)), .val (.int (1 : Int32))] [(.int (1 : Int32))]))
    refine Go.step (fun _ kt => XS.iload X123.here hx rfl (hb hby at_60) rfl kt) ?_
    show Go p.tables e below _ (T123.setTop (mkF m 62 #[.val (.int p1), .val (.int (2 : Int32)), .val (.ref s_LESS), .val (.int (1 : Int32)), .val (.int (1 : Int32)), .val (.int (1 : Int32))] [(.int (1 : Int32)), (.int (1 : Int32))]))
    refine Go.step (fun _ kt => XS.icmpNo X123.here hx rfl (hb hby at_62) rfl (teq (by decide : (1 : Int32) = (1 : Int32))).2 kt) ?_
    show Go p.tables e below _ (T123.setTop (mkF m 65 #[.val (.int p1), .val (.int (2 : Int32)), .val (.ref s_LESS), .val (.int (1 : Int32)), .val (.int (1 : Int32)), .val (.int (1 : Int32))] []))
    refine Go.step (fun _ kt => XS.iconst X123.here hx rfl (hb hby at_65) kt) ?_
    show Go p.tables e below _ (T123.setTop (mkF m 66 #[.val (.int p1), .val (.int (2 : Int32)), .val (.ref s_LESS), .val (.int (1 : Int32)), .val (.int (1 : Int32)), .val (.int (1 : Int32))] [(.int (1 : Int32))]))
    refine Go.step (fun _ kt => XS.goto X123.here hx rfl (pc0 := 66) (pc' := 70) rfl (hb hby at_66) (by decide) (by decide) kt) ?_
    show Go p.tables e below _ (T123.setTop (mkF m 70 #[.val (.int p1), .val (.int (2 : Int32)), .val (.ref s_LESS), .val (.int (1 : Int32)), .val (.int (1 : Int32)), .val (.int (1 : Int32))] [(.int (1 : Int32))]))
    obtain ⟨fs, hr, hrun, hended, hW, hsame⟩ := X123.leave (v := some (.int (1 : Int32))) (fun h => by rw [Bd.returns] at h; cases h)
    refine ⟨_, _, retN X123 hx (t := .boolean) Bd.returns (by simp) (hb hby at_70) hr, hrun, hended, _, _, rfl, ?_, ⟨_, rfl⟩, hW, hsame.mono (by decide) (by decide)⟩
    show Qrm0 Z p1 s_EQUAL s_NOT_EQUAL s_LESS s_LESS_OR_EQUAL s_GREATER s_GREATER_OR_EQUAL h0 n0 _ T123.heap _
    rw [eh123]
    exact ⟨rfl, N123⟩
  · rw [hk]
    show Go p.tables e below _ (s₁.setTop (mkF m 8 #[.val (.int p1), .val (.int (3 : Int32)), .unset, .unset, .unset, .unset] []))
    refine Go.step (fun _ kt => XS.iloadN X0.here hx rfl (hb hby at_8) rfl kt) ?_
    show Go p.tables e below _ (s₁.setTop (mkF m 9 #[.val (.int p1), .val (.int (3 : Int32)), .unset, .unset, .unset, .unset] [(.int (3 : Int32))]))
    obtain ⟨_, _, ⟨T125, L125, k125, n125⟩, -, X125, ⟨Lc125, hQ125, l125, y125, z125⟩, st125⟩ := Jvm.LawKit.callS X0 hx (y := (⟨"com/example/pech_david/pechdavid/model/RelationOrdersPinLaw", "pick", "(I)Lcom/example/pech_david/pechdavid/model/Relation;"⟩ : MethodName)) hown (mvT hZ (hw _ (List.mem_of_getElem? (i := 1) rfl))) (mvT hZ (hw _ (List.mem_of_getElem? (i := 2) rfl))) (mvT hZ (hw _ (List.mem_of_getElem? (i := 3) rfl))) (mvT hZ (hw _ (List.mem_of_getElem? (i := 4) rfl))) (by decide) (backOf (W := 0) (rm1 l Z a0 hw [] (3 : Int32) s_EQUAL s_NOT_EQUAL s_LESS s_LESS_OR_EQUAL s_GREATER s_GREATER_OR_EQUAL h0 n0 Z0 S_EQUAL S_NOT_EQUAL S_LESS S_LESS_OR_EQUAL S_GREATER S_GREATER_OR_EQUAL ) hZ (hw _ (List.mem_of_getElem? (i := 4) rfl)) (hw _ (List.mem_of_getElem? (i := 3) rfl)) (by decide) (by decide)) (g := (mkF m 9 #[.val (.int p1), .val (.int (3 : Int32)), .unset, .unset, .unset, .unset] [(.int (3 : Int32))])) rfl (by rw [hml]; rfl) (argsL := [(.int (3 : Int32))]) (rest := []) (lenOf pd_1 rfl) rfl (by show 2 * 0 + _ ≤ _; exact Nat.le_of_eq rfl) (hb hby at_9) (fun _ _ => ⟨rfl, e0, (by decide : 0 + 0 ≤ _), (by decide : 0 + 0 ≤ _)⟩)
    dsimp only [Pt.U, Pt.locs, Pt.cells, Pt.slots] at X125 l125 y125 z125 st125 hQ125
    subst l125 y125 z125
    obtain ⟨rfl, N125q, eh125⟩ := hQ125
    have N125 := Fr.app N0 N125q
    refine Go.step st125 ?_
    show Go p.tables e below _ (T125.setTop (mkF m 12 #[.val (.int p1), .val (.int (3 : Int32)), .unset, .unset, .unset, .unset] [(.ref (own_pick (3 : Int32) s_EQUAL s_NOT_EQUAL s_LESS s_LESS_OR_EQUAL s_GREATER s_GREATER_OR_EQUAL))]))
    have q126 : (own_pick (3 : Int32) s_EQUAL s_NOT_EQUAL s_LESS s_LESS_OR_EQUAL s_GREATER s_GREATER_OR_EQUAL) = s_LESS_OR_EQUAL := rfl
    rw [q126]
    show Go p.tables e below _ (T125.setTop (mkF m 12 #[.val (.int p1), .val (.int (3 : Int32)), .unset, .unset, .unset, .unset] [(.ref s_LESS_OR_EQUAL)]))
    refine Go.step (fun _ kt => XS.astoreN X125.here hx rfl (hb hby at_12) rfl rfl (l' := #[.val (.int p1), .val (.int (3 : Int32)), .val (.ref s_LESS_OR_EQUAL), .unset, .unset, .unset]) rfl kt) ?_
    show Go p.tables e below _ (T125.setTop (mkF m 13 #[.val (.int p1), .val (.int (3 : Int32)), .val (.ref s_LESS_OR_EQUAL), .unset, .unset, .unset] []))
    refine Go.step (fun _ kt => XS.iloadN X125.here hx rfl (hb hby at_13) rfl kt) ?_
    show Go p.tables e below _ (T125.setTop (mkF m 14 #[.val (.int p1), .val (.int (3 : Int32)), .val (.ref s_LESS_OR_EQUAL), .unset, .unset, .unset] [(.int (3 : Int32))]))
    refine Go.step (fun _ kt => XS.iconst X125.here hx rfl (hb hby at_14) kt) ?_
    show Go p.tables e below _ (T125.setTop (mkF m 15 #[.val (.int p1), .val (.int (3 : Int32)), .val (.ref s_LESS_OR_EQUAL), .unset, .unset, .unset] [(.int (2 : Int32)), (.int (3 : Int32))]))
    refine Go.step (fun _ kt => XS.icmpNo X125.here hx rfl (hb hby at_15) rfl (flt (by decide : ¬ ((3 : Int32) < (2 : Int32)))).1 kt) ?_
    show Go p.tables e below _ (T125.setTop (mkF m 18 #[.val (.int p1), .val (.int (3 : Int32)), .val (.ref s_LESS_OR_EQUAL), .unset, .unset, .unset] []))
    refine Go.step (fun _ kt => XS.iconst X125.here hx rfl (hb hby at_18) kt) ?_
    show Go p.tables e below _ (T125.setTop (mkF m 19 #[.val (.int p1), .val (.int (3 : Int32)), .val (.ref s_LESS_OR_EQUAL), .unset, .unset, .unset] [(.int (1 : Int32))]))
    refine Go.step (fun _ kt => XS.goto X125.here hx rfl (pc0 := 19) (pc' := 23) rfl (hb hby at_19) (by decide) (by decide) kt) ?_
    show Go p.tables e below _ (T125.setTop (mkF m 23 #[.val (.int p1), .val (.int (3 : Int32)), .val (.ref s_LESS_OR_EQUAL), .unset, .unset, .unset] [(.int (1 : Int32))]))
    refine Go.step (fun _ kt => XS.istoreN X125.here hx rfl (hb hby at_23) rfl (l' := #[.val (.int p1), .val (.int (3 : Int32)), .val (.ref s_LESS_OR_EQUAL), .val (.int (1 : Int32)), .unset, .unset]) rfl kt) ?_
    show Go p.tables e below _ (T125.setTop (mkF m 24 #[.val (.int p1), .val (.int (3 : Int32)), .val (.ref s_LESS_OR_EQUAL), .val (.int (1 : Int32)), .unset, .unset] []))
    refine Go.step (fun _ kt => XS.aloadN X125.here hx rfl (hb hby at_24) rfl rfl kt) ?_
    show Go p.tables e below _ (T125.setTop (mkF m 25 #[.val (.int p1), .val (.int (3 : Int32)), .val (.ref s_LESS_OR_EQUAL), .val (.int (1 : Int32)), .unset, .unset] [(.ref s_LESS_OR_EQUAL)]))
    obtain ⟨cq127, kq127, q127a, q127b, q127c⟩ := isOf hZ eh125 E_LESS_OR_EQUAL
    obtain ⟨_, _, ⟨T127, L127, k127, n127⟩, -, X127, ⟨Lc127, hQ127, l127, y127, z127⟩, st127⟩ := X125.virtualBack hx (y := (⟨"com/example/pech_david/pechdavid/model/Relation", "orders", "()Z"⟩ : MethodName)) (z := (⟨"com/example/pech_david/pechdavid/model/Relation", "orders", "()Z"⟩ : MethodName)) hown (mvT hZ (hw _ (List.mem_of_getElem? (i := 8) rfl))) (mvT hZ (hw _ (List.mem_of_getElem? (i := 9) rfl))) (notFace_of_selects (args := #[]) (mvT hZ (hw _ (List.mem_of_getElem? (i := 11) rfl)))) (mvT hZ (hw _ (List.mem_of_getElem? (i := 11) rfl))) (mvT hZ (hw _ (List.mem_of_getElem? (i := 10) rfl))) (by decide) (backOf (W := 0) (rm2 l Z a0 hw [] s_LESS_OR_EQUAL s_EQUAL s_NOT_EQUAL h0 n0 Z0 S_EQUAL S_NOT_EQUAL ) hZ (hw _ (List.mem_of_getElem? (i := 12) rfl)) (hw _ (List.mem_of_getElem? (i := 6) rfl)) (by decide) (by decide)) q127a q127c (g := (mkF m 25 #[.val (.int p1), .val (.int (3 : Int32)), .val (.ref s_LESS_OR_EQUAL), .val (.int (1 : Int32)), .unset, .unset] [(.ref s_LESS_OR_EQUAL)])) rfl (by rw [hml]; rfl) (Steps.refl _) (argsL := []) (rest := []) (lenOf pd_2 rfl) rfl (by show 2 * 0 + _ ≤ _; exact Nat.le_of_eq rfl) (hb hby at_25) (fun _ _ => ⟨rfl, eh125, (by decide : 0 + 0 ≤ _), (by decide : 0 + 0 ≤ _)⟩)
    dsimp only [Pt.U, Pt.locs, Pt.cells, Pt.slots] at X127 l127 y127 z127 st127 hQ127
    subst l127 y127 z127
    obtain ⟨rfl, N127q, eh127⟩ := hQ127
    have N127 := Fr.app N125 N127q
    refine Go.step (fun _ kt => st127.trans kt) ?_
    show Go p.tables e below _ (T127.setTop (mkF m 28 #[.val (.int p1), .val (.int (3 : Int32)), .val (.ref s_LESS_OR_EQUAL), .val (.int (1 : Int32)), .unset, .unset] [(.int (own_ord s_LESS_OR_EQUAL s_EQUAL s_NOT_EQUAL))]))
    have q128 : (own_ord s_LESS_OR_EQUAL s_EQUAL s_NOT_EQUAL) = (1 : Int32) := by simp [own_ord, ne_3_0, ne_3_1]
    rw [q128]
    show Go p.tables e below _ (T127.setTop (mkF m 28 #[.val (.int p1), .val (.int (3 : Int32)), .val (.ref s_LESS_OR_EQUAL), .val (.int (1 : Int32)), .unset, .unset] [(.int (1 : Int32))]))
    refine Go.step (fun _ kt => XS.istore X127.here hx rfl (hb hby at_28) rfl (l' := #[.val (.int p1), .val (.int (3 : Int32)), .val (.ref s_LESS_OR_EQUAL), .val (.int (1 : Int32)), .val (.int (1 : Int32)), .unset]) rfl kt) ?_
    show Go p.tables e below _ (T127.setTop (mkF m 30 #[.val (.int p1), .val (.int (3 : Int32)), .val (.ref s_LESS_OR_EQUAL), .val (.int (1 : Int32)), .val (.int (1 : Int32)), .unset] []))
    refine Go.step (fun _ kt => XS.aloadN X127.here hx rfl (hb hby at_30) rfl rfl kt) ?_
    show Go p.tables e below _ (T127.setTop (mkF m 31 #[.val (.int p1), .val (.int (3 : Int32)), .val (.ref s_LESS_OR_EQUAL), .val (.int (1 : Int32)), .val (.int (1 : Int32)), .unset] [(.ref s_LESS_OR_EQUAL)]))
    refine Go.step (fun _ kt => XS.lconst X127.here hx rfl (hb hby at_31) kt) ?_
    show Go p.tables e below _ (T127.setTop (mkF m 32 #[.val (.int p1), .val (.int (3 : Int32)), .val (.ref s_LESS_OR_EQUAL), .val (.int (1 : Int32)), .val (.int (1 : Int32)), .unset] [(.long (0 : Int64)), (.ref s_LESS_OR_EQUAL)]))
    refine Go.step (fun _ kt => XS.lconst X127.here hx rfl (hb hby at_32) kt) ?_
    show Go p.tables e below _ (T127.setTop (mkF m 33 #[.val (.int p1), .val (.int (3 : Int32)), .val (.ref s_LESS_OR_EQUAL), .val (.int (1 : Int32)), .val (.int (1 : Int32)), .unset] [(.long (1 : Int64)), (.long (0 : Int64)), (.ref s_LESS_OR_EQUAL)]))
    obtain ⟨cq129, kq129, q129a, q129b, q129c⟩ := isOf hZ eh127 E_LESS_OR_EQUAL
    obtain ⟨_, _, ⟨T129, L129, k129, n129⟩, -, X129, ⟨Lc129, hQ129, l129, y129, z129⟩, st129⟩ := X127.virtualBack hx (y := (⟨"com/example/pech_david/pechdavid/model/Relation", "holds", "(JJ)Z"⟩ : MethodName)) (z := (⟨"com/example/pech_david/pechdavid/model/Relation", "holds", "(JJ)Z"⟩ : MethodName)) hown (mvT hZ (hw _ (List.mem_of_getElem? (i := 14) rfl))) (mvT hZ (hw _ (List.mem_of_getElem? (i := 15) rfl))) (notFace_of_selects (args := #[]) (mvT hZ (hw _ (List.mem_of_getElem? (i := 17) rfl)))) (mvT hZ (hw _ (List.mem_of_getElem? (i := 17) rfl))) (mvT hZ (hw _ (List.mem_of_getElem? (i := 16) rfl))) (by decide) (backOf (W := 0) (rmh3 l Z a0 hw [] s_LESS_OR_EQUAL (0 : Int64) (1 : Int64)  h0 n0 Z0 E_LESS_OR_EQUAL F_LESS_OR_EQUAL_ordinal ) hZ (hw _ (List.mem_of_getElem? (i := 18) rfl)) (hw _ (List.mem_of_getElem? (i := 6) rfl)) (by decide) (by decide)) q129a q129c (g := (mkF m 33 #[.val (.int p1), .val (.int (3 : Int32)), .val (.ref s_LESS_OR_EQUAL), .val (.int (1 : Int32)), .val (.int (1 : Int32)), .unset] [(.long (1 : Int64)), (.long (0 : Int64)), (.ref s_LESS_OR_EQUAL)])) rfl (by rw [hml]; rfl) (Steps.refl _) (argsL := [(.long (0 : Int64)), (.long (1 : Int64))]) (rest := []) (lenOf pd_3 rfl) rfl (by show 2 * 0 + _ ≤ _; exact Nat.le_of_eq rfl) (hb hby at_33) (fun _ _ => ⟨rfl, eh127, (by decide : 0 + 0 ≤ _), (by decide : 0 + 0 ≤ _)⟩)
    dsimp only [Pt.U, Pt.locs, Pt.cells, Pt.slots] at X129 l129 y129 z129 st129 hQ129
    subst l129 y129 z129
    obtain ⟨rfl, N129q, eh129⟩ := hQ129
    have N129 := Fr.app N127 N129q
    refine Go.step (fun _ kt => st129.trans kt) ?_
    show Go p.tables e below _ (T129.setTop (mkF m 36 #[.val (.int p1), .val (.int (3 : Int32)), .val (.ref s_LESS_OR_EQUAL), .val (.int (1 : Int32)), .val (.int (1 : Int32)), .unset] [(.int (own_h3 (0 : Int64) (1 : Int64)))]))
    have q130 : (own_h3 (0 : Int64) (1 : Int64)) = (1 : Int32) := by decide
    rw [q130]
    show Go p.tables e below _ (T129.setTop (mkF m 36 #[.val (.int p1), .val (.int (3 : Int32)), .val (.ref s_LESS_OR_EQUAL), .val (.int (1 : Int32)), .val (.int (1 : Int32)), .unset] [(.int (1 : Int32))]))
    refine Go.step (fun _ kt => XS.aloadN X129.here hx rfl (hb hby at_36) rfl rfl kt) ?_
    show Go p.tables e below _ (T129.setTop (mkF m 37 #[.val (.int p1), .val (.int (3 : Int32)), .val (.ref s_LESS_OR_EQUAL), .val (.int (1 : Int32)), .val (.int (1 : Int32)), .unset] [(.ref s_LESS_OR_EQUAL), (.int (1 : Int32))]))
    refine Go.step (fun _ kt => XS.lconst X129.here hx rfl (hb hby at_37) kt) ?_
    show Go p.tables e below _ (T129.setTop (mkF m 38 #[.val (.int p1), .val (.int (3 : Int32)), .val (.ref s_LESS_OR_EQUAL), .val (.int (1 : Int32)), .val (.int (1 : Int32)), .unset] [(.long (1 : Int64)), (.ref s_LESS_OR_EQUAL), (.int (1 : Int32))]))
    refine Go.step (fun _ kt => XS.lconst X129.here hx rfl (hb hby at_38) kt) ?_
    show Go p.tables e below _ (T129.setTop (mkF m 39 #[.val (.int p1), .val (.int (3 : Int32)), .val (.ref s_LESS_OR_EQUAL), .val (.int (1 : Int32)), .val (.int (1 : Int32)), .unset] [(.long (0 : Int64)), (.long (1 : Int64)), (.ref s_LESS_OR_EQUAL), (.int (1 : Int32))]))
    obtain ⟨cq131, kq131, q131a, q131b, q131c⟩ := isOf hZ eh129 E_LESS_OR_EQUAL
    obtain ⟨_, _, ⟨T131, L131, k131, n131⟩, -, X131, ⟨Lc131, hQ131, l131, y131, z131⟩, st131⟩ := X129.virtualBack hx (y := (⟨"com/example/pech_david/pechdavid/model/Relation", "holds", "(JJ)Z"⟩ : MethodName)) (z := (⟨"com/example/pech_david/pechdavid/model/Relation", "holds", "(JJ)Z"⟩ : MethodName)) hown (mvT hZ (hw _ (List.mem_of_getElem? (i := 14) rfl))) (mvT hZ (hw _ (List.mem_of_getElem? (i := 15) rfl))) (notFace_of_selects (args := #[]) (mvT hZ (hw _ (List.mem_of_getElem? (i := 17) rfl)))) (mvT hZ (hw _ (List.mem_of_getElem? (i := 17) rfl))) (mvT hZ (hw _ (List.mem_of_getElem? (i := 16) rfl))) (by decide) (backOf (W := 1) (rmh3 l Z a0 hw [] s_LESS_OR_EQUAL (1 : Int64) (0 : Int64)  h0 n0 Z0 E_LESS_OR_EQUAL F_LESS_OR_EQUAL_ordinal ) hZ (hw _ (List.mem_of_getElem? (i := 18) rfl)) (hw _ (List.mem_of_getElem? (i := 6) rfl)) (by decide) (by decide)) q131a q131c (g := (mkF m 39 #[.val (.int p1), .val (.int (3 : Int32)), .val (.ref s_LESS_OR_EQUAL), .val (.int (1 : Int32)), .val (.int (1 : Int32)), .unset] [(.long (0 : Int64)), (.long (1 : Int64)), (.ref s_LESS_OR_EQUAL), (.int (1 : Int32))])) rfl (by rw [hml]; rfl) (Steps.refl _) (argsL := [(.long (1 : Int64)), (.long (0 : Int64))]) (rest := [(.int (1 : Int32))]) (lenOf pd_3 rfl) rfl (by show 2 * 0 + _ ≤ _; exact Nat.le_of_eq rfl) (hb hby at_39) (fun _ _ => ⟨rfl, eh129, (by decide : 0 + 0 ≤ _), (by decide : 0 + 0 ≤ _)⟩)
    dsimp only [Pt.U, Pt.locs, Pt.cells, Pt.slots] at X131 l131 y131 z131 st131 hQ131
    subst l131 y131 z131
    obtain ⟨rfl, N131q, eh131⟩ := hQ131
    have N131 := Fr.app N129 N131q
    refine Go.step (fun _ kt => st131.trans kt) ?_
    show Go p.tables e below _ (T131.setTop (mkF m 42 #[.val (.int p1), .val (.int (3 : Int32)), .val (.ref s_LESS_OR_EQUAL), .val (.int (1 : Int32)), .val (.int (1 : Int32)), .unset] [(.int (own_h3 (1 : Int64) (0 : Int64))), (.int (1 : Int32))]))
    have q132 : (own_h3 (1 : Int64) (0 : Int64)) = (0 : Int32) := by decide
    rw [q132]
    show Go p.tables e below _ (T131.setTop (mkF m 42 #[.val (.int p1), .val (.int (3 : Int32)), .val (.ref s_LESS_OR_EQUAL), .val (.int (1 : Int32)), .val (.int (1 : Int32)), .unset] [(.int (0 : Int32)), (.int (1 : Int32))]))
    refine Go.step (fun _ kt => XS.icmpNo X131.here hx rfl (hb hby at_42) rfl (feq (by decide : ¬ ((1 : Int32) = (0 : Int32)))).1 kt) ?_
    show Go p.tables e below _ (T131.setTop (mkF m 45 #[.val (.int p1), .val (.int (3 : Int32)), .val (.ref s_LESS_OR_EQUAL), .val (.int (1 : Int32)), .val (.int (1 : Int32)), .unset] []))
    refine Go.step (fun _ kt => XS.iconst X131.here hx rfl (hb hby at_45) kt) ?_
    show Go p.tables e below _ (T131.setTop (mkF m 46 #[.val (.int p1), .val (.int (3 : Int32)), .val (.ref s_LESS_OR_EQUAL), .val (.int (1 : Int32)), .val (.int (1 : Int32)), .unset] [(.int (1 : Int32))]))
    refine Go.step (fun _ kt => XS.goto X131.here hx rfl (pc0 := 46) (pc' := 50) rfl (hb hby at_46) (by decide) (by decide) kt) ?_
    show Go p.tables e below _ (T131.setTop (mkF m 50 #[.val (.int p1), .val (.int (3 : Int32)), .val (.ref s_LESS_OR_EQUAL), .val (.int (1 : Int32)), .val (.int (1 : Int32)), .unset] [(.int (1 : Int32))]))
    refine Go.step (fun _ kt => XS.istore X131.here hx rfl (hb hby at_50) rfl (l' := #[.val (.int p1), .val (.int (3 : Int32)), .val (.ref s_LESS_OR_EQUAL), .val (.int (1 : Int32)), .val (.int (1 : Int32)), .val (.int (1 : Int32))]) rfl kt) ?_
    show Go p.tables e below _ (T131.setTop (mkF m 52 #[.val (.int p1), .val (.int (3 : Int32)), .val (.ref s_LESS_OR_EQUAL), .val (.int (1 : Int32)), .val (.int (1 : Int32)), .val (.int (1 : Int32))] []))
    refine Go.step (fun _ kt => XS.iload X131.here hx rfl (hb hby at_52) rfl kt) ?_
    show Go p.tables e below _ (T131.setTop (mkF m 54 #[.val (.int p1), .val (.int (3 : Int32)), .val (.ref s_LESS_OR_EQUAL), .val (.int (1 : Int32)), .val (.int (1 : Int32)), .val (.int (1 : Int32))] [(.int (1 : Int32))]))
    refine Go.step (fun _ kt => XS.iloadN X131.here hx rfl (hb hby at_54) rfl kt) ?_
    show Go p.tables e below _ (T131.setTop (mkF m 55 #[.val (.int p1), .val (.int (3 : Int32)), .val (.ref s_LESS_OR_EQUAL), .val (.int (1 : Int32)), .val (.int (1 : Int32)), .val (.int (1 : Int32))] [(.int (1 : Int32)), (.int (1 : Int32))]))
    refine Go.step (fun _ kt => XS.icmpNo X131.here hx rfl (hb hby at_55) rfl (teq (by decide : (1 : Int32) = (1 : Int32))).2 kt) ?_
    show Go p.tables e below _ (T131.setTop (mkF m 58 #[.val (.int p1), .val (.int (3 : Int32)), .val (.ref s_LESS_OR_EQUAL), .val (.int (1 : Int32)), .val (.int (1 : Int32)), .val (.int (1 : Int32))] []))
    refine Go.step (fun _ kt => XS.iload X131.here hx rfl (hb hby at_58) rfl kt) ?_
    show Go p.tables e below _ (T131.setTop (mkF m 60 #[.val (.int p1), .val (.int (3 : Int32)), .val (.ref s_LESS_OR_EQUAL), .val (.int (1 : Int32)), .val (.int (1 : Int32)), .val (.int (1 : Int32))] [(.int (1 : Int32))]))
    refine Go.step (fun _ kt => XS.iload X131.here hx rfl (hb hby at_60) rfl kt) ?_
    show Go p.tables e below _ (T131.setTop (mkF m 62 #[.val (.int p1), .val (.int (3 : Int32)), .val (.ref s_LESS_OR_EQUAL), .val (.int (1 : Int32)), .val (.int (1 : Int32)), .val (.int (1 : Int32))] [(.int (1 : Int32)), (.int (1 : Int32))]))
    refine Go.step (fun _ kt => XS.icmpNo X131.here hx rfl (hb hby at_62) rfl (teq (by decide : (1 : Int32) = (1 : Int32))).2 kt) ?_
    show Go p.tables e below _ (T131.setTop (mkF m 65 #[.val (.int p1), .val (.int (3 : Int32)), .val (.ref s_LESS_OR_EQUAL), .val (.int (1 : Int32)), .val (.int (1 : Int32)), .val (.int (1 : Int32))] []))
    refine Go.step (fun _ kt => XS.iconst X131.here hx rfl (hb hby at_65) kt) ?_
    show Go p.tables e below _ (T131.setTop (mkF m 66 #[.val (.int p1), .val (.int (3 : Int32)), .val (.ref s_LESS_OR_EQUAL), .val (.int (1 : Int32)), .val (.int (1 : Int32)), .val (.int (1 : Int32))] [(.int (1 : Int32))]))
    refine Go.step (fun _ kt => XS.goto X131.here hx rfl (pc0 := 66) (pc' := 70) rfl (hb hby at_66) (by decide) (by decide) kt) ?_
    show Go p.tables e below _ (T131.setTop (mkF m 70 #[.val (.int p1), .val (.int (3 : Int32)), .val (.ref s_LESS_OR_EQUAL), .val (.int (1 : Int32)), .val (.int (1 : Int32)), .val (.int (1 : Int32))] [(.int (1 : Int32))]))
    obtain ⟨fs, hr, hrun, hended, hW, hsame⟩ := X131.leave (v := some (.int (1 : Int32))) (fun h => by rw [Bd.returns] at h; cases h)
    refine ⟨_, _, retN X131 hx (t := .boolean) Bd.returns (by simp) (hb hby at_70) hr, hrun, hended, _, _, rfl, ?_, ⟨_, rfl⟩, hW, hsame.mono (by decide) (by decide)⟩
    show Qrm0 Z p1 s_EQUAL s_NOT_EQUAL s_LESS s_LESS_OR_EQUAL s_GREATER s_GREATER_OR_EQUAL h0 n0 _ T131.heap _
    rw [eh131]
    exact ⟨rfl, N131⟩
  · rw [hk]
    show Go p.tables e below _ (s₁.setTop (mkF m 8 #[.val (.int p1), .val (.int (4 : Int32)), .unset, .unset, .unset, .unset] []))
    refine Go.step (fun _ kt => XS.iloadN X0.here hx rfl (hb hby at_8) rfl kt) ?_
    show Go p.tables e below _ (s₁.setTop (mkF m 9 #[.val (.int p1), .val (.int (4 : Int32)), .unset, .unset, .unset, .unset] [(.int (4 : Int32))]))
    obtain ⟨_, _, ⟨T133, L133, k133, n133⟩, -, X133, ⟨Lc133, hQ133, l133, y133, z133⟩, st133⟩ := Jvm.LawKit.callS X0 hx (y := (⟨"com/example/pech_david/pechdavid/model/RelationOrdersPinLaw", "pick", "(I)Lcom/example/pech_david/pechdavid/model/Relation;"⟩ : MethodName)) hown (mvT hZ (hw _ (List.mem_of_getElem? (i := 1) rfl))) (mvT hZ (hw _ (List.mem_of_getElem? (i := 2) rfl))) (mvT hZ (hw _ (List.mem_of_getElem? (i := 3) rfl))) (mvT hZ (hw _ (List.mem_of_getElem? (i := 4) rfl))) (by decide) (backOf (W := 0) (rm1 l Z a0 hw [] (4 : Int32) s_EQUAL s_NOT_EQUAL s_LESS s_LESS_OR_EQUAL s_GREATER s_GREATER_OR_EQUAL h0 n0 Z0 S_EQUAL S_NOT_EQUAL S_LESS S_LESS_OR_EQUAL S_GREATER S_GREATER_OR_EQUAL ) hZ (hw _ (List.mem_of_getElem? (i := 4) rfl)) (hw _ (List.mem_of_getElem? (i := 3) rfl)) (by decide) (by decide)) (g := (mkF m 9 #[.val (.int p1), .val (.int (4 : Int32)), .unset, .unset, .unset, .unset] [(.int (4 : Int32))])) rfl (by rw [hml]; rfl) (argsL := [(.int (4 : Int32))]) (rest := []) (lenOf pd_1 rfl) rfl (by show 2 * 0 + _ ≤ _; exact Nat.le_of_eq rfl) (hb hby at_9) (fun _ _ => ⟨rfl, e0, (by decide : 0 + 0 ≤ _), (by decide : 0 + 0 ≤ _)⟩)
    dsimp only [Pt.U, Pt.locs, Pt.cells, Pt.slots] at X133 l133 y133 z133 st133 hQ133
    subst l133 y133 z133
    obtain ⟨rfl, N133q, eh133⟩ := hQ133
    have N133 := Fr.app N0 N133q
    refine Go.step st133 ?_
    show Go p.tables e below _ (T133.setTop (mkF m 12 #[.val (.int p1), .val (.int (4 : Int32)), .unset, .unset, .unset, .unset] [(.ref (own_pick (4 : Int32) s_EQUAL s_NOT_EQUAL s_LESS s_LESS_OR_EQUAL s_GREATER s_GREATER_OR_EQUAL))]))
    have q134 : (own_pick (4 : Int32) s_EQUAL s_NOT_EQUAL s_LESS s_LESS_OR_EQUAL s_GREATER s_GREATER_OR_EQUAL) = s_GREATER := rfl
    rw [q134]
    show Go p.tables e below _ (T133.setTop (mkF m 12 #[.val (.int p1), .val (.int (4 : Int32)), .unset, .unset, .unset, .unset] [(.ref s_GREATER)]))
    refine Go.step (fun _ kt => XS.astoreN X133.here hx rfl (hb hby at_12) rfl rfl (l' := #[.val (.int p1), .val (.int (4 : Int32)), .val (.ref s_GREATER), .unset, .unset, .unset]) rfl kt) ?_
    show Go p.tables e below _ (T133.setTop (mkF m 13 #[.val (.int p1), .val (.int (4 : Int32)), .val (.ref s_GREATER), .unset, .unset, .unset] []))
    refine Go.step (fun _ kt => XS.iloadN X133.here hx rfl (hb hby at_13) rfl kt) ?_
    show Go p.tables e below _ (T133.setTop (mkF m 14 #[.val (.int p1), .val (.int (4 : Int32)), .val (.ref s_GREATER), .unset, .unset, .unset] [(.int (4 : Int32))]))
    refine Go.step (fun _ kt => XS.iconst X133.here hx rfl (hb hby at_14) kt) ?_
    show Go p.tables e below _ (T133.setTop (mkF m 15 #[.val (.int p1), .val (.int (4 : Int32)), .val (.ref s_GREATER), .unset, .unset, .unset] [(.int (2 : Int32)), (.int (4 : Int32))]))
    refine Go.step (fun _ kt => XS.icmpNo X133.here hx rfl (hb hby at_15) rfl (flt (by decide : ¬ ((4 : Int32) < (2 : Int32)))).1 kt) ?_
    show Go p.tables e below _ (T133.setTop (mkF m 18 #[.val (.int p1), .val (.int (4 : Int32)), .val (.ref s_GREATER), .unset, .unset, .unset] []))
    refine Go.step (fun _ kt => XS.iconst X133.here hx rfl (hb hby at_18) kt) ?_
    show Go p.tables e below _ (T133.setTop (mkF m 19 #[.val (.int p1), .val (.int (4 : Int32)), .val (.ref s_GREATER), .unset, .unset, .unset] [(.int (1 : Int32))]))
    refine Go.step (fun _ kt => XS.goto X133.here hx rfl (pc0 := 19) (pc' := 23) rfl (hb hby at_19) (by decide) (by decide) kt) ?_
    show Go p.tables e below _ (T133.setTop (mkF m 23 #[.val (.int p1), .val (.int (4 : Int32)), .val (.ref s_GREATER), .unset, .unset, .unset] [(.int (1 : Int32))]))
    refine Go.step (fun _ kt => XS.istoreN X133.here hx rfl (hb hby at_23) rfl (l' := #[.val (.int p1), .val (.int (4 : Int32)), .val (.ref s_GREATER), .val (.int (1 : Int32)), .unset, .unset]) rfl kt) ?_
    show Go p.tables e below _ (T133.setTop (mkF m 24 #[.val (.int p1), .val (.int (4 : Int32)), .val (.ref s_GREATER), .val (.int (1 : Int32)), .unset, .unset] []))
    refine Go.step (fun _ kt => XS.aloadN X133.here hx rfl (hb hby at_24) rfl rfl kt) ?_
    show Go p.tables e below _ (T133.setTop (mkF m 25 #[.val (.int p1), .val (.int (4 : Int32)), .val (.ref s_GREATER), .val (.int (1 : Int32)), .unset, .unset] [(.ref s_GREATER)]))
    obtain ⟨cq135, kq135, q135a, q135b, q135c⟩ := isOf hZ eh133 E_GREATER
    obtain ⟨_, _, ⟨T135, L135, k135, n135⟩, -, X135, ⟨Lc135, hQ135, l135, y135, z135⟩, st135⟩ := X133.virtualBack hx (y := (⟨"com/example/pech_david/pechdavid/model/Relation", "orders", "()Z"⟩ : MethodName)) (z := (⟨"com/example/pech_david/pechdavid/model/Relation", "orders", "()Z"⟩ : MethodName)) hown (mvT hZ (hw _ (List.mem_of_getElem? (i := 8) rfl))) (mvT hZ (hw _ (List.mem_of_getElem? (i := 9) rfl))) (notFace_of_selects (args := #[]) (mvT hZ (hw _ (List.mem_of_getElem? (i := 11) rfl)))) (mvT hZ (hw _ (List.mem_of_getElem? (i := 11) rfl))) (mvT hZ (hw _ (List.mem_of_getElem? (i := 10) rfl))) (by decide) (backOf (W := 0) (rm2 l Z a0 hw [] s_GREATER s_EQUAL s_NOT_EQUAL h0 n0 Z0 S_EQUAL S_NOT_EQUAL ) hZ (hw _ (List.mem_of_getElem? (i := 12) rfl)) (hw _ (List.mem_of_getElem? (i := 6) rfl)) (by decide) (by decide)) q135a q135c (g := (mkF m 25 #[.val (.int p1), .val (.int (4 : Int32)), .val (.ref s_GREATER), .val (.int (1 : Int32)), .unset, .unset] [(.ref s_GREATER)])) rfl (by rw [hml]; rfl) (Steps.refl _) (argsL := []) (rest := []) (lenOf pd_2 rfl) rfl (by show 2 * 0 + _ ≤ _; exact Nat.le_of_eq rfl) (hb hby at_25) (fun _ _ => ⟨rfl, eh133, (by decide : 0 + 0 ≤ _), (by decide : 0 + 0 ≤ _)⟩)
    dsimp only [Pt.U, Pt.locs, Pt.cells, Pt.slots] at X135 l135 y135 z135 st135 hQ135
    subst l135 y135 z135
    obtain ⟨rfl, N135q, eh135⟩ := hQ135
    have N135 := Fr.app N133 N135q
    refine Go.step (fun _ kt => st135.trans kt) ?_
    show Go p.tables e below _ (T135.setTop (mkF m 28 #[.val (.int p1), .val (.int (4 : Int32)), .val (.ref s_GREATER), .val (.int (1 : Int32)), .unset, .unset] [(.int (own_ord s_GREATER s_EQUAL s_NOT_EQUAL))]))
    have q136 : (own_ord s_GREATER s_EQUAL s_NOT_EQUAL) = (1 : Int32) := by simp [own_ord, ne_4_0, ne_4_1]
    rw [q136]
    show Go p.tables e below _ (T135.setTop (mkF m 28 #[.val (.int p1), .val (.int (4 : Int32)), .val (.ref s_GREATER), .val (.int (1 : Int32)), .unset, .unset] [(.int (1 : Int32))]))
    refine Go.step (fun _ kt => XS.istore X135.here hx rfl (hb hby at_28) rfl (l' := #[.val (.int p1), .val (.int (4 : Int32)), .val (.ref s_GREATER), .val (.int (1 : Int32)), .val (.int (1 : Int32)), .unset]) rfl kt) ?_
    show Go p.tables e below _ (T135.setTop (mkF m 30 #[.val (.int p1), .val (.int (4 : Int32)), .val (.ref s_GREATER), .val (.int (1 : Int32)), .val (.int (1 : Int32)), .unset] []))
    refine Go.step (fun _ kt => XS.aloadN X135.here hx rfl (hb hby at_30) rfl rfl kt) ?_
    show Go p.tables e below _ (T135.setTop (mkF m 31 #[.val (.int p1), .val (.int (4 : Int32)), .val (.ref s_GREATER), .val (.int (1 : Int32)), .val (.int (1 : Int32)), .unset] [(.ref s_GREATER)]))
    refine Go.step (fun _ kt => XS.lconst X135.here hx rfl (hb hby at_31) kt) ?_
    show Go p.tables e below _ (T135.setTop (mkF m 32 #[.val (.int p1), .val (.int (4 : Int32)), .val (.ref s_GREATER), .val (.int (1 : Int32)), .val (.int (1 : Int32)), .unset] [(.long (0 : Int64)), (.ref s_GREATER)]))
    refine Go.step (fun _ kt => XS.lconst X135.here hx rfl (hb hby at_32) kt) ?_
    show Go p.tables e below _ (T135.setTop (mkF m 33 #[.val (.int p1), .val (.int (4 : Int32)), .val (.ref s_GREATER), .val (.int (1 : Int32)), .val (.int (1 : Int32)), .unset] [(.long (1 : Int64)), (.long (0 : Int64)), (.ref s_GREATER)]))
    obtain ⟨cq137, kq137, q137a, q137b, q137c⟩ := isOf hZ eh135 E_GREATER
    obtain ⟨_, _, ⟨T137, L137, k137, n137⟩, -, X137, ⟨Lc137, hQ137, l137, y137, z137⟩, st137⟩ := X135.virtualBack hx (y := (⟨"com/example/pech_david/pechdavid/model/Relation", "holds", "(JJ)Z"⟩ : MethodName)) (z := (⟨"com/example/pech_david/pechdavid/model/Relation", "holds", "(JJ)Z"⟩ : MethodName)) hown (mvT hZ (hw _ (List.mem_of_getElem? (i := 14) rfl))) (mvT hZ (hw _ (List.mem_of_getElem? (i := 15) rfl))) (notFace_of_selects (args := #[]) (mvT hZ (hw _ (List.mem_of_getElem? (i := 17) rfl)))) (mvT hZ (hw _ (List.mem_of_getElem? (i := 17) rfl))) (mvT hZ (hw _ (List.mem_of_getElem? (i := 16) rfl))) (by decide) (backOf (W := 0) (rmh4 l Z a0 hw [] s_GREATER (0 : Int64) (1 : Int64)  h0 n0 Z0 E_GREATER F_GREATER_ordinal ) hZ (hw _ (List.mem_of_getElem? (i := 18) rfl)) (hw _ (List.mem_of_getElem? (i := 6) rfl)) (by decide) (by decide)) q137a q137c (g := (mkF m 33 #[.val (.int p1), .val (.int (4 : Int32)), .val (.ref s_GREATER), .val (.int (1 : Int32)), .val (.int (1 : Int32)), .unset] [(.long (1 : Int64)), (.long (0 : Int64)), (.ref s_GREATER)])) rfl (by rw [hml]; rfl) (Steps.refl _) (argsL := [(.long (0 : Int64)), (.long (1 : Int64))]) (rest := []) (lenOf pd_3 rfl) rfl (by show 2 * 0 + _ ≤ _; exact Nat.le_of_eq rfl) (hb hby at_33) (fun _ _ => ⟨rfl, eh135, (by decide : 0 + 0 ≤ _), (by decide : 0 + 0 ≤ _)⟩)
    dsimp only [Pt.U, Pt.locs, Pt.cells, Pt.slots] at X137 l137 y137 z137 st137 hQ137
    subst l137 y137 z137
    obtain ⟨rfl, N137q, eh137⟩ := hQ137
    have N137 := Fr.app N135 N137q
    refine Go.step (fun _ kt => st137.trans kt) ?_
    show Go p.tables e below _ (T137.setTop (mkF m 36 #[.val (.int p1), .val (.int (4 : Int32)), .val (.ref s_GREATER), .val (.int (1 : Int32)), .val (.int (1 : Int32)), .unset] [(.int (own_h4 (0 : Int64) (1 : Int64)))]))
    have q138 : (own_h4 (0 : Int64) (1 : Int64)) = (0 : Int32) := by decide
    rw [q138]
    show Go p.tables e below _ (T137.setTop (mkF m 36 #[.val (.int p1), .val (.int (4 : Int32)), .val (.ref s_GREATER), .val (.int (1 : Int32)), .val (.int (1 : Int32)), .unset] [(.int (0 : Int32))]))
    refine Go.step (fun _ kt => XS.aloadN X137.here hx rfl (hb hby at_36) rfl rfl kt) ?_
    show Go p.tables e below _ (T137.setTop (mkF m 37 #[.val (.int p1), .val (.int (4 : Int32)), .val (.ref s_GREATER), .val (.int (1 : Int32)), .val (.int (1 : Int32)), .unset] [(.ref s_GREATER), (.int (0 : Int32))]))
    refine Go.step (fun _ kt => XS.lconst X137.here hx rfl (hb hby at_37) kt) ?_
    show Go p.tables e below _ (T137.setTop (mkF m 38 #[.val (.int p1), .val (.int (4 : Int32)), .val (.ref s_GREATER), .val (.int (1 : Int32)), .val (.int (1 : Int32)), .unset] [(.long (1 : Int64)), (.ref s_GREATER), (.int (0 : Int32))]))
    refine Go.step (fun _ kt => XS.lconst X137.here hx rfl (hb hby at_38) kt) ?_
    show Go p.tables e below _ (T137.setTop (mkF m 39 #[.val (.int p1), .val (.int (4 : Int32)), .val (.ref s_GREATER), .val (.int (1 : Int32)), .val (.int (1 : Int32)), .unset] [(.long (0 : Int64)), (.long (1 : Int64)), (.ref s_GREATER), (.int (0 : Int32))]))
    obtain ⟨cq139, kq139, q139a, q139b, q139c⟩ := isOf hZ eh137 E_GREATER
    obtain ⟨_, _, ⟨T139, L139, k139, n139⟩, -, X139, ⟨Lc139, hQ139, l139, y139, z139⟩, st139⟩ := X137.virtualBack hx (y := (⟨"com/example/pech_david/pechdavid/model/Relation", "holds", "(JJ)Z"⟩ : MethodName)) (z := (⟨"com/example/pech_david/pechdavid/model/Relation", "holds", "(JJ)Z"⟩ : MethodName)) hown (mvT hZ (hw _ (List.mem_of_getElem? (i := 14) rfl))) (mvT hZ (hw _ (List.mem_of_getElem? (i := 15) rfl))) (notFace_of_selects (args := #[]) (mvT hZ (hw _ (List.mem_of_getElem? (i := 17) rfl)))) (mvT hZ (hw _ (List.mem_of_getElem? (i := 17) rfl))) (mvT hZ (hw _ (List.mem_of_getElem? (i := 16) rfl))) (by decide) (backOf (W := 1) (rmh4 l Z a0 hw [] s_GREATER (1 : Int64) (0 : Int64)  h0 n0 Z0 E_GREATER F_GREATER_ordinal ) hZ (hw _ (List.mem_of_getElem? (i := 18) rfl)) (hw _ (List.mem_of_getElem? (i := 6) rfl)) (by decide) (by decide)) q139a q139c (g := (mkF m 39 #[.val (.int p1), .val (.int (4 : Int32)), .val (.ref s_GREATER), .val (.int (1 : Int32)), .val (.int (1 : Int32)), .unset] [(.long (0 : Int64)), (.long (1 : Int64)), (.ref s_GREATER), (.int (0 : Int32))])) rfl (by rw [hml]; rfl) (Steps.refl _) (argsL := [(.long (1 : Int64)), (.long (0 : Int64))]) (rest := [(.int (0 : Int32))]) (lenOf pd_3 rfl) rfl (by show 2 * 0 + _ ≤ _; exact Nat.le_of_eq rfl) (hb hby at_39) (fun _ _ => ⟨rfl, eh137, (by decide : 0 + 0 ≤ _), (by decide : 0 + 0 ≤ _)⟩)
    dsimp only [Pt.U, Pt.locs, Pt.cells, Pt.slots] at X139 l139 y139 z139 st139 hQ139
    subst l139 y139 z139
    obtain ⟨rfl, N139q, eh139⟩ := hQ139
    have N139 := Fr.app N137 N139q
    refine Go.step (fun _ kt => st139.trans kt) ?_
    show Go p.tables e below _ (T139.setTop (mkF m 42 #[.val (.int p1), .val (.int (4 : Int32)), .val (.ref s_GREATER), .val (.int (1 : Int32)), .val (.int (1 : Int32)), .unset] [(.int (own_h4 (1 : Int64) (0 : Int64))), (.int (0 : Int32))]))
    have q140 : (own_h4 (1 : Int64) (0 : Int64)) = (1 : Int32) := by decide
    rw [q140]
    show Go p.tables e below _ (T139.setTop (mkF m 42 #[.val (.int p1), .val (.int (4 : Int32)), .val (.ref s_GREATER), .val (.int (1 : Int32)), .val (.int (1 : Int32)), .unset] [(.int (1 : Int32)), (.int (0 : Int32))]))
    refine Go.step (fun _ kt => XS.icmpNo X139.here hx rfl (hb hby at_42) rfl (feq (by decide : ¬ ((0 : Int32) = (1 : Int32)))).1 kt) ?_
    show Go p.tables e below _ (T139.setTop (mkF m 45 #[.val (.int p1), .val (.int (4 : Int32)), .val (.ref s_GREATER), .val (.int (1 : Int32)), .val (.int (1 : Int32)), .unset] []))
    refine Go.step (fun _ kt => XS.iconst X139.here hx rfl (hb hby at_45) kt) ?_
    show Go p.tables e below _ (T139.setTop (mkF m 46 #[.val (.int p1), .val (.int (4 : Int32)), .val (.ref s_GREATER), .val (.int (1 : Int32)), .val (.int (1 : Int32)), .unset] [(.int (1 : Int32))]))
    refine Go.step (fun _ kt => XS.goto X139.here hx rfl (pc0 := 46) (pc' := 50) rfl (hb hby at_46) (by decide) (by decide) kt) ?_
    show Go p.tables e below _ (T139.setTop (mkF m 50 #[.val (.int p1), .val (.int (4 : Int32)), .val (.ref s_GREATER), .val (.int (1 : Int32)), .val (.int (1 : Int32)), .unset] [(.int (1 : Int32))]))
    refine Go.step (fun _ kt => XS.istore X139.here hx rfl (hb hby at_50) rfl (l' := #[.val (.int p1), .val (.int (4 : Int32)), .val (.ref s_GREATER), .val (.int (1 : Int32)), .val (.int (1 : Int32)), .val (.int (1 : Int32))]) rfl kt) ?_
    show Go p.tables e below _ (T139.setTop (mkF m 52 #[.val (.int p1), .val (.int (4 : Int32)), .val (.ref s_GREATER), .val (.int (1 : Int32)), .val (.int (1 : Int32)), .val (.int (1 : Int32))] []))
    refine Go.step (fun _ kt => XS.iload X139.here hx rfl (hb hby at_52) rfl kt) ?_
    show Go p.tables e below _ (T139.setTop (mkF m 54 #[.val (.int p1), .val (.int (4 : Int32)), .val (.ref s_GREATER), .val (.int (1 : Int32)), .val (.int (1 : Int32)), .val (.int (1 : Int32))] [(.int (1 : Int32))]))
    refine Go.step (fun _ kt => XS.iloadN X139.here hx rfl (hb hby at_54) rfl kt) ?_
    show Go p.tables e below _ (T139.setTop (mkF m 55 #[.val (.int p1), .val (.int (4 : Int32)), .val (.ref s_GREATER), .val (.int (1 : Int32)), .val (.int (1 : Int32)), .val (.int (1 : Int32))] [(.int (1 : Int32)), (.int (1 : Int32))]))
    refine Go.step (fun _ kt => XS.icmpNo X139.here hx rfl (hb hby at_55) rfl (teq (by decide : (1 : Int32) = (1 : Int32))).2 kt) ?_
    show Go p.tables e below _ (T139.setTop (mkF m 58 #[.val (.int p1), .val (.int (4 : Int32)), .val (.ref s_GREATER), .val (.int (1 : Int32)), .val (.int (1 : Int32)), .val (.int (1 : Int32))] []))
    refine Go.step (fun _ kt => XS.iload X139.here hx rfl (hb hby at_58) rfl kt) ?_
    show Go p.tables e below _ (T139.setTop (mkF m 60 #[.val (.int p1), .val (.int (4 : Int32)), .val (.ref s_GREATER), .val (.int (1 : Int32)), .val (.int (1 : Int32)), .val (.int (1 : Int32))] [(.int (1 : Int32))]))
    refine Go.step (fun _ kt => XS.iload X139.here hx rfl (hb hby at_60) rfl kt) ?_
    show Go p.tables e below _ (T139.setTop (mkF m 62 #[.val (.int p1), .val (.int (4 : Int32)), .val (.ref s_GREATER), .val (.int (1 : Int32)), .val (.int (1 : Int32)), .val (.int (1 : Int32))] [(.int (1 : Int32)), (.int (1 : Int32))]))
    refine Go.step (fun _ kt => XS.icmpNo X139.here hx rfl (hb hby at_62) rfl (teq (by decide : (1 : Int32) = (1 : Int32))).2 kt) ?_
    show Go p.tables e below _ (T139.setTop (mkF m 65 #[.val (.int p1), .val (.int (4 : Int32)), .val (.ref s_GREATER), .val (.int (1 : Int32)), .val (.int (1 : Int32)), .val (.int (1 : Int32))] []))
    refine Go.step (fun _ kt => XS.iconst X139.here hx rfl (hb hby at_65) kt) ?_
    show Go p.tables e below _ (T139.setTop (mkF m 66 #[.val (.int p1), .val (.int (4 : Int32)), .val (.ref s_GREATER), .val (.int (1 : Int32)), .val (.int (1 : Int32)), .val (.int (1 : Int32))] [(.int (1 : Int32))]))
    refine Go.step (fun _ kt => XS.goto X139.here hx rfl (pc0 := 66) (pc' := 70) rfl (hb hby at_66) (by decide) (by decide) kt) ?_
    show Go p.tables e below _ (T139.setTop (mkF m 70 #[.val (.int p1), .val (.int (4 : Int32)), .val (.ref s_GREATER), .val (.int (1 : Int32)), .val (.int (1 : Int32)), .val (.int (1 : Int32))] [(.int (1 : Int32))]))
    obtain ⟨fs, hr, hrun, hended, hW, hsame⟩ := X139.leave (v := some (.int (1 : Int32))) (fun h => by rw [Bd.returns] at h; cases h)
    refine ⟨_, _, retN X139 hx (t := .boolean) Bd.returns (by simp) (hb hby at_70) hr, hrun, hended, _, _, rfl, ?_, ⟨_, rfl⟩, hW, hsame.mono (by decide) (by decide)⟩
    show Qrm0 Z p1 s_EQUAL s_NOT_EQUAL s_LESS s_LESS_OR_EQUAL s_GREATER s_GREATER_OR_EQUAL h0 n0 _ T139.heap _
    rw [eh139]
    exact ⟨rfl, N139⟩
  · rw [hk]
    show Go p.tables e below _ (s₁.setTop (mkF m 8 #[.val (.int p1), .val (.int (5 : Int32)), .unset, .unset, .unset, .unset] []))
    refine Go.step (fun _ kt => XS.iloadN X0.here hx rfl (hb hby at_8) rfl kt) ?_
    show Go p.tables e below _ (s₁.setTop (mkF m 9 #[.val (.int p1), .val (.int (5 : Int32)), .unset, .unset, .unset, .unset] [(.int (5 : Int32))]))
    obtain ⟨_, _, ⟨T141, L141, k141, n141⟩, -, X141, ⟨Lc141, hQ141, l141, y141, z141⟩, st141⟩ := Jvm.LawKit.callS X0 hx (y := (⟨"com/example/pech_david/pechdavid/model/RelationOrdersPinLaw", "pick", "(I)Lcom/example/pech_david/pechdavid/model/Relation;"⟩ : MethodName)) hown (mvT hZ (hw _ (List.mem_of_getElem? (i := 1) rfl))) (mvT hZ (hw _ (List.mem_of_getElem? (i := 2) rfl))) (mvT hZ (hw _ (List.mem_of_getElem? (i := 3) rfl))) (mvT hZ (hw _ (List.mem_of_getElem? (i := 4) rfl))) (by decide) (backOf (W := 0) (rm1 l Z a0 hw [] (5 : Int32) s_EQUAL s_NOT_EQUAL s_LESS s_LESS_OR_EQUAL s_GREATER s_GREATER_OR_EQUAL h0 n0 Z0 S_EQUAL S_NOT_EQUAL S_LESS S_LESS_OR_EQUAL S_GREATER S_GREATER_OR_EQUAL ) hZ (hw _ (List.mem_of_getElem? (i := 4) rfl)) (hw _ (List.mem_of_getElem? (i := 3) rfl)) (by decide) (by decide)) (g := (mkF m 9 #[.val (.int p1), .val (.int (5 : Int32)), .unset, .unset, .unset, .unset] [(.int (5 : Int32))])) rfl (by rw [hml]; rfl) (argsL := [(.int (5 : Int32))]) (rest := []) (lenOf pd_1 rfl) rfl (by show 2 * 0 + _ ≤ _; exact Nat.le_of_eq rfl) (hb hby at_9) (fun _ _ => ⟨rfl, e0, (by decide : 0 + 0 ≤ _), (by decide : 0 + 0 ≤ _)⟩)
    dsimp only [Pt.U, Pt.locs, Pt.cells, Pt.slots] at X141 l141 y141 z141 st141 hQ141
    subst l141 y141 z141
    obtain ⟨rfl, N141q, eh141⟩ := hQ141
    have N141 := Fr.app N0 N141q
    refine Go.step st141 ?_
    show Go p.tables e below _ (T141.setTop (mkF m 12 #[.val (.int p1), .val (.int (5 : Int32)), .unset, .unset, .unset, .unset] [(.ref (own_pick (5 : Int32) s_EQUAL s_NOT_EQUAL s_LESS s_LESS_OR_EQUAL s_GREATER s_GREATER_OR_EQUAL))]))
    have q142 : (own_pick (5 : Int32) s_EQUAL s_NOT_EQUAL s_LESS s_LESS_OR_EQUAL s_GREATER s_GREATER_OR_EQUAL) = s_GREATER_OR_EQUAL := rfl
    rw [q142]
    show Go p.tables e below _ (T141.setTop (mkF m 12 #[.val (.int p1), .val (.int (5 : Int32)), .unset, .unset, .unset, .unset] [(.ref s_GREATER_OR_EQUAL)]))
    refine Go.step (fun _ kt => XS.astoreN X141.here hx rfl (hb hby at_12) rfl rfl (l' := #[.val (.int p1), .val (.int (5 : Int32)), .val (.ref s_GREATER_OR_EQUAL), .unset, .unset, .unset]) rfl kt) ?_
    show Go p.tables e below _ (T141.setTop (mkF m 13 #[.val (.int p1), .val (.int (5 : Int32)), .val (.ref s_GREATER_OR_EQUAL), .unset, .unset, .unset] []))
    refine Go.step (fun _ kt => XS.iloadN X141.here hx rfl (hb hby at_13) rfl kt) ?_
    show Go p.tables e below _ (T141.setTop (mkF m 14 #[.val (.int p1), .val (.int (5 : Int32)), .val (.ref s_GREATER_OR_EQUAL), .unset, .unset, .unset] [(.int (5 : Int32))]))
    refine Go.step (fun _ kt => XS.iconst X141.here hx rfl (hb hby at_14) kt) ?_
    show Go p.tables e below _ (T141.setTop (mkF m 15 #[.val (.int p1), .val (.int (5 : Int32)), .val (.ref s_GREATER_OR_EQUAL), .unset, .unset, .unset] [(.int (2 : Int32)), (.int (5 : Int32))]))
    refine Go.step (fun _ kt => XS.icmpNo X141.here hx rfl (hb hby at_15) rfl (flt (by decide : ¬ ((5 : Int32) < (2 : Int32)))).1 kt) ?_
    show Go p.tables e below _ (T141.setTop (mkF m 18 #[.val (.int p1), .val (.int (5 : Int32)), .val (.ref s_GREATER_OR_EQUAL), .unset, .unset, .unset] []))
    refine Go.step (fun _ kt => XS.iconst X141.here hx rfl (hb hby at_18) kt) ?_
    show Go p.tables e below _ (T141.setTop (mkF m 19 #[.val (.int p1), .val (.int (5 : Int32)), .val (.ref s_GREATER_OR_EQUAL), .unset, .unset, .unset] [(.int (1 : Int32))]))
    refine Go.step (fun _ kt => XS.goto X141.here hx rfl (pc0 := 19) (pc' := 23) rfl (hb hby at_19) (by decide) (by decide) kt) ?_
    show Go p.tables e below _ (T141.setTop (mkF m 23 #[.val (.int p1), .val (.int (5 : Int32)), .val (.ref s_GREATER_OR_EQUAL), .unset, .unset, .unset] [(.int (1 : Int32))]))
    refine Go.step (fun _ kt => XS.istoreN X141.here hx rfl (hb hby at_23) rfl (l' := #[.val (.int p1), .val (.int (5 : Int32)), .val (.ref s_GREATER_OR_EQUAL), .val (.int (1 : Int32)), .unset, .unset]) rfl kt) ?_
    show Go p.tables e below _ (T141.setTop (mkF m 24 #[.val (.int p1), .val (.int (5 : Int32)), .val (.ref s_GREATER_OR_EQUAL), .val (.int (1 : Int32)), .unset, .unset] []))
    refine Go.step (fun _ kt => XS.aloadN X141.here hx rfl (hb hby at_24) rfl rfl kt) ?_
    show Go p.tables e below _ (T141.setTop (mkF m 25 #[.val (.int p1), .val (.int (5 : Int32)), .val (.ref s_GREATER_OR_EQUAL), .val (.int (1 : Int32)), .unset, .unset] [(.ref s_GREATER_OR_EQUAL)]))
    obtain ⟨cq143, kq143, q143a, q143b, q143c⟩ := isOf hZ eh141 E_GREATER_OR_EQUAL
    obtain ⟨_, _, ⟨T143, L143, k143, n143⟩, -, X143, ⟨Lc143, hQ143, l143, y143, z143⟩, st143⟩ := X141.virtualBack hx (y := (⟨"com/example/pech_david/pechdavid/model/Relation", "orders", "()Z"⟩ : MethodName)) (z := (⟨"com/example/pech_david/pechdavid/model/Relation", "orders", "()Z"⟩ : MethodName)) hown (mvT hZ (hw _ (List.mem_of_getElem? (i := 8) rfl))) (mvT hZ (hw _ (List.mem_of_getElem? (i := 9) rfl))) (notFace_of_selects (args := #[]) (mvT hZ (hw _ (List.mem_of_getElem? (i := 11) rfl)))) (mvT hZ (hw _ (List.mem_of_getElem? (i := 11) rfl))) (mvT hZ (hw _ (List.mem_of_getElem? (i := 10) rfl))) (by decide) (backOf (W := 0) (rm2 l Z a0 hw [] s_GREATER_OR_EQUAL s_EQUAL s_NOT_EQUAL h0 n0 Z0 S_EQUAL S_NOT_EQUAL ) hZ (hw _ (List.mem_of_getElem? (i := 12) rfl)) (hw _ (List.mem_of_getElem? (i := 6) rfl)) (by decide) (by decide)) q143a q143c (g := (mkF m 25 #[.val (.int p1), .val (.int (5 : Int32)), .val (.ref s_GREATER_OR_EQUAL), .val (.int (1 : Int32)), .unset, .unset] [(.ref s_GREATER_OR_EQUAL)])) rfl (by rw [hml]; rfl) (Steps.refl _) (argsL := []) (rest := []) (lenOf pd_2 rfl) rfl (by show 2 * 0 + _ ≤ _; exact Nat.le_of_eq rfl) (hb hby at_25) (fun _ _ => ⟨rfl, eh141, (by decide : 0 + 0 ≤ _), (by decide : 0 + 0 ≤ _)⟩)
    dsimp only [Pt.U, Pt.locs, Pt.cells, Pt.slots] at X143 l143 y143 z143 st143 hQ143
    subst l143 y143 z143
    obtain ⟨rfl, N143q, eh143⟩ := hQ143
    have N143 := Fr.app N141 N143q
    refine Go.step (fun _ kt => st143.trans kt) ?_
    show Go p.tables e below _ (T143.setTop (mkF m 28 #[.val (.int p1), .val (.int (5 : Int32)), .val (.ref s_GREATER_OR_EQUAL), .val (.int (1 : Int32)), .unset, .unset] [(.int (own_ord s_GREATER_OR_EQUAL s_EQUAL s_NOT_EQUAL))]))
    have q144 : (own_ord s_GREATER_OR_EQUAL s_EQUAL s_NOT_EQUAL) = (1 : Int32) := by simp [own_ord, ne_5_0, ne_5_1]
    rw [q144]
    show Go p.tables e below _ (T143.setTop (mkF m 28 #[.val (.int p1), .val (.int (5 : Int32)), .val (.ref s_GREATER_OR_EQUAL), .val (.int (1 : Int32)), .unset, .unset] [(.int (1 : Int32))]))
    refine Go.step (fun _ kt => XS.istore X143.here hx rfl (hb hby at_28) rfl (l' := #[.val (.int p1), .val (.int (5 : Int32)), .val (.ref s_GREATER_OR_EQUAL), .val (.int (1 : Int32)), .val (.int (1 : Int32)), .unset]) rfl kt) ?_
    show Go p.tables e below _ (T143.setTop (mkF m 30 #[.val (.int p1), .val (.int (5 : Int32)), .val (.ref s_GREATER_OR_EQUAL), .val (.int (1 : Int32)), .val (.int (1 : Int32)), .unset] []))
    refine Go.step (fun _ kt => XS.aloadN X143.here hx rfl (hb hby at_30) rfl rfl kt) ?_
    show Go p.tables e below _ (T143.setTop (mkF m 31 #[.val (.int p1), .val (.int (5 : Int32)), .val (.ref s_GREATER_OR_EQUAL), .val (.int (1 : Int32)), .val (.int (1 : Int32)), .unset] [(.ref s_GREATER_OR_EQUAL)]))
    refine Go.step (fun _ kt => XS.lconst X143.here hx rfl (hb hby at_31) kt) ?_
    show Go p.tables e below _ (T143.setTop (mkF m 32 #[.val (.int p1), .val (.int (5 : Int32)), .val (.ref s_GREATER_OR_EQUAL), .val (.int (1 : Int32)), .val (.int (1 : Int32)), .unset] [(.long (0 : Int64)), (.ref s_GREATER_OR_EQUAL)]))
    refine Go.step (fun _ kt => XS.lconst X143.here hx rfl (hb hby at_32) kt) ?_
    show Go p.tables e below _ (T143.setTop (mkF m 33 #[.val (.int p1), .val (.int (5 : Int32)), .val (.ref s_GREATER_OR_EQUAL), .val (.int (1 : Int32)), .val (.int (1 : Int32)), .unset] [(.long (1 : Int64)), (.long (0 : Int64)), (.ref s_GREATER_OR_EQUAL)]))
    obtain ⟨cq145, kq145, q145a, q145b, q145c⟩ := isOf hZ eh143 E_GREATER_OR_EQUAL
    obtain ⟨_, _, ⟨T145, L145, k145, n145⟩, -, X145, ⟨Lc145, hQ145, l145, y145, z145⟩, st145⟩ := X143.virtualBack hx (y := (⟨"com/example/pech_david/pechdavid/model/Relation", "holds", "(JJ)Z"⟩ : MethodName)) (z := (⟨"com/example/pech_david/pechdavid/model/Relation", "holds", "(JJ)Z"⟩ : MethodName)) hown (mvT hZ (hw _ (List.mem_of_getElem? (i := 14) rfl))) (mvT hZ (hw _ (List.mem_of_getElem? (i := 15) rfl))) (notFace_of_selects (args := #[]) (mvT hZ (hw _ (List.mem_of_getElem? (i := 17) rfl)))) (mvT hZ (hw _ (List.mem_of_getElem? (i := 17) rfl))) (mvT hZ (hw _ (List.mem_of_getElem? (i := 16) rfl))) (by decide) (backOf (W := 0) (rmh5 l Z a0 hw [] s_GREATER_OR_EQUAL (0 : Int64) (1 : Int64)  h0 n0 Z0 E_GREATER_OR_EQUAL F_GREATER_OR_EQUAL_ordinal ) hZ (hw _ (List.mem_of_getElem? (i := 18) rfl)) (hw _ (List.mem_of_getElem? (i := 6) rfl)) (by decide) (by decide)) q145a q145c (g := (mkF m 33 #[.val (.int p1), .val (.int (5 : Int32)), .val (.ref s_GREATER_OR_EQUAL), .val (.int (1 : Int32)), .val (.int (1 : Int32)), .unset] [(.long (1 : Int64)), (.long (0 : Int64)), (.ref s_GREATER_OR_EQUAL)])) rfl (by rw [hml]; rfl) (Steps.refl _) (argsL := [(.long (0 : Int64)), (.long (1 : Int64))]) (rest := []) (lenOf pd_3 rfl) rfl (by show 2 * 0 + _ ≤ _; exact Nat.le_of_eq rfl) (hb hby at_33) (fun _ _ => ⟨rfl, eh143, (by decide : 0 + 0 ≤ _), (by decide : 0 + 0 ≤ _)⟩)
    dsimp only [Pt.U, Pt.locs, Pt.cells, Pt.slots] at X145 l145 y145 z145 st145 hQ145
    subst l145 y145 z145
    obtain ⟨rfl, N145q, eh145⟩ := hQ145
    have N145 := Fr.app N143 N145q
    refine Go.step (fun _ kt => st145.trans kt) ?_
    show Go p.tables e below _ (T145.setTop (mkF m 36 #[.val (.int p1), .val (.int (5 : Int32)), .val (.ref s_GREATER_OR_EQUAL), .val (.int (1 : Int32)), .val (.int (1 : Int32)), .unset] [(.int (own_h5 (0 : Int64) (1 : Int64)))]))
    have q146 : (own_h5 (0 : Int64) (1 : Int64)) = (0 : Int32) := by decide
    rw [q146]
    show Go p.tables e below _ (T145.setTop (mkF m 36 #[.val (.int p1), .val (.int (5 : Int32)), .val (.ref s_GREATER_OR_EQUAL), .val (.int (1 : Int32)), .val (.int (1 : Int32)), .unset] [(.int (0 : Int32))]))
    refine Go.step (fun _ kt => XS.aloadN X145.here hx rfl (hb hby at_36) rfl rfl kt) ?_
    show Go p.tables e below _ (T145.setTop (mkF m 37 #[.val (.int p1), .val (.int (5 : Int32)), .val (.ref s_GREATER_OR_EQUAL), .val (.int (1 : Int32)), .val (.int (1 : Int32)), .unset] [(.ref s_GREATER_OR_EQUAL), (.int (0 : Int32))]))
    refine Go.step (fun _ kt => XS.lconst X145.here hx rfl (hb hby at_37) kt) ?_
    show Go p.tables e below _ (T145.setTop (mkF m 38 #[.val (.int p1), .val (.int (5 : Int32)), .val (.ref s_GREATER_OR_EQUAL), .val (.int (1 : Int32)), .val (.int (1 : Int32)), .unset] [(.long (1 : Int64)), (.ref s_GREATER_OR_EQUAL), (.int (0 : Int32))]))
    refine Go.step (fun _ kt => XS.lconst X145.here hx rfl (hb hby at_38) kt) ?_
    show Go p.tables e below _ (T145.setTop (mkF m 39 #[.val (.int p1), .val (.int (5 : Int32)), .val (.ref s_GREATER_OR_EQUAL), .val (.int (1 : Int32)), .val (.int (1 : Int32)), .unset] [(.long (0 : Int64)), (.long (1 : Int64)), (.ref s_GREATER_OR_EQUAL), (.int (0 : Int32))]))
    obtain ⟨cq147, kq147, q147a, q147b, q147c⟩ := isOf hZ eh145 E_GREATER_OR_EQUAL
    obtain ⟨_, _, ⟨T147, L147, k147, n147⟩, -, X147, ⟨Lc147, hQ147, l147, y147, z147⟩, st147⟩ := X145.virtualBack hx (y := (⟨"com/example/pech_david/pechdavid/model/Relation", "holds", "(JJ)Z"⟩ : MethodName)) (z := (⟨"com/example/pech_david/pechdavid/model/Relation", "holds", "(JJ)Z"⟩ : MethodName)) hown (mvT hZ (hw _ (List.mem_of_getElem? (i := 14) rfl))) (mvT hZ (hw _ (List.mem_of_getElem? (i := 15) rfl))) (notFace_of_selects (args := #[]) (mvT hZ (hw _ (List.mem_of_getElem? (i := 17) rfl)))) (mvT hZ (hw _ (List.mem_of_getElem? (i := 17) rfl))) (mvT hZ (hw _ (List.mem_of_getElem? (i := 16) rfl))) (by decide) (backOf (W := 1) (rmh5 l Z a0 hw [] s_GREATER_OR_EQUAL (1 : Int64) (0 : Int64)  h0 n0 Z0 E_GREATER_OR_EQUAL F_GREATER_OR_EQUAL_ordinal ) hZ (hw _ (List.mem_of_getElem? (i := 18) rfl)) (hw _ (List.mem_of_getElem? (i := 6) rfl)) (by decide) (by decide)) q147a q147c (g := (mkF m 39 #[.val (.int p1), .val (.int (5 : Int32)), .val (.ref s_GREATER_OR_EQUAL), .val (.int (1 : Int32)), .val (.int (1 : Int32)), .unset] [(.long (0 : Int64)), (.long (1 : Int64)), (.ref s_GREATER_OR_EQUAL), (.int (0 : Int32))])) rfl (by rw [hml]; rfl) (Steps.refl _) (argsL := [(.long (1 : Int64)), (.long (0 : Int64))]) (rest := [(.int (0 : Int32))]) (lenOf pd_3 rfl) rfl (by show 2 * 0 + _ ≤ _; exact Nat.le_of_eq rfl) (hb hby at_39) (fun _ _ => ⟨rfl, eh145, (by decide : 0 + 0 ≤ _), (by decide : 0 + 0 ≤ _)⟩)
    dsimp only [Pt.U, Pt.locs, Pt.cells, Pt.slots] at X147 l147 y147 z147 st147 hQ147
    subst l147 y147 z147
    obtain ⟨rfl, N147q, eh147⟩ := hQ147
    have N147 := Fr.app N145 N147q
    refine Go.step (fun _ kt => st147.trans kt) ?_
    show Go p.tables e below _ (T147.setTop (mkF m 42 #[.val (.int p1), .val (.int (5 : Int32)), .val (.ref s_GREATER_OR_EQUAL), .val (.int (1 : Int32)), .val (.int (1 : Int32)), .unset] [(.int (own_h5 (1 : Int64) (0 : Int64))), (.int (0 : Int32))]))
    have q148 : (own_h5 (1 : Int64) (0 : Int64)) = (1 : Int32) := by decide
    rw [q148]
    show Go p.tables e below _ (T147.setTop (mkF m 42 #[.val (.int p1), .val (.int (5 : Int32)), .val (.ref s_GREATER_OR_EQUAL), .val (.int (1 : Int32)), .val (.int (1 : Int32)), .unset] [(.int (1 : Int32)), (.int (0 : Int32))]))
    refine Go.step (fun _ kt => XS.icmpNo X147.here hx rfl (hb hby at_42) rfl (feq (by decide : ¬ ((0 : Int32) = (1 : Int32)))).1 kt) ?_
    show Go p.tables e below _ (T147.setTop (mkF m 45 #[.val (.int p1), .val (.int (5 : Int32)), .val (.ref s_GREATER_OR_EQUAL), .val (.int (1 : Int32)), .val (.int (1 : Int32)), .unset] []))
    refine Go.step (fun _ kt => XS.iconst X147.here hx rfl (hb hby at_45) kt) ?_
    show Go p.tables e below _ (T147.setTop (mkF m 46 #[.val (.int p1), .val (.int (5 : Int32)), .val (.ref s_GREATER_OR_EQUAL), .val (.int (1 : Int32)), .val (.int (1 : Int32)), .unset] [(.int (1 : Int32))]))
    refine Go.step (fun _ kt => XS.goto X147.here hx rfl (pc0 := 46) (pc' := 50) rfl (hb hby at_46) (by decide) (by decide) kt) ?_
    show Go p.tables e below _ (T147.setTop (mkF m 50 #[.val (.int p1), .val (.int (5 : Int32)), .val (.ref s_GREATER_OR_EQUAL), .val (.int (1 : Int32)), .val (.int (1 : Int32)), .unset] [(.int (1 : Int32))]))
    refine Go.step (fun _ kt => XS.istore X147.here hx rfl (hb hby at_50) rfl (l' := #[.val (.int p1), .val (.int (5 : Int32)), .val (.ref s_GREATER_OR_EQUAL), .val (.int (1 : Int32)), .val (.int (1 : Int32)), .val (.int (1 : Int32))]) rfl kt) ?_
    show Go p.tables e below _ (T147.setTop (mkF m 52 #[.val (.int p1), .val (.int (5 : Int32)), .val (.ref s_GREATER_OR_EQUAL), .val (.int (1 : Int32)), .val (.int (1 : Int32)), .val (.int (1 : Int32))] []))
    refine Go.step (fun _ kt => XS.iload X147.here hx rfl (hb hby at_52) rfl kt) ?_
    show Go p.tables e below _ (T147.setTop (mkF m 54 #[.val (.int p1), .val (.int (5 : Int32)), .val (.ref s_GREATER_OR_EQUAL), .val (.int (1 : Int32)), .val (.int (1 : Int32)), .val (.int (1 : Int32))] [(.int (1 : Int32))]))
    refine Go.step (fun _ kt => XS.iloadN X147.here hx rfl (hb hby at_54) rfl kt) ?_
    show Go p.tables e below _ (T147.setTop (mkF m 55 #[.val (.int p1), .val (.int (5 : Int32)), .val (.ref s_GREATER_OR_EQUAL), .val (.int (1 : Int32)), .val (.int (1 : Int32)), .val (.int (1 : Int32))] [(.int (1 : Int32)), (.int (1 : Int32))]))
    refine Go.step (fun _ kt => XS.icmpNo X147.here hx rfl (hb hby at_55) rfl (teq (by decide : (1 : Int32) = (1 : Int32))).2 kt) ?_
    show Go p.tables e below _ (T147.setTop (mkF m 58 #[.val (.int p1), .val (.int (5 : Int32)), .val (.ref s_GREATER_OR_EQUAL), .val (.int (1 : Int32)), .val (.int (1 : Int32)), .val (.int (1 : Int32))] []))
    refine Go.step (fun _ kt => XS.iload X147.here hx rfl (hb hby at_58) rfl kt) ?_
    show Go p.tables e below _ (T147.setTop (mkF m 60 #[.val (.int p1), .val (.int (5 : Int32)), .val (.ref s_GREATER_OR_EQUAL), .val (.int (1 : Int32)), .val (.int (1 : Int32)), .val (.int (1 : Int32))] [(.int (1 : Int32))]))
    refine Go.step (fun _ kt => XS.iload X147.here hx rfl (hb hby at_60) rfl kt) ?_
    show Go p.tables e below _ (T147.setTop (mkF m 62 #[.val (.int p1), .val (.int (5 : Int32)), .val (.ref s_GREATER_OR_EQUAL), .val (.int (1 : Int32)), .val (.int (1 : Int32)), .val (.int (1 : Int32))] [(.int (1 : Int32)), (.int (1 : Int32))]))
    refine Go.step (fun _ kt => XS.icmpNo X147.here hx rfl (hb hby at_62) rfl (teq (by decide : (1 : Int32) = (1 : Int32))).2 kt) ?_
    show Go p.tables e below _ (T147.setTop (mkF m 65 #[.val (.int p1), .val (.int (5 : Int32)), .val (.ref s_GREATER_OR_EQUAL), .val (.int (1 : Int32)), .val (.int (1 : Int32)), .val (.int (1 : Int32))] []))
    refine Go.step (fun _ kt => XS.iconst X147.here hx rfl (hb hby at_65) kt) ?_
    show Go p.tables e below _ (T147.setTop (mkF m 66 #[.val (.int p1), .val (.int (5 : Int32)), .val (.ref s_GREATER_OR_EQUAL), .val (.int (1 : Int32)), .val (.int (1 : Int32)), .val (.int (1 : Int32))] [(.int (1 : Int32))]))
    refine Go.step (fun _ kt => XS.goto X147.here hx rfl (pc0 := 66) (pc' := 70) rfl (hb hby at_66) (by decide) (by decide) kt) ?_
    show Go p.tables e below _ (T147.setTop (mkF m 70 #[.val (.int p1), .val (.int (5 : Int32)), .val (.ref s_GREATER_OR_EQUAL), .val (.int (1 : Int32)), .val (.int (1 : Int32)), .val (.int (1 : Int32))] [(.int (1 : Int32))]))
    obtain ⟨fs, hr, hrun, hended, hW, hsame⟩ := X147.leave (v := some (.int (1 : Int32))) (fun h => by rw [Bd.returns] at h; cases h)
    refine ⟨_, _, retN X147 hx (t := .boolean) Bd.returns (by simp) (hb hby at_70) hr, hrun, hended, _, _, rfl, ?_, ⟨_, rfl⟩, hW, hsame.mono (by decide) (by decide)⟩
    show Qrm0 Z p1 s_EQUAL s_NOT_EQUAL s_LESS s_LESS_OR_EQUAL s_GREATER s_GREATER_OR_EQUAL h0 n0 _ T147.heap _
    rw [eh147]
    exact ⟨rfl, N147⟩
set_option maxRecDepth 65536 in
set_option maxHeartbeats 40000000 in
theorem comes_1 {Post : Tables → Env → Array Value → State → Outcome → State → Prop} (hpost : ∀ tb e args s v u, (limb_1_1.after args s (.returned v) u = true ∧ limb_1_2.after args s (.returned v) u = true ∧ True) → FrameEnd s (.returned v) u (Jvm.fieldLocs frame_1_writes args s ++ Jvm.arrayLocs frame_1_arrays args s ++ Jvm.staticLocs frame_1_statics s) 0 0 → Post tb e args s (.returned v) u) :
    ArmFor flags0 classFile x code maxLocals ret World_1 tables_1 room_1 Calls_1 rest_1 Pre_1 Post := by
  intro l hfl _ _ p e ha hc hk s m args below hf hA hF happ hP
  obtain ⟨hcalls, hrest, hpre⟩ := hP
  obtain ⟨-, -, -, hnamed, -, -, -, hat⟩ := (Spec.applies_iff hf).mp happ
  obtain ⟨hg, hn⟩ := and_e (Cond.before_iff.mp (show (Jvm.Cond.and given_1 narrow_1).before args s = true from hpre))
  obtain ⟨hcount, hg1⟩ := and_e hg
  have ga0 := hg1
  obtain ⟨w0, rfl⟩ : ∃ w0 : Value, args = #[w0] := by
    have hs : args.size = 1 := by simpa [Cond.value, given_1] using hcount
    obtain ⟨L⟩ := args
    match L, hs with
    | [w0], _ => exact ⟨w0, rfl⟩
  have hw := fun d (hd : d ∈ tables_1) => atoms_spec (ws := Jvm.Cond.code x code maxLocals ret :: tables_1) hat d (List.mem_cons_of_mem _ hd)
  have hfit : Fit s := fun {y c} hc i hi => by
    obtain ⟨ha, rfl⟩ := Array.getElem?_eq_some_iff.mp hc
    have q := List.all_eq_true.mp ((Array.all_eq_true_iff_forall_mem.mp hF) _ (Array.getElem_mem ha)) i (List.mem_range.mpr hi)
    simpa [Array.getElem?_eq_getElem hi] using q
  obtain ⟨i0, ei0⟩ := is_v ga0
  obtain rfl : w0 = (.int i0) := Option.some.inj ei0
  obtain ⟨nq0, hn1⟩ := and_e hn
  obtain ⟨nq1, hn2⟩ := and_e hn1
  obtain ⟨nq2, hn3⟩ := and_e hn2
  obtain ⟨nq3, hn4⟩ := and_e hn3
  obtain ⟨nq4, hn5⟩ := and_e hn4
  obtain ⟨nq5, hn6⟩ := and_e hn5
  obtain ⟨nq6, hn7⟩ := and_e hn6
  obtain ⟨nq7, hn8⟩ := and_e hn7
  obtain ⟨nq8, hn9⟩ := and_e hn8
  obtain ⟨nq9, hn10⟩ := and_e hn9
  obtain ⟨nq10, hn11⟩ := and_e hn10
  have nq11 := hn11
  obtain ⟨s_EQUAL, ev_EQUAL⟩ := exa_v nq0
  have S_EQUAL : Sta s s.heap "com/example/pech_david/pechdavid/model/Relation" "EQUAL" "Lcom/example/pech_david/pechdavid/model/Relation;" (.ref s_EQUAL) := Sta.start ev_EQUAL (Or.inr ⟨(hw _ (List.mem_of_getElem? (i := 6) rfl)), (hw _ (List.mem_of_getElem? (i := 7) rfl))⟩)
  have E_EQUAL : Exa s s.heap s_EQUAL "com/example/pech_david/pechdavid/model/Relation" := Exa.start ev_EQUAL nq0
  have F_EQUAL_ordinal : Fld s s.heap s_EQUAL "java/lang/Enum" "ordinal" "I" (.int (0 : Int32)) := Fld.start ((fld_at ev_EQUAL).symm.trans (own_eqI nq1))
  obtain ⟨s_LESS_OR_EQUAL, ev_LESS_OR_EQUAL⟩ := exa_v nq2
  have S_LESS_OR_EQUAL : Sta s s.heap "com/example/pech_david/pechdavid/model/Relation" "LESS_OR_EQUAL" "Lcom/example/pech_david/pechdavid/model/Relation;" (.ref s_LESS_OR_EQUAL) := Sta.start ev_LESS_OR_EQUAL (Or.inr ⟨(hw _ (List.mem_of_getElem? (i := 6) rfl)), (hw _ (List.mem_of_getElem? (i := 29) rfl))⟩)
  have E_LESS_OR_EQUAL : Exa s s.heap s_LESS_OR_EQUAL "com/example/pech_david/pechdavid/model/Relation" := Exa.start ev_LESS_OR_EQUAL nq2
  have F_LESS_OR_EQUAL_ordinal : Fld s s.heap s_LESS_OR_EQUAL "java/lang/Enum" "ordinal" "I" (.int (3 : Int32)) := Fld.start ((fld_at ev_LESS_OR_EQUAL).symm.trans (own_eqI nq3))
  obtain ⟨s_NOT_EQUAL, ev_NOT_EQUAL⟩ := exa_v nq4
  have S_NOT_EQUAL : Sta s s.heap "com/example/pech_david/pechdavid/model/Relation" "NOT_EQUAL" "Lcom/example/pech_david/pechdavid/model/Relation;" (.ref s_NOT_EQUAL) := Sta.start ev_NOT_EQUAL (Or.inr ⟨(hw _ (List.mem_of_getElem? (i := 6) rfl)), (hw _ (List.mem_of_getElem? (i := 31) rfl))⟩)
  have E_NOT_EQUAL : Exa s s.heap s_NOT_EQUAL "com/example/pech_david/pechdavid/model/Relation" := Exa.start ev_NOT_EQUAL nq4
  have F_NOT_EQUAL_ordinal : Fld s s.heap s_NOT_EQUAL "java/lang/Enum" "ordinal" "I" (.int (1 : Int32)) := Fld.start ((fld_at ev_NOT_EQUAL).symm.trans (own_eqI nq5))
  obtain ⟨s_LESS, ev_LESS⟩ := exa_v nq6
  have S_LESS : Sta s s.heap "com/example/pech_david/pechdavid/model/Relation" "LESS" "Lcom/example/pech_david/pechdavid/model/Relation;" (.ref s_LESS) := Sta.start ev_LESS (Or.inr ⟨(hw _ (List.mem_of_getElem? (i := 6) rfl)), (hw _ (List.mem_of_getElem? (i := 33) rfl))⟩)
  have E_LESS : Exa s s.heap s_LESS "com/example/pech_david/pechdavid/model/Relation" := Exa.start ev_LESS nq6
  have F_LESS_ordinal : Fld s s.heap s_LESS "java/lang/Enum" "ordinal" "I" (.int (2 : Int32)) := Fld.start ((fld_at ev_LESS).symm.trans (own_eqI nq7))
  obtain ⟨s_GREATER_OR_EQUAL, ev_GREATER_OR_EQUAL⟩ := exa_v nq8
  have S_GREATER_OR_EQUAL : Sta s s.heap "com/example/pech_david/pechdavid/model/Relation" "GREATER_OR_EQUAL" "Lcom/example/pech_david/pechdavid/model/Relation;" (.ref s_GREATER_OR_EQUAL) := Sta.start ev_GREATER_OR_EQUAL (Or.inr ⟨(hw _ (List.mem_of_getElem? (i := 6) rfl)), (hw _ (List.mem_of_getElem? (i := 36) rfl))⟩)
  have E_GREATER_OR_EQUAL : Exa s s.heap s_GREATER_OR_EQUAL "com/example/pech_david/pechdavid/model/Relation" := Exa.start ev_GREATER_OR_EQUAL nq8
  have F_GREATER_OR_EQUAL_ordinal : Fld s s.heap s_GREATER_OR_EQUAL "java/lang/Enum" "ordinal" "I" (.int (5 : Int32)) := Fld.start ((fld_at ev_GREATER_OR_EQUAL).symm.trans (own_eqI nq9))
  obtain ⟨s_GREATER, ev_GREATER⟩ := exa_v nq10
  have S_GREATER : Sta s s.heap "com/example/pech_david/pechdavid/model/Relation" "GREATER" "Lcom/example/pech_david/pechdavid/model/Relation;" (.ref s_GREATER) := Sta.start ev_GREATER (Or.inr ⟨(hw _ (List.mem_of_getElem? (i := 6) rfl)), (hw _ (List.mem_of_getElem? (i := 38) rfl))⟩)
  have E_GREATER : Exa s s.heap s_GREATER "com/example/pech_david/pechdavid/model/Relation" := Exa.start ev_GREATER nq10
  have F_GREATER_ordinal : Fld s s.heap s_GREATER "java/lang/Enum" "ordinal" "I" (.int (4 : Int32)) := Fld.start ((fld_at ev_GREATER).symm.trans (own_eqI nq11))
  obtain ⟨n, o, h1, h2, h3, _, L, rfl, ⟨rfl, N⟩, hq⟩ := rm0 l s _ hw tables_1 i0 s_EQUAL s_NOT_EQUAL s_LESS s_LESS_OR_EQUAL s_GREATER s_GREATER_OR_EQUAL s.heap s.heap.size (Nat.le_refl _) S_EQUAL E_EQUAL F_EQUAL_ordinal S_NOT_EQUAL E_NOT_EQUAL F_NOT_EQUAL_ordinal S_LESS E_LESS F_LESS_ordinal S_LESS_OR_EQUAL E_LESS_OR_EQUAL F_LESS_OR_EQUAL_ordinal S_GREATER E_GREATER F_GREATER_ordinal S_GREATER_OR_EQUAL E_GREATER_OR_EQUAL F_GREATER_OR_EQUAL_ordinal p e ha hc hk s m _ below hf ((Spec.applies_iff_loose hf).mp happ).1 ⟨rfl, State.Warmed39.refl s, rfl⟩ trivial
  refine ⟨n, _, h1, h2, h3, hpost _ _ _ _ _ _ ⟨Cond.after_iff.mpr rfl, Cond.after_iff.mpr (eq_i res_at (Term.int_eval (1)) rfl), trivial⟩ ⟨hq.1, hq.2.1, (hq.2.2.sift fun y hy => Or.inr (N y hy)).mono (by decide) (by decide)⟩⟩
theorem main_1_1 : Claimed_1_1 := comes_1 fun _ _ _ _ _ _ h hF => ⟨h.1, hF⟩
theorem main_1_2 : Claimed_1_2 := comes_1 fun _ _ _ _ _ _ h hF => ⟨h.2.1, hF⟩
end Jvm.Pilot.@@N@@
namespace Jvm.Pilot.@@N@@
open Jvm Jvm.ClassFile Sem Op Lib Jvm.Free Jvm.Stand Jvm.Pilot.@@N@@.Jvm.D
/-! MADE BY PROGRAM (witnessworld.py) out of the Statement's table words and the real class files: 12 classes; the members and pool entries that the words name. The judged class is class 1, her method 2. -/
namespace start1
open Jvm.ClassFile
def u (s : String) : CpInfo := .utf8 (stringToUtf16 s)
/-- a pool by its gaps: so many unusable entries, then the entry; so many at the end -/
def gap : Nat → List CpInfo → List CpInfo
  | 0, r => r
  | n + 1, r => .unusable :: gap n r
def poolList (es : List (Nat × CpInfo)) (last : Nat) : List CpInfo := es.foldr (fun e r => gap e.1 (e.2 :: r)) (gap last [])
def pool (es : List (Nat × CpInfo)) (last : Nat) : Array CpInfo := ⟨poolList es last⟩
def fileOf (pool : Array CpInfo) (this : Nat) (attrs : Array Attribute := #[]) (ms : Array MethodInfo := #[]) (fl : Nat := 33) (sup : Nat := 0) (ifs : Array Nat := #[]) (fds : Array FieldInfo := #[]) : ClassFile where
  minorVersion := 0
  majorVersion := 65
  constantPool := pool
  accessFlags := fl
  thisClass := this
  superClass := sup
  interfaces := ifs
  fields := fds
  methods := ms
  attributes := attrs
def plain (name : String) (sup : Option ClassId) : Class where
  name := name
  kind := .ordinary
  loader := none
  accessFlags := 33
  super := sup
  interfaces := #[]
  cf := none
  fields := #[]
  methods := #[]
  instanceTypes := #[]
  staticTypes := #[]
  resolved := #[]
  callSites := []
  init := .initialized
  statics := none
  mirror := none

def pool0 : Array CpInfo := pool [(5, u "<init>"), (0, u "()V"), (1, .class_ 10), (1, u "java/lang/Object")] 113

def k0m0 : Method := { name := "<init>", desc := "()V", sig := { parameters := [], returnType := none }, accessFlags := 1, code := none }
/-- java/lang/Object -/
def k0 : Class := { plain "java/lang/Object" none with
  accessFlags := 33
  interfaces := #[]
  cf := some (fileOf pool0 8 #[] #[{ accessFlags := 1, nameIndex := 5, descriptorIndex := 6, attributes := #[] }] 33 0 #[] #[])
  fields := #[]
  methods := #[k0m0]
  instanceTypes := #[]
  staticTypes := #[]
  resolved := Array.replicate 124 none
  statics := none }

def pool1 : Array CpInfo := pool [(2, .class_ 4), (1, u "java/lang/Object"), (0, u "<init>"), (0, u "()V"), (0, .fieldref 8 9), (0, .class_ 10), (0, .nameAndType 11 12), (0, u "com/example/pech_david/pechdavid/model/Relation"), (0, u "EQUAL"), (0, u "Lcom/example/pech_david/pechdavid/model/Relation;"), (0, .fieldref 8 14), (0, .nameAndType 15 12), (0, u "NOT_EQUAL"), (0, .fieldref 8 17), (0, .nameAndType 18 12), (0, u "LESS"), (0, .fieldref 8 20), (0, .nameAndType 21 12), (0, u "LESS_OR_EQUAL"), (0, .fieldref 8 23), (0, .nameAndType 24 12), (0, u "GREATER"), (0, .fieldref 8 26), (0, .nameAndType 27 12), (0, u "GREATER_OR_EQUAL"), (0, .integer 2147483647), (0, .methodref 30 31), (0, .class_ 32), (0, .nameAndType 33 34), (0, u "com/example/pech_david/pechdavid/model/RelationOrdersPinLaw"), (0, u "pick"), (0, u "(I)Lcom/example/pech_david/pechdavid/model/Relation;"), (0, .methodref 8 36), (0, .nameAndType 37 38), (0, u "orders"), (0, u "()Z"), (0, .methodref 8 40), (0, .nameAndType 41 42), (0, u "holds"), (0, u "(JJ)Z"), (3, u "law"), (0, u "(I)Z")] 2

def k1m0 : Method := { name := "<init>", desc := "()V", sig := { parameters := [], returnType := none }, accessFlags := 2, code := none }
def k1c1 : Code := { maxStack := 2, maxLocals := 1, code := method_2_code, exceptionTable := #[], attributes := #[] }
def k1m1 : Method := { name := "pick", desc := "(I)Lcom/example/pech_david/pechdavid/model/Relation;", sig := { parameters := [.int], returnType := some (.object "com/example/pech_david/pechdavid/model/Relation") }, accessFlags := 10, code := some k1c1 }
def k1c2 : Code := { maxStack := 6, maxLocals := 6, code := code, exceptionTable := #[], attributes := #[] }
def k1m2 : Method := { name := "law", desc := "(I)Z", sig := { parameters := [.int], returnType := some .boolean }, accessFlags := 9, code := some k1c2 }
/-- com/example/pech_david/pechdavid/model/RelationOrdersPinLaw -/
def k1 : Class := { plain "com/example/pech_david/pechdavid/model/RelationOrdersPinLaw" (some 0) with
  accessFlags := 49
  interfaces := #[]
  cf := some (fileOf pool1 30 #[] #[{ accessFlags := 2, nameIndex := 5, descriptorIndex := 6, attributes := #[] }, { accessFlags := 10, nameIndex := 33, descriptorIndex := 34, attributes := #[] }, { accessFlags := 9, nameIndex := 46, descriptorIndex := 47, attributes := #[] }] 49 2 #[] #[])
  fields := #[]
  methods := #[k1m0, k1m1, k1m2]
  instanceTypes := #[]
  staticTypes := #[]
  resolved := Array.replicate 50 none
  statics := none }

def pool2 : Array CpInfo := pool [(1, .class_ 2), (0, u "java/lang/constant/Constable"), (0, .class_ 4), (0, u "java/lang/Object")] 6

/-- java/lang/constant/Constable -/
def k2 : Class := { plain "java/lang/constant/Constable" (some 0) with
  accessFlags := 1537
  interfaces := #[]
  cf := some (fileOf pool2 1 #[] #[] 1537 3 #[] #[])
  fields := #[]
  methods := #[]
  instanceTypes := #[]
  staticTypes := #[]
  resolved := Array.replicate 11 none
  statics := none }

def pool3 : Array CpInfo := pool [(1, .class_ 2), (0, u "java/lang/Comparable"), (0, .class_ 4), (0, u "java/lang/Object")] 7

/-- java/lang/Comparable -/
def k3 : Class := { plain "java/lang/Comparable" (some 0) with
  accessFlags := 1537
  interfaces := #[]
  cf := some (fileOf pool3 1 #[] #[] 1537 3 #[] #[])
  fields := #[]
  methods := #[]
  instanceTypes := #[]
  staticTypes := #[]
  resolved := Array.replicate 12 none
  statics := none }

def pool4 : Array CpInfo := pool [(1, .class_ 2), (0, u "java/io/Serializable"), (0, .class_ 4), (0, u "java/lang/Object")] 2

/-- java/io/Serializable -/
def k4 : Class := { plain "java/io/Serializable" (some 0) with
  accessFlags := 1537
  interfaces := #[]
  cf := some (fileOf pool4 1 #[] #[] 1537 3 #[] #[])
  fields := #[]
  methods := #[]
  instanceTypes := #[]
  staticTypes := #[]
  resolved := Array.replicate 7 none
  statics := none }

def pool5 : Array CpInfo := pool [(2, .class_ 4), (1, u "java/lang/Enum"), (0, u "name"), (0, u "Ljava/lang/String;"), (0, .fieldref 2 8), (0, .nameAndType 9 10), (0, u "ordinal"), (0, u "I"), (1, .class_ 14), (1, u "java/lang/Object"), (4, u "hash"), (86, .class_ 108), (1, u "java/lang/Enum$EnumDesc"), (2, .class_ 112), (0, u "java/lang/constant/Constable"), (0, .class_ 114), (0, u "java/lang/Comparable"), (0, .class_ 116), (0, u "java/io/Serializable"), (9, u "()I")] 77

def k5c0 : Code := { maxStack := 1, maxLocals := 1, code := jdk_37_method_2_code, exceptionTable := #[], attributes := #[] }
def k5m0 : Method := { name := "ordinal", desc := "()I", sig := { parameters := [], returnType := some .int }, accessFlags := 17, code := some k5c0 }
/-- java/lang/Enum -/
def k5 : Class := { plain "java/lang/Enum" (some 0) with
  accessFlags := 1057
  interfaces := #[2, 3, 4]
  cf := some (fileOf pool5 2 #[.nestMembers #[106]] #[{ accessFlags := 17, nameIndex := 9, descriptorIndex := 126, attributes := #[] }] 1057 12 #[111, 113, 115] #[{ accessFlags := 18, nameIndex := 5, descriptorIndex := 6, attributes := #[] }, { accessFlags := 18, nameIndex := 9, descriptorIndex := 10, attributes := #[] }, { accessFlags := 2, nameIndex := 19, descriptorIndex := 10, attributes := #[] }])
  fields := #[{ name := "name", type := (.object "java/lang/String"), accessFlags := 18, slot := 0, constantValue := 0 }, { name := "ordinal", type := .int, accessFlags := 18, slot := 1, constantValue := 0 }, { name := "hash", type := .int, accessFlags := 2, slot := 2, constantValue := 0 }]
  methods := #[k5m0]
  instanceTypes := #[(.object "java/lang/String"), .int, .int]
  staticTypes := #[]
  resolved := Array.replicate 204 none
  statics := none }

def pool6 : Array CpInfo := pool [(1, .class_ 2), (0, u "com/example/pech_david/pechdavid/model/Relation"), (0, .fieldref 1 4), (0, .nameAndType 5 6), (0, u "EQUAL"), (0, u "Lcom/example/pech_david/pechdavid/model/Relation;"), (0, .fieldref 1 8), (0, .nameAndType 9 6), (0, u "NOT_EQUAL"), (2, u "LESS"), (2, u "LESS_OR_EQUAL"), (2, u "GREATER"), (2, u "GREATER_OR_EQUAL"), (2, u "$VALUES"), (0, u "[Lcom/example/pech_david/pechdavid/model/Relation;"), (6, .class_ 34), (1, u "java/lang/Enum"), (8, u "symbol"), (0, u "Ljava/lang/String;"), (0, .methodref 1 46), (0, .nameAndType 47 48), (0, u "ordinal"), (0, u "()I"), (38, u "orders"), (0, u "()Z"), (1, u "holds"), (0, u "(JJ)Z")] 5

def k6c0 : Code := { maxStack := 2, maxLocals := 1, code := prog_124_method_5_code, exceptionTable := #[], attributes := #[] }
def k6m0 : Method := { name := "orders", desc := "()Z", sig := { parameters := [], returnType := some .boolean }, accessFlags := 1, code := some k6c0 }
def k6c1 : Code := { maxStack := 4, maxLocals := 5, code := prog_124_method_6_code, exceptionTable := #[], attributes := #[] }
def k6m1 : Method := { name := "holds", desc := "(JJ)Z", sig := { parameters := [.long, .long], returnType := some .boolean }, accessFlags := 1, code := some k6c1 }
/-- com/example/pech_david/pechdavid/model/Relation -/
def k6 : Class := { plain "com/example/pech_david/pechdavid/model/Relation" (some 5) with
  accessFlags := 16433
  interfaces := #[]
  cf := some (fileOf pool6 1 #[] #[{ accessFlags := 1, nameIndex := 87, descriptorIndex := 88, attributes := #[] }, { accessFlags := 1, nameIndex := 90, descriptorIndex := 91, attributes := #[] }] 16433 32 #[] #[{ accessFlags := 16409, nameIndex := 5, descriptorIndex := 6, attributes := #[] }, { accessFlags := 16409, nameIndex := 9, descriptorIndex := 6, attributes := #[] }, { accessFlags := 16409, nameIndex := 12, descriptorIndex := 6, attributes := #[] }, { accessFlags := 16409, nameIndex := 15, descriptorIndex := 6, attributes := #[] }, { accessFlags := 16409, nameIndex := 18, descriptorIndex := 6, attributes := #[] }, { accessFlags := 16409, nameIndex := 21, descriptorIndex := 6, attributes := #[] }, { accessFlags := 18, nameIndex := 43, descriptorIndex := 44, attributes := #[] }, { accessFlags := 4122, nameIndex := 24, descriptorIndex := 25, attributes := #[] }])
  fields := #[{ name := "EQUAL", type := (.object "com/example/pech_david/pechdavid/model/Relation"), accessFlags := 16409, slot := 0, constantValue := 0 }, { name := "NOT_EQUAL", type := (.object "com/example/pech_david/pechdavid/model/Relation"), accessFlags := 16409, slot := 1, constantValue := 0 }, { name := "LESS", type := (.object "com/example/pech_david/pechdavid/model/Relation"), accessFlags := 16409, slot := 2, constantValue := 0 }, { name := "LESS_OR_EQUAL", type := (.object "com/example/pech_david/pechdavid/model/Relation"), accessFlags := 16409, slot := 3, constantValue := 0 }, { name := "GREATER", type := (.object "com/example/pech_david/pechdavid/model/Relation"), accessFlags := 16409, slot := 4, constantValue := 0 }, { name := "GREATER_OR_EQUAL", type := (.object "com/example/pech_david/pechdavid/model/Relation"), accessFlags := 16409, slot := 5, constantValue := 0 }, { name := "symbol", type := (.object "java/lang/String"), accessFlags := 18, slot := 3, constantValue := 0 }, { name := "$VALUES", type := (.array (.object "com/example/pech_david/pechdavid/model/Relation")), accessFlags := 4122, slot := 6, constantValue := 0 }]
  methods := #[k6m0, k6m1]
  instanceTypes := #[(.object "java/lang/String"), .int, .int, (.object "java/lang/String")]
  staticTypes := #[(.object "com/example/pech_david/pechdavid/model/Relation"), (.object "com/example/pech_david/pechdavid/model/Relation"), (.object "com/example/pech_david/pechdavid/model/Relation"), (.object "com/example/pech_david/pechdavid/model/Relation"), (.object "com/example/pech_david/pechdavid/model/Relation"), (.object "com/example/pech_david/pechdavid/model/Relation"), (.array (.object "com/example/pech_david/pechdavid/model/Relation"))]
  resolved := Array.replicate 97 none
  statics := some 0 }

def pool7 : Array CpInfo := pool [(1, u "java/lang/Cloneable"), (0, .class_ 1), (0, u "java/lang/Object"), (0, .class_ 3)] 3

/-- java/lang/Cloneable -/
def k7 : Class := { plain "java/lang/Cloneable" (some 0) with
  accessFlags := 1537
  interfaces := #[]
  cf := some (fileOf pool7 2 #[] #[] 1537 4 #[] #[])
  fields := #[]
  methods := #[]
  instanceTypes := #[]
  staticTypes := #[]
  resolved := Array.replicate 8 none
  statics := none }

/-- the primitive byte -/
def k8 : Class := { plain "byte" none with kind := .primitive 'B', accessFlags := 0x411 }
/-- [B -/
def k9 : Class := { plain "[B" (some 0) with kind := .array 8 .byte, interfaces := #[7, 4], accessFlags := 1041 }

/-- the primitive int -/
def k10 : Class := { plain "int" none with kind := .primitive 'I', accessFlags := 0x411 }
/-- [I -/
def k11 : Class := { plain "[I" (some 0) with kind := .array 10 .int, interfaces := #[7, 4], accessFlags := 1041 }

def heap : Heap := #[{ cls := 6, slots := #[.ref 1, .ref 2, .ref 3, .ref 4, .ref 5, .ref 6, .null], vm := .statics 6 },
  { cls := 6, slots := #[.null, .int 0, .int 0, .null], vm := .none },
  { cls := 6, slots := #[.null, .int 1, .int 0, .null], vm := .none },
  { cls := 6, slots := #[.null, .int 2, .int 0, .null], vm := .none },
  { cls := 6, slots := #[.null, .int 3, .int 0, .null], vm := .none },
  { cls := 6, slots := #[.null, .int 4, .int 0, .null], vm := .none },
  { cls := 6, slots := #[.null, .int 5, .int 0, .null], vm := .none }]
def classes : Array Class := #[k0, k1, k2, k3, k4, k5, k6, k7, k8, k9, k10, k11]
def interned : List (Array UInt16 × Addr) := []
def slotsUsed : Nat := 31
def theMethod : MethodId := ⟨1, 2⟩
def args0 : Array Value := #[.int 5]
def aboutOver (below : List Frame) : State where
  vm := { classes := classes, interned := interned.toArray }
  heap := heap
  slotsUsed := slotsUsed
  threads := #[{ frames := .invoking theMethod args0 :: below }]
def below0 : List Frame := [.native { method := ⟨0, 0⟩, args := #[] }]
def about1 : State := aboutOver below0
def p0 : Program := .bare "" "" ""
def e0 : Env := launch0.env 0 0 0
theorem w_frames : about1.frames = Frame.invoking theMethod args0 :: below0 := rfl
set_option maxRecDepth 65536 in
theorem w_args : argsFit about1.vm theMethod args0 = true := by decide +kernel
set_option maxRecDepth 65536 in
theorem w_heap : heapFits about1 = true := by decide +kernel
set_option maxRecDepth 65536 in
theorem w_runnable : about1.curStatus? = some .runnable := by decide +kernel
set_option maxRecDepth 65536 in
theorem w_alone : about1.alone = true := by decide +kernel
set_option maxRecDepth 65536 in
theorem w_named : about1.methodNamed? x = some theMethod := by decide +kernel
set_option maxRecDepth 65536 in
theorem w_hears : about1.hears theMethod below0 = true := by decide +kernel
set_option maxRecDepth 65536 in
theorem w_ripe : about1.ripe theMethod args0 below0 = true := by decide +kernel
theorem w_running : about1.status = .running := rfl
set_option maxRecDepth 65536 in
theorem w_room : about1.hasRoom e0.platform room_1 = true :=
  launch0.hasRoom_least _ room_1 (by decide +kernel) (by decide +kernel) (by decide +kernel) (by decide +kernel) (by decide +kernel) (by decide +kernel)
theorem allAtoms_all (ts : List Jvm.Cond) (a : Array Jvm.Value) (st : Jvm.State) : (allAtoms ts).before a st = ts.all (fun c => c.before a st) := by
  induction ts with
  | nil => rfl
  | cons c t ih =>
    show (Jvm.Cond.and c (allAtoms t)).before a st = _
    rw [Jvm.Cond.before_and, ih, List.all_cons]
def words1 : List Jvm.Cond := Jvm.Cond.code x code maxLocals ret :: tables_1
/-- a 'code' word, met by the world's own term for the bytes: nothing is compared byte by byte -/
theorem code_word {y : MethodName} {bytes : ByteArray} {mx : Nat} {rt : Option FieldType} {a : Array Value} {s : State} {m : MethodId} {meth : Method} {c : Code} (h1 : s.methodNamed? y = some m) (h2 : s.vm.method? m = some meth) (h3 : meth.code = some c) (h4 : c.code = bytes)
    (h5 : (c.maxLocals == mx && c.exceptionTable.isEmpty && decide (c.maxStack ≤ mostOperands) && decide (meth.sig.returnType = rt) && !meth.locks && decide (parseMethodDescriptor y.desc = some meth.sig)) = true) : (Jvm.Cond.code y bytes mx rt).before a s = true := by
  simp only [Bool.and_eq_true, beq_iff_eq, Bool.not_eq_true', decide_eq_true_eq] at h5
  obtain ⟨⟨⟨⟨⟨g1, g2⟩, g3⟩, g4⟩, g5⟩, g6⟩ := h5
  simp [Cond.before, Cond.holds, Cond.value, h1, h2, h3, h4, g1, g2, g3, g4, g5, g6]
def isCode : Jvm.Cond → Bool
  | .code _ _ _ _ => true
  | _ => false
theorem all_split {L : List Jvm.Cond} {P : Jvm.Cond → Bool} (h1 : L.all (fun c => isCode c || P c) = true) (h2 : ∀ c ∈ L.filter isCode, P c = true) : L.all P = true := by
  refine List.all_eq_true.mpr fun c hc => ?_
  have h := List.all_eq_true.mp h1 c hc
  rcases Bool.eq_false_or_eq_true (isCode c) with hi | hi
  · exact h2 c (List.mem_filter.mpr ⟨hc, hi⟩)
  · simpa [hi] using h
set_option maxRecDepth 65536 in
theorem w_c0 : (Jvm.Cond.code x code maxLocals ret).before args0 about1 = true := code_word (m := ⟨1, 2⟩) (meth := k1m2) (c := k1c2) (by decide +kernel) rfl rfl rfl (by decide +kernel)
set_option maxRecDepth 65536 in
theorem w_c1 : (Jvm.Cond.code ({ cls := "com/example/pech_david/pechdavid/model/RelationOrdersPinLaw", name := "pick", desc := "(I)Lcom/example/pech_david/pechdavid/model/Relation;" } : Jvm.MethodName) method_2_code (1 : Nat) (Option.some (Jvm.ClassFile.FieldType.object "com/example/pech_david/pechdavid/model/Relation"))).before args0 about1 = true := code_word (m := ⟨1, 1⟩) (meth := k1m1) (c := k1c1) (by decide +kernel) rfl rfl rfl (by decide +kernel)
set_option maxRecDepth 65536 in
theorem w_c2 : (Jvm.Cond.code ({ cls := "com/example/pech_david/pechdavid/model/Relation", name := "orders", desc := "()Z" } : Jvm.MethodName) prog_124_method_5_code (1 : Nat) (Option.some Jvm.ClassFile.FieldType.boolean)).before args0 about1 = true := code_word (m := ⟨6, 0⟩) (meth := k6m0) (c := k6c0) (by decide +kernel) rfl rfl rfl (by decide +kernel)
set_option maxRecDepth 65536 in
theorem w_c3 : (Jvm.Cond.code ({ cls := "com/example/pech_david/pechdavid/model/Relation", name := "holds", desc := "(JJ)Z" } : Jvm.MethodName) prog_124_method_6_code (5 : Nat) (Option.some Jvm.ClassFile.FieldType.boolean)).before args0 about1 = true := code_word (m := ⟨6, 1⟩) (meth := k6m1) (c := k6c1) (by decide +kernel) rfl rfl rfl (by decide +kernel)
set_option maxRecDepth 65536 in
theorem w_c4 : (Jvm.Cond.code ({ cls := "java/lang/Enum", name := "ordinal", desc := "()I" } : Jvm.MethodName) jdk_37_method_2_code (1 : Nat) (Option.some Jvm.ClassFile.FieldType.int)).before args0 about1 = true := code_word (m := ⟨5, 0⟩) (meth := k5m0) (c := k5c0) (by decide +kernel) rfl rfl rfl (by decide +kernel)
def codes1 : List Jvm.Cond := [Jvm.Cond.code x code maxLocals ret, Jvm.Cond.code ({ cls := "com/example/pech_david/pechdavid/model/RelationOrdersPinLaw", name := "pick", desc := "(I)Lcom/example/pech_david/pechdavid/model/Relation;" } : Jvm.MethodName) method_2_code (1 : Nat) (Option.some (Jvm.ClassFile.FieldType.object "com/example/pech_david/pechdavid/model/Relation")), Jvm.Cond.code ({ cls := "com/example/pech_david/pechdavid/model/Relation", name := "orders", desc := "()Z" } : Jvm.MethodName) prog_124_method_5_code (1 : Nat) (Option.some Jvm.ClassFile.FieldType.boolean), Jvm.Cond.code ({ cls := "com/example/pech_david/pechdavid/model/Relation", name := "holds", desc := "(JJ)Z" } : Jvm.MethodName) prog_124_method_6_code (5 : Nat) (Option.some Jvm.ClassFile.FieldType.boolean), Jvm.Cond.code ({ cls := "java/lang/Enum", name := "ordinal", desc := "()I" } : Jvm.MethodName) jdk_37_method_2_code (1 : Nat) (Option.some Jvm.ClassFile.FieldType.int)]
set_option maxRecDepth 65536 in
theorem codes_eq : words1.filter isCode = codes1 := rfl
theorem w_codes : ∀ c ∈ words1.filter isCode, c.before args0 about1 = true := by
  rw [codes_eq]
  intro c hc
  simp only [codes1, List.mem_cons, List.not_mem_nil, or_false] at hc
  rcases hc with rfl | rfl | rfl | rfl | rfl
  · exact w_c0
  · exact w_c1
  · exact w_c2
  · exact w_c3
  · exact w_c4
set_option maxRecDepth 65536 in
theorem w_t1 : (words1.take 24).all (fun c => isCode c || c.before args0 about1) = true := by decide +kernel
set_option maxRecDepth 65536 in
theorem w_t2 : (words1.drop 24).all (fun c => isCode c || c.before args0 about1) = true := by decide +kernel
theorem w_tables : (allAtoms (Jvm.Cond.code x code maxLocals ret :: tables_1)).before args0 about1 = true := by
  rw [allAtoms_all]
  show words1.all (fun c => c.before args0 about1) = true
  refine all_split ?_ w_codes
  rw [← List.take_append_drop 24 words1, List.all_append, w_t1, w_t2]
  rfl
set_option maxRecDepth 65536 in
theorem w_case : (Jvm.Cond.and given_1 narrow_1).before args0 about1 = true := by decide +kernel
theorem w_applies : (headSpec (Jvm.Cond.code x code maxLocals ret :: tables_1) room_1).applies x e0.platform about1 = true :=
  (Spec.applies_iff w_frames).mpr ⟨w_running, w_runnable, w_alone, w_named, w_hears, w_ripe, w_room, w_tables⟩
theorem atStart : AtStart classFile x code maxLocals ret World_1 tables_1 room_1 Calls_1 rest_1 Pre_1 launch0 p0 e0 about1 theMethod args0 below0 :=
  ⟨lists_1, trivial, launch0.admits_env _ _ _, launch0.least_env, fairChoices_fair.cas, fairChoices_fair.clock, w_frames, w_args, w_heap, w_applies, trivial, trivial, w_case⟩
end start1
theorem witness_1 : WitnessClaimed_1 := ⟨start1.p0, start1.e0, start1.about1, start1.theMethod, start1.args0, start1.below0, start1.atStart⟩
end Jvm.Pilot.@@N@@
