import JvmDerived
import JvmDerived.Pilot.@@N@@Statement
import JvmDerived.Pilot.@@N@@Code
set_option linter.unusedVariables false
set_option linter.unusedSimpArgs false
namespace Jvm.RoadKit
open Sem ClassFile Op Lib Jvm.Stand Jvm.Free Jvm.LawKit
section New
variable {p : Program} {l : Launch} {e : Env} {R : Room} {s : State} {m : MethodId} {args : Array Value} {below : List Frame} {meth : Method} {c : Code} {T : State} {locs : List Loc} {cells slots : Nat}
theorem retI (X : Stand p l e R s m args below meth c T locs cells slots) (hx : p.tables.exec = Jvm.exec) {pc : Nat} {Ls : Array Slot} {z : Int32} {rest : List Value} (hret : meth.sig.returnType = some .int) (hd : decode c.code pc = .ok (.ireturn, 1)) {fs : List Frame}
    (hl : ∀ (f : JFrame) (acts : List Action), f.method = m → f.locked = none → f.entered = [] → (doReturn e (T.setTop f) acts (some (.int z))).1 = T.setFrames fs) : Steps p.tables e below (T.setTop (mkF m pc Ls (.int z :: rest))) (T.setFrames fs) := by
  have hm' : T.vm.method? m = some meth := X.method'
  have hn : narrow .int (.int z) = .int z := rfl
  show Steps p.tables e below (T.setTop { method := m, pc := pc, locals := Ls, stack := _ :: rest, locked := none }) _
  jvm_step X.here [X.here.top, hx, hd, hm', hret, hn]
  first | (intro acts; rw [hl _ acts rfl rfl rfl]) | rw [hl _ _ rfl rfl rfl]
  exact Steps.refl _
end New
/-- the run from S ends, with Post of its end -/
def Go (tb : Tables) (e : Env) (below : List Frame) (Post : Outcome → State → Prop) (S : State) : Prop := ∃ s₂ o, Steps tb e below S s₂ ∧ s₂.status = .running ∧ Ended s₂ below o ∧ Post o s₂
theorem Go.step {tb : Tables} {e : Env} {below : List Frame} {Post : Outcome → State → Prop} {S S' : State} (h : ∀ t, Steps tb e below S' t → Steps tb e below S t) (g : Go tb e below Post S') : Go tb e below Post S := by
  obtain ⟨s₂, o, a, b⟩ := g
  exact ⟨s₂, o, h _ a, b⟩
theorem at_of {c : Cell} {vs : List Value} {d v : Value} {j : Int32} (H : Has c vs d) (hin : ¬ (j < 0 ∨ c.slots.size ≤ j.toNatClampNeg)) (e : vs.getD j.toNatClampNeg d = v) : c.slots[j.toNatClampNeg]? = some v := by
  have q : j.toNatClampNeg < c.slots.size := Nat.lt_of_not_le (fun h => hin (Or.inr h))
  rw [H _ q, e]
end Jvm.RoadKit
namespace Jvm.Pilot.@@N@@
open Jvm Jvm.ClassFile Sem Op Lib Jvm.Free Jvm.Stand Jvm.LawKit Jvm.RoadKit Bundle Jvm.Pilot.@@N@@.Jvm.D
theorem own_wS {Z : State} {a0 : Array Value} (hw : ∀ d ∈ tables_1, d.before a0 Z = true) : ∀ a ∈ Bundle.stringAtoms, a.before a0 Z = true := fun d hd => by
  simp only [Bundle.stringAtoms, List.mem_cons, List.not_mem_nil, or_false] at hd
  rcases hd with rfl | rfl | rfl | rfl | rfl | rfl | rfl
  · exact hw _ (List.mem_of_getElem? (i := 15) rfl)
  · exact hw _ (List.mem_of_getElem? (i := 16) rfl)
  · exact hw _ (List.mem_of_getElem? (i := 17) rfl)
  · exact hw _ (List.mem_of_getElem? (i := 18) rfl)
  · exact hw _ (List.mem_of_getElem? (i := 19) rfl)
  · exact hw _ (List.mem_of_getElem? (i := 20) rfl)
  · exact hw _ (List.mem_of_getElem? (i := 21) rfl)
def own_EL : List (String × Nat) := [("com/example/inchworm/inchworm/photos/PositionKindLocatedPinLaw", 32)]
theorem own_EW {Z : State} {a0 : Array Value} (hw : ∀ d ∈ tables_1, d.before a0 Z = true) : EW Z a0 own_EL := (EW.cons (hw _ (List.mem_of_getElem? (i := 14) rfl)) (by decide) EW.nil)
theorem own_eqI {args : Array Value} {s : State} {t : Term} {n : Int32} (h : (Jvm.Cond.eq t (.int n)).value args s none s [] = some true) : t.eval args s none [] s = some (.int n) := by
  simp only [Cond.value, Term.eval] at h
  cases ht : t.eval args s none [] s with
  | none => simp [ht] at h
  | some x => cases x <;> simp [ht] at h ⊢; exact h
theorem own_len {args : Array Value} {s : State} {t : Term} {a : Addr} {cl : Cell} {n : Int32} (h : (Term.length t).eval args s none [] s = some (.int n)) (ev : t.eval args s none [] s = some (.ref a)) (hc : s.heap[a]? = some cl) : cl.slots.size < 2 ^ 31 ∧ cl.slots.size.toInt32 = n := by
  obtain ⟨a', cell, e1, e2, e3⟩ := Term.length_spec h
  cases ev.symm.trans e1
  have e4 := (State.arrayAt?_spec e2).1
  cases hc.symm.trans e4
  exact ⟨Jvm.Free.SBG.length_lt ev e2 h, (Value.int.inj e3).symm⟩
theorem own_and3 (x : Int32) : (x &&& (3 : Int32)) = 0 ∨ (x &&& (3 : Int32)) = 1 ∨ (x &&& (3 : Int32)) = 2 ∨ (x &&& (3 : Int32)) = 3 := by
  have h := c_mask x 3 2 (by decide) (by decide)
  have e0 : (0 : Int32).toInt = 0 := by decide
  have e1 : (1 : Int32).toInt = 1 := by decide
  have e2 : (2 : Int32).toInt = 2 := by decide
  have e3 : (3 : Int32).toInt = 3 := by decide
  simp only [← Int32.toInt_inj]
  omega
def own_pick (p : Int32) (a b c d : Addr) : Addr := if p = 0 then a else if p = 1 then b else if p = 2 then c else d
theorem pn_0 : plainName "com/example/inchworm/inchworm/photos/PositionKindLocatedPinLaw" = true := by first | (simp [plainName, overriddenIn]; done) | decide +kernel
theorem d1_0 : decode method_2_code 0 = .ok (.iload_n 0, 1) := by decide +kernel
theorem d1_1 : decode method_2_code 1 = .ok (.ifCond .ne 7, 3) := by decide +kernel
theorem d1_4 : decode method_2_code 4 = .ok (.getstatic 7, 3) := by decide +kernel
theorem d1_7 : decode method_2_code 7 = .ok (.areturn, 1) := by decide +kernel
theorem d1_8 : decode method_2_code 8 = .ok (.iload_n 0, 1) := by decide +kernel
theorem d1_9 : decode method_2_code 9 = .ok (.iconst 1, 1) := by decide +kernel
theorem d1_10 : decode method_2_code 10 = .ok (.if_icmp .ne 7, 3) := by decide +kernel
theorem d1_13 : decode method_2_code 13 = .ok (.getstatic 13, 3) := by decide +kernel
theorem d1_16 : decode method_2_code 16 = .ok (.areturn, 1) := by decide +kernel
theorem d1_17 : decode method_2_code 17 = .ok (.iload_n 0, 1) := by decide +kernel
theorem d1_18 : decode method_2_code 18 = .ok (.iconst 2, 1) := by decide +kernel
theorem d1_19 : decode method_2_code 19 = .ok (.if_icmp .ne 7, 3) := by decide +kernel
theorem d1_22 : decode method_2_code 22 = .ok (.getstatic 16, 3) := by decide +kernel
theorem d1_25 : decode method_2_code 25 = .ok (.areturn, 1) := by decide +kernel
theorem d1_26 : decode method_2_code 26 = .ok (.getstatic 19, 3) := by decide +kernel
theorem d1_29 : decode method_2_code 29 = .ok (.areturn, 1) := by decide +kernel
theorem ef_rm1 (m : MethodId) (p1 : Int32) (s_EXIF : Addr) (s_ZERO : Addr) (s_INVALID : Addr) (s_NONE : Addr) : entryFrame m #[(.int p1)] 1 = mkF m 0 #[.val (.int p1)] [] := by first | (simp [entryFrame, mkF, argsToLocals, Value.category]; done) | rfl
def Qrm1 (Z : State) (p1 : Int32) (s_EXIF : Addr) (s_ZERO : Addr) (s_INVALID : Addr) (s_NONE : Addr) (h0 : Heap) (n0 : Nat) (v : Option Value) (h : Heap) (L : List Loc) : Prop := v = some (.ref (own_pick p1 s_EXIF s_ZERO s_INVALID s_NONE)) ∧ Fr n0 L ∧ h = h0
set_option maxRecDepth 65536 in
set_option maxHeartbeats 40000000 in
theorem rm1 (l : Launch) (Z : State) (a0 : Array Value) (hw : ∀ d ∈ tables_1, d.before a0 Z = true) (ws : List Jvm.Cond) (p1 : Int32) (s_EXIF : Addr) (s_ZERO : Addr) (s_INVALID : Addr) (s_NONE : Addr) (h0 : Heap) (n0 : Nat) (Z0 : n0 ≤ h0.size) (S_EXIF : Sta Z h0 "com/example/inchworm/inchworm/photos/PositionKind" "EXIF" "Lcom/example/inchworm/inchworm/photos/PositionKind;" (.ref s_EXIF)) (S_ZERO : Sta Z h0 "com/example/inchworm/inchworm/photos/PositionKind" "ZERO" "Lcom/example/inchworm/inchworm/photos/PositionKind;" (.ref s_ZERO)) (S_INVALID : Sta Z h0 "com/example/inchworm/inchworm/photos/PositionKind" "INVALID" "Lcom/example/inchworm/inchworm/photos/PositionKind;" (.ref s_INVALID)) (S_NONE : Sta Z h0 "com/example/inchworm/inchworm/photos/PositionKind" "NONE" "Lcom/example/inchworm/inchworm/photos/PositionKind;" (.ref s_NONE)) :
    MetFree l (⟨"com/example/inchworm/inchworm/photos/PositionKindLocatedPinLaw", "pick", "(I)Lcom/example/inchworm/inchworm/photos/PositionKind;"⟩ : MethodName) (head1 (Jvm.Cond.code (⟨"com/example/inchworm/inchworm/photos/PositionKindLocatedPinLaw", "pick", "(I)Lcom/example/inchworm/inchworm/photos/PositionKind;"⟩ : MethodName) method_2_code 1 (some (.object "com/example/inchworm/inchworm/photos/PositionKind")) :: ws) ({ frames := 0, cells := 0, slots := 0, locals := 0 } : Room)) (fun a U => a = #[(.int p1)] ∧ Z.Warmed39 U.vm ∧ U.heap = h0) (fun _ _ _ _ _ => True) (fun _ U o U' => ∃ v L, o = .returned v ∧ Qrm1 Z p1 s_EXIF s_ZERO s_INVALID s_NONE h0 n0 v U'.heap L ∧ FrameEnd U o U' L ({ frames := 0, cells := 0, slots := 0, locals := 0 } : Room).cells ({ frames := 0, cells := 0, slots := 0, locals := 0 } : Room).slots) := by
  refine MetFree.of_bodySF (plainFor_of_name pn_0) hisR ?_
  intro p e s m args below meth c s₁ Bd hml0 hP hK
  obtain ⟨rfl, hZ, hh⟩ := hP
  have hx := Bd.exec
  have hby := Bd.bytes
  have hml : c.maxLocals = 1 := hml0
  have hown : s.vm.findClass "com/example/inchworm/inchworm/photos/PositionKindLocatedPinLaw" = some m.cls := findClass_of_methodNamed Bd.named
  have hnm := (name_of_methodNamed Bd.named Bd.method).1
  have X0 : Stand p l e ({ frames := 0, cells := 0, slots := 0, locals := 0 } : Room) s m #[(.int p1)] below meth c s₁ [] 0 0 := Stand.of_body Bd
  have e0 : s₁.heap = h0 := by rw [← hh, Bd.state]; rfl
  have N0 := Fr.nil n0
  show Go p.tables e below (fun o U' => ∃ v L, o = .returned v ∧ Qrm1 Z p1 s_EXIF s_ZERO s_INVALID s_NONE h0 n0 v U'.heap L ∧ FrameEnd s o U' L ({ frames := 0, cells := 0, slots := 0, locals := 0 } : Room).cells ({ frames := 0, cells := 0, slots := 0, locals := 0 } : Room).slots) _
  refine Go.step (fun t kt => castTop (ef_rm1 m p1 s_EXIF s_ZERO s_INVALID s_NONE) kt) ?_
  show Go p.tables e below _ (s₁.setTop (mkF m 0 #[.val (.int p1)] []))
  refine Go.step (fun _ kt => XS.iloadN X0.here hx rfl (hb hby d1_0) rfl kt) ?_
  show Go p.tables e below _ (s₁.setTop (mkF m 1 #[.val (.int p1)] [(.int p1)]))
  by_cases hc1_101 : p1 = (0 : Int32)
  · refine Go.step (fun _ kt => XS.ifNo X0.here hx rfl (hb hby d1_1) rfl ((if0 _ _).trans (teq hc1_101).2) kt) ?_
    show Go p.tables e below _ (s₁.setTop (mkF m 4 #[.val (.int p1)] []))
    obtain ⟨T102, X102, e102, st102⟩ := getS2 X0 hx hZ hown (host := "") (Or.inl (hw _ (List.mem_of_getElem? (i := 4) rfl))) Via.refl e0 S_EXIF (g := (mkF m 4 #[.val (.int p1)] [])) rfl (hb hby d1_4)
    refine Go.step st102 ?_
    show Go p.tables e below _ (T102.setTop (mkF m 7 #[.val (.int p1)] [(.ref s_EXIF)]))
    obtain ⟨fs, hr, hrun, hended, hW, hsame⟩ := X102.leave (v := some (.ref s_EXIF)) (fun h => by rw [Bd.returns] at h; cases h)
    refine ⟨_, _, retOut X102 hx Bd.returns rfl (Or.inr (Or.inr (Or.inr (Or.inr ⟨rfl, rfl, rfl⟩)))) (hb hby d1_7) hr, hrun, hended, _, _, rfl, ?_, ⟨_, rfl⟩, hW, hsame.mono (by decide) (by decide)⟩
    show Qrm1 Z p1 s_EXIF s_ZERO s_INVALID s_NONE h0 n0 _ T102.heap _
    rw [e102]
    refine ⟨?_, N0, rfl⟩
    have q : own_pick p1 s_EXIF s_ZERO s_INVALID s_NONE = s_EXIF := by simp only [own_pick]; simp [hc1_101]
    rw [q]
  · refine Go.step (fun _ kt => XS.ifYes X0.here hx rfl (pc0 := 1) (pc' := 8) rfl (hb hby d1_1) rfl ((if0 _ _).trans (feq hc1_101).2) (by decide) (by decide) kt) ?_
    show Go p.tables e below _ (s₁.setTop (mkF m 8 #[.val (.int p1)] []))
    refine Go.step (fun _ kt => XS.iloadN X0.here hx rfl (hb hby d1_8) rfl kt) ?_
    show Go p.tables e below _ (s₁.setTop (mkF m 9 #[.val (.int p1)] [(.int p1)]))
    refine Go.step (fun _ kt => XS.iconst X0.here hx rfl (hb hby d1_9) kt) ?_
    show Go p.tables e below _ (s₁.setTop (mkF m 10 #[.val (.int p1)] [(.int (1 : Int32)), (.int p1)]))
    by_cases hc10_103 : p1 = (1 : Int32)
    · refine Go.step (fun _ kt => XS.icmpNo X0.here hx rfl (hb hby d1_10) rfl (teq hc10_103).2 kt) ?_
      show Go p.tables e below _ (s₁.setTop (mkF m 13 #[.val (.int p1)] []))
      obtain ⟨T104, X104, e104, st104⟩ := getS2 X0 hx hZ hown (host := "") (Or.inl (hw _ (List.mem_of_getElem? (i := 54) rfl))) Via.refl e0 S_ZERO (g := (mkF m 13 #[.val (.int p1)] [])) rfl (hb hby d1_13)
      refine Go.step st104 ?_
      show Go p.tables e below _ (T104.setTop (mkF m 16 #[.val (.int p1)] [(.ref s_ZERO)]))
      obtain ⟨fs, hr, hrun, hended, hW, hsame⟩ := X104.leave (v := some (.ref s_ZERO)) (fun h => by rw [Bd.returns] at h; cases h)
      refine ⟨_, _, retOut X104 hx Bd.returns rfl (Or.inr (Or.inr (Or.inr (Or.inr ⟨rfl, rfl, rfl⟩)))) (hb hby d1_16) hr, hrun, hended, _, _, rfl, ?_, ⟨_, rfl⟩, hW, hsame.mono (by decide) (by decide)⟩
      show Qrm1 Z p1 s_EXIF s_ZERO s_INVALID s_NONE h0 n0 _ T104.heap _
      rw [e104]
      refine ⟨?_, N0, rfl⟩
      have q : own_pick p1 s_EXIF s_ZERO s_INVALID s_NONE = s_ZERO := by simp only [own_pick]; simp [hc1_101, hc10_103]
      rw [q]
    · refine Go.step (fun _ kt => XS.icmpYes X0.here hx rfl (pc0 := 10) (pc' := 17) rfl (hb hby d1_10) rfl (feq hc10_103).2 (by decide) (by decide) kt) ?_
      show Go p.tables e below _ (s₁.setTop (mkF m 17 #[.val (.int p1)] []))
      refine Go.step (fun _ kt => XS.iloadN X0.here hx rfl (hb hby d1_17) rfl kt) ?_
      show Go p.tables e below _ (s₁.setTop (mkF m 18 #[.val (.int p1)] [(.int p1)]))
      refine Go.step (fun _ kt => XS.iconst X0.here hx rfl (hb hby d1_18) kt) ?_
      show Go p.tables e below _ (s₁.setTop (mkF m 19 #[.val (.int p1)] [(.int (2 : Int32)), (.int p1)]))
      by_cases hc19_105 : p1 = (2 : Int32)
      · refine Go.step (fun _ kt => XS.icmpNo X0.here hx rfl (hb hby d1_19) rfl (teq hc19_105).2 kt) ?_
        show Go p.tables e below _ (s₁.setTop (mkF m 22 #[.val (.int p1)] []))
        obtain ⟨T106, X106, e106, st106⟩ := getS2 X0 hx hZ hown (host := "") (Or.inl (hw _ (List.mem_of_getElem? (i := 52) rfl))) Via.refl e0 S_INVALID (g := (mkF m 22 #[.val (.int p1)] [])) rfl (hb hby d1_22)
        refine Go.step st106 ?_
        show Go p.tables e below _ (T106.setTop (mkF m 25 #[.val (.int p1)] [(.ref s_INVALID)]))
        obtain ⟨fs, hr, hrun, hended, hW, hsame⟩ := X106.leave (v := some (.ref s_INVALID)) (fun h => by rw [Bd.returns] at h; cases h)
        refine ⟨_, _, retOut X106 hx Bd.returns rfl (Or.inr (Or.inr (Or.inr (Or.inr ⟨rfl, rfl, rfl⟩)))) (hb hby d1_25) hr, hrun, hended, _, _, rfl, ?_, ⟨_, rfl⟩, hW, hsame.mono (by decide) (by decide)⟩
        show Qrm1 Z p1 s_EXIF s_ZERO s_INVALID s_NONE h0 n0 _ T106.heap _
        rw [e106]
        refine ⟨?_, N0, rfl⟩
        have q : own_pick p1 s_EXIF s_ZERO s_INVALID s_NONE = s_INVALID := by simp only [own_pick]; simp [hc1_101, hc10_103, hc19_105]
        rw [q]
      · refine Go.step (fun _ kt => XS.icmpYes X0.here hx rfl (pc0 := 19) (pc' := 26) rfl (hb hby d1_19) rfl (feq hc19_105).2 (by decide) (by decide) kt) ?_
        show Go p.tables e below _ (s₁.setTop (mkF m 26 #[.val (.int p1)] []))
        obtain ⟨T107, X107, e107, st107⟩ := getS2 X0 hx hZ hown (host := "") (Or.inl (hw _ (List.mem_of_getElem? (i := 50) rfl))) Via.refl e0 S_NONE (g := (mkF m 26 #[.val (.int p1)] [])) rfl (hb hby d1_26)
        refine Go.step st107 ?_
        show Go p.tables e below _ (T107.setTop (mkF m 29 #[.val (.int p1)] [(.ref s_NONE)]))
        obtain ⟨fs, hr, hrun, hended, hW, hsame⟩ := X107.leave (v := some (.ref s_NONE)) (fun h => by rw [Bd.returns] at h; cases h)
        refine ⟨_, _, retOut X107 hx Bd.returns rfl (Or.inr (Or.inr (Or.inr (Or.inr ⟨rfl, rfl, rfl⟩)))) (hb hby d1_29) hr, hrun, hended, _, _, rfl, ?_, ⟨_, rfl⟩, hW, hsame.mono (by decide) (by decide)⟩
        show Qrm1 Z p1 s_EXIF s_ZERO s_INVALID s_NONE h0 n0 _ T107.heap _
        rw [e107]
        refine ⟨?_, N0, rfl⟩
        have q : own_pick p1 s_EXIF s_ZERO s_INVALID s_NONE = s_NONE := by simp only [own_pick]; simp [hc1_101, hc10_103, hc19_105]
        rw [q]
theorem pn_1 : plainName "com/example/inchworm/inchworm/photos/PositionKind" = true := by first | (simp [plainName, overriddenIn]; done) | decide +kernel
theorem d2_0 : decode prog_53_method_4_code 0 = .ok (.aload_n 0, 1) := by decide +kernel
theorem d2_1 : decode prog_53_method_4_code 1 = .ok (.getfield 35, 3) := by decide +kernel
theorem d2_4 : decode prog_53_method_4_code 4 = .ok (.areturn, 1) := by decide +kernel
theorem ef_rm2 (m : MethodId) (a1 : Addr) (lb : Addr) : entryFrame m #[(.ref a1)] 1 = mkF m 0 #[.val (.ref a1)] [] := by first | (simp [entryFrame, mkF, argsToLocals, Value.category]; done) | rfl
def Qrm2 (Z : State) (a1 : Addr) (lb : Addr) (h0 : Heap) (n0 : Nat) (v : Option Value) (h : Heap) (L : List Loc) : Prop := v = some (.ref lb) ∧ Fr n0 L ∧ h = h0
set_option maxRecDepth 65536 in
set_option maxHeartbeats 40000000 in
theorem rm2 (l : Launch) (Z : State) (a0 : Array Value) (hw : ∀ d ∈ tables_1, d.before a0 Z = true) (ws : List Jvm.Cond) (a1 : Addr) (lb : Addr) (h0 : Heap) (n0 : Nat) (Z0 : n0 ≤ h0.size) (F1 : Fld Z h0 a1 "com/example/inchworm/inchworm/photos/PositionKind" "label" "Ljava/lang/String;" (.ref lb)) :
    MetFree l (⟨"com/example/inchworm/inchworm/photos/PositionKind", "label", "()Ljava/lang/String;"⟩ : MethodName) (head1 (Jvm.Cond.code (⟨"com/example/inchworm/inchworm/photos/PositionKind", "label", "()Ljava/lang/String;"⟩ : MethodName) prog_53_method_4_code 1 (some (.object "java/lang/String")) :: ws) ({ frames := 0, cells := 0, slots := 0, locals := 0 } : Room)) (fun a U => a = #[(.ref a1)] ∧ Z.Warmed39 U.vm ∧ U.heap = h0) (fun _ _ _ _ _ => True) (fun _ U o U' => ∃ v L, o = .returned v ∧ Qrm2 Z a1 lb h0 n0 v U'.heap L ∧ FrameEnd U o U' L ({ frames := 0, cells := 0, slots := 0, locals := 0 } : Room).cells ({ frames := 0, cells := 0, slots := 0, locals := 0 } : Room).slots) := by
  refine MetFree.of_bodySF (plainFor_of_name pn_1) hisR ?_
  intro p e s m args below meth c s₁ Bd hml0 hP hK
  obtain ⟨rfl, hZ, hh⟩ := hP
  have hx := Bd.exec
  have hby := Bd.bytes
  have hml : c.maxLocals = 1 := hml0
  have hown : s.vm.findClass "com/example/inchworm/inchworm/photos/PositionKind" = some m.cls := findClass_of_methodNamed Bd.named
  have hnm := (name_of_methodNamed Bd.named Bd.method).1
  have X0 : Stand p l e ({ frames := 0, cells := 0, slots := 0, locals := 0 } : Room) s m #[(.ref a1)] below meth c s₁ [] 0 0 := Stand.of_body Bd
  have e0 : s₁.heap = h0 := by rw [← hh, Bd.state]; rfl
  have N0 := Fr.nil n0
  show Go p.tables e below (fun o U' => ∃ v L, o = .returned v ∧ Qrm2 Z a1 lb h0 n0 v U'.heap L ∧ FrameEnd s o U' L ({ frames := 0, cells := 0, slots := 0, locals := 0 } : Room).cells ({ frames := 0, cells := 0, slots := 0, locals := 0 } : Room).slots) _
  refine Go.step (fun t kt => castTop (ef_rm2 m a1 lb) kt) ?_
  show Go p.tables e below _ (s₁.setTop (mkF m 0 #[.val (.ref a1)] []))
  refine Go.step (fun _ kt => XS.aloadN X0.here hx rfl (hb hby d2_0) rfl rfl kt) ?_
  show Go p.tables e below _ (s₁.setTop (mkF m 1 #[.val (.ref a1)] [(.ref a1)]))
  obtain ⟨T101, X101, e101, st101⟩ := getF X0 hx hZ hown (host := "") (Or.inl (hw _ (List.mem_of_getElem? (i := 12) rfl))) Via.refl e0 F1 (g := (mkF m 1 #[.val (.ref a1)] [(.ref a1)])) rfl rfl (hb hby d2_1)
  refine Go.step st101 ?_
  show Go p.tables e below _ (T101.setTop (mkF m 4 #[.val (.ref a1)] [(.ref lb)]))
  obtain ⟨fs, hr, hrun, hended, hW, hsame⟩ := X101.leave (v := some (.ref lb)) (fun h => by rw [Bd.returns] at h; cases h)
  refine ⟨_, _, retOut X101 hx Bd.returns rfl (Or.inr (Or.inr (Or.inr (Or.inr ⟨rfl, rfl, rfl⟩)))) (hb hby d2_4) hr, hrun, hended, _, _, rfl, ?_, ⟨_, rfl⟩, hW, hsame.mono (by decide) (by decide)⟩
  show Qrm2 Z a1 lb h0 n0 _ T101.heap _
  rw [e101]
  refine ⟨?_, N0, rfl⟩
  rfl
theorem pn_2 : plainName "java/lang/Enum" = true := by first | (simp [plainName, overriddenIn]; done) | decide +kernel
theorem d6_0 : decode jdk_37_method_2_code 0 = .ok (.aload_n 0, 1) := by decide +kernel
theorem d6_1 : decode jdk_37_method_2_code 1 = .ok (.getfield 7, 3) := by decide +kernel
theorem d6_4 : decode jdk_37_method_2_code 4 = .ok (.ireturn, 1) := by decide +kernel
theorem ef_rm6 (m : MethodId) (a1 : Addr) (k : Int32) : entryFrame m #[(.ref a1)] 1 = mkF m 0 #[.val (.ref a1)] [] := by first | (simp [entryFrame, mkF, argsToLocals, Value.category]; done) | rfl
def Qrm6 (Z : State) (a1 : Addr) (k : Int32) (h0 : Heap) (n0 : Nat) (v : Option Value) (h : Heap) (L : List Loc) : Prop := v = some (.int k) ∧ Fr n0 L ∧ h = h0
set_option maxRecDepth 65536 in
set_option maxHeartbeats 40000000 in
theorem rm6 (l : Launch) (Z : State) (a0 : Array Value) (hw : ∀ d ∈ tables_1, d.before a0 Z = true) (ws : List Jvm.Cond) (a1 : Addr) (k : Int32) (h0 : Heap) (n0 : Nat) (Z0 : n0 ≤ h0.size) (F1 : Fld Z h0 a1 "java/lang/Enum" "ordinal" "I" (.int k)) :
    MetFree l (⟨"java/lang/Enum", "ordinal", "()I"⟩ : MethodName) (head1 (Jvm.Cond.code (⟨"java/lang/Enum", "ordinal", "()I"⟩ : MethodName) jdk_37_method_2_code 1 (some .int) :: ws) ({ frames := 0, cells := 0, slots := 0, locals := 0 } : Room)) (fun a U => a = #[(.ref a1)] ∧ Z.Warmed39 U.vm ∧ U.heap = h0) (fun _ _ _ _ _ => True) (fun _ U o U' => ∃ v L, o = .returned v ∧ Qrm6 Z a1 k h0 n0 v U'.heap L ∧ FrameEnd U o U' L ({ frames := 0, cells := 0, slots := 0, locals := 0 } : Room).cells ({ frames := 0, cells := 0, slots := 0, locals := 0 } : Room).slots) := by
  refine MetFree.of_bodySF (plainFor_of_name pn_2) hisR ?_
  intro p e s m args below meth c s₁ Bd hml0 hP hK
  obtain ⟨rfl, hZ, hh⟩ := hP
  have hx := Bd.exec
  have hby := Bd.bytes
  have hml : c.maxLocals = 1 := hml0
  have hown : s.vm.findClass "java/lang/Enum" = some m.cls := findClass_of_methodNamed Bd.named
  have hnm := (name_of_methodNamed Bd.named Bd.method).1
  have X0 : Stand p l e ({ frames := 0, cells := 0, slots := 0, locals := 0 } : Room) s m #[(.ref a1)] below meth c s₁ [] 0 0 := Stand.of_body Bd
  have e0 : s₁.heap = h0 := by rw [← hh, Bd.state]; rfl
  have N0 := Fr.nil n0
  show Go p.tables e below (fun o U' => ∃ v L, o = .returned v ∧ Qrm6 Z a1 k h0 n0 v U'.heap L ∧ FrameEnd s o U' L ({ frames := 0, cells := 0, slots := 0, locals := 0 } : Room).cells ({ frames := 0, cells := 0, slots := 0, locals := 0 } : Room).slots) _
  refine Go.step (fun t kt => castTop (ef_rm6 m a1 k) kt) ?_
  show Go p.tables e below _ (s₁.setTop (mkF m 0 #[.val (.ref a1)] []))
  refine Go.step (fun _ kt => XS.aloadN X0.here hx rfl (hb hby d6_0) rfl rfl kt) ?_
  show Go p.tables e below _ (s₁.setTop (mkF m 1 #[.val (.ref a1)] [(.ref a1)]))
  obtain ⟨T101, X101, e101, st101⟩ := getF X0 hx hZ hown (host := "") (Or.inl (hw _ (List.mem_of_getElem? (i := 48) rfl))) Via.refl e0 F1 (g := (mkF m 1 #[.val (.ref a1)] [(.ref a1)])) rfl rfl (hb hby d6_1)
  refine Go.step st101 ?_
  show Go p.tables e below _ (T101.setTop (mkF m 4 #[.val (.ref a1)] [(.int k)]))
  obtain ⟨fs, hr, hrun, hended, hW, hsame⟩ := X101.leave (v := some (.int k)) (fun h => by rw [Bd.returns] at h; cases h)
  refine ⟨_, _, retI X101 hx Bd.returns (hb hby d6_4) hr, hrun, hended, _, _, rfl, ?_, ⟨_, rfl⟩, hW, hsame.mono (by decide) (by decide)⟩
  show Qrm6 Z a1 k h0 n0 _ T101.heap _
  rw [e101]
  refine ⟨?_, N0, rfl⟩
  rfl
theorem pd_0 : parseMethodDescriptor "()I" = some ⟨[], some .int⟩ := by decide +kernel
theorem d5_0 : decode prog_53_method_5_code 0 = .ok (.aload_n 0, 1) := by decide +kernel
theorem d5_1 : decode prog_53_method_5_code 1 = .ok (.invokevirtual 39, 3) := by decide +kernel
theorem d5_4 : decode prog_53_method_5_code 4 = .ok (.tableswitch 32 0 3 #[42, 46, 46, 46], 32) := by decide +kernel
theorem d5_46 : decode prog_53_method_5_code 46 = .ok (.iconst 1, 1) := by decide +kernel
theorem d5_47 : decode prog_53_method_5_code 47 = .ok (.goto 4, 3) := by decide +kernel
theorem d5_51 : decode prog_53_method_5_code 51 = .ok (.ireturn, 1) := by decide +kernel
theorem ef_rml0 (m : MethodId) (a1 : Addr) : entryFrame m #[(.ref a1)] 1 = mkF m 0 #[.val (.ref a1)] [] := by first | (simp [entryFrame, mkF, argsToLocals, Value.category]; done) | rfl
def Qrml0 (Z : State) (a1 : Addr) (h0 : Heap) (n0 : Nat) (v : Option Value) (h : Heap) (L : List Loc) : Prop := v = some (.int (1 : Int32)) ∧ Fr n0 L ∧ h = h0
set_option maxRecDepth 65536 in
set_option maxHeartbeats 40000000 in
theorem rml0 (l : Launch) (Z : State) (a0 : Array Value) (hw : ∀ d ∈ tables_1, d.before a0 Z = true) (ws : List Jvm.Cond) (a1 : Addr) (h0 : Heap) (n0 : Nat) (Z0 : n0 ≤ h0.size) (E1 : Exa Z h0 a1 "com/example/inchworm/inchworm/photos/PositionKind") (F1 : Fld Z h0 a1 "java/lang/Enum" "ordinal" "I" (.int (0 : Int32))) :
    MetFree l (⟨"com/example/inchworm/inchworm/photos/PositionKind", "located", "()Z"⟩ : MethodName) (head1 (Jvm.Cond.code (⟨"com/example/inchworm/inchworm/photos/PositionKind", "located", "()Z"⟩ : MethodName) prog_53_method_5_code 1 (some .boolean) :: ws) ({ frames := 1, cells := 0, slots := 0, locals := 12 } : Room)) (fun a U => a = #[(.ref a1)] ∧ Z.Warmed39 U.vm ∧ U.heap = h0) (fun _ _ _ _ _ => True) (fun _ U o U' => ∃ v L, o = .returned v ∧ Qrml0 Z a1 h0 n0 v U'.heap L ∧ FrameEnd U o U' L ({ frames := 1, cells := 0, slots := 0, locals := 12 } : Room).cells ({ frames := 1, cells := 0, slots := 0, locals := 12 } : Room).slots) := by
  refine MetFree.of_bodySF (plainFor_of_name pn_1) hisR ?_
  intro p e s m args below meth c s₁ Bd hml0 hP hK
  obtain ⟨rfl, hZ, hh⟩ := hP
  have hx := Bd.exec
  have hby := Bd.bytes
  have hml : c.maxLocals = 1 := hml0
  have hown : s.vm.findClass "com/example/inchworm/inchworm/photos/PositionKind" = some m.cls := findClass_of_methodNamed Bd.named
  have hnm := (name_of_methodNamed Bd.named Bd.method).1
  have X0 : Stand p l e ({ frames := 1, cells := 0, slots := 0, locals := 12 } : Room) s m #[(.ref a1)] below meth c s₁ [] 0 0 := Stand.of_body Bd
  have e0 : s₁.heap = h0 := by rw [← hh, Bd.state]; rfl
  have N0 := Fr.nil n0
  show Go p.tables e below (fun o U' => ∃ v L, o = .returned v ∧ Qrml0 Z a1 h0 n0 v U'.heap L ∧ FrameEnd s o U' L ({ frames := 1, cells := 0, slots := 0, locals := 12 } : Room).cells ({ frames := 1, cells := 0, slots := 0, locals := 12 } : Room).slots) _
  refine Go.step (fun t kt => castTop (ef_rml0 m a1) kt) ?_
  show Go p.tables e below _ (s₁.setTop (mkF m 0 #[.val (.ref a1)] []))
  refine Go.step (fun _ kt => XS.aloadN X0.here hx rfl (hb hby d5_0) rfl rfl kt) ?_
  show Go p.tables e below _ (s₁.setTop (mkF m 1 #[.val (.ref a1)] [(.ref a1)]))
  obtain ⟨cq101, kq101, q101a, q101b, q101c⟩ := isOf hZ e0 E1
  obtain ⟨_, _, ⟨T101, L101, k101, n101⟩, -, X101, ⟨Lc101, hQ101, l101, y101, z101⟩, st101⟩ := X0.virtualBackUp hx (x := (⟨"com/example/inchworm/inchworm/photos/PositionKind", "ordinal", "()I"⟩ : MethodName)) (y := (⟨"java/lang/Enum", "ordinal", "()I"⟩ : MethodName)) (owner := "java/lang/Enum") hown (mvT hZ (hw _ (List.mem_of_getElem? (i := 41) rfl))) (mvT hZ (hw _ (List.mem_of_getElem? (i := 42) rfl))) (mvT hZ (hw _ (List.mem_of_getElem? (i := 43) rfl))) (by decide) (mvT hZ (hw _ (List.mem_of_getElem? (i := 45) rfl))) (mvT hZ (hw _ (List.mem_of_getElem? (i := 44) rfl))) (backOf (W := 0) (rm6 l Z a0 hw [] a1 (0 : Int32) h0 n0 Z0 F1 ) hZ (hw _ (List.mem_of_getElem? (i := 47) rfl)) (hw _ (List.mem_of_getElem? (i := 46) rfl)) (by decide) (by decide)) q101a q101c (g := (mkF m 1 #[.val (.ref a1)] [(.ref a1)])) rfl (by rw [hml]; rfl) (Steps.refl _) (argsL := []) (rest := []) (lenOf pd_0 rfl) rfl (by show 2 * 0 + _ ≤ _; exact Nat.le_of_eq rfl) (hb hby d5_1) (fun _ _ => ⟨rfl, e0, (by decide : 0 + 0 ≤ _), (by decide : 0 + 0 ≤ _)⟩)
  dsimp only [Pt.U, Pt.locs, Pt.cells, Pt.slots] at X101 l101 y101 z101 st101 hQ101
  subst l101 y101 z101
  obtain ⟨rfl, N101q, eh101⟩ := hQ101
  have N101 := Fr.app N0 N101q
  refine Go.step (fun _ kt => st101.trans kt) ?_
  show Go p.tables e below _ (T101.setTop (mkF m 4 #[.val (.ref a1)] [(.int (0 : Int32))]))
  refine Go.step (fun _ kt => XS.tswIn X101.here hx rfl (o := 42) (pc0 := 4) (pc' := 46) rfl (hb hby d5_4) rfl (by decide) (by decide) (by decide) (by decide) kt) ?_
  show Go p.tables e below _ (T101.setTop (mkF m 46 #[.val (.ref a1)] []))
  refine Go.step (fun _ kt => XS.iconst X101.here hx rfl (hb hby d5_46) kt) ?_
  show Go p.tables e below _ (T101.setTop (mkF m 47 #[.val (.ref a1)] [(.int (1 : Int32))]))
  refine Go.step (fun _ kt => XS.goto X101.here hx rfl (pc0 := 47) (pc' := 51) rfl (hb hby d5_47) (by decide) (by decide) kt) ?_
  show Go p.tables e below _ (T101.setTop (mkF m 51 #[.val (.ref a1)] [(.int (1 : Int32))]))
  obtain ⟨fs, hr, hrun, hended, hW, hsame⟩ := X101.leave (v := some (.int (1 : Int32))) (fun h => by rw [Bd.returns] at h; cases h)
  refine ⟨_, _, retN X101 hx (t := .boolean) Bd.returns (by simp) (hb hby d5_51) hr, hrun, hended, _, _, rfl, ?_, ⟨_, rfl⟩, hW, hsame.mono (by decide) (by decide)⟩
  show Qrml0 Z a1 h0 n0 _ T101.heap _
  rw [eh101]
  refine ⟨?_, N101, rfl⟩
  rfl
theorem d5_50 : decode prog_53_method_5_code 50 = .ok (.iconst 0, 1) := by decide +kernel
theorem ef_rml1 (m : MethodId) (a1 : Addr) : entryFrame m #[(.ref a1)] 1 = mkF m 0 #[.val (.ref a1)] [] := by first | (simp [entryFrame, mkF, argsToLocals, Value.category]; done) | rfl
def Qrml1 (Z : State) (a1 : Addr) (h0 : Heap) (n0 : Nat) (v : Option Value) (h : Heap) (L : List Loc) : Prop := v = some (.int (0 : Int32)) ∧ Fr n0 L ∧ h = h0
set_option maxRecDepth 65536 in
set_option maxHeartbeats 40000000 in
theorem rml1 (l : Launch) (Z : State) (a0 : Array Value) (hw : ∀ d ∈ tables_1, d.before a0 Z = true) (ws : List Jvm.Cond) (a1 : Addr) (h0 : Heap) (n0 : Nat) (Z0 : n0 ≤ h0.size) (E1 : Exa Z h0 a1 "com/example/inchworm/inchworm/photos/PositionKind") (F1 : Fld Z h0 a1 "java/lang/Enum" "ordinal" "I" (.int (1 : Int32))) :
    MetFree l (⟨"com/example/inchworm/inchworm/photos/PositionKind", "located", "()Z"⟩ : MethodName) (head1 (Jvm.Cond.code (⟨"com/example/inchworm/inchworm/photos/PositionKind", "located", "()Z"⟩ : MethodName) prog_53_method_5_code 1 (some .boolean) :: ws) ({ frames := 1, cells := 0, slots := 0, locals := 12 } : Room)) (fun a U => a = #[(.ref a1)] ∧ Z.Warmed39 U.vm ∧ U.heap = h0) (fun _ _ _ _ _ => True) (fun _ U o U' => ∃ v L, o = .returned v ∧ Qrml1 Z a1 h0 n0 v U'.heap L ∧ FrameEnd U o U' L ({ frames := 1, cells := 0, slots := 0, locals := 12 } : Room).cells ({ frames := 1, cells := 0, slots := 0, locals := 12 } : Room).slots) := by
  refine MetFree.of_bodySF (plainFor_of_name pn_1) hisR ?_
  intro p e s m args below meth c s₁ Bd hml0 hP hK
  obtain ⟨rfl, hZ, hh⟩ := hP
  have hx := Bd.exec
  have hby := Bd.bytes
  have hml : c.maxLocals = 1 := hml0
  have hown : s.vm.findClass "com/example/inchworm/inchworm/photos/PositionKind" = some m.cls := findClass_of_methodNamed Bd.named
  have hnm := (name_of_methodNamed Bd.named Bd.method).1
  have X0 : Stand p l e ({ frames := 1, cells := 0, slots := 0, locals := 12 } : Room) s m #[(.ref a1)] below meth c s₁ [] 0 0 := Stand.of_body Bd
  have e0 : s₁.heap = h0 := by rw [← hh, Bd.state]; rfl
  have N0 := Fr.nil n0
  show Go p.tables e below (fun o U' => ∃ v L, o = .returned v ∧ Qrml1 Z a1 h0 n0 v U'.heap L ∧ FrameEnd s o U' L ({ frames := 1, cells := 0, slots := 0, locals := 12 } : Room).cells ({ frames := 1, cells := 0, slots := 0, locals := 12 } : Room).slots) _
  refine Go.step (fun t kt => castTop (ef_rml1 m a1) kt) ?_
  show Go p.tables e below _ (s₁.setTop (mkF m 0 #[.val (.ref a1)] []))
  refine Go.step (fun _ kt => XS.aloadN X0.here hx rfl (hb hby d5_0) rfl rfl kt) ?_
  show Go p.tables e below _ (s₁.setTop (mkF m 1 #[.val (.ref a1)] [(.ref a1)]))
  obtain ⟨cq101, kq101, q101a, q101b, q101c⟩ := isOf hZ e0 E1
  obtain ⟨_, _, ⟨T101, L101, k101, n101⟩, -, X101, ⟨Lc101, hQ101, l101, y101, z101⟩, st101⟩ := X0.virtualBackUp hx (x := (⟨"com/example/inchworm/inchworm/photos/PositionKind", "ordinal", "()I"⟩ : MethodName)) (y := (⟨"java/lang/Enum", "ordinal", "()I"⟩ : MethodName)) (owner := "java/lang/Enum") hown (mvT hZ (hw _ (List.mem_of_getElem? (i := 41) rfl))) (mvT hZ (hw _ (List.mem_of_getElem? (i := 42) rfl))) (mvT hZ (hw _ (List.mem_of_getElem? (i := 43) rfl))) (by decide) (mvT hZ (hw _ (List.mem_of_getElem? (i := 45) rfl))) (mvT hZ (hw _ (List.mem_of_getElem? (i := 44) rfl))) (backOf (W := 0) (rm6 l Z a0 hw [] a1 (1 : Int32) h0 n0 Z0 F1 ) hZ (hw _ (List.mem_of_getElem? (i := 47) rfl)) (hw _ (List.mem_of_getElem? (i := 46) rfl)) (by decide) (by decide)) q101a q101c (g := (mkF m 1 #[.val (.ref a1)] [(.ref a1)])) rfl (by rw [hml]; rfl) (Steps.refl _) (argsL := []) (rest := []) (lenOf pd_0 rfl) rfl (by show 2 * 0 + _ ≤ _; exact Nat.le_of_eq rfl) (hb hby d5_1) (fun _ _ => ⟨rfl, e0, (by decide : 0 + 0 ≤ _), (by decide : 0 + 0 ≤ _)⟩)
  dsimp only [Pt.U, Pt.locs, Pt.cells, Pt.slots] at X101 l101 y101 z101 st101 hQ101
  subst l101 y101 z101
  obtain ⟨rfl, N101q, eh101⟩ := hQ101
  have N101 := Fr.app N0 N101q
  refine Go.step (fun _ kt => st101.trans kt) ?_
  show Go p.tables e below _ (T101.setTop (mkF m 4 #[.val (.ref a1)] [(.int (1 : Int32))]))
  refine Go.step (fun _ kt => XS.tswIn X101.here hx rfl (o := 46) (pc0 := 4) (pc' := 50) rfl (hb hby d5_4) rfl (by decide) (by decide) (by decide) (by decide) kt) ?_
  show Go p.tables e below _ (T101.setTop (mkF m 50 #[.val (.ref a1)] []))
  refine Go.step (fun _ kt => XS.iconst X101.here hx rfl (hb hby d5_50) kt) ?_
  show Go p.tables e below _ (T101.setTop (mkF m 51 #[.val (.ref a1)] [(.int (0 : Int32))]))
  obtain ⟨fs, hr, hrun, hended, hW, hsame⟩ := X101.leave (v := some (.int (0 : Int32))) (fun h => by rw [Bd.returns] at h; cases h)
  refine ⟨_, _, retN X101 hx (t := .boolean) Bd.returns (by simp) (hb hby d5_51) hr, hrun, hended, _, _, rfl, ?_, ⟨_, rfl⟩, hW, hsame.mono (by decide) (by decide)⟩
  show Qrml1 Z a1 h0 n0 _ T101.heap _
  rw [eh101]
  refine ⟨?_, N101, rfl⟩
  rfl
theorem ef_rml2 (m : MethodId) (a1 : Addr) : entryFrame m #[(.ref a1)] 1 = mkF m 0 #[.val (.ref a1)] [] := by first | (simp [entryFrame, mkF, argsToLocals, Value.category]; done) | rfl
def Qrml2 (Z : State) (a1 : Addr) (h0 : Heap) (n0 : Nat) (v : Option Value) (h : Heap) (L : List Loc) : Prop := v = some (.int (0 : Int32)) ∧ Fr n0 L ∧ h = h0
set_option maxRecDepth 65536 in
set_option maxHeartbeats 40000000 in
theorem rml2 (l : Launch) (Z : State) (a0 : Array Value) (hw : ∀ d ∈ tables_1, d.before a0 Z = true) (ws : List Jvm.Cond) (a1 : Addr) (h0 : Heap) (n0 : Nat) (Z0 : n0 ≤ h0.size) (E1 : Exa Z h0 a1 "com/example/inchworm/inchworm/photos/PositionKind") (F1 : Fld Z h0 a1 "java/lang/Enum" "ordinal" "I" (.int (2 : Int32))) :
    MetFree l (⟨"com/example/inchworm/inchworm/photos/PositionKind", "located", "()Z"⟩ : MethodName) (head1 (Jvm.Cond.code (⟨"com/example/inchworm/inchworm/photos/PositionKind", "located", "()Z"⟩ : MethodName) prog_53_method_5_code 1 (some .boolean) :: ws) ({ frames := 1, cells := 0, slots := 0, locals := 12 } : Room)) (fun a U => a = #[(.ref a1)] ∧ Z.Warmed39 U.vm ∧ U.heap = h0) (fun _ _ _ _ _ => True) (fun _ U o U' => ∃ v L, o = .returned v ∧ Qrml2 Z a1 h0 n0 v U'.heap L ∧ FrameEnd U o U' L ({ frames := 1, cells := 0, slots := 0, locals := 12 } : Room).cells ({ frames := 1, cells := 0, slots := 0, locals := 12 } : Room).slots) := by
  refine MetFree.of_bodySF (plainFor_of_name pn_1) hisR ?_
  intro p e s m args below meth c s₁ Bd hml0 hP hK
  obtain ⟨rfl, hZ, hh⟩ := hP
  have hx := Bd.exec
  have hby := Bd.bytes
  have hml : c.maxLocals = 1 := hml0
  have hown : s.vm.findClass "com/example/inchworm/inchworm/photos/PositionKind" = some m.cls := findClass_of_methodNamed Bd.named
  have hnm := (name_of_methodNamed Bd.named Bd.method).1
  have X0 : Stand p l e ({ frames := 1, cells := 0, slots := 0, locals := 12 } : Room) s m #[(.ref a1)] below meth c s₁ [] 0 0 := Stand.of_body Bd
  have e0 : s₁.heap = h0 := by rw [← hh, Bd.state]; rfl
  have N0 := Fr.nil n0
  show Go p.tables e below (fun o U' => ∃ v L, o = .returned v ∧ Qrml2 Z a1 h0 n0 v U'.heap L ∧ FrameEnd s o U' L ({ frames := 1, cells := 0, slots := 0, locals := 12 } : Room).cells ({ frames := 1, cells := 0, slots := 0, locals := 12 } : Room).slots) _
  refine Go.step (fun t kt => castTop (ef_rml2 m a1) kt) ?_
  show Go p.tables e below _ (s₁.setTop (mkF m 0 #[.val (.ref a1)] []))
  refine Go.step (fun _ kt => XS.aloadN X0.here hx rfl (hb hby d5_0) rfl rfl kt) ?_
  show Go p.tables e below _ (s₁.setTop (mkF m 1 #[.val (.ref a1)] [(.ref a1)]))
  obtain ⟨cq101, kq101, q101a, q101b, q101c⟩ := isOf hZ e0 E1
  obtain ⟨_, _, ⟨T101, L101, k101, n101⟩, -, X101, ⟨Lc101, hQ101, l101, y101, z101⟩, st101⟩ := X0.virtualBackUp hx (x := (⟨"com/example/inchworm/inchworm/photos/PositionKind", "ordinal", "()I"⟩ : MethodName)) (y := (⟨"java/lang/Enum", "ordinal", "()I"⟩ : MethodName)) (owner := "java/lang/Enum") hown (mvT hZ (hw _ (List.mem_of_getElem? (i := 41) rfl))) (mvT hZ (hw _ (List.mem_of_getElem? (i := 42) rfl))) (mvT hZ (hw _ (List.mem_of_getElem? (i := 43) rfl))) (by decide) (mvT hZ (hw _ (List.mem_of_getElem? (i := 45) rfl))) (mvT hZ (hw _ (List.mem_of_getElem? (i := 44) rfl))) (backOf (W := 0) (rm6 l Z a0 hw [] a1 (2 : Int32) h0 n0 Z0 F1 ) hZ (hw _ (List.mem_of_getElem? (i := 47) rfl)) (hw _ (List.mem_of_getElem? (i := 46) rfl)) (by decide) (by decide)) q101a q101c (g := (mkF m 1 #[.val (.ref a1)] [(.ref a1)])) rfl (by rw [hml]; rfl) (Steps.refl _) (argsL := []) (rest := []) (lenOf pd_0 rfl) rfl (by show 2 * 0 + _ ≤ _; exact Nat.le_of_eq rfl) (hb hby d5_1) (fun _ _ => ⟨rfl, e0, (by decide : 0 + 0 ≤ _), (by decide : 0 + 0 ≤ _)⟩)
  dsimp only [Pt.U, Pt.locs, Pt.cells, Pt.slots] at X101 l101 y101 z101 st101 hQ101
  subst l101 y101 z101
  obtain ⟨rfl, N101q, eh101⟩ := hQ101
  have N101 := Fr.app N0 N101q
  refine Go.step (fun _ kt => st101.trans kt) ?_
  show Go p.tables e below _ (T101.setTop (mkF m 4 #[.val (.ref a1)] [(.int (2 : Int32))]))
  refine Go.step (fun _ kt => XS.tswIn X101.here hx rfl (o := 46) (pc0 := 4) (pc' := 50) rfl (hb hby d5_4) rfl (by decide) (by decide) (by decide) (by decide) kt) ?_
  show Go p.tables e below _ (T101.setTop (mkF m 50 #[.val (.ref a1)] []))
  refine Go.step (fun _ kt => XS.iconst X101.here hx rfl (hb hby d5_50) kt) ?_
  show Go p.tables e below _ (T101.setTop (mkF m 51 #[.val (.ref a1)] [(.int (0 : Int32))]))
  obtain ⟨fs, hr, hrun, hended, hW, hsame⟩ := X101.leave (v := some (.int (0 : Int32))) (fun h => by rw [Bd.returns] at h; cases h)
  refine ⟨_, _, retN X101 hx (t := .boolean) Bd.returns (by simp) (hb hby d5_51) hr, hrun, hended, _, _, rfl, ?_, ⟨_, rfl⟩, hW, hsame.mono (by decide) (by decide)⟩
  show Qrml2 Z a1 h0 n0 _ T101.heap _
  rw [eh101]
  refine ⟨?_, N101, rfl⟩
  rfl
theorem ef_rml3 (m : MethodId) (a1 : Addr) : entryFrame m #[(.ref a1)] 1 = mkF m 0 #[.val (.ref a1)] [] := by first | (simp [entryFrame, mkF, argsToLocals, Value.category]; done) | rfl
def Qrml3 (Z : State) (a1 : Addr) (h0 : Heap) (n0 : Nat) (v : Option Value) (h : Heap) (L : List Loc) : Prop := v = some (.int (0 : Int32)) ∧ Fr n0 L ∧ h = h0
set_option maxRecDepth 65536 in
set_option maxHeartbeats 40000000 in
theorem rml3 (l : Launch) (Z : State) (a0 : Array Value) (hw : ∀ d ∈ tables_1, d.before a0 Z = true) (ws : List Jvm.Cond) (a1 : Addr) (h0 : Heap) (n0 : Nat) (Z0 : n0 ≤ h0.size) (E1 : Exa Z h0 a1 "com/example/inchworm/inchworm/photos/PositionKind") (F1 : Fld Z h0 a1 "java/lang/Enum" "ordinal" "I" (.int (3 : Int32))) :
    MetFree l (⟨"com/example/inchworm/inchworm/photos/PositionKind", "located", "()Z"⟩ : MethodName) (head1 (Jvm.Cond.code (⟨"com/example/inchworm/inchworm/photos/PositionKind", "located", "()Z"⟩ : MethodName) prog_53_method_5_code 1 (some .boolean) :: ws) ({ frames := 1, cells := 0, slots := 0, locals := 12 } : Room)) (fun a U => a = #[(.ref a1)] ∧ Z.Warmed39 U.vm ∧ U.heap = h0) (fun _ _ _ _ _ => True) (fun _ U o U' => ∃ v L, o = .returned v ∧ Qrml3 Z a1 h0 n0 v U'.heap L ∧ FrameEnd U o U' L ({ frames := 1, cells := 0, slots := 0, locals := 12 } : Room).cells ({ frames := 1, cells := 0, slots := 0, locals := 12 } : Room).slots) := by
  refine MetFree.of_bodySF (plainFor_of_name pn_1) hisR ?_
  intro p e s m args below meth c s₁ Bd hml0 hP hK
  obtain ⟨rfl, hZ, hh⟩ := hP
  have hx := Bd.exec
  have hby := Bd.bytes
  have hml : c.maxLocals = 1 := hml0
  have hown : s.vm.findClass "com/example/inchworm/inchworm/photos/PositionKind" = some m.cls := findClass_of_methodNamed Bd.named
  have hnm := (name_of_methodNamed Bd.named Bd.method).1
  have X0 : Stand p l e ({ frames := 1, cells := 0, slots := 0, locals := 12 } : Room) s m #[(.ref a1)] below meth c s₁ [] 0 0 := Stand.of_body Bd
  have e0 : s₁.heap = h0 := by rw [← hh, Bd.state]; rfl
  have N0 := Fr.nil n0
  show Go p.tables e below (fun o U' => ∃ v L, o = .returned v ∧ Qrml3 Z a1 h0 n0 v U'.heap L ∧ FrameEnd s o U' L ({ frames := 1, cells := 0, slots := 0, locals := 12 } : Room).cells ({ frames := 1, cells := 0, slots := 0, locals := 12 } : Room).slots) _
  refine Go.step (fun t kt => castTop (ef_rml3 m a1) kt) ?_
  show Go p.tables e below _ (s₁.setTop (mkF m 0 #[.val (.ref a1)] []))
  refine Go.step (fun _ kt => XS.aloadN X0.here hx rfl (hb hby d5_0) rfl rfl kt) ?_
  show Go p.tables e below _ (s₁.setTop (mkF m 1 #[.val (.ref a1)] [(.ref a1)]))
  obtain ⟨cq101, kq101, q101a, q101b, q101c⟩ := isOf hZ e0 E1
  obtain ⟨_, _, ⟨T101, L101, k101, n101⟩, -, X101, ⟨Lc101, hQ101, l101, y101, z101⟩, st101⟩ := X0.virtualBackUp hx (x := (⟨"com/example/inchworm/inchworm/photos/PositionKind", "ordinal", "()I"⟩ : MethodName)) (y := (⟨"java/lang/Enum", "ordinal", "()I"⟩ : MethodName)) (owner := "java/lang/Enum") hown (mvT hZ (hw _ (List.mem_of_getElem? (i := 41) rfl))) (mvT hZ (hw _ (List.mem_of_getElem? (i := 42) rfl))) (mvT hZ (hw _ (List.mem_of_getElem? (i := 43) rfl))) (by decide) (mvT hZ (hw _ (List.mem_of_getElem? (i := 45) rfl))) (mvT hZ (hw _ (List.mem_of_getElem? (i := 44) rfl))) (backOf (W := 0) (rm6 l Z a0 hw [] a1 (3 : Int32) h0 n0 Z0 F1 ) hZ (hw _ (List.mem_of_getElem? (i := 47) rfl)) (hw _ (List.mem_of_getElem? (i := 46) rfl)) (by decide) (by decide)) q101a q101c (g := (mkF m 1 #[.val (.ref a1)] [(.ref a1)])) rfl (by rw [hml]; rfl) (Steps.refl _) (argsL := []) (rest := []) (lenOf pd_0 rfl) rfl (by show 2 * 0 + _ ≤ _; exact Nat.le_of_eq rfl) (hb hby d5_1) (fun _ _ => ⟨rfl, e0, (by decide : 0 + 0 ≤ _), (by decide : 0 + 0 ≤ _)⟩)
  dsimp only [Pt.U, Pt.locs, Pt.cells, Pt.slots] at X101 l101 y101 z101 st101 hQ101
  subst l101 y101 z101
  obtain ⟨rfl, N101q, eh101⟩ := hQ101
  have N101 := Fr.app N0 N101q
  refine Go.step (fun _ kt => st101.trans kt) ?_
  show Go p.tables e below _ (T101.setTop (mkF m 4 #[.val (.ref a1)] [(.int (3 : Int32))]))
  refine Go.step (fun _ kt => XS.tswIn X101.here hx rfl (o := 46) (pc0 := 4) (pc' := 50) rfl (hb hby d5_4) rfl (by decide) (by decide) (by decide) (by decide) kt) ?_
  show Go p.tables e below _ (T101.setTop (mkF m 50 #[.val (.ref a1)] []))
  refine Go.step (fun _ kt => XS.iconst X101.here hx rfl (hb hby d5_50) kt) ?_
  show Go p.tables e below _ (T101.setTop (mkF m 51 #[.val (.ref a1)] [(.int (0 : Int32))]))
  obtain ⟨fs, hr, hrun, hended, hW, hsame⟩ := X101.leave (v := some (.int (0 : Int32))) (fun h => by rw [Bd.returns] at h; cases h)
  refine ⟨_, _, retN X101 hx (t := .boolean) Bd.returns (by simp) (hb hby d5_51) hr, hrun, hended, _, _, rfl, ?_, ⟨_, rfl⟩, hW, hsame.mono (by decide) (by decide)⟩
  show Qrml3 Z a1 h0 n0 _ T101.heap _
  rw [eh101]
  refine ⟨?_, N101, rfl⟩
  rfl
theorem own_arv_ne {Z : State} {h : Heap} {b b' : Addr} {k k' : ClassId} {ty ty' : FieldType} {z z' : Int32} {vs vs' : List Value} {d d' : Value} (F : Arv Z h b k ty z vs d) (G : Arv Z h b' k' ty' z' vs' d') (q : z.toNatClampNeg ≠ z'.toNatClampNeg ∨ ∃ i, i < z.toNatClampNeg ∧ vs.getD i d ≠ vs'.getD i d') : b ≠ b' := by
  intro e
  subst e
  obtain ⟨c, A, -, S, -, H, -⟩ := F
  obtain ⟨c', A', -, S', -, H', -⟩ := G
  cases A.1.symm.trans A'.1
  rcases q with q | ⟨i, hi, q⟩
  · exact q (S.symm.trans S')
  · exact q (Option.some.inj ((H i (by rw [S]; exact hi)).symm.trans (H' i (by rw [S]; exact hi))))
theorem pd_1 : parseMethodDescriptor "(I)Lcom/example/inchworm/inchworm/photos/PositionKind;" = some ⟨[.int], some (.object "com/example/inchworm/inchworm/photos/PositionKind")⟩ := by decide +kernel
theorem pd_2 : parseMethodDescriptor "()Ljava/lang/String;" = some ⟨[], some (.object "java/lang/String")⟩ := by decide +kernel
theorem pn_3 : plainName "java/lang/StringLatin1" = true := by first | (simp [plainName, overriddenIn]; done) | decide +kernel
theorem d4_0 : decode jdk_43_method_13_code 0 = .ok (.aload_n 0, 1) := by decide +kernel
theorem d4_1 : decode jdk_43_method_13_code 1 = .ok (.arraylength, 1) := by decide +kernel
theorem d4_2 : decode jdk_43_method_13_code 2 = .ok (.aload_n 1, 1) := by decide +kernel
theorem d4_3 : decode jdk_43_method_13_code 3 = .ok (.arraylength, 1) := by decide +kernel
theorem d4_4 : decode jdk_43_method_13_code 4 = .ok (.if_icmp .ne 30, 3) := by decide +kernel
theorem d4_7 : decode jdk_43_method_13_code 7 = .ok (.iconst 0, 1) := by decide +kernel
theorem d4_8 : decode jdk_43_method_13_code 8 = .ok (.istore_n 2, 1) := by decide +kernel
theorem d4_9 : decode jdk_43_method_13_code 9 = .ok (.iload_n 2, 1) := by decide +kernel
theorem d4_10 : decode jdk_43_method_13_code 10 = .ok (.aload_n 0, 1) := by decide +kernel
theorem d4_11 : decode jdk_43_method_13_code 11 = .ok (.arraylength, 1) := by decide +kernel
theorem d4_12 : decode jdk_43_method_13_code 12 = .ok (.if_icmp .ge 20, 3) := by decide +kernel
theorem d4_15 : decode jdk_43_method_13_code 15 = .ok (.aload_n 0, 1) := by decide +kernel
theorem d4_16 : decode jdk_43_method_13_code 16 = .ok (.iload_n 2, 1) := by decide +kernel
theorem d4_17 : decode jdk_43_method_13_code 17 = .ok (.baload, 1) := by decide +kernel
theorem d4_18 : decode jdk_43_method_13_code 18 = .ok (.aload_n 1, 1) := by decide +kernel
theorem d4_19 : decode jdk_43_method_13_code 19 = .ok (.iload_n 2, 1) := by decide +kernel
theorem d4_20 : decode jdk_43_method_13_code 20 = .ok (.baload, 1) := by decide +kernel
theorem d4_21 : decode jdk_43_method_13_code 21 = .ok (.if_icmp .eq 5, 3) := by decide +kernel
theorem d4_26 : decode jdk_43_method_13_code 26 = .ok (.iinc 2 1, 3) := by decide +kernel
theorem d4_29 : decode jdk_43_method_13_code 29 = .ok (.goto (-20), 3) := by decide +kernel
theorem d4_32 : decode jdk_43_method_13_code 32 = .ok (.iconst 1, 1) := by decide +kernel
theorem d4_33 : decode jdk_43_method_13_code 33 = .ok (.ireturn, 1) := by decide +kernel
theorem ef_rmle1 (m : MethodId) (a1 : Addr) (a2 : Addr) (k1 : ClassId) (k2 : ClassId) : entryFrame m #[(.ref a1), (.ref a2)] 3 = mkF m 0 #[.val (.ref a1), .val (.ref a2), .unset] [] := by first | (simp [entryFrame, mkF, argsToLocals, Value.category]; done) | rfl
def Qrmle1 (Z : State) (a1 : Addr) (a2 : Addr) (k1 : ClassId) (k2 : ClassId) (h0 : Heap) (n0 : Nat) (v : Option Value) (h : Heap) (L : List Loc) : Prop := v = some (.int (1 : Int32)) ∧ Fr n0 L ∧ h = h0
set_option maxRecDepth 65536 in
set_option maxHeartbeats 40000000 in
theorem rmle1 (l : Launch) (Z : State) (a0 : Array Value) (hw : ∀ d ∈ tables_1, d.before a0 Z = true) (ws : List Jvm.Cond) (a1 : Addr) (a2 : Addr) (k1 : ClassId) (k2 : ClassId) (h0 : Heap) (n0 : Nat) (Z0 : n0 ≤ h0.size) (V1 : Arv Z h0 a1 k1 .byte (4 : Int32) [(.int (101 : Int32)), (.int (120 : Int32)), (.int (105 : Int32)), (.int (102 : Int32))] (.int (0 : Int32))) (V2 : Arv Z h0 a2 k2 .byte (4 : Int32) [(.int (101 : Int32)), (.int (120 : Int32)), (.int (105 : Int32)), (.int (102 : Int32))] (.int (0 : Int32))) :
    MetFree l (⟨"java/lang/StringLatin1", "equals", "([B[B)Z"⟩ : MethodName) (head1 (Jvm.Cond.code (⟨"java/lang/StringLatin1", "equals", "([B[B)Z"⟩ : MethodName) jdk_43_method_13_code 3 (some .boolean) :: ws) ({ frames := 0, cells := 0, slots := 0, locals := 0 } : Room)) (fun a U => a = #[(.ref a1), (.ref a2)] ∧ Z.Warmed39 U.vm ∧ U.heap = h0) (fun _ _ _ _ _ => True) (fun _ U o U' => ∃ v L, o = .returned v ∧ Qrmle1 Z a1 a2 k1 k2 h0 n0 v U'.heap L ∧ FrameEnd U o U' L ({ frames := 0, cells := 0, slots := 0, locals := 0 } : Room).cells ({ frames := 0, cells := 0, slots := 0, locals := 0 } : Room).slots) := by
  refine MetFree.of_bodySF (plainFor_of_name pn_3) hisR ?_
  intro p e s m args below meth c s₁ Bd hml0 hP hK
  obtain ⟨rfl, hZ, hh⟩ := hP
  have hx := Bd.exec
  have hby := Bd.bytes
  have hml : c.maxLocals = 3 := hml0
  have hown : s.vm.findClass "java/lang/StringLatin1" = some m.cls := findClass_of_methodNamed Bd.named
  have hnm := (name_of_methodNamed Bd.named Bd.method).1
  have X0 : Stand p l e ({ frames := 0, cells := 0, slots := 0, locals := 0 } : Room) s m #[(.ref a1), (.ref a2)] below meth c s₁ [] 0 0 := Stand.of_body Bd
  have e0 : s₁.heap = h0 := by rw [← hh, Bd.state]; rfl
  have N0 := Fr.nil n0
  show Go p.tables e below (fun o U' => ∃ v L, o = .returned v ∧ Qrmle1 Z a1 a2 k1 k2 h0 n0 v U'.heap L ∧ FrameEnd s o U' L ({ frames := 0, cells := 0, slots := 0, locals := 0 } : Room).cells ({ frames := 0, cells := 0, slots := 0, locals := 0 } : Room).slots) _
  refine Go.step (fun t kt => castTop (ef_rmle1 m a1 a2 k1 k2) kt) ?_
  show Go p.tables e below _ (s₁.setTop (mkF m 0 #[.val (.ref a1), .val (.ref a2), .unset] []))
  refine Go.step (fun _ kt => XS.aloadN X0.here hx rfl (hb hby d4_0) rfl rfl kt) ?_
  show Go p.tables e below _ (s₁.setTop (mkF m 1 #[.val (.ref a1), .val (.ref a2), .unset] [(.ref a1)]))
  obtain ⟨cl101, Ar101, qa101, Sa101, Na101, Ha101, Ga101⟩ := (id V1)
  refine Go.step (X0.arraylength hx (by rw [e0]; exact Ar101.1) (State.isArrayOf_alike hZ.alike Ar101.2.1) (g := (mkF m 1 #[.val (.ref a1), .val (.ref a2), .unset] [(.ref a1)])) rfl rfl (hb hby d4_1)) ?_
  rw [len_of Sa101 Na101]
  show Go p.tables e below _ (s₁.setTop (mkF m 2 #[.val (.ref a1), .val (.ref a2), .unset] [(.int (4 : Int32))]))
  refine Go.step (fun _ kt => XS.aloadN X0.here hx rfl (hb hby d4_2) rfl rfl kt) ?_
  show Go p.tables e below _ (s₁.setTop (mkF m 3 #[.val (.ref a1), .val (.ref a2), .unset] [(.ref a2), (.int (4 : Int32))]))
  obtain ⟨cl102, Ar102, qa102, Sa102, Na102, Ha102, Ga102⟩ := (id V2)
  refine Go.step (X0.arraylength hx (by rw [e0]; exact Ar102.1) (State.isArrayOf_alike hZ.alike Ar102.2.1) (g := (mkF m 3 #[.val (.ref a1), .val (.ref a2), .unset] [(.ref a2), (.int (4 : Int32))])) rfl rfl (hb hby d4_3)) ?_
  rw [len_of Sa102 Na102]
  show Go p.tables e below _ (s₁.setTop (mkF m 4 #[.val (.ref a1), .val (.ref a2), .unset] [(.int (4 : Int32)), (.int (4 : Int32))]))
  refine Go.step (fun _ kt => XS.icmpNo X0.here hx rfl (hb hby d4_4) rfl (teq (by decide : (4 : Int32) = (4 : Int32))).2 kt) ?_
  show Go p.tables e below _ (s₁.setTop (mkF m 7 #[.val (.ref a1), .val (.ref a2), .unset] []))
  refine Go.step (fun _ kt => XS.iconst X0.here hx rfl (hb hby d4_7) kt) ?_
  show Go p.tables e below _ (s₁.setTop (mkF m 8 #[.val (.ref a1), .val (.ref a2), .unset] [(.int (0 : Int32))]))
  refine Go.step (fun _ kt => XS.istoreN X0.here hx rfl (hb hby d4_8) rfl (l' := #[.val (.ref a1), .val (.ref a2), .val (.int (0 : Int32))]) rfl kt) ?_
  show Go p.tables e below _ (s₁.setTop (mkF m 9 #[.val (.ref a1), .val (.ref a2), .val (.int (0 : Int32))] []))
  refine Go.step (fun _ kt => XS.iloadN X0.here hx rfl (hb hby d4_9) rfl kt) ?_
  show Go p.tables e below _ (s₁.setTop (mkF m 10 #[.val (.ref a1), .val (.ref a2), .val (.int (0 : Int32))] [(.int (0 : Int32))]))
  refine Go.step (fun _ kt => XS.aloadN X0.here hx rfl (hb hby d4_10) rfl rfl kt) ?_
  show Go p.tables e below _ (s₁.setTop (mkF m 11 #[.val (.ref a1), .val (.ref a2), .val (.int (0 : Int32))] [(.ref a1), (.int (0 : Int32))]))
  obtain ⟨cl103, Ar103, qa103, Sa103, Na103, Ha103, Ga103⟩ := (id V1)
  refine Go.step (X0.arraylength hx (by rw [e0]; exact Ar103.1) (State.isArrayOf_alike hZ.alike Ar103.2.1) (g := (mkF m 11 #[.val (.ref a1), .val (.ref a2), .val (.int (0 : Int32))] [(.ref a1), (.int (0 : Int32))])) rfl rfl (hb hby d4_11)) ?_
  rw [len_of Sa103 Na103]
  show Go p.tables e below _ (s₁.setTop (mkF m 12 #[.val (.ref a1), .val (.ref a2), .val (.int (0 : Int32))] [(.int (4 : Int32)), (.int (0 : Int32))]))
  refine Go.step (fun _ kt => XS.icmpNo X0.here hx rfl (hb hby d4_12) rfl (tlt (by decide : (0 : Int32) < (4 : Int32))).2.1 kt) ?_
  show Go p.tables e below _ (s₁.setTop (mkF m 15 #[.val (.ref a1), .val (.ref a2), .val (.int (0 : Int32))] []))
  refine Go.step (fun _ kt => XS.aloadN X0.here hx rfl (hb hby d4_15) rfl rfl kt) ?_
  show Go p.tables e below _ (s₁.setTop (mkF m 16 #[.val (.ref a1), .val (.ref a2), .val (.int (0 : Int32))] [(.ref a1)]))
  refine Go.step (fun _ kt => XS.iloadN X0.here hx rfl (hb hby d4_16) rfl kt) ?_
  show Go p.tables e below _ (s₁.setTop (mkF m 17 #[.val (.ref a1), .val (.ref a2), .val (.int (0 : Int32))] [(.int (0 : Int32)), (.ref a1)]))
  obtain ⟨cl104, Ar104, qa104, Sa104, Na104, Ha104, Ga104⟩ := (id V1)
  have hin104 : ¬ ((0 : Int32) < 0 ∨ cl104.slots.size ≤ ((0 : Int32)).toNatClampNeg) := inb_of Sa104 ⟨by decide, by decide⟩
  have hat104 : cl104.slots[((0 : Int32)).toNatClampNeg]? = some (.int (101 : Int32)) := at_of Ha104 hin104 rfl
  refine Go.step (X0.baloadBytes hx (j := (0 : Int32)) (v := (.int (101 : Int32))) (by rw [e0]; exact Ar104.1) (State.isArrayOf_alike hZ.alike Ar104.2.1) Ar104.2.2 hin104 hat104 (g := (mkF m 17 #[.val (.ref a1), .val (.ref a2), .val (.int (0 : Int32))] [(.int (0 : Int32)), (.ref a1)])) rfl rfl (hb hby d4_17)) ?_
  show Go p.tables e below _ (s₁.setTop (mkF m 18 #[.val (.ref a1), .val (.ref a2), .val (.int (0 : Int32))] [(.int (101 : Int32))]))
  refine Go.step (fun _ kt => XS.aloadN X0.here hx rfl (hb hby d4_18) rfl rfl kt) ?_
  show Go p.tables e below _ (s₁.setTop (mkF m 19 #[.val (.ref a1), .val (.ref a2), .val (.int (0 : Int32))] [(.ref a2), (.int (101 : Int32))]))
  refine Go.step (fun _ kt => XS.iloadN X0.here hx rfl (hb hby d4_19) rfl kt) ?_
  show Go p.tables e below _ (s₁.setTop (mkF m 20 #[.val (.ref a1), .val (.ref a2), .val (.int (0 : Int32))] [(.int (0 : Int32)), (.ref a2), (.int (101 : Int32))]))
  obtain ⟨cl105, Ar105, qa105, Sa105, Na105, Ha105, Ga105⟩ := (id V2)
  have hin105 : ¬ ((0 : Int32) < 0 ∨ cl105.slots.size ≤ ((0 : Int32)).toNatClampNeg) := inb_of Sa105 ⟨by decide, by decide⟩
  have hat105 : cl105.slots[((0 : Int32)).toNatClampNeg]? = some (.int (101 : Int32)) := at_of Ha105 hin105 rfl
  refine Go.step (X0.baloadBytes hx (j := (0 : Int32)) (v := (.int (101 : Int32))) (by rw [e0]; exact Ar105.1) (State.isArrayOf_alike hZ.alike Ar105.2.1) Ar105.2.2 hin105 hat105 (g := (mkF m 20 #[.val (.ref a1), .val (.ref a2), .val (.int (0 : Int32))] [(.int (0 : Int32)), (.ref a2), (.int (101 : Int32))])) rfl rfl (hb hby d4_20)) ?_
  show Go p.tables e below _ (s₁.setTop (mkF m 21 #[.val (.ref a1), .val (.ref a2), .val (.int (0 : Int32))] [(.int (101 : Int32)), (.int (101 : Int32))]))
  refine Go.step (fun _ kt => XS.icmpYes X0.here hx rfl (pc0 := 21) (pc' := 26) rfl (hb hby d4_21) rfl (teq (by decide : (101 : Int32) = (101 : Int32))).1 (by decide) (by decide) kt) ?_
  show Go p.tables e below _ (s₁.setTop (mkF m 26 #[.val (.ref a1), .val (.ref a2), .val (.int (0 : Int32))] []))
  refine Go.step (fun _ kt => XS.iinc X0.here hx rfl (hb hby d4_26) rfl (l' := #[.val (.ref a1), .val (.ref a2), .val (.int ((0 : Int32) + (1 : Int32)))]) rfl kt) ?_
  show Go p.tables e below _ (s₁.setTop (mkF m 29 #[.val (.ref a1), .val (.ref a2), .val (.int ((0 : Int32) + (1 : Int32)))] []))
  have q106 : ((0 : Int32) + (1 : Int32)) = (1 : Int32) := by decide
  rw [q106]
  show Go p.tables e below _ (s₁.setTop (mkF m 29 #[.val (.ref a1), .val (.ref a2), .val (.int (1 : Int32))] []))
  refine Go.step (fun _ kt => XS.goto X0.here hx rfl (pc0 := 29) (pc' := 9) rfl (hb hby d4_29) (by decide) (by decide) kt) ?_
  show Go p.tables e below _ (s₁.setTop (mkF m 9 #[.val (.ref a1), .val (.ref a2), .val (.int (1 : Int32))] []))
  refine Go.step (fun _ kt => XS.iloadN X0.here hx rfl (hb hby d4_9) rfl kt) ?_
  show Go p.tables e below _ (s₁.setTop (mkF m 10 #[.val (.ref a1), .val (.ref a2), .val (.int (1 : Int32))] [(.int (1 : Int32))]))
  refine Go.step (fun _ kt => XS.aloadN X0.here hx rfl (hb hby d4_10) rfl rfl kt) ?_
  show Go p.tables e below _ (s₁.setTop (mkF m 11 #[.val (.ref a1), .val (.ref a2), .val (.int (1 : Int32))] [(.ref a1), (.int (1 : Int32))]))
  obtain ⟨cl107, Ar107, qa107, Sa107, Na107, Ha107, Ga107⟩ := (id V1)
  refine Go.step (X0.arraylength hx (by rw [e0]; exact Ar107.1) (State.isArrayOf_alike hZ.alike Ar107.2.1) (g := (mkF m 11 #[.val (.ref a1), .val (.ref a2), .val (.int (1 : Int32))] [(.ref a1), (.int (1 : Int32))])) rfl rfl (hb hby d4_11)) ?_
  rw [len_of Sa107 Na107]
  show Go p.tables e below _ (s₁.setTop (mkF m 12 #[.val (.ref a1), .val (.ref a2), .val (.int (1 : Int32))] [(.int (4 : Int32)), (.int (1 : Int32))]))
  refine Go.step (fun _ kt => XS.icmpNo X0.here hx rfl (hb hby d4_12) rfl (tlt (by decide : (1 : Int32) < (4 : Int32))).2.1 kt) ?_
  show Go p.tables e below _ (s₁.setTop (mkF m 15 #[.val (.ref a1), .val (.ref a2), .val (.int (1 : Int32))] []))
  refine Go.step (fun _ kt => XS.aloadN X0.here hx rfl (hb hby d4_15) rfl rfl kt) ?_
  show Go p.tables e below _ (s₁.setTop (mkF m 16 #[.val (.ref a1), .val (.ref a2), .val (.int (1 : Int32))] [(.ref a1)]))
  refine Go.step (fun _ kt => XS.iloadN X0.here hx rfl (hb hby d4_16) rfl kt) ?_
  show Go p.tables e below _ (s₁.setTop (mkF m 17 #[.val (.ref a1), .val (.ref a2), .val (.int (1 : Int32))] [(.int (1 : Int32)), (.ref a1)]))
  obtain ⟨cl108, Ar108, qa108, Sa108, Na108, Ha108, Ga108⟩ := (id V1)
  have hin108 : ¬ ((1 : Int32) < 0 ∨ cl108.slots.size ≤ ((1 : Int32)).toNatClampNeg) := inb_of Sa108 ⟨by decide, by decide⟩
  have hat108 : cl108.slots[((1 : Int32)).toNatClampNeg]? = some (.int (120 : Int32)) := at_of Ha108 hin108 rfl
  refine Go.step (X0.baloadBytes hx (j := (1 : Int32)) (v := (.int (120 : Int32))) (by rw [e0]; exact Ar108.1) (State.isArrayOf_alike hZ.alike Ar108.2.1) Ar108.2.2 hin108 hat108 (g := (mkF m 17 #[.val (.ref a1), .val (.ref a2), .val (.int (1 : Int32))] [(.int (1 : Int32)), (.ref a1)])) rfl rfl (hb hby d4_17)) ?_
  show Go p.tables e below _ (s₁.setTop (mkF m 18 #[.val (.ref a1), .val (.ref a2), .val (.int (1 : Int32))] [(.int (120 : Int32))]))
  refine Go.step (fun _ kt => XS.aloadN X0.here hx rfl (hb hby d4_18) rfl rfl kt) ?_
  show Go p.tables e below _ (s₁.setTop (mkF m 19 #[.val (.ref a1), .val (.ref a2), .val (.int (1 : Int32))] [(.ref a2), (.int (120 : Int32))]))
  refine Go.step (fun _ kt => XS.iloadN X0.here hx rfl (hb hby d4_19) rfl kt) ?_
  show Go p.tables e below _ (s₁.setTop (mkF m 20 #[.val (.ref a1), .val (.ref a2), .val (.int (1 : Int32))] [(.int (1 : Int32)), (.ref a2), (.int (120 : Int32))]))
  obtain ⟨cl109, Ar109, qa109, Sa109, Na109, Ha109, Ga109⟩ := (id V2)
  have hin109 : ¬ ((1 : Int32) < 0 ∨ cl109.slots.size ≤ ((1 : Int32)).toNatClampNeg) := inb_of Sa109 ⟨by decide, by decide⟩
  have hat109 : cl109.slots[((1 : Int32)).toNatClampNeg]? = some (.int (120 : Int32)) := at_of Ha109 hin109 rfl
  refine Go.step (X0.baloadBytes hx (j := (1 : Int32)) (v := (.int (120 : Int32))) (by rw [e0]; exact Ar109.1) (State.isArrayOf_alike hZ.alike Ar109.2.1) Ar109.2.2 hin109 hat109 (g := (mkF m 20 #[.val (.ref a1), .val (.ref a2), .val (.int (1 : Int32))] [(.int (1 : Int32)), (.ref a2), (.int (120 : Int32))])) rfl rfl (hb hby d4_20)) ?_
  show Go p.tables e below _ (s₁.setTop (mkF m 21 #[.val (.ref a1), .val (.ref a2), .val (.int (1 : Int32))] [(.int (120 : Int32)), (.int (120 : Int32))]))
  refine Go.step (fun _ kt => XS.icmpYes X0.here hx rfl (pc0 := 21) (pc' := 26) rfl (hb hby d4_21) rfl (teq (by decide : (120 : Int32) = (120 : Int32))).1 (by decide) (by decide) kt) ?_
  show Go p.tables e below _ (s₁.setTop (mkF m 26 #[.val (.ref a1), .val (.ref a2), .val (.int (1 : Int32))] []))
  refine Go.step (fun _ kt => XS.iinc X0.here hx rfl (hb hby d4_26) rfl (l' := #[.val (.ref a1), .val (.ref a2), .val (.int ((1 : Int32) + (1 : Int32)))]) rfl kt) ?_
  show Go p.tables e below _ (s₁.setTop (mkF m 29 #[.val (.ref a1), .val (.ref a2), .val (.int ((1 : Int32) + (1 : Int32)))] []))
  have q110 : ((1 : Int32) + (1 : Int32)) = (2 : Int32) := by decide
  rw [q110]
  show Go p.tables e below _ (s₁.setTop (mkF m 29 #[.val (.ref a1), .val (.ref a2), .val (.int (2 : Int32))] []))
  refine Go.step (fun _ kt => XS.goto X0.here hx rfl (pc0 := 29) (pc' := 9) rfl (hb hby d4_29) (by decide) (by decide) kt) ?_
  show Go p.tables e below _ (s₁.setTop (mkF m 9 #[.val (.ref a1), .val (.ref a2), .val (.int (2 : Int32))] []))
  refine Go.step (fun _ kt => XS.iloadN X0.here hx rfl (hb hby d4_9) rfl kt) ?_
  show Go p.tables e below _ (s₁.setTop (mkF m 10 #[.val (.ref a1), .val (.ref a2), .val (.int (2 : Int32))] [(.int (2 : Int32))]))
  refine Go.step (fun _ kt => XS.aloadN X0.here hx rfl (hb hby d4_10) rfl rfl kt) ?_
  show Go p.tables e below _ (s₁.setTop (mkF m 11 #[.val (.ref a1), .val (.ref a2), .val (.int (2 : Int32))] [(.ref a1), (.int (2 : Int32))]))
  obtain ⟨cl111, Ar111, qa111, Sa111, Na111, Ha111, Ga111⟩ := (id V1)
  refine Go.step (X0.arraylength hx (by rw [e0]; exact Ar111.1) (State.isArrayOf_alike hZ.alike Ar111.2.1) (g := (mkF m 11 #[.val (.ref a1), .val (.ref a2), .val (.int (2 : Int32))] [(.ref a1), (.int (2 : Int32))])) rfl rfl (hb hby d4_11)) ?_
  rw [len_of Sa111 Na111]
  show Go p.tables e below _ (s₁.setTop (mkF m 12 #[.val (.ref a1), .val (.ref a2), .val (.int (2 : Int32))] [(.int (4 : Int32)), (.int (2 : Int32))]))
  refine Go.step (fun _ kt => XS.icmpNo X0.here hx rfl (hb hby d4_12) rfl (tlt (by decide : (2 : Int32) < (4 : Int32))).2.1 kt) ?_
  show Go p.tables e below _ (s₁.setTop (mkF m 15 #[.val (.ref a1), .val (.ref a2), .val (.int (2 : Int32))] []))
  refine Go.step (fun _ kt => XS.aloadN X0.here hx rfl (hb hby d4_15) rfl rfl kt) ?_
  show Go p.tables e below _ (s₁.setTop (mkF m 16 #[.val (.ref a1), .val (.ref a2), .val (.int (2 : Int32))] [(.ref a1)]))
  refine Go.step (fun _ kt => XS.iloadN X0.here hx rfl (hb hby d4_16) rfl kt) ?_
  show Go p.tables e below _ (s₁.setTop (mkF m 17 #[.val (.ref a1), .val (.ref a2), .val (.int (2 : Int32))] [(.int (2 : Int32)), (.ref a1)]))
  obtain ⟨cl112, Ar112, qa112, Sa112, Na112, Ha112, Ga112⟩ := (id V1)
  have hin112 : ¬ ((2 : Int32) < 0 ∨ cl112.slots.size ≤ ((2 : Int32)).toNatClampNeg) := inb_of Sa112 ⟨by decide, by decide⟩
  have hat112 : cl112.slots[((2 : Int32)).toNatClampNeg]? = some (.int (105 : Int32)) := at_of Ha112 hin112 rfl
  refine Go.step (X0.baloadBytes hx (j := (2 : Int32)) (v := (.int (105 : Int32))) (by rw [e0]; exact Ar112.1) (State.isArrayOf_alike hZ.alike Ar112.2.1) Ar112.2.2 hin112 hat112 (g := (mkF m 17 #[.val (.ref a1), .val (.ref a2), .val (.int (2 : Int32))] [(.int (2 : Int32)), (.ref a1)])) rfl rfl (hb hby d4_17)) ?_
  show Go p.tables e below _ (s₁.setTop (mkF m 18 #[.val (.ref a1), .val (.ref a2), .val (.int (2 : Int32))] [(.int (105 : Int32))]))
  refine Go.step (fun _ kt => XS.aloadN X0.here hx rfl (hb hby d4_18) rfl rfl kt) ?_
  show Go p.tables e below _ (s₁.setTop (mkF m 19 #[.val (.ref a1), .val (.ref a2), .val (.int (2 : Int32))] [(.ref a2), (.int (105 : Int32))]))
  refine Go.step (fun _ kt => XS.iloadN X0.here hx rfl (hb hby d4_19) rfl kt) ?_
  show Go p.tables e below _ (s₁.setTop (mkF m 20 #[.val (.ref a1), .val (.ref a2), .val (.int (2 : Int32))] [(.int (2 : Int32)), (.ref a2), (.int (105 : Int32))]))
  obtain ⟨cl113, Ar113, qa113, Sa113, Na113, Ha113, Ga113⟩ := (id V2)
  have hin113 : ¬ ((2 : Int32) < 0 ∨ cl113.slots.size ≤ ((2 : Int32)).toNatClampNeg) := inb_of Sa113 ⟨by decide, by decide⟩
  have hat113 : cl113.slots[((2 : Int32)).toNatClampNeg]? = some (.int (105 : Int32)) := at_of Ha113 hin113 rfl
  refine Go.step (X0.baloadBytes hx (j := (2 : Int32)) (v := (.int (105 : Int32))) (by rw [e0]; exact Ar113.1) (State.isArrayOf_alike hZ.alike Ar113.2.1) Ar113.2.2 hin113 hat113 (g := (mkF m 20 #[.val (.ref a1), .val (.ref a2), .val (.int (2 : Int32))] [(.int (2 : Int32)), (.ref a2), (.int (105 : Int32))])) rfl rfl (hb hby d4_20)) ?_
  show Go p.tables e below _ (s₁.setTop (mkF m 21 #[.val (.ref a1), .val (.ref a2), .val (.int (2 : Int32))] [(.int (105 : Int32)), (.int (105 : Int32))]))
  refine Go.step (fun _ kt => XS.icmpYes X0.here hx rfl (pc0 := 21) (pc' := 26) rfl (hb hby d4_21) rfl (teq (by decide : (105 : Int32) = (105 : Int32))).1 (by decide) (by decide) kt) ?_
  show Go p.tables e below _ (s₁.setTop (mkF m 26 #[.val (.ref a1), .val (.ref a2), .val (.int (2 : Int32))] []))
  refine Go.step (fun _ kt => XS.iinc X0.here hx rfl (hb hby d4_26) rfl (l' := #[.val (.ref a1), .val (.ref a2), .val (.int ((2 : Int32) + (1 : Int32)))]) rfl kt) ?_
  show Go p.tables e below _ (s₁.setTop (mkF m 29 #[.val (.ref a1), .val (.ref a2), .val (.int ((2 : Int32) + (1 : Int32)))] []))
  have q114 : ((2 : Int32) + (1 : Int32)) = (3 : Int32) := by decide
  rw [q114]
  show Go p.tables e below _ (s₁.setTop (mkF m 29 #[.val (.ref a1), .val (.ref a2), .val (.int (3 : Int32))] []))
  refine Go.step (fun _ kt => XS.goto X0.here hx rfl (pc0 := 29) (pc' := 9) rfl (hb hby d4_29) (by decide) (by decide) kt) ?_
  show Go p.tables e below _ (s₁.setTop (mkF m 9 #[.val (.ref a1), .val (.ref a2), .val (.int (3 : Int32))] []))
  refine Go.step (fun _ kt => XS.iloadN X0.here hx rfl (hb hby d4_9) rfl kt) ?_
  show Go p.tables e below _ (s₁.setTop (mkF m 10 #[.val (.ref a1), .val (.ref a2), .val (.int (3 : Int32))] [(.int (3 : Int32))]))
  refine Go.step (fun _ kt => XS.aloadN X0.here hx rfl (hb hby d4_10) rfl rfl kt) ?_
  show Go p.tables e below _ (s₁.setTop (mkF m 11 #[.val (.ref a1), .val (.ref a2), .val (.int (3 : Int32))] [(.ref a1), (.int (3 : Int32))]))
  obtain ⟨cl115, Ar115, qa115, Sa115, Na115, Ha115, Ga115⟩ := (id V1)
  refine Go.step (X0.arraylength hx (by rw [e0]; exact Ar115.1) (State.isArrayOf_alike hZ.alike Ar115.2.1) (g := (mkF m 11 #[.val (.ref a1), .val (.ref a2), .val (.int (3 : Int32))] [(.ref a1), (.int (3 : Int32))])) rfl rfl (hb hby d4_11)) ?_
  rw [len_of Sa115 Na115]
  show Go p.tables e below _ (s₁.setTop (mkF m 12 #[.val (.ref a1), .val (.ref a2), .val (.int (3 : Int32))] [(.int (4 : Int32)), (.int (3 : Int32))]))
  refine Go.step (fun _ kt => XS.icmpNo X0.here hx rfl (hb hby d4_12) rfl (tlt (by decide : (3 : Int32) < (4 : Int32))).2.1 kt) ?_
  show Go p.tables e below _ (s₁.setTop (mkF m 15 #[.val (.ref a1), .val (.ref a2), .val (.int (3 : Int32))] []))
  refine Go.step (fun _ kt => XS.aloadN X0.here hx rfl (hb hby d4_15) rfl rfl kt) ?_
  show Go p.tables e below _ (s₁.setTop (mkF m 16 #[.val (.ref a1), .val (.ref a2), .val (.int (3 : Int32))] [(.ref a1)]))
  refine Go.step (fun _ kt => XS.iloadN X0.here hx rfl (hb hby d4_16) rfl kt) ?_
  show Go p.tables e below _ (s₁.setTop (mkF m 17 #[.val (.ref a1), .val (.ref a2), .val (.int (3 : Int32))] [(.int (3 : Int32)), (.ref a1)]))
  obtain ⟨cl116, Ar116, qa116, Sa116, Na116, Ha116, Ga116⟩ := (id V1)
  have hin116 : ¬ ((3 : Int32) < 0 ∨ cl116.slots.size ≤ ((3 : Int32)).toNatClampNeg) := inb_of Sa116 ⟨by decide, by decide⟩
  have hat116 : cl116.slots[((3 : Int32)).toNatClampNeg]? = some (.int (102 : Int32)) := at_of Ha116 hin116 rfl
  refine Go.step (X0.baloadBytes hx (j := (3 : Int32)) (v := (.int (102 : Int32))) (by rw [e0]; exact Ar116.1) (State.isArrayOf_alike hZ.alike Ar116.2.1) Ar116.2.2 hin116 hat116 (g := (mkF m 17 #[.val (.ref a1), .val (.ref a2), .val (.int (3 : Int32))] [(.int (3 : Int32)), (.ref a1)])) rfl rfl (hb hby d4_17)) ?_
  show Go p.tables e below _ (s₁.setTop (mkF m 18 #[.val (.ref a1), .val (.ref a2), .val (.int (3 : Int32))] [(.int (102 : Int32))]))
  refine Go.step (fun _ kt => XS.aloadN X0.here hx rfl (hb hby d4_18) rfl rfl kt) ?_
  show Go p.tables e below _ (s₁.setTop (mkF m 19 #[.val (.ref a1), .val (.ref a2), .val (.int (3 : Int32))] [(.ref a2), (.int (102 : Int32))]))
  refine Go.step (fun _ kt => XS.iloadN X0.here hx rfl (hb hby d4_19) rfl kt) ?_
  show Go p.tables e below _ (s₁.setTop (mkF m 20 #[.val (.ref a1), .val (.ref a2), .val (.int (3 : Int32))] [(.int (3 : Int32)), (.ref a2), (.int (102 : Int32))]))
  obtain ⟨cl117, Ar117, qa117, Sa117, Na117, Ha117, Ga117⟩ := (id V2)
  have hin117 : ¬ ((3 : Int32) < 0 ∨ cl117.slots.size ≤ ((3 : Int32)).toNatClampNeg) := inb_of Sa117 ⟨by decide, by decide⟩
  have hat117 : cl117.slots[((3 : Int32)).toNatClampNeg]? = some (.int (102 : Int32)) := at_of Ha117 hin117 rfl
  refine Go.step (X0.baloadBytes hx (j := (3 : Int32)) (v := (.int (102 : Int32))) (by rw [e0]; exact Ar117.1) (State.isArrayOf_alike hZ.alike Ar117.2.1) Ar117.2.2 hin117 hat117 (g := (mkF m 20 #[.val (.ref a1), .val (.ref a2), .val (.int (3 : Int32))] [(.int (3 : Int32)), (.ref a2), (.int (102 : Int32))])) rfl rfl (hb hby d4_20)) ?_
  show Go p.tables e below _ (s₁.setTop (mkF m 21 #[.val (.ref a1), .val (.ref a2), .val (.int (3 : Int32))] [(.int (102 : Int32)), (.int (102 : Int32))]))
  refine Go.step (fun _ kt => XS.icmpYes X0.here hx rfl (pc0 := 21) (pc' := 26) rfl (hb hby d4_21) rfl (teq (by decide : (102 : Int32) = (102 : Int32))).1 (by decide) (by decide) kt) ?_
  show Go p.tables e below _ (s₁.setTop (mkF m 26 #[.val (.ref a1), .val (.ref a2), .val (.int (3 : Int32))] []))
  refine Go.step (fun _ kt => XS.iinc X0.here hx rfl (hb hby d4_26) rfl (l' := #[.val (.ref a1), .val (.ref a2), .val (.int ((3 : Int32) + (1 : Int32)))]) rfl kt) ?_
  show Go p.tables e below _ (s₁.setTop (mkF m 29 #[.val (.ref a1), .val (.ref a2), .val (.int ((3 : Int32) + (1 : Int32)))] []))
  have q118 : ((3 : Int32) + (1 : Int32)) = (4 : Int32) := by decide
  rw [q118]
  show Go p.tables e below _ (s₁.setTop (mkF m 29 #[.val (.ref a1), .val (.ref a2), .val (.int (4 : Int32))] []))
  refine Go.step (fun _ kt => XS.goto X0.here hx rfl (pc0 := 29) (pc' := 9) rfl (hb hby d4_29) (by decide) (by decide) kt) ?_
  show Go p.tables e below _ (s₁.setTop (mkF m 9 #[.val (.ref a1), .val (.ref a2), .val (.int (4 : Int32))] []))
  refine Go.step (fun _ kt => XS.iloadN X0.here hx rfl (hb hby d4_9) rfl kt) ?_
  show Go p.tables e below _ (s₁.setTop (mkF m 10 #[.val (.ref a1), .val (.ref a2), .val (.int (4 : Int32))] [(.int (4 : Int32))]))
  refine Go.step (fun _ kt => XS.aloadN X0.here hx rfl (hb hby d4_10) rfl rfl kt) ?_
  show Go p.tables e below _ (s₁.setTop (mkF m 11 #[.val (.ref a1), .val (.ref a2), .val (.int (4 : Int32))] [(.ref a1), (.int (4 : Int32))]))
  obtain ⟨cl119, Ar119, qa119, Sa119, Na119, Ha119, Ga119⟩ := (id V1)
  refine Go.step (X0.arraylength hx (by rw [e0]; exact Ar119.1) (State.isArrayOf_alike hZ.alike Ar119.2.1) (g := (mkF m 11 #[.val (.ref a1), .val (.ref a2), .val (.int (4 : Int32))] [(.ref a1), (.int (4 : Int32))])) rfl rfl (hb hby d4_11)) ?_
  rw [len_of Sa119 Na119]
  show Go p.tables e below _ (s₁.setTop (mkF m 12 #[.val (.ref a1), .val (.ref a2), .val (.int (4 : Int32))] [(.int (4 : Int32)), (.int (4 : Int32))]))
  refine Go.step (fun _ kt => XS.icmpYes X0.here hx rfl (pc0 := 12) (pc' := 32) rfl (hb hby d4_12) rfl (flt (by decide : ¬ ((4 : Int32) < (4 : Int32)))).2.1 (by decide) (by decide) kt) ?_
  show Go p.tables e below _ (s₁.setTop (mkF m 32 #[.val (.ref a1), .val (.ref a2), .val (.int (4 : Int32))] []))
  refine Go.step (fun _ kt => XS.iconst X0.here hx rfl (hb hby d4_32) kt) ?_
  show Go p.tables e below _ (s₁.setTop (mkF m 33 #[.val (.ref a1), .val (.ref a2), .val (.int (4 : Int32))] [(.int (1 : Int32))]))
  obtain ⟨fs, hr, hrun, hended, hW, hsame⟩ := X0.leave (v := some (.int (1 : Int32))) (fun h => by rw [Bd.returns] at h; cases h)
  refine ⟨_, _, retN X0 hx (t := .boolean) Bd.returns (by simp) (hb hby d4_33) hr, hrun, hended, _, _, rfl, ?_, ⟨_, rfl⟩, hW, hsame.mono (by decide) (by decide)⟩
  show Qrmle1 Z a1 a2 k1 k2 h0 n0 _ s₁.heap _
  rw [e0]
  refine ⟨?_, N0, rfl⟩
  rfl
theorem pd_3 : parseMethodDescriptor "([B[B)Z" = some ⟨[(.array .byte), (.array .byte)], some .boolean⟩ := by decide +kernel
theorem pn_4 : plainName "java/lang/String" = true := by first | (simp [plainName, overriddenIn]; done) | decide +kernel
theorem d3_0 : decode jdk_42_method_66_code 0 = .ok (.aload_n 0, 1) := by decide +kernel
theorem d3_1 : decode jdk_42_method_66_code 1 = .ok (.aload_n 1, 1) := by decide +kernel
theorem d3_2 : decode jdk_42_method_66_code 2 = .ok (.if_acmp .ne 5, 3) := by decide +kernel
theorem d3_5 : decode jdk_42_method_66_code 5 = .ok (.iconst 1, 1) := by decide +kernel
theorem d3_6 : decode jdk_42_method_66_code 6 = .ok (.ireturn, 1) := by decide +kernel
theorem d3_7 : decode jdk_42_method_66_code 7 = .ok (.aload_n 1, 1) := by decide +kernel
theorem d3_8 : decode jdk_42_method_66_code 8 = .ok (.instanceof 10, 3) := by decide +kernel
theorem d3_11 : decode jdk_42_method_66_code 11 = .ok (.ifCond .eq 43, 3) := by decide +kernel
theorem d3_14 : decode jdk_42_method_66_code 14 = .ok (.aload_n 1, 1) := by decide +kernel
theorem d3_15 : decode jdk_42_method_66_code 15 = .ok (.checkcast 10, 3) := by decide +kernel
theorem d3_18 : decode jdk_42_method_66_code 18 = .ok (.astore_n 2, 1) := by decide +kernel
theorem d3_19 : decode jdk_42_method_66_code 19 = .ok (.getstatic 38, 3) := by decide +kernel
theorem d3_22 : decode jdk_42_method_66_code 22 = .ok (.ifCond .eq 14, 3) := by decide +kernel
theorem d3_25 : decode jdk_42_method_66_code 25 = .ok (.aload_n 0, 1) := by decide +kernel
theorem d3_26 : decode jdk_42_method_66_code 26 = .ok (.getfield 15, 3) := by decide +kernel
theorem d3_29 : decode jdk_42_method_66_code 29 = .ok (.aload_n 2, 1) := by decide +kernel
theorem d3_30 : decode jdk_42_method_66_code 30 = .ok (.getfield 15, 3) := by decide +kernel
theorem d3_33 : decode jdk_42_method_66_code 33 = .ok (.if_icmp .ne 21, 3) := by decide +kernel
theorem d3_36 : decode jdk_42_method_66_code 36 = .ok (.aload_n 0, 1) := by decide +kernel
theorem d3_37 : decode jdk_42_method_66_code 37 = .ok (.getfield 9, 3) := by decide +kernel
theorem d3_40 : decode jdk_42_method_66_code 40 = .ok (.aload_n 2, 1) := by decide +kernel
theorem d3_41 : decode jdk_42_method_66_code 41 = .ok (.getfield 9, 3) := by decide +kernel
theorem d3_44 : decode jdk_42_method_66_code 44 = .ok (.invokestatic 541, 3) := by decide +kernel
theorem d3_47 : decode jdk_42_method_66_code 47 = .ok (.ifCond .eq 7, 3) := by decide +kernel
theorem d3_50 : decode jdk_42_method_66_code 50 = .ok (.iconst 1, 1) := by decide +kernel
theorem d3_51 : decode jdk_42_method_66_code 51 = .ok (.goto 4, 3) := by decide +kernel
theorem d3_55 : decode jdk_42_method_66_code 55 = .ok (.ireturn, 1) := by decide +kernel
theorem ef_rmeq0 (m : MethodId) (a1 : Addr) (a2 : Addr) (b1 : Addr) (k1 : ClassId) (b2 : Addr) (k2 : ClassId) (cs : Int32) : entryFrame m #[(.ref a1), (.ref a2)] 3 = mkF m 0 #[.val (.ref a1), .val (.ref a2), .unset] [] := by first | (simp [entryFrame, mkF, argsToLocals, Value.category]; done) | rfl
def Qrmeq0 (Z : State) (a1 : Addr) (a2 : Addr) (b1 : Addr) (k1 : ClassId) (b2 : Addr) (k2 : ClassId) (cs : Int32) (h0 : Heap) (n0 : Nat) (v : Option Value) (h : Heap) (L : List Loc) : Prop := v = some (.int (1 : Int32)) ∧ Fr n0 L ∧ h = h0
set_option maxRecDepth 65536 in
set_option maxHeartbeats 40000000 in
theorem rmeq0 (l : Launch) (Z : State) (a0 : Array Value) (hw : ∀ d ∈ tables_1, d.before a0 Z = true) (ws : List Jvm.Cond) (a1 : Addr) (a2 : Addr) (b1 : Addr) (k1 : ClassId) (b2 : Addr) (k2 : ClassId) (cs : Int32) (h0 : Heap) (n0 : Nat) (Z0 : n0 ≤ h0.size) (E1 : Exa Z h0 a1 "java/lang/String") (Fc1 : Fld Z h0 a1 "java/lang/String" "coder" "B" (.int (0 : Int32))) (Fv1 : Fld Z h0 a1 "java/lang/String" "value" "[B" (.ref b1)) (V1 : Arv Z h0 b1 k1 .byte (4 : Int32) [(.int (101 : Int32)), (.int (120 : Int32)), (.int (105 : Int32)), (.int (102 : Int32))] (.int (0 : Int32))) (E2 : Exa Z h0 a2 "java/lang/String") (Fc2 : Fld Z h0 a2 "java/lang/String" "coder" "B" (.int (0 : Int32))) (Fv2 : Fld Z h0 a2 "java/lang/String" "value" "[B" (.ref b2)) (V2 : Arv Z h0 b2 k2 .byte (4 : Int32) [(.int (101 : Int32)), (.int (120 : Int32)), (.int (105 : Int32)), (.int (102 : Int32))] (.int (0 : Int32))) (S_cs : Sta Z h0 "java/lang/String" "COMPACT_STRINGS" "Z" (.int cs)) (hcs : ¬ cs = 0) :
    MetFree l (⟨"java/lang/String", "equals", "(Ljava/lang/Object;)Z"⟩ : MethodName) (head1 (Jvm.Cond.code (⟨"java/lang/String", "equals", "(Ljava/lang/Object;)Z"⟩ : MethodName) jdk_42_method_66_code 3 (some .boolean) :: ws) ({ frames := 1, cells := 0, slots := 0, locals := 14 } : Room)) (fun a U => a = #[(.ref a1), (.ref a2)] ∧ Z.Warmed39 U.vm ∧ U.heap = h0) (fun _ _ _ _ _ => True) (fun _ U o U' => ∃ v L, o = .returned v ∧ Qrmeq0 Z a1 a2 b1 k1 b2 k2 cs h0 n0 v U'.heap L ∧ FrameEnd U o U' L ({ frames := 1, cells := 0, slots := 0, locals := 14 } : Room).cells ({ frames := 1, cells := 0, slots := 0, locals := 14 } : Room).slots) := by
  refine MetFree.of_bodySF (plainFor_of_name pn_4) hisR ?_
  intro p e s m args below meth c s₁ Bd hml0 hP hK
  obtain ⟨rfl, hZ, hh⟩ := hP
  have hx := Bd.exec
  have hby := Bd.bytes
  have hml : c.maxLocals = 3 := hml0
  have hown : s.vm.findClass "java/lang/String" = some m.cls := findClass_of_methodNamed Bd.named
  have hnm := (name_of_methodNamed Bd.named Bd.method).1
  have X0 : Stand p l e ({ frames := 1, cells := 0, slots := 0, locals := 14 } : Room) s m #[(.ref a1), (.ref a2)] below meth c s₁ [] 0 0 := Stand.of_body Bd
  have e0 : s₁.heap = h0 := by rw [← hh, Bd.state]; rfl
  have N0 := Fr.nil n0
  show Go p.tables e below (fun o U' => ∃ v L, o = .returned v ∧ Qrmeq0 Z a1 a2 b1 k1 b2 k2 cs h0 n0 v U'.heap L ∧ FrameEnd s o U' L ({ frames := 1, cells := 0, slots := 0, locals := 14 } : Room).cells ({ frames := 1, cells := 0, slots := 0, locals := 14 } : Room).slots) _
  refine Go.step (fun t kt => castTop (ef_rmeq0 m a1 a2 b1 k1 b2 k2 cs) kt) ?_
  show Go p.tables e below _ (s₁.setTop (mkF m 0 #[.val (.ref a1), .val (.ref a2), .unset] []))
  refine Go.step (fun _ kt => XS.aloadN X0.here hx rfl (hb hby d3_0) rfl rfl kt) ?_
  show Go p.tables e below _ (s₁.setTop (mkF m 1 #[.val (.ref a1), .val (.ref a2), .unset] [(.ref a1)]))
  refine Go.step (fun _ kt => XS.aloadN X0.here hx rfl (hb hby d3_1) rfl rfl kt) ?_
  show Go p.tables e below _ (s₁.setTop (mkF m 2 #[.val (.ref a1), .val (.ref a2), .unset] [(.ref a2), (.ref a1)]))
  by_cases hc2_101 : a1 = a2
  · refine Go.step (fun _ kt => Jvm.RoadKit.acmp (g := (mkF m 2 #[.val (.ref a1), .val (.ref a2), .unset] [(.ref a2), (.ref a1)])) X0 hx rfl rfl rfl (pc0 := 2) (pc' := 5) (same := true) rfl (hb hby d3_2) rfl (decide_eq_true (congrArg Value.ref hc2_101)) (by decide) (by decide) kt) ?_
    show Go p.tables e below _ (s₁.setTop (mkF m 5 #[.val (.ref a1), .val (.ref a2), .unset] []))
    refine Go.step (fun _ kt => XS.iconst X0.here hx rfl (hb hby d3_5) kt) ?_
    show Go p.tables e below _ (s₁.setTop (mkF m 6 #[.val (.ref a1), .val (.ref a2), .unset] [(.int (1 : Int32))]))
    obtain ⟨fs, hr, hrun, hended, hW, hsame⟩ := X0.leave (v := some (.int (1 : Int32))) (fun h => by rw [Bd.returns] at h; cases h)
    refine ⟨_, _, retN X0 hx (t := .boolean) Bd.returns (by simp) (hb hby d3_6) hr, hrun, hended, _, _, rfl, ?_, ⟨_, rfl⟩, hW, hsame.mono (by decide) (by decide)⟩
    show Qrmeq0 Z a1 a2 b1 k1 b2 k2 cs h0 n0 _ s₁.heap _
    rw [e0]
    refine ⟨?_, N0, rfl⟩
    rfl
  · refine Go.step (fun _ kt => Jvm.RoadKit.acmp (g := (mkF m 2 #[.val (.ref a1), .val (.ref a2), .unset] [(.ref a2), (.ref a1)])) X0 hx rfl rfl rfl (pc0 := 2) (pc' := 7) (same := false) rfl (hb hby d3_2) rfl (decide_eq_false fun q => hc2_101 (Value.ref.inj q)) (by decide) (by decide) kt) ?_
    show Go p.tables e below _ (s₁.setTop (mkF m 7 #[.val (.ref a1), .val (.ref a2), .unset] []))
    refine Go.step (fun _ kt => XS.aloadN X0.here hx rfl (hb hby d3_7) rfl rfl kt) ?_
    show Go p.tables e below _ (s₁.setTop (mkF m 8 #[.val (.ref a1), .val (.ref a2), .unset] [(.ref a2)]))
    obtain ⟨T102, X102, e102, st102⟩ := instY X0 hx hZ hown (hw _ (List.mem_of_getElem? (i := 27) rfl)) e0 (Ins.self E2) (g := (mkF m 8 #[.val (.ref a1), .val (.ref a2), .unset] [(.ref a2)])) rfl rfl (hb hby d3_8)
    refine Go.step st102 ?_
    show Go p.tables e below _ (T102.setTop (mkF m 11 #[.val (.ref a1), .val (.ref a2), .unset] [(.int (1 : Int32))]))
    refine Go.step (fun _ kt => XS.ifNo X102.here hx rfl (hb hby d3_11) rfl ((if0 _ _).trans (feq (by decide : ¬ ((1 : Int32) = (0 : Int32)))).1) kt) ?_
    show Go p.tables e below _ (T102.setTop (mkF m 14 #[.val (.ref a1), .val (.ref a2), .unset] []))
    refine Go.step (fun _ kt => XS.aloadN X102.here hx rfl (hb hby d3_14) rfl rfl kt) ?_
    show Go p.tables e below _ (T102.setTop (mkF m 15 #[.val (.ref a1), .val (.ref a2), .unset] [(.ref a2)]))
    obtain ⟨T103, X103, e103, st103⟩ := castY X102 hx hZ hown (hw _ (List.mem_of_getElem? (i := 27) rfl)) e102 (Ins.self E2) (g := (mkF m 15 #[.val (.ref a1), .val (.ref a2), .unset] [(.ref a2)])) rfl rfl (hb hby d3_15)
    refine Go.step st103 ?_
    show Go p.tables e below _ (T103.setTop (mkF m 18 #[.val (.ref a1), .val (.ref a2), .unset] [(.ref a2)]))
    refine Go.step (fun _ kt => XS.astoreN X103.here hx rfl (hb hby d3_18) rfl rfl (l' := #[.val (.ref a1), .val (.ref a2), .val (.ref a2)]) rfl kt) ?_
    show Go p.tables e below _ (T103.setTop (mkF m 19 #[.val (.ref a1), .val (.ref a2), .val (.ref a2)] []))
    obtain ⟨T104, X104, e104, st104⟩ := getS2 X103 hx hZ hown (host := "") (Or.inl (hw _ (List.mem_of_getElem? (i := 29) rfl))) Via.refl e103 S_cs (g := (mkF m 19 #[.val (.ref a1), .val (.ref a2), .val (.ref a2)] [])) rfl (hb hby d3_19)
    refine Go.step st104 ?_
    show Go p.tables e below _ (T104.setTop (mkF m 22 #[.val (.ref a1), .val (.ref a2), .val (.ref a2)] [(.int cs)]))
    refine Go.step (fun _ kt => XS.ifNo X104.here hx rfl (hb hby d3_22) rfl ((if0 _ _).trans (feq hcs).1) kt) ?_
    show Go p.tables e below _ (T104.setTop (mkF m 25 #[.val (.ref a1), .val (.ref a2), .val (.ref a2)] []))
    refine Go.step (fun _ kt => XS.aloadN X104.here hx rfl (hb hby d3_25) rfl rfl kt) ?_
    show Go p.tables e below _ (T104.setTop (mkF m 26 #[.val (.ref a1), .val (.ref a2), .val (.ref a2)] [(.ref a1)]))
    obtain ⟨T105, X105, e105, st105⟩ := getF X104 hx hZ hown (host := "") (Or.inl (hw _ (List.mem_of_getElem? (i := 30) rfl))) Via.refl e104 Fc1 (g := (mkF m 26 #[.val (.ref a1), .val (.ref a2), .val (.ref a2)] [(.ref a1)])) rfl rfl (hb hby d3_26)
    refine Go.step st105 ?_
    show Go p.tables e below _ (T105.setTop (mkF m 29 #[.val (.ref a1), .val (.ref a2), .val (.ref a2)] [(.int (0 : Int32))]))
    refine Go.step (fun _ kt => XS.aloadN X105.here hx rfl (hb hby d3_29) rfl rfl kt) ?_
    show Go p.tables e below _ (T105.setTop (mkF m 30 #[.val (.ref a1), .val (.ref a2), .val (.ref a2)] [(.ref a2), (.int (0 : Int32))]))
    obtain ⟨T106, X106, e106, st106⟩ := getF X105 hx hZ hown (host := "") (Or.inl (hw _ (List.mem_of_getElem? (i := 30) rfl))) Via.refl e105 Fc2 (g := (mkF m 30 #[.val (.ref a1), .val (.ref a2), .val (.ref a2)] [(.ref a2), (.int (0 : Int32))])) rfl rfl (hb hby d3_30)
    refine Go.step st106 ?_
    show Go p.tables e below _ (T106.setTop (mkF m 33 #[.val (.ref a1), .val (.ref a2), .val (.ref a2)] [(.int (0 : Int32)), (.int (0 : Int32))]))
    refine Go.step (fun _ kt => XS.icmpNo X106.here hx rfl (hb hby d3_33) rfl (teq (by decide : (0 : Int32) = (0 : Int32))).2 kt) ?_
    show Go p.tables e below _ (T106.setTop (mkF m 36 #[.val (.ref a1), .val (.ref a2), .val (.ref a2)] []))
    refine Go.step (fun _ kt => XS.aloadN X106.here hx rfl (hb hby d3_36) rfl rfl kt) ?_
    show Go p.tables e below _ (T106.setTop (mkF m 37 #[.val (.ref a1), .val (.ref a2), .val (.ref a2)] [(.ref a1)]))
    obtain ⟨T107, X107, e107, st107⟩ := getF X106 hx hZ hown (host := "") (Or.inl (hw _ (List.mem_of_getElem? (i := 31) rfl))) Via.refl e106 Fv1 (g := (mkF m 37 #[.val (.ref a1), .val (.ref a2), .val (.ref a2)] [(.ref a1)])) rfl rfl (hb hby d3_37)
    refine Go.step st107 ?_
    show Go p.tables e below _ (T107.setTop (mkF m 40 #[.val (.ref a1), .val (.ref a2), .val (.ref a2)] [(.ref b1)]))
    refine Go.step (fun _ kt => XS.aloadN X107.here hx rfl (hb hby d3_40) rfl rfl kt) ?_
    show Go p.tables e below _ (T107.setTop (mkF m 41 #[.val (.ref a1), .val (.ref a2), .val (.ref a2)] [(.ref a2), (.ref b1)]))
    obtain ⟨T108, X108, e108, st108⟩ := getF X107 hx hZ hown (host := "") (Or.inl (hw _ (List.mem_of_getElem? (i := 31) rfl))) Via.refl e107 Fv2 (g := (mkF m 41 #[.val (.ref a1), .val (.ref a2), .val (.ref a2)] [(.ref a2), (.ref b1)])) rfl rfl (hb hby d3_41)
    refine Go.step st108 ?_
    show Go p.tables e below _ (T108.setTop (mkF m 44 #[.val (.ref a1), .val (.ref a2), .val (.ref a2)] [(.ref b2), (.ref b1)]))
    obtain ⟨_, _, ⟨T109, L109, k109, n109⟩, -, X109, ⟨Lc109, hQ109, l109, y109, z109⟩, st109⟩ := Jvm.LawKit.callS X108 hx (y := (⟨"java/lang/StringLatin1", "equals", "([B[B)Z"⟩ : MethodName)) hown (mvT hZ (hw _ (List.mem_of_getElem? (i := 32) rfl))) (mvT hZ (hw _ (List.mem_of_getElem? (i := 33) rfl))) (mvT hZ (hw _ (List.mem_of_getElem? (i := 34) rfl))) (mvT hZ (hw _ (List.mem_of_getElem? (i := 35) rfl))) (by decide) (backOf (W := 0) (rmle1 l Z a0 hw [] b1 b2 k1 k2 h0 n0 Z0 V1 V2 ) hZ (hw _ (List.mem_of_getElem? (i := 35) rfl)) (hw _ (List.mem_of_getElem? (i := 34) rfl)) (by decide) (by decide)) (g := (mkF m 44 #[.val (.ref a1), .val (.ref a2), .val (.ref a2)] [(.ref b2), (.ref b1)])) rfl (by rw [hml]; rfl) (argsL := [(.ref b1), (.ref b2)]) (rest := []) (lenOf pd_3 rfl) rfl (by show 2 * 0 + _ ≤ _; exact Nat.le_of_eq rfl) (hb hby d3_44) (fun _ _ => ⟨rfl, e108, (by decide : 0 + 0 ≤ _), (by decide : 0 + 0 ≤ _)⟩)
    dsimp only [Pt.U, Pt.locs, Pt.cells, Pt.slots] at X109 l109 y109 z109 st109 hQ109
    subst l109 y109 z109
    obtain ⟨rfl, N109q, eh109⟩ := hQ109
    have N109 := Fr.app N0 N109q
    refine Go.step st109 ?_
    show Go p.tables e below _ (T109.setTop (mkF m 47 #[.val (.ref a1), .val (.ref a2), .val (.ref a2)] [(.int (1 : Int32))]))
    refine Go.step (fun _ kt => XS.ifNo X109.here hx rfl (hb hby d3_47) rfl ((if0 _ _).trans (feq (by decide : ¬ ((1 : Int32) = (0 : Int32)))).1) kt) ?_
    show Go p.tables e below _ (T109.setTop (mkF m 50 #[.val (.ref a1), .val (.ref a2), .val (.ref a2)] []))
    refine Go.step (fun _ kt => XS.iconst X109.here hx rfl (hb hby d3_50) kt) ?_
    show Go p.tables e below _ (T109.setTop (mkF m 51 #[.val (.ref a1), .val (.ref a2), .val (.ref a2)] [(.int (1 : Int32))]))
    refine Go.step (fun _ kt => XS.goto X109.here hx rfl (pc0 := 51) (pc' := 55) rfl (hb hby d3_51) (by decide) (by decide) kt) ?_
    show Go p.tables e below _ (T109.setTop (mkF m 55 #[.val (.ref a1), .val (.ref a2), .val (.ref a2)] [(.int (1 : Int32))]))
    obtain ⟨fs, hr, hrun, hended, hW, hsame⟩ := X109.leave (v := some (.int (1 : Int32))) (fun h => by rw [Bd.returns] at h; cases h)
    refine ⟨_, _, retN X109 hx (t := .boolean) Bd.returns (by simp) (hb hby d3_55) hr, hrun, hended, _, _, rfl, ?_, ⟨_, rfl⟩, hW, hsame.mono (by decide) (by decide)⟩
    show Qrmeq0 Z a1 a2 b1 k1 b2 k2 cs h0 n0 _ T109.heap _
    rw [eh109]
    refine ⟨?_, N109, rfl⟩
    rfl
theorem pd_4 : parseMethodDescriptor "(Ljava/lang/Object;)Z" = some ⟨[(.object "java/lang/Object")], some .boolean⟩ := by decide +kernel
theorem pd_5 : parseMethodDescriptor "()Z" = some ⟨[], some .boolean⟩ := by decide +kernel
theorem d4_24 : decode jdk_43_method_13_code 24 = .ok (.iconst 0, 1) := by decide +kernel
theorem d4_25 : decode jdk_43_method_13_code 25 = .ok (.ireturn, 1) := by decide +kernel
theorem ef_rmle3 (m : MethodId) (a1 : Addr) (a2 : Addr) (k1 : ClassId) (k2 : ClassId) : entryFrame m #[(.ref a1), (.ref a2)] 3 = mkF m 0 #[.val (.ref a1), .val (.ref a2), .unset] [] := by first | (simp [entryFrame, mkF, argsToLocals, Value.category]; done) | rfl
def Qrmle3 (Z : State) (a1 : Addr) (a2 : Addr) (k1 : ClassId) (k2 : ClassId) (h0 : Heap) (n0 : Nat) (v : Option Value) (h : Heap) (L : List Loc) : Prop := v = some (.int (0 : Int32)) ∧ Fr n0 L ∧ h = h0
set_option maxRecDepth 65536 in
set_option maxHeartbeats 40000000 in
theorem rmle3 (l : Launch) (Z : State) (a0 : Array Value) (hw : ∀ d ∈ tables_1, d.before a0 Z = true) (ws : List Jvm.Cond) (a1 : Addr) (a2 : Addr) (k1 : ClassId) (k2 : ClassId) (h0 : Heap) (n0 : Nat) (Z0 : n0 ≤ h0.size) (V1 : Arv Z h0 a1 k1 .byte (4 : Int32) [(.int (122 : Int32)), (.int (101 : Int32)), (.int (114 : Int32)), (.int (111 : Int32))] (.int (0 : Int32))) (V2 : Arv Z h0 a2 k2 .byte (4 : Int32) [(.int (101 : Int32)), (.int (120 : Int32)), (.int (105 : Int32)), (.int (102 : Int32))] (.int (0 : Int32))) :
    MetFree l (⟨"java/lang/StringLatin1", "equals", "([B[B)Z"⟩ : MethodName) (head1 (Jvm.Cond.code (⟨"java/lang/StringLatin1", "equals", "([B[B)Z"⟩ : MethodName) jdk_43_method_13_code 3 (some .boolean) :: ws) ({ frames := 0, cells := 0, slots := 0, locals := 0 } : Room)) (fun a U => a = #[(.ref a1), (.ref a2)] ∧ Z.Warmed39 U.vm ∧ U.heap = h0) (fun _ _ _ _ _ => True) (fun _ U o U' => ∃ v L, o = .returned v ∧ Qrmle3 Z a1 a2 k1 k2 h0 n0 v U'.heap L ∧ FrameEnd U o U' L ({ frames := 0, cells := 0, slots := 0, locals := 0 } : Room).cells ({ frames := 0, cells := 0, slots := 0, locals := 0 } : Room).slots) := by
  refine MetFree.of_bodySF (plainFor_of_name pn_3) hisR ?_
  intro p e s m args below meth c s₁ Bd hml0 hP hK
  obtain ⟨rfl, hZ, hh⟩ := hP
  have hx := Bd.exec
  have hby := Bd.bytes
  have hml : c.maxLocals = 3 := hml0
  have hown : s.vm.findClass "java/lang/StringLatin1" = some m.cls := findClass_of_methodNamed Bd.named
  have hnm := (name_of_methodNamed Bd.named Bd.method).1
  have X0 : Stand p l e ({ frames := 0, cells := 0, slots := 0, locals := 0 } : Room) s m #[(.ref a1), (.ref a2)] below meth c s₁ [] 0 0 := Stand.of_body Bd
  have e0 : s₁.heap = h0 := by rw [← hh, Bd.state]; rfl
  have N0 := Fr.nil n0
  show Go p.tables e below (fun o U' => ∃ v L, o = .returned v ∧ Qrmle3 Z a1 a2 k1 k2 h0 n0 v U'.heap L ∧ FrameEnd s o U' L ({ frames := 0, cells := 0, slots := 0, locals := 0 } : Room).cells ({ frames := 0, cells := 0, slots := 0, locals := 0 } : Room).slots) _
  refine Go.step (fun t kt => castTop (ef_rmle3 m a1 a2 k1 k2) kt) ?_
  show Go p.tables e below _ (s₁.setTop (mkF m 0 #[.val (.ref a1), .val (.ref a2), .unset] []))
  refine Go.step (fun _ kt => XS.aloadN X0.here hx rfl (hb hby d4_0) rfl rfl kt) ?_
  show Go p.tables e below _ (s₁.setTop (mkF m 1 #[.val (.ref a1), .val (.ref a2), .unset] [(.ref a1)]))
  obtain ⟨cl101, Ar101, qa101, Sa101, Na101, Ha101, Ga101⟩ := (id V1)
  refine Go.step (X0.arraylength hx (by rw [e0]; exact Ar101.1) (State.isArrayOf_alike hZ.alike Ar101.2.1) (g := (mkF m 1 #[.val (.ref a1), .val (.ref a2), .unset] [(.ref a1)])) rfl rfl (hb hby d4_1)) ?_
  rw [len_of Sa101 Na101]
  show Go p.tables e below _ (s₁.setTop (mkF m 2 #[.val (.ref a1), .val (.ref a2), .unset] [(.int (4 : Int32))]))
  refine Go.step (fun _ kt => XS.aloadN X0.here hx rfl (hb hby d4_2) rfl rfl kt) ?_
  show Go p.tables e below _ (s₁.setTop (mkF m 3 #[.val (.ref a1), .val (.ref a2), .unset] [(.ref a2), (.int (4 : Int32))]))
  obtain ⟨cl102, Ar102, qa102, Sa102, Na102, Ha102, Ga102⟩ := (id V2)
  refine Go.step (X0.arraylength hx (by rw [e0]; exact Ar102.1) (State.isArrayOf_alike hZ.alike Ar102.2.1) (g := (mkF m 3 #[.val (.ref a1), .val (.ref a2), .unset] [(.ref a2), (.int (4 : Int32))])) rfl rfl (hb hby d4_3)) ?_
  rw [len_of Sa102 Na102]
  show Go p.tables e below _ (s₁.setTop (mkF m 4 #[.val (.ref a1), .val (.ref a2), .unset] [(.int (4 : Int32)), (.int (4 : Int32))]))
  refine Go.step (fun _ kt => XS.icmpNo X0.here hx rfl (hb hby d4_4) rfl (teq (by decide : (4 : Int32) = (4 : Int32))).2 kt) ?_
  show Go p.tables e below _ (s₁.setTop (mkF m 7 #[.val (.ref a1), .val (.ref a2), .unset] []))
  refine Go.step (fun _ kt => XS.iconst X0.here hx rfl (hb hby d4_7) kt) ?_
  show Go p.tables e below _ (s₁.setTop (mkF m 8 #[.val (.ref a1), .val (.ref a2), .unset] [(.int (0 : Int32))]))
  refine Go.step (fun _ kt => XS.istoreN X0.here hx rfl (hb hby d4_8) rfl (l' := #[.val (.ref a1), .val (.ref a2), .val (.int (0 : Int32))]) rfl kt) ?_
  show Go p.tables e below _ (s₁.setTop (mkF m 9 #[.val (.ref a1), .val (.ref a2), .val (.int (0 : Int32))] []))
  refine Go.step (fun _ kt => XS.iloadN X0.here hx rfl (hb hby d4_9) rfl kt) ?_
  show Go p.tables e below _ (s₁.setTop (mkF m 10 #[.val (.ref a1), .val (.ref a2), .val (.int (0 : Int32))] [(.int (0 : Int32))]))
  refine Go.step (fun _ kt => XS.aloadN X0.here hx rfl (hb hby d4_10) rfl rfl kt) ?_
  show Go p.tables e below _ (s₁.setTop (mkF m 11 #[.val (.ref a1), .val (.ref a2), .val (.int (0 : Int32))] [(.ref a1), (.int (0 : Int32))]))
  obtain ⟨cl103, Ar103, qa103, Sa103, Na103, Ha103, Ga103⟩ := (id V1)
  refine Go.step (X0.arraylength hx (by rw [e0]; exact Ar103.1) (State.isArrayOf_alike hZ.alike Ar103.2.1) (g := (mkF m 11 #[.val (.ref a1), .val (.ref a2), .val (.int (0 : Int32))] [(.ref a1), (.int (0 : Int32))])) rfl rfl (hb hby d4_11)) ?_
  rw [len_of Sa103 Na103]
  show Go p.tables e below _ (s₁.setTop (mkF m 12 #[.val (.ref a1), .val (.ref a2), .val (.int (0 : Int32))] [(.int (4 : Int32)), (.int (0 : Int32))]))
  refine Go.step (fun _ kt => XS.icmpNo X0.here hx rfl (hb hby d4_12) rfl (tlt (by decide : (0 : Int32) < (4 : Int32))).2.1 kt) ?_
  show Go p.tables e below _ (s₁.setTop (mkF m 15 #[.val (.ref a1), .val (.ref a2), .val (.int (0 : Int32))] []))
  refine Go.step (fun _ kt => XS.aloadN X0.here hx rfl (hb hby d4_15) rfl rfl kt) ?_
  show Go p.tables e below _ (s₁.setTop (mkF m 16 #[.val (.ref a1), .val (.ref a2), .val (.int (0 : Int32))] [(.ref a1)]))
  refine Go.step (fun _ kt => XS.iloadN X0.here hx rfl (hb hby d4_16) rfl kt) ?_
  show Go p.tables e below _ (s₁.setTop (mkF m 17 #[.val (.ref a1), .val (.ref a2), .val (.int (0 : Int32))] [(.int (0 : Int32)), (.ref a1)]))
  obtain ⟨cl104, Ar104, qa104, Sa104, Na104, Ha104, Ga104⟩ := (id V1)
  have hin104 : ¬ ((0 : Int32) < 0 ∨ cl104.slots.size ≤ ((0 : Int32)).toNatClampNeg) := inb_of Sa104 ⟨by decide, by decide⟩
  have hat104 : cl104.slots[((0 : Int32)).toNatClampNeg]? = some (.int (122 : Int32)) := at_of Ha104 hin104 rfl
  refine Go.step (X0.baloadBytes hx (j := (0 : Int32)) (v := (.int (122 : Int32))) (by rw [e0]; exact Ar104.1) (State.isArrayOf_alike hZ.alike Ar104.2.1) Ar104.2.2 hin104 hat104 (g := (mkF m 17 #[.val (.ref a1), .val (.ref a2), .val (.int (0 : Int32))] [(.int (0 : Int32)), (.ref a1)])) rfl rfl (hb hby d4_17)) ?_
  show Go p.tables e below _ (s₁.setTop (mkF m 18 #[.val (.ref a1), .val (.ref a2), .val (.int (0 : Int32))] [(.int (122 : Int32))]))
  refine Go.step (fun _ kt => XS.aloadN X0.here hx rfl (hb hby d4_18) rfl rfl kt) ?_
  show Go p.tables e below _ (s₁.setTop (mkF m 19 #[.val (.ref a1), .val (.ref a2), .val (.int (0 : Int32))] [(.ref a2), (.int (122 : Int32))]))
  refine Go.step (fun _ kt => XS.iloadN X0.here hx rfl (hb hby d4_19) rfl kt) ?_
  show Go p.tables e below _ (s₁.setTop (mkF m 20 #[.val (.ref a1), .val (.ref a2), .val (.int (0 : Int32))] [(.int (0 : Int32)), (.ref a2), (.int (122 : Int32))]))
  obtain ⟨cl105, Ar105, qa105, Sa105, Na105, Ha105, Ga105⟩ := (id V2)
  have hin105 : ¬ ((0 : Int32) < 0 ∨ cl105.slots.size ≤ ((0 : Int32)).toNatClampNeg) := inb_of Sa105 ⟨by decide, by decide⟩
  have hat105 : cl105.slots[((0 : Int32)).toNatClampNeg]? = some (.int (101 : Int32)) := at_of Ha105 hin105 rfl
  refine Go.step (X0.baloadBytes hx (j := (0 : Int32)) (v := (.int (101 : Int32))) (by rw [e0]; exact Ar105.1) (State.isArrayOf_alike hZ.alike Ar105.2.1) Ar105.2.2 hin105 hat105 (g := (mkF m 20 #[.val (.ref a1), .val (.ref a2), .val (.int (0 : Int32))] [(.int (0 : Int32)), (.ref a2), (.int (122 : Int32))])) rfl rfl (hb hby d4_20)) ?_
  show Go p.tables e below _ (s₁.setTop (mkF m 21 #[.val (.ref a1), .val (.ref a2), .val (.int (0 : Int32))] [(.int (101 : Int32)), (.int (122 : Int32))]))
  refine Go.step (fun _ kt => XS.icmpNo X0.here hx rfl (hb hby d4_21) rfl (feq (by decide : ¬ ((122 : Int32) = (101 : Int32)))).1 kt) ?_
  show Go p.tables e below _ (s₁.setTop (mkF m 24 #[.val (.ref a1), .val (.ref a2), .val (.int (0 : Int32))] []))
  refine Go.step (fun _ kt => XS.iconst X0.here hx rfl (hb hby d4_24) kt) ?_
  show Go p.tables e below _ (s₁.setTop (mkF m 25 #[.val (.ref a1), .val (.ref a2), .val (.int (0 : Int32))] [(.int (0 : Int32))]))
  obtain ⟨fs, hr, hrun, hended, hW, hsame⟩ := X0.leave (v := some (.int (0 : Int32))) (fun h => by rw [Bd.returns] at h; cases h)
  refine ⟨_, _, retN X0 hx (t := .boolean) Bd.returns (by simp) (hb hby d4_25) hr, hrun, hended, _, _, rfl, ?_, ⟨_, rfl⟩, hW, hsame.mono (by decide) (by decide)⟩
  show Qrmle3 Z a1 a2 k1 k2 h0 n0 _ s₁.heap _
  rw [e0]
  refine ⟨?_, N0, rfl⟩
  rfl
theorem d3_54 : decode jdk_42_method_66_code 54 = .ok (.iconst 0, 1) := by decide +kernel
theorem ef_rmeq2 (m : MethodId) (a1 : Addr) (a2 : Addr) (b1 : Addr) (k1 : ClassId) (b2 : Addr) (k2 : ClassId) (cs : Int32) : entryFrame m #[(.ref a1), (.ref a2)] 3 = mkF m 0 #[.val (.ref a1), .val (.ref a2), .unset] [] := by first | (simp [entryFrame, mkF, argsToLocals, Value.category]; done) | rfl
def Qrmeq2 (Z : State) (a1 : Addr) (a2 : Addr) (b1 : Addr) (k1 : ClassId) (b2 : Addr) (k2 : ClassId) (cs : Int32) (h0 : Heap) (n0 : Nat) (v : Option Value) (h : Heap) (L : List Loc) : Prop := v = some (.int (0 : Int32)) ∧ Fr n0 L ∧ h = h0
set_option maxRecDepth 65536 in
set_option maxHeartbeats 40000000 in
theorem rmeq2 (l : Launch) (Z : State) (a0 : Array Value) (hw : ∀ d ∈ tables_1, d.before a0 Z = true) (ws : List Jvm.Cond) (a1 : Addr) (a2 : Addr) (b1 : Addr) (k1 : ClassId) (b2 : Addr) (k2 : ClassId) (cs : Int32) (h0 : Heap) (n0 : Nat) (Z0 : n0 ≤ h0.size) (E1 : Exa Z h0 a1 "java/lang/String") (Fc1 : Fld Z h0 a1 "java/lang/String" "coder" "B" (.int (0 : Int32))) (Fv1 : Fld Z h0 a1 "java/lang/String" "value" "[B" (.ref b1)) (V1 : Arv Z h0 b1 k1 .byte (4 : Int32) [(.int (122 : Int32)), (.int (101 : Int32)), (.int (114 : Int32)), (.int (111 : Int32))] (.int (0 : Int32))) (E2 : Exa Z h0 a2 "java/lang/String") (Fc2 : Fld Z h0 a2 "java/lang/String" "coder" "B" (.int (0 : Int32))) (Fv2 : Fld Z h0 a2 "java/lang/String" "value" "[B" (.ref b2)) (V2 : Arv Z h0 b2 k2 .byte (4 : Int32) [(.int (101 : Int32)), (.int (120 : Int32)), (.int (105 : Int32)), (.int (102 : Int32))] (.int (0 : Int32))) (S_cs : Sta Z h0 "java/lang/String" "COMPACT_STRINGS" "Z" (.int cs)) (hcs : ¬ cs = 0) :
    MetFree l (⟨"java/lang/String", "equals", "(Ljava/lang/Object;)Z"⟩ : MethodName) (head1 (Jvm.Cond.code (⟨"java/lang/String", "equals", "(Ljava/lang/Object;)Z"⟩ : MethodName) jdk_42_method_66_code 3 (some .boolean) :: ws) ({ frames := 1, cells := 0, slots := 0, locals := 14 } : Room)) (fun a U => a = #[(.ref a1), (.ref a2)] ∧ Z.Warmed39 U.vm ∧ U.heap = h0) (fun _ _ _ _ _ => True) (fun _ U o U' => ∃ v L, o = .returned v ∧ Qrmeq2 Z a1 a2 b1 k1 b2 k2 cs h0 n0 v U'.heap L ∧ FrameEnd U o U' L ({ frames := 1, cells := 0, slots := 0, locals := 14 } : Room).cells ({ frames := 1, cells := 0, slots := 0, locals := 14 } : Room).slots) := by
  refine MetFree.of_bodySF (plainFor_of_name pn_4) hisR ?_
  intro p e s m args below meth c s₁ Bd hml0 hP hK
  obtain ⟨rfl, hZ, hh⟩ := hP
  have hx := Bd.exec
  have hby := Bd.bytes
  have hml : c.maxLocals = 3 := hml0
  have hown : s.vm.findClass "java/lang/String" = some m.cls := findClass_of_methodNamed Bd.named
  have hnm := (name_of_methodNamed Bd.named Bd.method).1
  have X0 : Stand p l e ({ frames := 1, cells := 0, slots := 0, locals := 14 } : Room) s m #[(.ref a1), (.ref a2)] below meth c s₁ [] 0 0 := Stand.of_body Bd
  have e0 : s₁.heap = h0 := by rw [← hh, Bd.state]; rfl
  have N0 := Fr.nil n0
  show Go p.tables e below (fun o U' => ∃ v L, o = .returned v ∧ Qrmeq2 Z a1 a2 b1 k1 b2 k2 cs h0 n0 v U'.heap L ∧ FrameEnd s o U' L ({ frames := 1, cells := 0, slots := 0, locals := 14 } : Room).cells ({ frames := 1, cells := 0, slots := 0, locals := 14 } : Room).slots) _
  refine Go.step (fun t kt => castTop (ef_rmeq2 m a1 a2 b1 k1 b2 k2 cs) kt) ?_
  show Go p.tables e below _ (s₁.setTop (mkF m 0 #[.val (.ref a1), .val (.ref a2), .unset] []))
  have ne12 : a1 ≠ a2 := Fld.ne Fv1 Fv2 (fun q => own_arv_ne V1 V2 (Or.inr ⟨0, by decide, by intro q0; cases q0⟩) (Value.ref.inj q))
  refine Go.step (fun _ kt => XS.aloadN X0.here hx rfl (hb hby d3_0) rfl rfl kt) ?_
  show Go p.tables e below _ (s₁.setTop (mkF m 1 #[.val (.ref a1), .val (.ref a2), .unset] [(.ref a1)]))
  refine Go.step (fun _ kt => XS.aloadN X0.here hx rfl (hb hby d3_1) rfl rfl kt) ?_
  show Go p.tables e below _ (s₁.setTop (mkF m 2 #[.val (.ref a1), .val (.ref a2), .unset] [(.ref a2), (.ref a1)]))
  refine Go.step (fun _ kt => Jvm.RoadKit.acmp (g := (mkF m 2 #[.val (.ref a1), .val (.ref a2), .unset] [(.ref a2), (.ref a1)])) X0 hx rfl rfl rfl (pc0 := 2) (pc' := 7) (same := false) rfl (hb hby d3_2) rfl (decide_eq_false fun q => ne12 (Value.ref.inj q)) (by decide) (by decide) kt) ?_
  show Go p.tables e below _ (s₁.setTop (mkF m 7 #[.val (.ref a1), .val (.ref a2), .unset] []))
  refine Go.step (fun _ kt => XS.aloadN X0.here hx rfl (hb hby d3_7) rfl rfl kt) ?_
  show Go p.tables e below _ (s₁.setTop (mkF m 8 #[.val (.ref a1), .val (.ref a2), .unset] [(.ref a2)]))
  obtain ⟨T101, X101, e101, st101⟩ := instY X0 hx hZ hown (hw _ (List.mem_of_getElem? (i := 27) rfl)) e0 (Ins.self E2) (g := (mkF m 8 #[.val (.ref a1), .val (.ref a2), .unset] [(.ref a2)])) rfl rfl (hb hby d3_8)
  refine Go.step st101 ?_
  show Go p.tables e below _ (T101.setTop (mkF m 11 #[.val (.ref a1), .val (.ref a2), .unset] [(.int (1 : Int32))]))
  refine Go.step (fun _ kt => XS.ifNo X101.here hx rfl (hb hby d3_11) rfl ((if0 _ _).trans (feq (by decide : ¬ ((1 : Int32) = (0 : Int32)))).1) kt) ?_
  show Go p.tables e below _ (T101.setTop (mkF m 14 #[.val (.ref a1), .val (.ref a2), .unset] []))
  refine Go.step (fun _ kt => XS.aloadN X101.here hx rfl (hb hby d3_14) rfl rfl kt) ?_
  show Go p.tables e below _ (T101.setTop (mkF m 15 #[.val (.ref a1), .val (.ref a2), .unset] [(.ref a2)]))
  obtain ⟨T102, X102, e102, st102⟩ := castY X101 hx hZ hown (hw _ (List.mem_of_getElem? (i := 27) rfl)) e101 (Ins.self E2) (g := (mkF m 15 #[.val (.ref a1), .val (.ref a2), .unset] [(.ref a2)])) rfl rfl (hb hby d3_15)
  refine Go.step st102 ?_
  show Go p.tables e below _ (T102.setTop (mkF m 18 #[.val (.ref a1), .val (.ref a2), .unset] [(.ref a2)]))
  refine Go.step (fun _ kt => XS.astoreN X102.here hx rfl (hb hby d3_18) rfl rfl (l' := #[.val (.ref a1), .val (.ref a2), .val (.ref a2)]) rfl kt) ?_
  show Go p.tables e below _ (T102.setTop (mkF m 19 #[.val (.ref a1), .val (.ref a2), .val (.ref a2)] []))
  obtain ⟨T103, X103, e103, st103⟩ := getS2 X102 hx hZ hown (host := "") (Or.inl (hw _ (List.mem_of_getElem? (i := 29) rfl))) Via.refl e102 S_cs (g := (mkF m 19 #[.val (.ref a1), .val (.ref a2), .val (.ref a2)] [])) rfl (hb hby d3_19)
  refine Go.step st103 ?_
  show Go p.tables e below _ (T103.setTop (mkF m 22 #[.val (.ref a1), .val (.ref a2), .val (.ref a2)] [(.int cs)]))
  refine Go.step (fun _ kt => XS.ifNo X103.here hx rfl (hb hby d3_22) rfl ((if0 _ _).trans (feq hcs).1) kt) ?_
  show Go p.tables e below _ (T103.setTop (mkF m 25 #[.val (.ref a1), .val (.ref a2), .val (.ref a2)] []))
  refine Go.step (fun _ kt => XS.aloadN X103.here hx rfl (hb hby d3_25) rfl rfl kt) ?_
  show Go p.tables e below _ (T103.setTop (mkF m 26 #[.val (.ref a1), .val (.ref a2), .val (.ref a2)] [(.ref a1)]))
  obtain ⟨T104, X104, e104, st104⟩ := getF X103 hx hZ hown (host := "") (Or.inl (hw _ (List.mem_of_getElem? (i := 30) rfl))) Via.refl e103 Fc1 (g := (mkF m 26 #[.val (.ref a1), .val (.ref a2), .val (.ref a2)] [(.ref a1)])) rfl rfl (hb hby d3_26)
  refine Go.step st104 ?_
  show Go p.tables e below _ (T104.setTop (mkF m 29 #[.val (.ref a1), .val (.ref a2), .val (.ref a2)] [(.int (0 : Int32))]))
  refine Go.step (fun _ kt => XS.aloadN X104.here hx rfl (hb hby d3_29) rfl rfl kt) ?_
  show Go p.tables e below _ (T104.setTop (mkF m 30 #[.val (.ref a1), .val (.ref a2), .val (.ref a2)] [(.ref a2), (.int (0 : Int32))]))
  obtain ⟨T105, X105, e105, st105⟩ := getF X104 hx hZ hown (host := "") (Or.inl (hw _ (List.mem_of_getElem? (i := 30) rfl))) Via.refl e104 Fc2 (g := (mkF m 30 #[.val (.ref a1), .val (.ref a2), .val (.ref a2)] [(.ref a2), (.int (0 : Int32))])) rfl rfl (hb hby d3_30)
  refine Go.step st105 ?_
  show Go p.tables e below _ (T105.setTop (mkF m 33 #[.val (.ref a1), .val (.ref a2), .val (.ref a2)] [(.int (0 : Int32)), (.int (0 : Int32))]))
  refine Go.step (fun _ kt => XS.icmpNo X105.here hx rfl (hb hby d3_33) rfl (teq (by decide : (0 : Int32) = (0 : Int32))).2 kt) ?_
  show Go p.tables e below _ (T105.setTop (mkF m 36 #[.val (.ref a1), .val (.ref a2), .val (.ref a2)] []))
  refine Go.step (fun _ kt => XS.aloadN X105.here hx rfl (hb hby d3_36) rfl rfl kt) ?_
  show Go p.tables e below _ (T105.setTop (mkF m 37 #[.val (.ref a1), .val (.ref a2), .val (.ref a2)] [(.ref a1)]))
  obtain ⟨T106, X106, e106, st106⟩ := getF X105 hx hZ hown (host := "") (Or.inl (hw _ (List.mem_of_getElem? (i := 31) rfl))) Via.refl e105 Fv1 (g := (mkF m 37 #[.val (.ref a1), .val (.ref a2), .val (.ref a2)] [(.ref a1)])) rfl rfl (hb hby d3_37)
  refine Go.step st106 ?_
  show Go p.tables e below _ (T106.setTop (mkF m 40 #[.val (.ref a1), .val (.ref a2), .val (.ref a2)] [(.ref b1)]))
  refine Go.step (fun _ kt => XS.aloadN X106.here hx rfl (hb hby d3_40) rfl rfl kt) ?_
  show Go p.tables e below _ (T106.setTop (mkF m 41 #[.val (.ref a1), .val (.ref a2), .val (.ref a2)] [(.ref a2), (.ref b1)]))
  obtain ⟨T107, X107, e107, st107⟩ := getF X106 hx hZ hown (host := "") (Or.inl (hw _ (List.mem_of_getElem? (i := 31) rfl))) Via.refl e106 Fv2 (g := (mkF m 41 #[.val (.ref a1), .val (.ref a2), .val (.ref a2)] [(.ref a2), (.ref b1)])) rfl rfl (hb hby d3_41)
  refine Go.step st107 ?_
  show Go p.tables e below _ (T107.setTop (mkF m 44 #[.val (.ref a1), .val (.ref a2), .val (.ref a2)] [(.ref b2), (.ref b1)]))
  obtain ⟨_, _, ⟨T108, L108, k108, n108⟩, -, X108, ⟨Lc108, hQ108, l108, y108, z108⟩, st108⟩ := Jvm.LawKit.callS X107 hx (y := (⟨"java/lang/StringLatin1", "equals", "([B[B)Z"⟩ : MethodName)) hown (mvT hZ (hw _ (List.mem_of_getElem? (i := 32) rfl))) (mvT hZ (hw _ (List.mem_of_getElem? (i := 33) rfl))) (mvT hZ (hw _ (List.mem_of_getElem? (i := 34) rfl))) (mvT hZ (hw _ (List.mem_of_getElem? (i := 35) rfl))) (by decide) (backOf (W := 0) (rmle3 l Z a0 hw [] b1 b2 k1 k2 h0 n0 Z0 V1 V2 ) hZ (hw _ (List.mem_of_getElem? (i := 35) rfl)) (hw _ (List.mem_of_getElem? (i := 34) rfl)) (by decide) (by decide)) (g := (mkF m 44 #[.val (.ref a1), .val (.ref a2), .val (.ref a2)] [(.ref b2), (.ref b1)])) rfl (by rw [hml]; rfl) (argsL := [(.ref b1), (.ref b2)]) (rest := []) (lenOf pd_3 rfl) rfl (by show 2 * 0 + _ ≤ _; exact Nat.le_of_eq rfl) (hb hby d3_44) (fun _ _ => ⟨rfl, e107, (by decide : 0 + 0 ≤ _), (by decide : 0 + 0 ≤ _)⟩)
  dsimp only [Pt.U, Pt.locs, Pt.cells, Pt.slots] at X108 l108 y108 z108 st108 hQ108
  subst l108 y108 z108
  obtain ⟨rfl, N108q, eh108⟩ := hQ108
  have N108 := Fr.app N0 N108q
  refine Go.step st108 ?_
  show Go p.tables e below _ (T108.setTop (mkF m 47 #[.val (.ref a1), .val (.ref a2), .val (.ref a2)] [(.int (0 : Int32))]))
  refine Go.step (fun _ kt => XS.ifYes X108.here hx rfl (pc0 := 47) (pc' := 54) rfl (hb hby d3_47) rfl ((if0 _ _).trans (teq (by decide : (0 : Int32) = (0 : Int32))).1) (by decide) (by decide) kt) ?_
  show Go p.tables e below _ (T108.setTop (mkF m 54 #[.val (.ref a1), .val (.ref a2), .val (.ref a2)] []))
  refine Go.step (fun _ kt => XS.iconst X108.here hx rfl (hb hby d3_54) kt) ?_
  show Go p.tables e below _ (T108.setTop (mkF m 55 #[.val (.ref a1), .val (.ref a2), .val (.ref a2)] [(.int (0 : Int32))]))
  obtain ⟨fs, hr, hrun, hended, hW, hsame⟩ := X108.leave (v := some (.int (0 : Int32))) (fun h => by rw [Bd.returns] at h; cases h)
  refine ⟨_, _, retN X108 hx (t := .boolean) Bd.returns (by simp) (hb hby d3_55) hr, hrun, hended, _, _, rfl, ?_, ⟨_, rfl⟩, hW, hsame.mono (by decide) (by decide)⟩
  show Qrmeq2 Z a1 a2 b1 k1 b2 k2 cs h0 n0 _ T108.heap _
  rw [eh108]
  refine ⟨?_, N108, rfl⟩
  rfl
theorem d4_34 : decode jdk_43_method_13_code 34 = .ok (.iconst 0, 1) := by decide +kernel
theorem d4_35 : decode jdk_43_method_13_code 35 = .ok (.ireturn, 1) := by decide +kernel
theorem ef_rmle5 (m : MethodId) (a1 : Addr) (a2 : Addr) (k1 : ClassId) (k2 : ClassId) : entryFrame m #[(.ref a1), (.ref a2)] 3 = mkF m 0 #[.val (.ref a1), .val (.ref a2), .unset] [] := by first | (simp [entryFrame, mkF, argsToLocals, Value.category]; done) | rfl
def Qrmle5 (Z : State) (a1 : Addr) (a2 : Addr) (k1 : ClassId) (k2 : ClassId) (h0 : Heap) (n0 : Nat) (v : Option Value) (h : Heap) (L : List Loc) : Prop := v = some (.int (0 : Int32)) ∧ Fr n0 L ∧ h = h0
set_option maxRecDepth 65536 in
set_option maxHeartbeats 40000000 in
theorem rmle5 (l : Launch) (Z : State) (a0 : Array Value) (hw : ∀ d ∈ tables_1, d.before a0 Z = true) (ws : List Jvm.Cond) (a1 : Addr) (a2 : Addr) (k1 : ClassId) (k2 : ClassId) (h0 : Heap) (n0 : Nat) (Z0 : n0 ≤ h0.size) (V1 : Arv Z h0 a1 k1 .byte (7 : Int32) [(.int (105 : Int32)), (.int (110 : Int32)), (.int (118 : Int32)), (.int (97 : Int32)), (.int (108 : Int32)), (.int (105 : Int32)), (.int (100 : Int32))] (.int (0 : Int32))) (V2 : Arv Z h0 a2 k2 .byte (4 : Int32) [(.int (101 : Int32)), (.int (120 : Int32)), (.int (105 : Int32)), (.int (102 : Int32))] (.int (0 : Int32))) :
    MetFree l (⟨"java/lang/StringLatin1", "equals", "([B[B)Z"⟩ : MethodName) (head1 (Jvm.Cond.code (⟨"java/lang/StringLatin1", "equals", "([B[B)Z"⟩ : MethodName) jdk_43_method_13_code 3 (some .boolean) :: ws) ({ frames := 0, cells := 0, slots := 0, locals := 0 } : Room)) (fun a U => a = #[(.ref a1), (.ref a2)] ∧ Z.Warmed39 U.vm ∧ U.heap = h0) (fun _ _ _ _ _ => True) (fun _ U o U' => ∃ v L, o = .returned v ∧ Qrmle5 Z a1 a2 k1 k2 h0 n0 v U'.heap L ∧ FrameEnd U o U' L ({ frames := 0, cells := 0, slots := 0, locals := 0 } : Room).cells ({ frames := 0, cells := 0, slots := 0, locals := 0 } : Room).slots) := by
  refine MetFree.of_bodySF (plainFor_of_name pn_3) hisR ?_
  intro p e s m args below meth c s₁ Bd hml0 hP hK
  obtain ⟨rfl, hZ, hh⟩ := hP
  have hx := Bd.exec
  have hby := Bd.bytes
  have hml : c.maxLocals = 3 := hml0
  have hown : s.vm.findClass "java/lang/StringLatin1" = some m.cls := findClass_of_methodNamed Bd.named
  have hnm := (name_of_methodNamed Bd.named Bd.method).1
  have X0 : Stand p l e ({ frames := 0, cells := 0, slots := 0, locals := 0 } : Room) s m #[(.ref a1), (.ref a2)] below meth c s₁ [] 0 0 := Stand.of_body Bd
  have e0 : s₁.heap = h0 := by rw [← hh, Bd.state]; rfl
  have N0 := Fr.nil n0
  show Go p.tables e below (fun o U' => ∃ v L, o = .returned v ∧ Qrmle5 Z a1 a2 k1 k2 h0 n0 v U'.heap L ∧ FrameEnd s o U' L ({ frames := 0, cells := 0, slots := 0, locals := 0 } : Room).cells ({ frames := 0, cells := 0, slots := 0, locals := 0 } : Room).slots) _
  refine Go.step (fun t kt => castTop (ef_rmle5 m a1 a2 k1 k2) kt) ?_
  show Go p.tables e below _ (s₁.setTop (mkF m 0 #[.val (.ref a1), .val (.ref a2), .unset] []))
  refine Go.step (fun _ kt => XS.aloadN X0.here hx rfl (hb hby d4_0) rfl rfl kt) ?_
  show Go p.tables e below _ (s₁.setTop (mkF m 1 #[.val (.ref a1), .val (.ref a2), .unset] [(.ref a1)]))
  obtain ⟨cl101, Ar101, qa101, Sa101, Na101, Ha101, Ga101⟩ := (id V1)
  refine Go.step (X0.arraylength hx (by rw [e0]; exact Ar101.1) (State.isArrayOf_alike hZ.alike Ar101.2.1) (g := (mkF m 1 #[.val (.ref a1), .val (.ref a2), .unset] [(.ref a1)])) rfl rfl (hb hby d4_1)) ?_
  rw [len_of Sa101 Na101]
  show Go p.tables e below _ (s₁.setTop (mkF m 2 #[.val (.ref a1), .val (.ref a2), .unset] [(.int (7 : Int32))]))
  refine Go.step (fun _ kt => XS.aloadN X0.here hx rfl (hb hby d4_2) rfl rfl kt) ?_
  show Go p.tables e below _ (s₁.setTop (mkF m 3 #[.val (.ref a1), .val (.ref a2), .unset] [(.ref a2), (.int (7 : Int32))]))
  obtain ⟨cl102, Ar102, qa102, Sa102, Na102, Ha102, Ga102⟩ := (id V2)
  refine Go.step (X0.arraylength hx (by rw [e0]; exact Ar102.1) (State.isArrayOf_alike hZ.alike Ar102.2.1) (g := (mkF m 3 #[.val (.ref a1), .val (.ref a2), .unset] [(.ref a2), (.int (7 : Int32))])) rfl rfl (hb hby d4_3)) ?_
  rw [len_of Sa102 Na102]
  show Go p.tables e below _ (s₁.setTop (mkF m 4 #[.val (.ref a1), .val (.ref a2), .unset] [(.int (4 : Int32)), (.int (7 : Int32))]))
  refine Go.step (fun _ kt => XS.icmpYes X0.here hx rfl (pc0 := 4) (pc' := 34) rfl (hb hby d4_4) rfl (feq (by decide : ¬ ((7 : Int32) = (4 : Int32)))).2 (by decide) (by decide) kt) ?_
  show Go p.tables e below _ (s₁.setTop (mkF m 34 #[.val (.ref a1), .val (.ref a2), .unset] []))
  refine Go.step (fun _ kt => XS.iconst X0.here hx rfl (hb hby d4_34) kt) ?_
  show Go p.tables e below _ (s₁.setTop (mkF m 35 #[.val (.ref a1), .val (.ref a2), .unset] [(.int (0 : Int32))]))
  obtain ⟨fs, hr, hrun, hended, hW, hsame⟩ := X0.leave (v := some (.int (0 : Int32))) (fun h => by rw [Bd.returns] at h; cases h)
  refine ⟨_, _, retN X0 hx (t := .boolean) Bd.returns (by simp) (hb hby d4_35) hr, hrun, hended, _, _, rfl, ?_, ⟨_, rfl⟩, hW, hsame.mono (by decide) (by decide)⟩
  show Qrmle5 Z a1 a2 k1 k2 h0 n0 _ s₁.heap _
  rw [e0]
  refine ⟨?_, N0, rfl⟩
  rfl
theorem ef_rmeq4 (m : MethodId) (a1 : Addr) (a2 : Addr) (b1 : Addr) (k1 : ClassId) (b2 : Addr) (k2 : ClassId) (cs : Int32) : entryFrame m #[(.ref a1), (.ref a2)] 3 = mkF m 0 #[.val (.ref a1), .val (.ref a2), .unset] [] := by first | (simp [entryFrame, mkF, argsToLocals, Value.category]; done) | rfl
def Qrmeq4 (Z : State) (a1 : Addr) (a2 : Addr) (b1 : Addr) (k1 : ClassId) (b2 : Addr) (k2 : ClassId) (cs : Int32) (h0 : Heap) (n0 : Nat) (v : Option Value) (h : Heap) (L : List Loc) : Prop := v = some (.int (0 : Int32)) ∧ Fr n0 L ∧ h = h0
set_option maxRecDepth 65536 in
set_option maxHeartbeats 40000000 in
theorem rmeq4 (l : Launch) (Z : State) (a0 : Array Value) (hw : ∀ d ∈ tables_1, d.before a0 Z = true) (ws : List Jvm.Cond) (a1 : Addr) (a2 : Addr) (b1 : Addr) (k1 : ClassId) (b2 : Addr) (k2 : ClassId) (cs : Int32) (h0 : Heap) (n0 : Nat) (Z0 : n0 ≤ h0.size) (E1 : Exa Z h0 a1 "java/lang/String") (Fc1 : Fld Z h0 a1 "java/lang/String" "coder" "B" (.int (0 : Int32))) (Fv1 : Fld Z h0 a1 "java/lang/String" "value" "[B" (.ref b1)) (V1 : Arv Z h0 b1 k1 .byte (7 : Int32) [(.int (105 : Int32)), (.int (110 : Int32)), (.int (118 : Int32)), (.int (97 : Int32)), (.int (108 : Int32)), (.int (105 : Int32)), (.int (100 : Int32))] (.int (0 : Int32))) (E2 : Exa Z h0 a2 "java/lang/String") (Fc2 : Fld Z h0 a2 "java/lang/String" "coder" "B" (.int (0 : Int32))) (Fv2 : Fld Z h0 a2 "java/lang/String" "value" "[B" (.ref b2)) (V2 : Arv Z h0 b2 k2 .byte (4 : Int32) [(.int (101 : Int32)), (.int (120 : Int32)), (.int (105 : Int32)), (.int (102 : Int32))] (.int (0 : Int32))) (S_cs : Sta Z h0 "java/lang/String" "COMPACT_STRINGS" "Z" (.int cs)) (hcs : ¬ cs = 0) :
    MetFree l (⟨"java/lang/String", "equals", "(Ljava/lang/Object;)Z"⟩ : MethodName) (head1 (Jvm.Cond.code (⟨"java/lang/String", "equals", "(Ljava/lang/Object;)Z"⟩ : MethodName) jdk_42_method_66_code 3 (some .boolean) :: ws) ({ frames := 1, cells := 0, slots := 0, locals := 14 } : Room)) (fun a U => a = #[(.ref a1), (.ref a2)] ∧ Z.Warmed39 U.vm ∧ U.heap = h0) (fun _ _ _ _ _ => True) (fun _ U o U' => ∃ v L, o = .returned v ∧ Qrmeq4 Z a1 a2 b1 k1 b2 k2 cs h0 n0 v U'.heap L ∧ FrameEnd U o U' L ({ frames := 1, cells := 0, slots := 0, locals := 14 } : Room).cells ({ frames := 1, cells := 0, slots := 0, locals := 14 } : Room).slots) := by
  refine MetFree.of_bodySF (plainFor_of_name pn_4) hisR ?_
  intro p e s m args below meth c s₁ Bd hml0 hP hK
  obtain ⟨rfl, hZ, hh⟩ := hP
  have hx := Bd.exec
  have hby := Bd.bytes
  have hml : c.maxLocals = 3 := hml0
  have hown : s.vm.findClass "java/lang/String" = some m.cls := findClass_of_methodNamed Bd.named
  have hnm := (name_of_methodNamed Bd.named Bd.method).1
  have X0 : Stand p l e ({ frames := 1, cells := 0, slots := 0, locals := 14 } : Room) s m #[(.ref a1), (.ref a2)] below meth c s₁ [] 0 0 := Stand.of_body Bd
  have e0 : s₁.heap = h0 := by rw [← hh, Bd.state]; rfl
  have N0 := Fr.nil n0
  show Go p.tables e below (fun o U' => ∃ v L, o = .returned v ∧ Qrmeq4 Z a1 a2 b1 k1 b2 k2 cs h0 n0 v U'.heap L ∧ FrameEnd s o U' L ({ frames := 1, cells := 0, slots := 0, locals := 14 } : Room).cells ({ frames := 1, cells := 0, slots := 0, locals := 14 } : Room).slots) _
  refine Go.step (fun t kt => castTop (ef_rmeq4 m a1 a2 b1 k1 b2 k2 cs) kt) ?_
  show Go p.tables e below _ (s₁.setTop (mkF m 0 #[.val (.ref a1), .val (.ref a2), .unset] []))
  have ne12 : a1 ≠ a2 := Fld.ne Fv1 Fv2 (fun q => own_arv_ne V1 V2 (Or.inl (by decide)) (Value.ref.inj q))
  refine Go.step (fun _ kt => XS.aloadN X0.here hx rfl (hb hby d3_0) rfl rfl kt) ?_
  show Go p.tables e below _ (s₁.setTop (mkF m 1 #[.val (.ref a1), .val (.ref a2), .unset] [(.ref a1)]))
  refine Go.step (fun _ kt => XS.aloadN X0.here hx rfl (hb hby d3_1) rfl rfl kt) ?_
  show Go p.tables e below _ (s₁.setTop (mkF m 2 #[.val (.ref a1), .val (.ref a2), .unset] [(.ref a2), (.ref a1)]))
  refine Go.step (fun _ kt => Jvm.RoadKit.acmp (g := (mkF m 2 #[.val (.ref a1), .val (.ref a2), .unset] [(.ref a2), (.ref a1)])) X0 hx rfl rfl rfl (pc0 := 2) (pc' := 7) (same := false) rfl (hb hby d3_2) rfl (decide_eq_false fun q => ne12 (Value.ref.inj q)) (by decide) (by decide) kt) ?_
  show Go p.tables e below _ (s₁.setTop (mkF m 7 #[.val (.ref a1), .val (.ref a2), .unset] []))
  refine Go.step (fun _ kt => XS.aloadN X0.here hx rfl (hb hby d3_7) rfl rfl kt) ?_
  show Go p.tables e below _ (s₁.setTop (mkF m 8 #[.val (.ref a1), .val (.ref a2), .unset] [(.ref a2)]))
  obtain ⟨T101, X101, e101, st101⟩ := instY X0 hx hZ hown (hw _ (List.mem_of_getElem? (i := 27) rfl)) e0 (Ins.self E2) (g := (mkF m 8 #[.val (.ref a1), .val (.ref a2), .unset] [(.ref a2)])) rfl rfl (hb hby d3_8)
  refine Go.step st101 ?_
  show Go p.tables e below _ (T101.setTop (mkF m 11 #[.val (.ref a1), .val (.ref a2), .unset] [(.int (1 : Int32))]))
  refine Go.step (fun _ kt => XS.ifNo X101.here hx rfl (hb hby d3_11) rfl ((if0 _ _).trans (feq (by decide : ¬ ((1 : Int32) = (0 : Int32)))).1) kt) ?_
  show Go p.tables e below _ (T101.setTop (mkF m 14 #[.val (.ref a1), .val (.ref a2), .unset] []))
  refine Go.step (fun _ kt => XS.aloadN X101.here hx rfl (hb hby d3_14) rfl rfl kt) ?_
  show Go p.tables e below _ (T101.setTop (mkF m 15 #[.val (.ref a1), .val (.ref a2), .unset] [(.ref a2)]))
  obtain ⟨T102, X102, e102, st102⟩ := castY X101 hx hZ hown (hw _ (List.mem_of_getElem? (i := 27) rfl)) e101 (Ins.self E2) (g := (mkF m 15 #[.val (.ref a1), .val (.ref a2), .unset] [(.ref a2)])) rfl rfl (hb hby d3_15)
  refine Go.step st102 ?_
  show Go p.tables e below _ (T102.setTop (mkF m 18 #[.val (.ref a1), .val (.ref a2), .unset] [(.ref a2)]))
  refine Go.step (fun _ kt => XS.astoreN X102.here hx rfl (hb hby d3_18) rfl rfl (l' := #[.val (.ref a1), .val (.ref a2), .val (.ref a2)]) rfl kt) ?_
  show Go p.tables e below _ (T102.setTop (mkF m 19 #[.val (.ref a1), .val (.ref a2), .val (.ref a2)] []))
  obtain ⟨T103, X103, e103, st103⟩ := getS2 X102 hx hZ hown (host := "") (Or.inl (hw _ (List.mem_of_getElem? (i := 29) rfl))) Via.refl e102 S_cs (g := (mkF m 19 #[.val (.ref a1), .val (.ref a2), .val (.ref a2)] [])) rfl (hb hby d3_19)
  refine Go.step st103 ?_
  show Go p.tables e below _ (T103.setTop (mkF m 22 #[.val (.ref a1), .val (.ref a2), .val (.ref a2)] [(.int cs)]))
  refine Go.step (fun _ kt => XS.ifNo X103.here hx rfl (hb hby d3_22) rfl ((if0 _ _).trans (feq hcs).1) kt) ?_
  show Go p.tables e below _ (T103.setTop (mkF m 25 #[.val (.ref a1), .val (.ref a2), .val (.ref a2)] []))
  refine Go.step (fun _ kt => XS.aloadN X103.here hx rfl (hb hby d3_25) rfl rfl kt) ?_
  show Go p.tables e below _ (T103.setTop (mkF m 26 #[.val (.ref a1), .val (.ref a2), .val (.ref a2)] [(.ref a1)]))
  obtain ⟨T104, X104, e104, st104⟩ := getF X103 hx hZ hown (host := "") (Or.inl (hw _ (List.mem_of_getElem? (i := 30) rfl))) Via.refl e103 Fc1 (g := (mkF m 26 #[.val (.ref a1), .val (.ref a2), .val (.ref a2)] [(.ref a1)])) rfl rfl (hb hby d3_26)
  refine Go.step st104 ?_
  show Go p.tables e below _ (T104.setTop (mkF m 29 #[.val (.ref a1), .val (.ref a2), .val (.ref a2)] [(.int (0 : Int32))]))
  refine Go.step (fun _ kt => XS.aloadN X104.here hx rfl (hb hby d3_29) rfl rfl kt) ?_
  show Go p.tables e below _ (T104.setTop (mkF m 30 #[.val (.ref a1), .val (.ref a2), .val (.ref a2)] [(.ref a2), (.int (0 : Int32))]))
  obtain ⟨T105, X105, e105, st105⟩ := getF X104 hx hZ hown (host := "") (Or.inl (hw _ (List.mem_of_getElem? (i := 30) rfl))) Via.refl e104 Fc2 (g := (mkF m 30 #[.val (.ref a1), .val (.ref a2), .val (.ref a2)] [(.ref a2), (.int (0 : Int32))])) rfl rfl (hb hby d3_30)
  refine Go.step st105 ?_
  show Go p.tables e below _ (T105.setTop (mkF m 33 #[.val (.ref a1), .val (.ref a2), .val (.ref a2)] [(.int (0 : Int32)), (.int (0 : Int32))]))
  refine Go.step (fun _ kt => XS.icmpNo X105.here hx rfl (hb hby d3_33) rfl (teq (by decide : (0 : Int32) = (0 : Int32))).2 kt) ?_
  show Go p.tables e below _ (T105.setTop (mkF m 36 #[.val (.ref a1), .val (.ref a2), .val (.ref a2)] []))
  refine Go.step (fun _ kt => XS.aloadN X105.here hx rfl (hb hby d3_36) rfl rfl kt) ?_
  show Go p.tables e below _ (T105.setTop (mkF m 37 #[.val (.ref a1), .val (.ref a2), .val (.ref a2)] [(.ref a1)]))
  obtain ⟨T106, X106, e106, st106⟩ := getF X105 hx hZ hown (host := "") (Or.inl (hw _ (List.mem_of_getElem? (i := 31) rfl))) Via.refl e105 Fv1 (g := (mkF m 37 #[.val (.ref a1), .val (.ref a2), .val (.ref a2)] [(.ref a1)])) rfl rfl (hb hby d3_37)
  refine Go.step st106 ?_
  show Go p.tables e below _ (T106.setTop (mkF m 40 #[.val (.ref a1), .val (.ref a2), .val (.ref a2)] [(.ref b1)]))
  refine Go.step (fun _ kt => XS.aloadN X106.here hx rfl (hb hby d3_40) rfl rfl kt) ?_
  show Go p.tables e below _ (T106.setTop (mkF m 41 #[.val (.ref a1), .val (.ref a2), .val (.ref a2)] [(.ref a2), (.ref b1)]))
  obtain ⟨T107, X107, e107, st107⟩ := getF X106 hx hZ hown (host := "") (Or.inl (hw _ (List.mem_of_getElem? (i := 31) rfl))) Via.refl e106 Fv2 (g := (mkF m 41 #[.val (.ref a1), .val (.ref a2), .val (.ref a2)] [(.ref a2), (.ref b1)])) rfl rfl (hb hby d3_41)
  refine Go.step st107 ?_
  show Go p.tables e below _ (T107.setTop (mkF m 44 #[.val (.ref a1), .val (.ref a2), .val (.ref a2)] [(.ref b2), (.ref b1)]))
  obtain ⟨_, _, ⟨T108, L108, k108, n108⟩, -, X108, ⟨Lc108, hQ108, l108, y108, z108⟩, st108⟩ := Jvm.LawKit.callS X107 hx (y := (⟨"java/lang/StringLatin1", "equals", "([B[B)Z"⟩ : MethodName)) hown (mvT hZ (hw _ (List.mem_of_getElem? (i := 32) rfl))) (mvT hZ (hw _ (List.mem_of_getElem? (i := 33) rfl))) (mvT hZ (hw _ (List.mem_of_getElem? (i := 34) rfl))) (mvT hZ (hw _ (List.mem_of_getElem? (i := 35) rfl))) (by decide) (backOf (W := 0) (rmle5 l Z a0 hw [] b1 b2 k1 k2 h0 n0 Z0 V1 V2 ) hZ (hw _ (List.mem_of_getElem? (i := 35) rfl)) (hw _ (List.mem_of_getElem? (i := 34) rfl)) (by decide) (by decide)) (g := (mkF m 44 #[.val (.ref a1), .val (.ref a2), .val (.ref a2)] [(.ref b2), (.ref b1)])) rfl (by rw [hml]; rfl) (argsL := [(.ref b1), (.ref b2)]) (rest := []) (lenOf pd_3 rfl) rfl (by show 2 * 0 + _ ≤ _; exact Nat.le_of_eq rfl) (hb hby d3_44) (fun _ _ => ⟨rfl, e107, (by decide : 0 + 0 ≤ _), (by decide : 0 + 0 ≤ _)⟩)
  dsimp only [Pt.U, Pt.locs, Pt.cells, Pt.slots] at X108 l108 y108 z108 st108 hQ108
  subst l108 y108 z108
  obtain ⟨rfl, N108q, eh108⟩ := hQ108
  have N108 := Fr.app N0 N108q
  refine Go.step st108 ?_
  show Go p.tables e below _ (T108.setTop (mkF m 47 #[.val (.ref a1), .val (.ref a2), .val (.ref a2)] [(.int (0 : Int32))]))
  refine Go.step (fun _ kt => XS.ifYes X108.here hx rfl (pc0 := 47) (pc' := 54) rfl (hb hby d3_47) rfl ((if0 _ _).trans (teq (by decide : (0 : Int32) = (0 : Int32))).1) (by decide) (by decide) kt) ?_
  show Go p.tables e below _ (T108.setTop (mkF m 54 #[.val (.ref a1), .val (.ref a2), .val (.ref a2)] []))
  refine Go.step (fun _ kt => XS.iconst X108.here hx rfl (hb hby d3_54) kt) ?_
  show Go p.tables e below _ (T108.setTop (mkF m 55 #[.val (.ref a1), .val (.ref a2), .val (.ref a2)] [(.int (0 : Int32))]))
  obtain ⟨fs, hr, hrun, hended, hW, hsame⟩ := X108.leave (v := some (.int (0 : Int32))) (fun h => by rw [Bd.returns] at h; cases h)
  refine ⟨_, _, retN X108 hx (t := .boolean) Bd.returns (by simp) (hb hby d3_55) hr, hrun, hended, _, _, rfl, ?_, ⟨_, rfl⟩, hW, hsame.mono (by decide) (by decide)⟩
  show Qrmeq4 Z a1 a2 b1 k1 b2 k2 cs h0 n0 _ T108.heap _
  rw [eh108]
  refine ⟨?_, N108, rfl⟩
  rfl
theorem ef_rmle7 (m : MethodId) (a1 : Addr) (a2 : Addr) (k1 : ClassId) (k2 : ClassId) : entryFrame m #[(.ref a1), (.ref a2)] 3 = mkF m 0 #[.val (.ref a1), .val (.ref a2), .unset] [] := by first | (simp [entryFrame, mkF, argsToLocals, Value.category]; done) | rfl
def Qrmle7 (Z : State) (a1 : Addr) (a2 : Addr) (k1 : ClassId) (k2 : ClassId) (h0 : Heap) (n0 : Nat) (v : Option Value) (h : Heap) (L : List Loc) : Prop := v = some (.int (0 : Int32)) ∧ Fr n0 L ∧ h = h0
set_option maxRecDepth 65536 in
set_option maxHeartbeats 40000000 in
theorem rmle7 (l : Launch) (Z : State) (a0 : Array Value) (hw : ∀ d ∈ tables_1, d.before a0 Z = true) (ws : List Jvm.Cond) (a1 : Addr) (a2 : Addr) (k1 : ClassId) (k2 : ClassId) (h0 : Heap) (n0 : Nat) (Z0 : n0 ≤ h0.size) (V1 : Arv Z h0 a1 k1 .byte (4 : Int32) [(.int (110 : Int32)), (.int (111 : Int32)), (.int (110 : Int32)), (.int (101 : Int32))] (.int (0 : Int32))) (V2 : Arv Z h0 a2 k2 .byte (4 : Int32) [(.int (101 : Int32)), (.int (120 : Int32)), (.int (105 : Int32)), (.int (102 : Int32))] (.int (0 : Int32))) :
    MetFree l (⟨"java/lang/StringLatin1", "equals", "([B[B)Z"⟩ : MethodName) (head1 (Jvm.Cond.code (⟨"java/lang/StringLatin1", "equals", "([B[B)Z"⟩ : MethodName) jdk_43_method_13_code 3 (some .boolean) :: ws) ({ frames := 0, cells := 0, slots := 0, locals := 0 } : Room)) (fun a U => a = #[(.ref a1), (.ref a2)] ∧ Z.Warmed39 U.vm ∧ U.heap = h0) (fun _ _ _ _ _ => True) (fun _ U o U' => ∃ v L, o = .returned v ∧ Qrmle7 Z a1 a2 k1 k2 h0 n0 v U'.heap L ∧ FrameEnd U o U' L ({ frames := 0, cells := 0, slots := 0, locals := 0 } : Room).cells ({ frames := 0, cells := 0, slots := 0, locals := 0 } : Room).slots) := by
  refine MetFree.of_bodySF (plainFor_of_name pn_3) hisR ?_
  intro p e s m args below meth c s₁ Bd hml0 hP hK
  obtain ⟨rfl, hZ, hh⟩ := hP
  have hx := Bd.exec
  have hby := Bd.bytes
  have hml : c.maxLocals = 3 := hml0
  have hown : s.vm.findClass "java/lang/StringLatin1" = some m.cls := findClass_of_methodNamed Bd.named
  have hnm := (name_of_methodNamed Bd.named Bd.method).1
  have X0 : Stand p l e ({ frames := 0, cells := 0, slots := 0, locals := 0 } : Room) s m #[(.ref a1), (.ref a2)] below meth c s₁ [] 0 0 := Stand.of_body Bd
  have e0 : s₁.heap = h0 := by rw [← hh, Bd.state]; rfl
  have N0 := Fr.nil n0
  show Go p.tables e below (fun o U' => ∃ v L, o = .returned v ∧ Qrmle7 Z a1 a2 k1 k2 h0 n0 v U'.heap L ∧ FrameEnd s o U' L ({ frames := 0, cells := 0, slots := 0, locals := 0 } : Room).cells ({ frames := 0, cells := 0, slots := 0, locals := 0 } : Room).slots) _
  refine Go.step (fun t kt => castTop (ef_rmle7 m a1 a2 k1 k2) kt) ?_
  show Go p.tables e below _ (s₁.setTop (mkF m 0 #[.val (.ref a1), .val (.ref a2), .unset] []))
  refine Go.step (fun _ kt => XS.aloadN X0.here hx rfl (hb hby d4_0) rfl rfl kt) ?_
  show Go p.tables e below _ (s₁.setTop (mkF m 1 #[.val (.ref a1), .val (.ref a2), .unset] [(.ref a1)]))
  obtain ⟨cl101, Ar101, qa101, Sa101, Na101, Ha101, Ga101⟩ := (id V1)
  refine Go.step (X0.arraylength hx (by rw [e0]; exact Ar101.1) (State.isArrayOf_alike hZ.alike Ar101.2.1) (g := (mkF m 1 #[.val (.ref a1), .val (.ref a2), .unset] [(.ref a1)])) rfl rfl (hb hby d4_1)) ?_
  rw [len_of Sa101 Na101]
  show Go p.tables e below _ (s₁.setTop (mkF m 2 #[.val (.ref a1), .val (.ref a2), .unset] [(.int (4 : Int32))]))
  refine Go.step (fun _ kt => XS.aloadN X0.here hx rfl (hb hby d4_2) rfl rfl kt) ?_
  show Go p.tables e below _ (s₁.setTop (mkF m 3 #[.val (.ref a1), .val (.ref a2), .unset] [(.ref a2), (.int (4 : Int32))]))
  obtain ⟨cl102, Ar102, qa102, Sa102, Na102, Ha102, Ga102⟩ := (id V2)
  refine Go.step (X0.arraylength hx (by rw [e0]; exact Ar102.1) (State.isArrayOf_alike hZ.alike Ar102.2.1) (g := (mkF m 3 #[.val (.ref a1), .val (.ref a2), .unset] [(.ref a2), (.int (4 : Int32))])) rfl rfl (hb hby d4_3)) ?_
  rw [len_of Sa102 Na102]
  show Go p.tables e below _ (s₁.setTop (mkF m 4 #[.val (.ref a1), .val (.ref a2), .unset] [(.int (4 : Int32)), (.int (4 : Int32))]))
  refine Go.step (fun _ kt => XS.icmpNo X0.here hx rfl (hb hby d4_4) rfl (teq (by decide : (4 : Int32) = (4 : Int32))).2 kt) ?_
  show Go p.tables e below _ (s₁.setTop (mkF m 7 #[.val (.ref a1), .val (.ref a2), .unset] []))
  refine Go.step (fun _ kt => XS.iconst X0.here hx rfl (hb hby d4_7) kt) ?_
  show Go p.tables e below _ (s₁.setTop (mkF m 8 #[.val (.ref a1), .val (.ref a2), .unset] [(.int (0 : Int32))]))
  refine Go.step (fun _ kt => XS.istoreN X0.here hx rfl (hb hby d4_8) rfl (l' := #[.val (.ref a1), .val (.ref a2), .val (.int (0 : Int32))]) rfl kt) ?_
  show Go p.tables e below _ (s₁.setTop (mkF m 9 #[.val (.ref a1), .val (.ref a2), .val (.int (0 : Int32))] []))
  refine Go.step (fun _ kt => XS.iloadN X0.here hx rfl (hb hby d4_9) rfl kt) ?_
  show Go p.tables e below _ (s₁.setTop (mkF m 10 #[.val (.ref a1), .val (.ref a2), .val (.int (0 : Int32))] [(.int (0 : Int32))]))
  refine Go.step (fun _ kt => XS.aloadN X0.here hx rfl (hb hby d4_10) rfl rfl kt) ?_
  show Go p.tables e below _ (s₁.setTop (mkF m 11 #[.val (.ref a1), .val (.ref a2), .val (.int (0 : Int32))] [(.ref a1), (.int (0 : Int32))]))
  obtain ⟨cl103, Ar103, qa103, Sa103, Na103, Ha103, Ga103⟩ := (id V1)
  refine Go.step (X0.arraylength hx (by rw [e0]; exact Ar103.1) (State.isArrayOf_alike hZ.alike Ar103.2.1) (g := (mkF m 11 #[.val (.ref a1), .val (.ref a2), .val (.int (0 : Int32))] [(.ref a1), (.int (0 : Int32))])) rfl rfl (hb hby d4_11)) ?_
  rw [len_of Sa103 Na103]
  show Go p.tables e below _ (s₁.setTop (mkF m 12 #[.val (.ref a1), .val (.ref a2), .val (.int (0 : Int32))] [(.int (4 : Int32)), (.int (0 : Int32))]))
  refine Go.step (fun _ kt => XS.icmpNo X0.here hx rfl (hb hby d4_12) rfl (tlt (by decide : (0 : Int32) < (4 : Int32))).2.1 kt) ?_
  show Go p.tables e below _ (s₁.setTop (mkF m 15 #[.val (.ref a1), .val (.ref a2), .val (.int (0 : Int32))] []))
  refine Go.step (fun _ kt => XS.aloadN X0.here hx rfl (hb hby d4_15) rfl rfl kt) ?_
  show Go p.tables e below _ (s₁.setTop (mkF m 16 #[.val (.ref a1), .val (.ref a2), .val (.int (0 : Int32))] [(.ref a1)]))
  refine Go.step (fun _ kt => XS.iloadN X0.here hx rfl (hb hby d4_16) rfl kt) ?_
  show Go p.tables e below _ (s₁.setTop (mkF m 17 #[.val (.ref a1), .val (.ref a2), .val (.int (0 : Int32))] [(.int (0 : Int32)), (.ref a1)]))
  obtain ⟨cl104, Ar104, qa104, Sa104, Na104, Ha104, Ga104⟩ := (id V1)
  have hin104 : ¬ ((0 : Int32) < 0 ∨ cl104.slots.size ≤ ((0 : Int32)).toNatClampNeg) := inb_of Sa104 ⟨by decide, by decide⟩
  have hat104 : cl104.slots[((0 : Int32)).toNatClampNeg]? = some (.int (110 : Int32)) := at_of Ha104 hin104 rfl
  refine Go.step (X0.baloadBytes hx (j := (0 : Int32)) (v := (.int (110 : Int32))) (by rw [e0]; exact Ar104.1) (State.isArrayOf_alike hZ.alike Ar104.2.1) Ar104.2.2 hin104 hat104 (g := (mkF m 17 #[.val (.ref a1), .val (.ref a2), .val (.int (0 : Int32))] [(.int (0 : Int32)), (.ref a1)])) rfl rfl (hb hby d4_17)) ?_
  show Go p.tables e below _ (s₁.setTop (mkF m 18 #[.val (.ref a1), .val (.ref a2), .val (.int (0 : Int32))] [(.int (110 : Int32))]))
  refine Go.step (fun _ kt => XS.aloadN X0.here hx rfl (hb hby d4_18) rfl rfl kt) ?_
  show Go p.tables e below _ (s₁.setTop (mkF m 19 #[.val (.ref a1), .val (.ref a2), .val (.int (0 : Int32))] [(.ref a2), (.int (110 : Int32))]))
  refine Go.step (fun _ kt => XS.iloadN X0.here hx rfl (hb hby d4_19) rfl kt) ?_
  show Go p.tables e below _ (s₁.setTop (mkF m 20 #[.val (.ref a1), .val (.ref a2), .val (.int (0 : Int32))] [(.int (0 : Int32)), (.ref a2), (.int (110 : Int32))]))
  obtain ⟨cl105, Ar105, qa105, Sa105, Na105, Ha105, Ga105⟩ := (id V2)
  have hin105 : ¬ ((0 : Int32) < 0 ∨ cl105.slots.size ≤ ((0 : Int32)).toNatClampNeg) := inb_of Sa105 ⟨by decide, by decide⟩
  have hat105 : cl105.slots[((0 : Int32)).toNatClampNeg]? = some (.int (101 : Int32)) := at_of Ha105 hin105 rfl
  refine Go.step (X0.baloadBytes hx (j := (0 : Int32)) (v := (.int (101 : Int32))) (by rw [e0]; exact Ar105.1) (State.isArrayOf_alike hZ.alike Ar105.2.1) Ar105.2.2 hin105 hat105 (g := (mkF m 20 #[.val (.ref a1), .val (.ref a2), .val (.int (0 : Int32))] [(.int (0 : Int32)), (.ref a2), (.int (110 : Int32))])) rfl rfl (hb hby d4_20)) ?_
  show Go p.tables e below _ (s₁.setTop (mkF m 21 #[.val (.ref a1), .val (.ref a2), .val (.int (0 : Int32))] [(.int (101 : Int32)), (.int (110 : Int32))]))
  refine Go.step (fun _ kt => XS.icmpNo X0.here hx rfl (hb hby d4_21) rfl (feq (by decide : ¬ ((110 : Int32) = (101 : Int32)))).1 kt) ?_
  show Go p.tables e below _ (s₁.setTop (mkF m 24 #[.val (.ref a1), .val (.ref a2), .val (.int (0 : Int32))] []))
  refine Go.step (fun _ kt => XS.iconst X0.here hx rfl (hb hby d4_24) kt) ?_
  show Go p.tables e below _ (s₁.setTop (mkF m 25 #[.val (.ref a1), .val (.ref a2), .val (.int (0 : Int32))] [(.int (0 : Int32))]))
  obtain ⟨fs, hr, hrun, hended, hW, hsame⟩ := X0.leave (v := some (.int (0 : Int32))) (fun h => by rw [Bd.returns] at h; cases h)
  refine ⟨_, _, retN X0 hx (t := .boolean) Bd.returns (by simp) (hb hby d4_25) hr, hrun, hended, _, _, rfl, ?_, ⟨_, rfl⟩, hW, hsame.mono (by decide) (by decide)⟩
  show Qrmle7 Z a1 a2 k1 k2 h0 n0 _ s₁.heap _
  rw [e0]
  refine ⟨?_, N0, rfl⟩
  rfl
theorem ef_rmeq6 (m : MethodId) (a1 : Addr) (a2 : Addr) (b1 : Addr) (k1 : ClassId) (b2 : Addr) (k2 : ClassId) (cs : Int32) : entryFrame m #[(.ref a1), (.ref a2)] 3 = mkF m 0 #[.val (.ref a1), .val (.ref a2), .unset] [] := by first | (simp [entryFrame, mkF, argsToLocals, Value.category]; done) | rfl
def Qrmeq6 (Z : State) (a1 : Addr) (a2 : Addr) (b1 : Addr) (k1 : ClassId) (b2 : Addr) (k2 : ClassId) (cs : Int32) (h0 : Heap) (n0 : Nat) (v : Option Value) (h : Heap) (L : List Loc) : Prop := v = some (.int (0 : Int32)) ∧ Fr n0 L ∧ h = h0
set_option maxRecDepth 65536 in
set_option maxHeartbeats 40000000 in
theorem rmeq6 (l : Launch) (Z : State) (a0 : Array Value) (hw : ∀ d ∈ tables_1, d.before a0 Z = true) (ws : List Jvm.Cond) (a1 : Addr) (a2 : Addr) (b1 : Addr) (k1 : ClassId) (b2 : Addr) (k2 : ClassId) (cs : Int32) (h0 : Heap) (n0 : Nat) (Z0 : n0 ≤ h0.size) (E1 : Exa Z h0 a1 "java/lang/String") (Fc1 : Fld Z h0 a1 "java/lang/String" "coder" "B" (.int (0 : Int32))) (Fv1 : Fld Z h0 a1 "java/lang/String" "value" "[B" (.ref b1)) (V1 : Arv Z h0 b1 k1 .byte (4 : Int32) [(.int (110 : Int32)), (.int (111 : Int32)), (.int (110 : Int32)), (.int (101 : Int32))] (.int (0 : Int32))) (E2 : Exa Z h0 a2 "java/lang/String") (Fc2 : Fld Z h0 a2 "java/lang/String" "coder" "B" (.int (0 : Int32))) (Fv2 : Fld Z h0 a2 "java/lang/String" "value" "[B" (.ref b2)) (V2 : Arv Z h0 b2 k2 .byte (4 : Int32) [(.int (101 : Int32)), (.int (120 : Int32)), (.int (105 : Int32)), (.int (102 : Int32))] (.int (0 : Int32))) (S_cs : Sta Z h0 "java/lang/String" "COMPACT_STRINGS" "Z" (.int cs)) (hcs : ¬ cs = 0) :
    MetFree l (⟨"java/lang/String", "equals", "(Ljava/lang/Object;)Z"⟩ : MethodName) (head1 (Jvm.Cond.code (⟨"java/lang/String", "equals", "(Ljava/lang/Object;)Z"⟩ : MethodName) jdk_42_method_66_code 3 (some .boolean) :: ws) ({ frames := 1, cells := 0, slots := 0, locals := 14 } : Room)) (fun a U => a = #[(.ref a1), (.ref a2)] ∧ Z.Warmed39 U.vm ∧ U.heap = h0) (fun _ _ _ _ _ => True) (fun _ U o U' => ∃ v L, o = .returned v ∧ Qrmeq6 Z a1 a2 b1 k1 b2 k2 cs h0 n0 v U'.heap L ∧ FrameEnd U o U' L ({ frames := 1, cells := 0, slots := 0, locals := 14 } : Room).cells ({ frames := 1, cells := 0, slots := 0, locals := 14 } : Room).slots) := by
  refine MetFree.of_bodySF (plainFor_of_name pn_4) hisR ?_
  intro p e s m args below meth c s₁ Bd hml0 hP hK
  obtain ⟨rfl, hZ, hh⟩ := hP
  have hx := Bd.exec
  have hby := Bd.bytes
  have hml : c.maxLocals = 3 := hml0
  have hown : s.vm.findClass "java/lang/String" = some m.cls := findClass_of_methodNamed Bd.named
  have hnm := (name_of_methodNamed Bd.named Bd.method).1
  have X0 : Stand p l e ({ frames := 1, cells := 0, slots := 0, locals := 14 } : Room) s m #[(.ref a1), (.ref a2)] below meth c s₁ [] 0 0 := Stand.of_body Bd
  have e0 : s₁.heap = h0 := by rw [← hh, Bd.state]; rfl
  have N0 := Fr.nil n0
  show Go p.tables e below (fun o U' => ∃ v L, o = .returned v ∧ Qrmeq6 Z a1 a2 b1 k1 b2 k2 cs h0 n0 v U'.heap L ∧ FrameEnd s o U' L ({ frames := 1, cells := 0, slots := 0, locals := 14 } : Room).cells ({ frames := 1, cells := 0, slots := 0, locals := 14 } : Room).slots) _
  refine Go.step (fun t kt => castTop (ef_rmeq6 m a1 a2 b1 k1 b2 k2 cs) kt) ?_
  show Go p.tables e below _ (s₁.setTop (mkF m 0 #[.val (.ref a1), .val (.ref a2), .unset] []))
  have ne12 : a1 ≠ a2 := Fld.ne Fv1 Fv2 (fun q => own_arv_ne V1 V2 (Or.inr ⟨0, by decide, by intro q0; cases q0⟩) (Value.ref.inj q))
  refine Go.step (fun _ kt => XS.aloadN X0.here hx rfl (hb hby d3_0) rfl rfl kt) ?_
  show Go p.tables e below _ (s₁.setTop (mkF m 1 #[.val (.ref a1), .val (.ref a2), .unset] [(.ref a1)]))
  refine Go.step (fun _ kt => XS.aloadN X0.here hx rfl (hb hby d3_1) rfl rfl kt) ?_
  show Go p.tables e below _ (s₁.setTop (mkF m 2 #[.val (.ref a1), .val (.ref a2), .unset] [(.ref a2), (.ref a1)]))
  refine Go.step (fun _ kt => Jvm.RoadKit.acmp (g := (mkF m 2 #[.val (.ref a1), .val (.ref a2), .unset] [(.ref a2), (.ref a1)])) X0 hx rfl rfl rfl (pc0 := 2) (pc' := 7) (same := false) rfl (hb hby d3_2) rfl (decide_eq_false fun q => ne12 (Value.ref.inj q)) (by decide) (by decide) kt) ?_
  show Go p.tables e below _ (s₁.setTop (mkF m 7 #[.val (.ref a1), .val (.ref a2), .unset] []))
  refine Go.step (fun _ kt => XS.aloadN X0.here hx rfl (hb hby d3_7) rfl rfl kt) ?_
  show Go p.tables e below _ (s₁.setTop (mkF m 8 #[.val (.ref a1), .val (.ref a2), .unset] [(.ref a2)]))
  obtain ⟨T101, X101, e101, st101⟩ := instY X0 hx hZ hown (hw _ (List.mem_of_getElem? (i := 27) rfl)) e0 (Ins.self E2) (g := (mkF m 8 #[.val (.ref a1), .val (.ref a2), .unset] [(.ref a2)])) rfl rfl (hb hby d3_8)
  refine Go.step st101 ?_
  show Go p.tables e below _ (T101.setTop (mkF m 11 #[.val (.ref a1), .val (.ref a2), .unset] [(.int (1 : Int32))]))
  refine Go.step (fun _ kt => XS.ifNo X101.here hx rfl (hb hby d3_11) rfl ((if0 _ _).trans (feq (by decide : ¬ ((1 : Int32) = (0 : Int32)))).1) kt) ?_
  show Go p.tables e below _ (T101.setTop (mkF m 14 #[.val (.ref a1), .val (.ref a2), .unset] []))
  refine Go.step (fun _ kt => XS.aloadN X101.here hx rfl (hb hby d3_14) rfl rfl kt) ?_
  show Go p.tables e below _ (T101.setTop (mkF m 15 #[.val (.ref a1), .val (.ref a2), .unset] [(.ref a2)]))
  obtain ⟨T102, X102, e102, st102⟩ := castY X101 hx hZ hown (hw _ (List.mem_of_getElem? (i := 27) rfl)) e101 (Ins.self E2) (g := (mkF m 15 #[.val (.ref a1), .val (.ref a2), .unset] [(.ref a2)])) rfl rfl (hb hby d3_15)
  refine Go.step st102 ?_
  show Go p.tables e below _ (T102.setTop (mkF m 18 #[.val (.ref a1), .val (.ref a2), .unset] [(.ref a2)]))
  refine Go.step (fun _ kt => XS.astoreN X102.here hx rfl (hb hby d3_18) rfl rfl (l' := #[.val (.ref a1), .val (.ref a2), .val (.ref a2)]) rfl kt) ?_
  show Go p.tables e below _ (T102.setTop (mkF m 19 #[.val (.ref a1), .val (.ref a2), .val (.ref a2)] []))
  obtain ⟨T103, X103, e103, st103⟩ := getS2 X102 hx hZ hown (host := "") (Or.inl (hw _ (List.mem_of_getElem? (i := 29) rfl))) Via.refl e102 S_cs (g := (mkF m 19 #[.val (.ref a1), .val (.ref a2), .val (.ref a2)] [])) rfl (hb hby d3_19)
  refine Go.step st103 ?_
  show Go p.tables e below _ (T103.setTop (mkF m 22 #[.val (.ref a1), .val (.ref a2), .val (.ref a2)] [(.int cs)]))
  refine Go.step (fun _ kt => XS.ifNo X103.here hx rfl (hb hby d3_22) rfl ((if0 _ _).trans (feq hcs).1) kt) ?_
  show Go p.tables e below _ (T103.setTop (mkF m 25 #[.val (.ref a1), .val (.ref a2), .val (.ref a2)] []))
  refine Go.step (fun _ kt => XS.aloadN X103.here hx rfl (hb hby d3_25) rfl rfl kt) ?_
  show Go p.tables e below _ (T103.setTop (mkF m 26 #[.val (.ref a1), .val (.ref a2), .val (.ref a2)] [(.ref a1)]))
  obtain ⟨T104, X104, e104, st104⟩ := getF X103 hx hZ hown (host := "") (Or.inl (hw _ (List.mem_of_getElem? (i := 30) rfl))) Via.refl e103 Fc1 (g := (mkF m 26 #[.val (.ref a1), .val (.ref a2), .val (.ref a2)] [(.ref a1)])) rfl rfl (hb hby d3_26)
  refine Go.step st104 ?_
  show Go p.tables e below _ (T104.setTop (mkF m 29 #[.val (.ref a1), .val (.ref a2), .val (.ref a2)] [(.int (0 : Int32))]))
  refine Go.step (fun _ kt => XS.aloadN X104.here hx rfl (hb hby d3_29) rfl rfl kt) ?_
  show Go p.tables e below _ (T104.setTop (mkF m 30 #[.val (.ref a1), .val (.ref a2), .val (.ref a2)] [(.ref a2), (.int (0 : Int32))]))
  obtain ⟨T105, X105, e105, st105⟩ := getF X104 hx hZ hown (host := "") (Or.inl (hw _ (List.mem_of_getElem? (i := 30) rfl))) Via.refl e104 Fc2 (g := (mkF m 30 #[.val (.ref a1), .val (.ref a2), .val (.ref a2)] [(.ref a2), (.int (0 : Int32))])) rfl rfl (hb hby d3_30)
  refine Go.step st105 ?_
  show Go p.tables e below _ (T105.setTop (mkF m 33 #[.val (.ref a1), .val (.ref a2), .val (.ref a2)] [(.int (0 : Int32)), (.int (0 : Int32))]))
  refine Go.step (fun _ kt => XS.icmpNo X105.here hx rfl (hb hby d3_33) rfl (teq (by decide : (0 : Int32) = (0 : Int32))).2 kt) ?_
  show Go p.tables e below _ (T105.setTop (mkF m 36 #[.val (.ref a1), .val (.ref a2), .val (.ref a2)] []))
  refine Go.step (fun _ kt => XS.aloadN X105.here hx rfl (hb hby d3_36) rfl rfl kt) ?_
  show Go p.tables e below _ (T105.setTop (mkF m 37 #[.val (.ref a1), .val (.ref a2), .val (.ref a2)] [(.ref a1)]))
  obtain ⟨T106, X106, e106, st106⟩ := getF X105 hx hZ hown (host := "") (Or.inl (hw _ (List.mem_of_getElem? (i := 31) rfl))) Via.refl e105 Fv1 (g := (mkF m 37 #[.val (.ref a1), .val (.ref a2), .val (.ref a2)] [(.ref a1)])) rfl rfl (hb hby d3_37)
  refine Go.step st106 ?_
  show Go p.tables e below _ (T106.setTop (mkF m 40 #[.val (.ref a1), .val (.ref a2), .val (.ref a2)] [(.ref b1)]))
  refine Go.step (fun _ kt => XS.aloadN X106.here hx rfl (hb hby d3_40) rfl rfl kt) ?_
  show Go p.tables e below _ (T106.setTop (mkF m 41 #[.val (.ref a1), .val (.ref a2), .val (.ref a2)] [(.ref a2), (.ref b1)]))
  obtain ⟨T107, X107, e107, st107⟩ := getF X106 hx hZ hown (host := "") (Or.inl (hw _ (List.mem_of_getElem? (i := 31) rfl))) Via.refl e106 Fv2 (g := (mkF m 41 #[.val (.ref a1), .val (.ref a2), .val (.ref a2)] [(.ref a2), (.ref b1)])) rfl rfl (hb hby d3_41)
  refine Go.step st107 ?_
  show Go p.tables e below _ (T107.setTop (mkF m 44 #[.val (.ref a1), .val (.ref a2), .val (.ref a2)] [(.ref b2), (.ref b1)]))
  obtain ⟨_, _, ⟨T108, L108, k108, n108⟩, -, X108, ⟨Lc108, hQ108, l108, y108, z108⟩, st108⟩ := Jvm.LawKit.callS X107 hx (y := (⟨"java/lang/StringLatin1", "equals", "([B[B)Z"⟩ : MethodName)) hown (mvT hZ (hw _ (List.mem_of_getElem? (i := 32) rfl))) (mvT hZ (hw _ (List.mem_of_getElem? (i := 33) rfl))) (mvT hZ (hw _ (List.mem_of_getElem? (i := 34) rfl))) (mvT hZ (hw _ (List.mem_of_getElem? (i := 35) rfl))) (by decide) (backOf (W := 0) (rmle7 l Z a0 hw [] b1 b2 k1 k2 h0 n0 Z0 V1 V2 ) hZ (hw _ (List.mem_of_getElem? (i := 35) rfl)) (hw _ (List.mem_of_getElem? (i := 34) rfl)) (by decide) (by decide)) (g := (mkF m 44 #[.val (.ref a1), .val (.ref a2), .val (.ref a2)] [(.ref b2), (.ref b1)])) rfl (by rw [hml]; rfl) (argsL := [(.ref b1), (.ref b2)]) (rest := []) (lenOf pd_3 rfl) rfl (by show 2 * 0 + _ ≤ _; exact Nat.le_of_eq rfl) (hb hby d3_44) (fun _ _ => ⟨rfl, e107, (by decide : 0 + 0 ≤ _), (by decide : 0 + 0 ≤ _)⟩)
  dsimp only [Pt.U, Pt.locs, Pt.cells, Pt.slots] at X108 l108 y108 z108 st108 hQ108
  subst l108 y108 z108
  obtain ⟨rfl, N108q, eh108⟩ := hQ108
  have N108 := Fr.app N0 N108q
  refine Go.step st108 ?_
  show Go p.tables e below _ (T108.setTop (mkF m 47 #[.val (.ref a1), .val (.ref a2), .val (.ref a2)] [(.int (0 : Int32))]))
  refine Go.step (fun _ kt => XS.ifYes X108.here hx rfl (pc0 := 47) (pc' := 54) rfl (hb hby d3_47) rfl ((if0 _ _).trans (teq (by decide : (0 : Int32) = (0 : Int32))).1) (by decide) (by decide) kt) ?_
  show Go p.tables e below _ (T108.setTop (mkF m 54 #[.val (.ref a1), .val (.ref a2), .val (.ref a2)] []))
  refine Go.step (fun _ kt => XS.iconst X108.here hx rfl (hb hby d3_54) kt) ?_
  show Go p.tables e below _ (T108.setTop (mkF m 55 #[.val (.ref a1), .val (.ref a2), .val (.ref a2)] [(.int (0 : Int32))]))
  obtain ⟨fs, hr, hrun, hended, hW, hsame⟩ := X108.leave (v := some (.int (0 : Int32))) (fun h => by rw [Bd.returns] at h; cases h)
  refine ⟨_, _, retN X108 hx (t := .boolean) Bd.returns (by simp) (hb hby d3_55) hr, hrun, hended, _, _, rfl, ?_, ⟨_, rfl⟩, hW, hsame.mono (by decide) (by decide)⟩
  show Qrmeq6 Z a1 a2 b1 k1 b2 k2 cs h0 n0 _ T108.heap _
  rw [eh108]
  refine ⟨?_, N108, rfl⟩
  rfl
theorem ef_rm0 (m : MethodId) (p1 : Int32) (s_EXIF : Addr) (s_ZERO : Addr) (s_INVALID : Addr) (s_NONE : Addr) (cs : Int32) (l_EXIF : Addr) (v_EXIF : Addr) (k_EXIF : ClassId) (l_ZERO : Addr) (v_ZERO : Addr) (k_ZERO : ClassId) (l_INVALID : Addr) (v_INVALID : Addr) (k_INVALID : ClassId) (l_NONE : Addr) (v_NONE : Addr) (k_NONE : ClassId) : entryFrame m #[(.int p1)] maxLocals = mkF m 0 #[.val (.int p1), .unset, .unset, .unset, .unset, .unset] [] := by first | (simp [entryFrame, mkF, argsToLocals, Value.category, maxLocals]; done) | rfl
def Qrm0 (Z : State) (p1 : Int32) (s_EXIF : Addr) (s_ZERO : Addr) (s_INVALID : Addr) (s_NONE : Addr) (cs : Int32) (l_EXIF : Addr) (v_EXIF : Addr) (k_EXIF : ClassId) (l_ZERO : Addr) (v_ZERO : Addr) (k_ZERO : ClassId) (l_INVALID : Addr) (v_INVALID : Addr) (k_INVALID : ClassId) (l_NONE : Addr) (v_NONE : Addr) (k_NONE : ClassId) (h0 : Heap) (n0 : Nat) (v : Option Value) (h : Heap) (L : List Loc) : Prop := v = some (.int 1) ∧ Fr n0 L
set_option maxRecDepth 65536 in
set_option maxHeartbeats 40000000 in
theorem rm0 (l : Launch) (Z : State) (a0 : Array Value) (hw : ∀ d ∈ tables_1, d.before a0 Z = true) (ws : List Jvm.Cond) (p1 : Int32) (s_EXIF : Addr) (s_ZERO : Addr) (s_INVALID : Addr) (s_NONE : Addr) (cs : Int32) (l_EXIF : Addr) (v_EXIF : Addr) (k_EXIF : ClassId) (l_ZERO : Addr) (v_ZERO : Addr) (k_ZERO : ClassId) (l_INVALID : Addr) (v_INVALID : Addr) (k_INVALID : ClassId) (l_NONE : Addr) (v_NONE : Addr) (k_NONE : ClassId) (h0 : Heap) (n0 : Nat) (Z0 : n0 ≤ h0.size) (S_EXIF : Sta Z h0 "com/example/inchworm/inchworm/photos/PositionKind" "EXIF" "Lcom/example/inchworm/inchworm/photos/PositionKind;" (.ref s_EXIF)) (S_ZERO : Sta Z h0 "com/example/inchworm/inchworm/photos/PositionKind" "ZERO" "Lcom/example/inchworm/inchworm/photos/PositionKind;" (.ref s_ZERO)) (S_INVALID : Sta Z h0 "com/example/inchworm/inchworm/photos/PositionKind" "INVALID" "Lcom/example/inchworm/inchworm/photos/PositionKind;" (.ref s_INVALID)) (S_NONE : Sta Z h0 "com/example/inchworm/inchworm/photos/PositionKind" "NONE" "Lcom/example/inchworm/inchworm/photos/PositionKind;" (.ref s_NONE)) (S_cs : Sta Z h0 "java/lang/String" "COMPACT_STRINGS" "Z" (.int cs)) (E_EXIF : Exa Z h0 s_EXIF "com/example/inchworm/inchworm/photos/PositionKind") (Fl_EXIF : Fld Z h0 s_EXIF "com/example/inchworm/inchworm/photos/PositionKind" "label" "Ljava/lang/String;" (.ref l_EXIF)) (Fo_EXIF : Fld Z h0 s_EXIF "java/lang/Enum" "ordinal" "I" (.int (0 : Int32))) (E_lEXIF : Exa Z h0 l_EXIF "java/lang/String") (Fc_lEXIF : Fld Z h0 l_EXIF "java/lang/String" "coder" "B" (.int (0 : Int32))) (Fv_lEXIF : Fld Z h0 l_EXIF "java/lang/String" "value" "[B" (.ref v_EXIF)) (V_lEXIF : Arv Z h0 v_EXIF k_EXIF .byte (4 : Int32) [(.int (101 : Int32)), (.int (120 : Int32)), (.int (105 : Int32)), (.int (102 : Int32))] (.int (0 : Int32))) (E_ZERO : Exa Z h0 s_ZERO "com/example/inchworm/inchworm/photos/PositionKind") (Fl_ZERO : Fld Z h0 s_ZERO "com/example/inchworm/inchworm/photos/PositionKind" "label" "Ljava/lang/String;" (.ref l_ZERO)) (Fo_ZERO : Fld Z h0 s_ZERO "java/lang/Enum" "ordinal" "I" (.int (1 : Int32))) (E_lZERO : Exa Z h0 l_ZERO "java/lang/String") (Fc_lZERO : Fld Z h0 l_ZERO "java/lang/String" "coder" "B" (.int (0 : Int32))) (Fv_lZERO : Fld Z h0 l_ZERO "java/lang/String" "value" "[B" (.ref v_ZERO)) (V_lZERO : Arv Z h0 v_ZERO k_ZERO .byte (4 : Int32) [(.int (122 : Int32)), (.int (101 : Int32)), (.int (114 : Int32)), (.int (111 : Int32))] (.int (0 : Int32))) (E_INVALID : Exa Z h0 s_INVALID "com/example/inchworm/inchworm/photos/PositionKind") (Fl_INVALID : Fld Z h0 s_INVALID "com/example/inchworm/inchworm/photos/PositionKind" "label" "Ljava/lang/String;" (.ref l_INVALID)) (Fo_INVALID : Fld Z h0 s_INVALID "java/lang/Enum" "ordinal" "I" (.int (2 : Int32))) (E_lINVALID : Exa Z h0 l_INVALID "java/lang/String") (Fc_lINVALID : Fld Z h0 l_INVALID "java/lang/String" "coder" "B" (.int (0 : Int32))) (Fv_lINVALID : Fld Z h0 l_INVALID "java/lang/String" "value" "[B" (.ref v_INVALID)) (V_lINVALID : Arv Z h0 v_INVALID k_INVALID .byte (7 : Int32) [(.int (105 : Int32)), (.int (110 : Int32)), (.int (118 : Int32)), (.int (97 : Int32)), (.int (108 : Int32)), (.int (105 : Int32)), (.int (100 : Int32))] (.int (0 : Int32))) (E_NONE : Exa Z h0 s_NONE "com/example/inchworm/inchworm/photos/PositionKind") (Fl_NONE : Fld Z h0 s_NONE "com/example/inchworm/inchworm/photos/PositionKind" "label" "Ljava/lang/String;" (.ref l_NONE)) (Fo_NONE : Fld Z h0 s_NONE "java/lang/Enum" "ordinal" "I" (.int (3 : Int32))) (E_lNONE : Exa Z h0 l_NONE "java/lang/String") (Fc_lNONE : Fld Z h0 l_NONE "java/lang/String" "coder" "B" (.int (0 : Int32))) (Fv_lNONE : Fld Z h0 l_NONE "java/lang/String" "value" "[B" (.ref v_NONE)) (V_lNONE : Arv Z h0 v_NONE k_NONE .byte (4 : Int32) [(.int (110 : Int32)), (.int (111 : Int32)), (.int (110 : Int32)), (.int (101 : Int32))] (.int (0 : Int32))) (hcs : ¬ cs = 0) :
    MetFree l x (head1 (Jvm.Cond.code x code maxLocals ret :: ws) room_1) (fun a U => a = #[(.int p1)] ∧ Z.Warmed39 U.vm ∧ U.heap = h0 ∧ CHv Z own_EL U.vm h0) (fun _ _ _ _ _ => True) (fun _ U o U' => ∃ v L, o = .returned v ∧ Qrm0 Z p1 s_EXIF s_ZERO s_INVALID s_NONE cs l_EXIF v_EXIF k_EXIF l_ZERO v_ZERO k_ZERO l_INVALID v_INVALID k_INVALID l_NONE v_NONE k_NONE h0 n0 v U'.heap L ∧ CHr Z own_EL U.vm U.heap U'.vm U'.heap ∧ ReturnedEndW U o U' L room_1.cells room_1.slots) := by
  refine MetFree.of_bodySF (plainFor_of_name pn_0) hisR ?_
  intro p e s m args below meth c s₁ Bd hml0 hP hK
  obtain ⟨rfl, hZ, hh, hCH⟩ := hP
  have hx := Bd.exec
  have hby := Bd.bytes
  have hml : c.maxLocals = 6 := hml0
  have hown : s.vm.findClass "com/example/inchworm/inchworm/photos/PositionKindLocatedPinLaw" = some m.cls := findClass_of_methodNamed Bd.named
  have hnm := (name_of_methodNamed Bd.named Bd.method).1
  have X0 : Stand p l e room_1 (s.setVm s.vm) m #[(.int p1)] below meth c s₁ [] 0 0 := Stand.of_body Bd
  have e0 : s₁.heap = h0 := by rw [← hh, Bd.state]; rfl
  have N0 := Fr.nil n0
  have hS0 : s.Since s.vm s.heap.size := (State.WarmedH.refl s).since _
  have hk0 : s.heap.size ≤ h0.size := Nat.le_of_eq (congrArg Array.size hh)
  have C0 := CHr.refl hCH
  show Go p.tables e below (fun o U' => ∃ v L, o = .returned v ∧ Qrm0 Z p1 s_EXIF s_ZERO s_INVALID s_NONE cs l_EXIF v_EXIF k_EXIF l_ZERO v_ZERO k_ZERO l_INVALID v_INVALID k_INVALID l_NONE v_NONE k_NONE h0 n0 v U'.heap L ∧ CHr Z own_EL s.vm s.heap U'.vm U'.heap ∧ ReturnedEndW s o U' L room_1.cells room_1.slots) _
  refine Go.step (fun t kt => castTop (ef_rm0 m p1 s_EXIF s_ZERO s_INVALID s_NONE cs l_EXIF v_EXIF k_EXIF l_ZERO v_ZERO k_ZERO l_INVALID v_INVALID k_INVALID l_NONE v_NONE k_NONE) kt) ?_
  show Go p.tables e below _ (s₁.setTop (mkF m 0 #[.val (.int p1), .unset, .unset, .unset, .unset, .unset] []))
  refine Go.step (fun _ kt => XS.iloadN X0.here hx rfl (hb hby at_0) rfl kt) ?_
  show Go p.tables e below _ (s₁.setTop (mkF m 1 #[.val (.int p1), .unset, .unset, .unset, .unset, .unset] [(.int p1)]))
  refine Go.step (fun _ kt => XS.iconst X0.here hx rfl (hb hby at_1) kt) ?_
  show Go p.tables e below _ (s₁.setTop (mkF m 2 #[.val (.int p1), .unset, .unset, .unset, .unset, .unset] [(.int (3 : Int32)), (.int p1)]))
  refine Go.step (fun _ kt => XS.iand X0.here hx rfl (hb hby at_2) rfl kt) ?_
  show Go p.tables e below _ (s₁.setTop (mkF m 3 #[.val (.int p1), .unset, .unset, .unset, .unset, .unset] [(.int (p1 &&& (3 : Int32)))]))
  refine Go.step (fun _ kt => XS.istoreN X0.here hx rfl (hb hby at_3) rfl (l' := #[.val (.int p1), .val (.int (p1 &&& (3 : Int32))), .unset, .unset, .unset, .unset]) rfl kt) ?_
  show Go p.tables e below _ (s₁.setTop (mkF m 4 #[.val (.int p1), .val (.int (p1 &&& (3 : Int32))), .unset, .unset, .unset, .unset] []))
  rcases own_and3 p1 with hk | hk | hk | hk
  · rw [hk]
    show Go p.tables e below _ (s₁.setTop (mkF m 4 #[.val (.int p1), .val (.int (0 : Int32)), .unset, .unset, .unset, .unset] []))
    refine Go.step (fun _ kt => XS.iloadN X0.here hx rfl (hb hby at_4) rfl kt) ?_
    show Go p.tables e below _ (s₁.setTop (mkF m 5 #[.val (.int p1), .val (.int (0 : Int32)), .unset, .unset, .unset, .unset] [(.int (0 : Int32))]))
    obtain ⟨_, _, ⟨T101, L101, k101, n101⟩, -, X101, ⟨Lc101, hQ101, l101, y101, z101⟩, st101⟩ := Jvm.LawKit.callS X0 hx (y := (⟨"com/example/inchworm/inchworm/photos/PositionKindLocatedPinLaw", "pick", "(I)Lcom/example/inchworm/inchworm/photos/PositionKind;"⟩ : MethodName)) hown (mvT hZ (hw _ (List.mem_of_getElem? (i := 0) rfl))) (mvT hZ (hw _ (List.mem_of_getElem? (i := 1) rfl))) (mvT hZ (hw _ (List.mem_of_getElem? (i := 2) rfl))) (mvT hZ (hw _ (List.mem_of_getElem? (i := 3) rfl))) (by decide) (backOf (W := 0) (rm1 l Z a0 hw [] (0 : Int32) s_EXIF s_ZERO s_INVALID s_NONE h0 n0 Z0 S_EXIF S_ZERO S_INVALID S_NONE ) hZ (hw _ (List.mem_of_getElem? (i := 3) rfl)) (hw _ (List.mem_of_getElem? (i := 2) rfl)) (by decide) (by decide)) (g := (mkF m 5 #[.val (.int p1), .val (.int (0 : Int32)), .unset, .unset, .unset, .unset] [(.int (0 : Int32))])) rfl (by rw [hml]; rfl) (argsL := [(.int (0 : Int32))]) (rest := []) (lenOf pd_1 rfl) rfl (by show 2 * 0 + _ ≤ _; exact Nat.le_of_eq rfl) (hb hby at_5) (fun _ _ => ⟨rfl, e0, (by decide : 0 + 0 ≤ _), (by decide : 0 + 0 ≤ _)⟩)
    dsimp only [Pt.U, Pt.locs, Pt.cells, Pt.slots] at X101 l101 y101 z101 st101 hQ101
    subst l101 y101 z101
    obtain ⟨rfl, N101q, eh101⟩ := hQ101
    have N101 := Fr.app N0 N101q
    refine Go.step st101 ?_
    show Go p.tables e below _ (T101.setTop (mkF m 8 #[.val (.int p1), .val (.int (0 : Int32)), .unset, .unset, .unset, .unset] [(.ref (own_pick (0 : Int32) s_EXIF s_ZERO s_INVALID s_NONE))]))
    have q102 : (own_pick (0 : Int32) s_EXIF s_ZERO s_INVALID s_NONE) = s_EXIF := rfl
    rw [q102]
    show Go p.tables e below _ (T101.setTop (mkF m 8 #[.val (.int p1), .val (.int (0 : Int32)), .unset, .unset, .unset, .unset] [(.ref s_EXIF)]))
    refine Go.step (fun _ kt => XS.astoreN X101.here hx rfl (hb hby at_8) rfl rfl (l' := #[.val (.int p1), .val (.int (0 : Int32)), .val (.ref s_EXIF), .unset, .unset, .unset]) rfl kt) ?_
    show Go p.tables e below _ (T101.setTop (mkF m 9 #[.val (.int p1), .val (.int (0 : Int32)), .val (.ref s_EXIF), .unset, .unset, .unset] []))
    refine Go.step (fun _ kt => XS.aloadN X101.here hx rfl (hb hby at_9) rfl rfl kt) ?_
    show Go p.tables e below _ (T101.setTop (mkF m 10 #[.val (.int p1), .val (.int (0 : Int32)), .val (.ref s_EXIF), .unset, .unset, .unset] [(.ref s_EXIF)]))
    obtain ⟨cq103, kq103, q103a, q103b, q103c⟩ := isOf hZ eh101 E_EXIF
    obtain ⟨_, _, ⟨T103, L103, k103, n103⟩, -, X103, ⟨Lc103, hQ103, l103, y103, z103⟩, st103⟩ := X101.virtualBack hx (y := (⟨"com/example/inchworm/inchworm/photos/PositionKind", "label", "()Ljava/lang/String;"⟩ : MethodName)) (z := (⟨"com/example/inchworm/inchworm/photos/PositionKind", "label", "()Ljava/lang/String;"⟩ : MethodName)) hown (mvT hZ (hw _ (List.mem_of_getElem? (i := 7) rfl))) (mvT hZ (hw _ (List.mem_of_getElem? (i := 8) rfl))) (notFace_of_selects (args := #[]) (mvT hZ (hw _ (List.mem_of_getElem? (i := 10) rfl)))) (mvT hZ (hw _ (List.mem_of_getElem? (i := 10) rfl))) (mvT hZ (hw _ (List.mem_of_getElem? (i := 9) rfl))) (by decide) (backOf (W := 0) (rm2 l Z a0 hw [] s_EXIF l_EXIF h0 n0 Z0 Fl_EXIF ) hZ (hw _ (List.mem_of_getElem? (i := 11) rfl)) (hw _ (List.mem_of_getElem? (i := 5) rfl)) (by decide) (by decide)) q103a q103c (g := (mkF m 10 #[.val (.int p1), .val (.int (0 : Int32)), .val (.ref s_EXIF), .unset, .unset, .unset] [(.ref s_EXIF)])) rfl (by rw [hml]; rfl) (Steps.refl _) (argsL := []) (rest := []) (lenOf pd_2 rfl) rfl (by show 2 * 0 + _ ≤ _; exact Nat.le_of_eq rfl) (hb hby at_10) (fun _ _ => ⟨rfl, eh101, (by decide : 0 + 0 ≤ _), (by decide : 0 + 0 ≤ _)⟩)
    dsimp only [Pt.U, Pt.locs, Pt.cells, Pt.slots] at X103 l103 y103 z103 st103 hQ103
    subst l103 y103 z103
    obtain ⟨rfl, N103q, eh103⟩ := hQ103
    have N103 := Fr.app N101 N103q
    refine Go.step (fun _ kt => st103.trans kt) ?_
    show Go p.tables e below _ (T103.setTop (mkF m 13 #[.val (.int p1), .val (.int (0 : Int32)), .val (.ref s_EXIF), .unset, .unset, .unset] [(.ref l_EXIF)]))
    refine Go.step (fun _ kt => XS.astoreN X103.here hx rfl (hb hby at_13) rfl rfl (l' := #[.val (.int p1), .val (.int (0 : Int32)), .val (.ref s_EXIF), .val (.ref l_EXIF), .unset, .unset]) rfl kt) ?_
    show Go p.tables e below _ (T103.setTop (mkF m 14 #[.val (.int p1), .val (.int (0 : Int32)), .val (.ref s_EXIF), .val (.ref l_EXIF), .unset, .unset] []))
    refine Go.step (fun _ kt => XS.aloadN X103.here hx rfl (hb hby at_14) rfl rfl kt) ?_
    show Go p.tables e below _ (T103.setTop (mkF m 15 #[.val (.int p1), .val (.int (0 : Int32)), .val (.ref s_EXIF), .val (.ref l_EXIF), .unset, .unset] [(.ref l_EXIF)]))
    obtain ⟨b104, T104, h104, k104, ba104, kc104, X104, e104, E104, hS104, hk104, hZ, hown, Ex104, Fc104, Fv104, Vb104, lt104, ltb104, Cq104, Li104, Ne104, st104⟩ := ldcCH (s := s) (EL := own_EL) X103 hx hZ hown (hw _ (List.mem_of_getElem? (i := 14) rfl)) (own_wS hw) eh103 hS0 hk0 (own_EW hw) (by decide) C0.1 (vs := [(.int (101 : Int32)), (.int (120 : Int32)), (.int (105 : Int32)), (.int (102 : Int32))]) (z := (4 : Int32)) (by decide) (by decide) rfl (g := (mkF m 15 #[.val (.int p1), .val (.int (0 : Int32)), .val (.ref s_EXIF), .val (.ref l_EXIF), .unset, .unset] [(.ref l_EXIF)])) rfl (hb hby at_15) (n := 16) (by decide) (by decide) (by decide) (by decide)
    refine Go.step st104 ?_
    have F105 : Sta Z h104 "com/example/inchworm/inchworm/photos/PositionKind" "EXIF" "Lcom/example/inchworm/inchworm/photos/PositionKind;" (.ref s_EXIF) := (S_EXIF.ext E104)
    have F106 : Sta Z h104 "com/example/inchworm/inchworm/photos/PositionKind" "ZERO" "Lcom/example/inchworm/inchworm/photos/PositionKind;" (.ref s_ZERO) := (S_ZERO.ext E104)
    have F107 : Sta Z h104 "com/example/inchworm/inchworm/photos/PositionKind" "INVALID" "Lcom/example/inchworm/inchworm/photos/PositionKind;" (.ref s_INVALID) := (S_INVALID.ext E104)
    have F108 : Sta Z h104 "com/example/inchworm/inchworm/photos/PositionKind" "NONE" "Lcom/example/inchworm/inchworm/photos/PositionKind;" (.ref s_NONE) := (S_NONE.ext E104)
    have F109 : Sta Z h104 "java/lang/String" "COMPACT_STRINGS" "Z" (.int cs) := (S_cs.ext E104)
    have F110 : Exa Z h104 s_EXIF "com/example/inchworm/inchworm/photos/PositionKind" := (E_EXIF.ext E104)
    have F111 : Fld Z h104 s_EXIF "com/example/inchworm/inchworm/photos/PositionKind" "label" "Ljava/lang/String;" (.ref l_EXIF) := (Fl_EXIF.ext E104)
    have F112 : Fld Z h104 s_EXIF "java/lang/Enum" "ordinal" "I" (.int (0 : Int32)) := (Fo_EXIF.ext E104)
    have F113 : Exa Z h104 l_EXIF "java/lang/String" := (E_lEXIF.ext E104)
    have F114 : Fld Z h104 l_EXIF "java/lang/String" "coder" "B" (.int (0 : Int32)) := (Fc_lEXIF.ext E104)
    have F115 : Fld Z h104 l_EXIF "java/lang/String" "value" "[B" (.ref v_EXIF) := (Fv_lEXIF.ext E104)
    have F116 : Arv Z h104 v_EXIF k_EXIF .byte (4 : Int32) [(.int (101 : Int32)), (.int (120 : Int32)), (.int (105 : Int32)), (.int (102 : Int32))] (.int (0 : Int32)) := (V_lEXIF.ext E104)
    have F117 : Exa Z h104 s_ZERO "com/example/inchworm/inchworm/photos/PositionKind" := (E_ZERO.ext E104)
    have F118 : Fld Z h104 s_ZERO "com/example/inchworm/inchworm/photos/PositionKind" "label" "Ljava/lang/String;" (.ref l_ZERO) := (Fl_ZERO.ext E104)
    have F119 : Fld Z h104 s_ZERO "java/lang/Enum" "ordinal" "I" (.int (1 : Int32)) := (Fo_ZERO.ext E104)
    have F120 : Exa Z h104 l_ZERO "java/lang/String" := (E_lZERO.ext E104)
    have F121 : Fld Z h104 l_ZERO "java/lang/String" "coder" "B" (.int (0 : Int32)) := (Fc_lZERO.ext E104)
    have F122 : Fld Z h104 l_ZERO "java/lang/String" "value" "[B" (.ref v_ZERO) := (Fv_lZERO.ext E104)
    have F123 : Arv Z h104 v_ZERO k_ZERO .byte (4 : Int32) [(.int (122 : Int32)), (.int (101 : Int32)), (.int (114 : Int32)), (.int (111 : Int32))] (.int (0 : Int32)) := (V_lZERO.ext E104)
    have F124 : Exa Z h104 s_INVALID "com/example/inchworm/inchworm/photos/PositionKind" := (E_INVALID.ext E104)
    have F125 : Fld Z h104 s_INVALID "com/example/inchworm/inchworm/photos/PositionKind" "label" "Ljava/lang/String;" (.ref l_INVALID) := (Fl_INVALID.ext E104)
    have F126 : Fld Z h104 s_INVALID "java/lang/Enum" "ordinal" "I" (.int (2 : Int32)) := (Fo_INVALID.ext E104)
    have F127 : Exa Z h104 l_INVALID "java/lang/String" := (E_lINVALID.ext E104)
    have F128 : Fld Z h104 l_INVALID "java/lang/String" "coder" "B" (.int (0 : Int32)) := (Fc_lINVALID.ext E104)
    have F129 : Fld Z h104 l_INVALID "java/lang/String" "value" "[B" (.ref v_INVALID) := (Fv_lINVALID.ext E104)
    have F130 : Arv Z h104 v_INVALID k_INVALID .byte (7 : Int32) [(.int (105 : Int32)), (.int (110 : Int32)), (.int (118 : Int32)), (.int (97 : Int32)), (.int (108 : Int32)), (.int (105 : Int32)), (.int (100 : Int32))] (.int (0 : Int32)) := (V_lINVALID.ext E104)
    have F131 : Exa Z h104 s_NONE "com/example/inchworm/inchworm/photos/PositionKind" := (E_NONE.ext E104)
    have F132 : Fld Z h104 s_NONE "com/example/inchworm/inchworm/photos/PositionKind" "label" "Ljava/lang/String;" (.ref l_NONE) := (Fl_NONE.ext E104)
    have F133 : Fld Z h104 s_NONE "java/lang/Enum" "ordinal" "I" (.int (3 : Int32)) := (Fo_NONE.ext E104)
    have F134 : Exa Z h104 l_NONE "java/lang/String" := (E_lNONE.ext E104)
    have F135 : Fld Z h104 l_NONE "java/lang/String" "coder" "B" (.int (0 : Int32)) := (Fc_lNONE.ext E104)
    have F136 : Fld Z h104 l_NONE "java/lang/String" "value" "[B" (.ref v_NONE) := (Fv_lNONE.ext E104)
    have F137 : Arv Z h104 v_NONE k_NONE .byte (4 : Int32) [(.int (110 : Int32)), (.int (111 : Int32)), (.int (110 : Int32)), (.int (101 : Int32))] (.int (0 : Int32)) := (V_lNONE.ext E104)
    have Z138 : n0 ≤ h104.size := (Nat.le_trans Z0 E104.1)
    have C139 := (C0.trans Cq104)
    show Go p.tables e below _ (T104.setTop (mkF m 17 #[.val (.int p1), .val (.int (0 : Int32)), .val (.ref s_EXIF), .val (.ref l_EXIF), .unset, .unset] [(.ref b104), (.ref l_EXIF)]))
    obtain ⟨cq140, kq140, q140a, q140b, q140c⟩ := isOf hZ e104 F113
    obtain ⟨_, _, ⟨T140, L140, k140, n140⟩, -, X140, ⟨Lc140, hQ140, l140, y140, z140⟩, st140⟩ := X104.virtualBack hx (y := (⟨"java/lang/String", "equals", "(Ljava/lang/Object;)Z"⟩ : MethodName)) (z := (⟨"java/lang/String", "equals", "(Ljava/lang/Object;)Z"⟩ : MethodName)) hown (mvT hZ (hw _ (List.mem_of_getElem? (i := 22) rfl))) (mvT hZ (hw _ (List.mem_of_getElem? (i := 23) rfl))) (notFace_of_selects (args := #[]) (mvT hZ (hw _ (List.mem_of_getElem? (i := 25) rfl)))) (mvT hZ (hw _ (List.mem_of_getElem? (i := 25) rfl))) (mvT hZ (hw _ (List.mem_of_getElem? (i := 24) rfl))) (by decide) (backOf (W := 0) (rmeq0 l Z a0 hw [] l_EXIF b104 v_EXIF k_EXIF ba104 kc104 cs h104 n0 Z138 F113 F114 F115 F116 Ex104 Fc104 Fv104 Vb104 F109 hcs) hZ (hw _ (List.mem_of_getElem? (i := 26) rfl)) (hw _ (List.mem_of_getElem? (i := 15) rfl)) (by decide) (by decide)) q140a q140c (g := (mkF m 17 #[.val (.int p1), .val (.int (0 : Int32)), .val (.ref s_EXIF), .val (.ref l_EXIF), .unset, .unset] [(.ref b104), (.ref l_EXIF)])) rfl (by rw [hml]; rfl) (Steps.refl _) (argsL := [(.ref b104)]) (rest := []) (lenOf pd_4 rfl) rfl (by show 2 * 0 + _ ≤ _; exact Nat.le_of_eq rfl) (hb hby at_17) (fun _ _ => ⟨rfl, e104, (by decide : 2 + 0 ≤ _), (by decide : 20 + 0 ≤ _)⟩)
    dsimp only [Pt.U, Pt.locs, Pt.cells, Pt.slots] at X140 l140 y140 z140 st140 hQ140
    subst l140 y140 z140
    obtain ⟨rfl, N140q, eh140⟩ := hQ140
    have N140 := Fr.app N103 N140q
    refine Go.step (fun _ kt => st140.trans kt) ?_
    show Go p.tables e below _ (T140.setTop (mkF m 20 #[.val (.int p1), .val (.int (0 : Int32)), .val (.ref s_EXIF), .val (.ref l_EXIF), .unset, .unset] [(.int (1 : Int32))]))
    refine Go.step (fun _ kt => XS.istore X140.here hx rfl (hb hby at_20) rfl (l' := #[.val (.int p1), .val (.int (0 : Int32)), .val (.ref s_EXIF), .val (.ref l_EXIF), .val (.int (1 : Int32)), .unset]) rfl kt) ?_
    show Go p.tables e below _ (T140.setTop (mkF m 22 #[.val (.int p1), .val (.int (0 : Int32)), .val (.ref s_EXIF), .val (.ref l_EXIF), .val (.int (1 : Int32)), .unset] []))
    refine Go.step (fun _ kt => XS.aloadN X140.here hx rfl (hb hby at_22) rfl rfl kt) ?_
    show Go p.tables e below _ (T140.setTop (mkF m 23 #[.val (.int p1), .val (.int (0 : Int32)), .val (.ref s_EXIF), .val (.ref l_EXIF), .val (.int (1 : Int32)), .unset] [(.ref s_EXIF)]))
    obtain ⟨cq141, kq141, q141a, q141b, q141c⟩ := isOf hZ eh140 F110
    obtain ⟨_, _, ⟨T141, L141, k141, n141⟩, -, X141, ⟨Lc141, hQ141, l141, y141, z141⟩, st141⟩ := X140.virtualBack hx (y := (⟨"com/example/inchworm/inchworm/photos/PositionKind", "located", "()Z"⟩ : MethodName)) (z := (⟨"com/example/inchworm/inchworm/photos/PositionKind", "located", "()Z"⟩ : MethodName)) hown (mvT hZ (hw _ (List.mem_of_getElem? (i := 36) rfl))) (mvT hZ (hw _ (List.mem_of_getElem? (i := 37) rfl))) (notFace_of_selects (args := #[]) (mvT hZ (hw _ (List.mem_of_getElem? (i := 39) rfl)))) (mvT hZ (hw _ (List.mem_of_getElem? (i := 39) rfl))) (mvT hZ (hw _ (List.mem_of_getElem? (i := 38) rfl))) (by decide) (backOf (W := 0) (rml0 l Z a0 hw [] s_EXIF  h104 n0 Z138 F110 F112 ) hZ (hw _ (List.mem_of_getElem? (i := 40) rfl)) (hw _ (List.mem_of_getElem? (i := 5) rfl)) (by decide) (by decide)) q141a q141c (g := (mkF m 23 #[.val (.int p1), .val (.int (0 : Int32)), .val (.ref s_EXIF), .val (.ref l_EXIF), .val (.int (1 : Int32)), .unset] [(.ref s_EXIF)])) rfl (by rw [hml]; rfl) (Steps.refl _) (argsL := []) (rest := []) (lenOf pd_5 rfl) rfl (by show 2 * 0 + _ ≤ _; exact Nat.le_of_eq rfl) (hb hby at_23) (fun _ _ => ⟨rfl, eh140, (by decide : 2 + 0 ≤ _), (by decide : 20 + 0 ≤ _)⟩)
    dsimp only [Pt.U, Pt.locs, Pt.cells, Pt.slots] at X141 l141 y141 z141 st141 hQ141
    subst l141 y141 z141
    obtain ⟨rfl, N141q, eh141⟩ := hQ141
    have N141 := Fr.app N140 N141q
    refine Go.step (fun _ kt => st141.trans kt) ?_
    show Go p.tables e below _ (T141.setTop (mkF m 26 #[.val (.int p1), .val (.int (0 : Int32)), .val (.ref s_EXIF), .val (.ref l_EXIF), .val (.int (1 : Int32)), .unset] [(.int (1 : Int32))]))
    refine Go.step (fun _ kt => XS.istore X141.here hx rfl (hb hby at_26) rfl (l' := #[.val (.int p1), .val (.int (0 : Int32)), .val (.ref s_EXIF), .val (.ref l_EXIF), .val (.int (1 : Int32)), .val (.int (1 : Int32))]) rfl kt) ?_
    show Go p.tables e below _ (T141.setTop (mkF m 28 #[.val (.int p1), .val (.int (0 : Int32)), .val (.ref s_EXIF), .val (.ref l_EXIF), .val (.int (1 : Int32)), .val (.int (1 : Int32))] []))
    refine Go.step (fun _ kt => XS.iload X141.here hx rfl (hb hby at_28) rfl kt) ?_
    show Go p.tables e below _ (T141.setTop (mkF m 30 #[.val (.int p1), .val (.int (0 : Int32)), .val (.ref s_EXIF), .val (.ref l_EXIF), .val (.int (1 : Int32)), .val (.int (1 : Int32))] [(.int (1 : Int32))]))
    refine Go.step (fun _ kt => XS.iload X141.here hx rfl (hb hby at_30) rfl kt) ?_
    show Go p.tables e below _ (T141.setTop (mkF m 32 #[.val (.int p1), .val (.int (0 : Int32)), .val (.ref s_EXIF), .val (.ref l_EXIF), .val (.int (1 : Int32)), .val (.int (1 : Int32))] [(.int (1 : Int32)), (.int (1 : Int32))]))
    refine Go.step (fun _ kt => XS.icmpNo X141.here hx rfl (hb hby at_32) rfl (teq (by decide : (1 : Int32) = (1 : Int32))).2 kt) ?_
    show Go p.tables e below _ (T141.setTop (mkF m 35 #[.val (.int p1), .val (.int (0 : Int32)), .val (.ref s_EXIF), .val (.ref l_EXIF), .val (.int (1 : Int32)), .val (.int (1 : Int32))] []))
    refine Go.step (fun _ kt => XS.iconst X141.here hx rfl (hb hby at_35) kt) ?_
    show Go p.tables e below _ (T141.setTop (mkF m 36 #[.val (.int p1), .val (.int (0 : Int32)), .val (.ref s_EXIF), .val (.ref l_EXIF), .val (.int (1 : Int32)), .val (.int (1 : Int32))] [(.int (1 : Int32))]))
    refine Go.step (fun _ kt => XS.goto X141.here hx rfl (pc0 := 36) (pc' := 40) rfl (hb hby at_36) (by decide) (by decide) kt) ?_
    show Go p.tables e below _ (T141.setTop (mkF m 40 #[.val (.int p1), .val (.int (0 : Int32)), .val (.ref s_EXIF), .val (.ref l_EXIF), .val (.int (1 : Int32)), .val (.int (1 : Int32))] [(.int (1 : Int32))]))
    obtain ⟨fs, hr, hrun, hended, hRW⟩ := X141.leaveW hS104 (by rw [eh141]; exact hk104) (v := some (.int (1 : Int32))) (fun h => by rw [Bd.returns] at h; cases h)
    refine ⟨_, _, retN X141 hx (t := .boolean) Bd.returns (by simp) (hb hby at_40) hr, hrun, hended, _, _, rfl, ?_, (by have q := C139.trans (CHv.at X141 hZ (own_EW hw) C139.1); rw [hh]; rw [← eh141] at q; exact q), hRW.1, hRW.2.1, hRW.2.2.1, hRW.2.2.2.mono (by decide) (by decide)⟩
    show Qrm0 Z p1 s_EXIF s_ZERO s_INVALID s_NONE cs l_EXIF v_EXIF k_EXIF l_ZERO v_ZERO k_ZERO l_INVALID v_INVALID k_INVALID l_NONE v_NONE k_NONE h0 n0 _ T141.heap _
    rw [eh141]
    exact ⟨rfl, N141⟩
  · rw [hk]
    show Go p.tables e below _ (s₁.setTop (mkF m 4 #[.val (.int p1), .val (.int (1 : Int32)), .unset, .unset, .unset, .unset] []))
    refine Go.step (fun _ kt => XS.iloadN X0.here hx rfl (hb hby at_4) rfl kt) ?_
    show Go p.tables e below _ (s₁.setTop (mkF m 5 #[.val (.int p1), .val (.int (1 : Int32)), .unset, .unset, .unset, .unset] [(.int (1 : Int32))]))
    obtain ⟨_, _, ⟨T142, L142, k142, n142⟩, -, X142, ⟨Lc142, hQ142, l142, y142, z142⟩, st142⟩ := Jvm.LawKit.callS X0 hx (y := (⟨"com/example/inchworm/inchworm/photos/PositionKindLocatedPinLaw", "pick", "(I)Lcom/example/inchworm/inchworm/photos/PositionKind;"⟩ : MethodName)) hown (mvT hZ (hw _ (List.mem_of_getElem? (i := 0) rfl))) (mvT hZ (hw _ (List.mem_of_getElem? (i := 1) rfl))) (mvT hZ (hw _ (List.mem_of_getElem? (i := 2) rfl))) (mvT hZ (hw _ (List.mem_of_getElem? (i := 3) rfl))) (by decide) (backOf (W := 0) (rm1 l Z a0 hw [] (1 : Int32) s_EXIF s_ZERO s_INVALID s_NONE h0 n0 Z0 S_EXIF S_ZERO S_INVALID S_NONE ) hZ (hw _ (List.mem_of_getElem? (i := 3) rfl)) (hw _ (List.mem_of_getElem? (i := 2) rfl)) (by decide) (by decide)) (g := (mkF m 5 #[.val (.int p1), .val (.int (1 : Int32)), .unset, .unset, .unset, .unset] [(.int (1 : Int32))])) rfl (by rw [hml]; rfl) (argsL := [(.int (1 : Int32))]) (rest := []) (lenOf pd_1 rfl) rfl (by show 2 * 0 + _ ≤ _; exact Nat.le_of_eq rfl) (hb hby at_5) (fun _ _ => ⟨rfl, e0, (by decide : 0 + 0 ≤ _), (by decide : 0 + 0 ≤ _)⟩)
    dsimp only [Pt.U, Pt.locs, Pt.cells, Pt.slots] at X142 l142 y142 z142 st142 hQ142
    subst l142 y142 z142
    obtain ⟨rfl, N142q, eh142⟩ := hQ142
    have N142 := Fr.app N0 N142q
    refine Go.step st142 ?_
    show Go p.tables e below _ (T142.setTop (mkF m 8 #[.val (.int p1), .val (.int (1 : Int32)), .unset, .unset, .unset, .unset] [(.ref (own_pick (1 : Int32) s_EXIF s_ZERO s_INVALID s_NONE))]))
    have q143 : (own_pick (1 : Int32) s_EXIF s_ZERO s_INVALID s_NONE) = s_ZERO := rfl
    rw [q143]
    show Go p.tables e below _ (T142.setTop (mkF m 8 #[.val (.int p1), .val (.int (1 : Int32)), .unset, .unset, .unset, .unset] [(.ref s_ZERO)]))
    refine Go.step (fun _ kt => XS.astoreN X142.here hx rfl (hb hby at_8) rfl rfl (l' := #[.val (.int p1), .val (.int (1 : Int32)), .val (.ref s_ZERO), .unset, .unset, .unset]) rfl kt) ?_
    show Go p.tables e below _ (T142.setTop (mkF m 9 #[.val (.int p1), .val (.int (1 : Int32)), .val (.ref s_ZERO), .unset, .unset, .unset] []))
    refine Go.step (fun _ kt => XS.aloadN X142.here hx rfl (hb hby at_9) rfl rfl kt) ?_
    show Go p.tables e below _ (T142.setTop (mkF m 10 #[.val (.int p1), .val (.int (1 : Int32)), .val (.ref s_ZERO), .unset, .unset, .unset] [(.ref s_ZERO)]))
    obtain ⟨cq144, kq144, q144a, q144b, q144c⟩ := isOf hZ eh142 E_ZERO
    obtain ⟨_, _, ⟨T144, L144, k144, n144⟩, -, X144, ⟨Lc144, hQ144, l144, y144, z144⟩, st144⟩ := X142.virtualBack hx (y := (⟨"com/example/inchworm/inchworm/photos/PositionKind", "label", "()Ljava/lang/String;"⟩ : MethodName)) (z := (⟨"com/example/inchworm/inchworm/photos/PositionKind", "label", "()Ljava/lang/String;"⟩ : MethodName)) hown (mvT hZ (hw _ (List.mem_of_getElem? (i := 7) rfl))) (mvT hZ (hw _ (List.mem_of_getElem? (i := 8) rfl))) (notFace_of_selects (args := #[]) (mvT hZ (hw _ (List.mem_of_getElem? (i := 10) rfl)))) (mvT hZ (hw _ (List.mem_of_getElem? (i := 10) rfl))) (mvT hZ (hw _ (List.mem_of_getElem? (i := 9) rfl))) (by decide) (backOf (W := 0) (rm2 l Z a0 hw [] s_ZERO l_ZERO h0 n0 Z0 Fl_ZERO ) hZ (hw _ (List.mem_of_getElem? (i := 11) rfl)) (hw _ (List.mem_of_getElem? (i := 5) rfl)) (by decide) (by decide)) q144a q144c (g := (mkF m 10 #[.val (.int p1), .val (.int (1 : Int32)), .val (.ref s_ZERO), .unset, .unset, .unset] [(.ref s_ZERO)])) rfl (by rw [hml]; rfl) (Steps.refl _) (argsL := []) (rest := []) (lenOf pd_2 rfl) rfl (by show 2 * 0 + _ ≤ _; exact Nat.le_of_eq rfl) (hb hby at_10) (fun _ _ => ⟨rfl, eh142, (by decide : 0 + 0 ≤ _), (by decide : 0 + 0 ≤ _)⟩)
    dsimp only [Pt.U, Pt.locs, Pt.cells, Pt.slots] at X144 l144 y144 z144 st144 hQ144
    subst l144 y144 z144
    obtain ⟨rfl, N144q, eh144⟩ := hQ144
    have N144 := Fr.app N142 N144q
    refine Go.step (fun _ kt => st144.trans kt) ?_
    show Go p.tables e below _ (T144.setTop (mkF m 13 #[.val (.int p1), .val (.int (1 : Int32)), .val (.ref s_ZERO), .unset, .unset, .unset] [(.ref l_ZERO)]))
    refine Go.step (fun _ kt => XS.astoreN X144.here hx rfl (hb hby at_13) rfl rfl (l' := #[.val (.int p1), .val (.int (1 : Int32)), .val (.ref s_ZERO), .val (.ref l_ZERO), .unset, .unset]) rfl kt) ?_
    show Go p.tables e below _ (T144.setTop (mkF m 14 #[.val (.int p1), .val (.int (1 : Int32)), .val (.ref s_ZERO), .val (.ref l_ZERO), .unset, .unset] []))
    refine Go.step (fun _ kt => XS.aloadN X144.here hx rfl (hb hby at_14) rfl rfl kt) ?_
    show Go p.tables e below _ (T144.setTop (mkF m 15 #[.val (.int p1), .val (.int (1 : Int32)), .val (.ref s_ZERO), .val (.ref l_ZERO), .unset, .unset] [(.ref l_ZERO)]))
    obtain ⟨b145, T145, h145, k145, ba145, kc145, X145, e145, E145, hS145, hk145, hZ, hown, Ex145, Fc145, Fv145, Vb145, lt145, ltb145, Cq145, Li145, Ne145, st145⟩ := ldcCH (s := s) (EL := own_EL) X144 hx hZ hown (hw _ (List.mem_of_getElem? (i := 14) rfl)) (own_wS hw) eh144 hS0 hk0 (own_EW hw) (by decide) C0.1 (vs := [(.int (101 : Int32)), (.int (120 : Int32)), (.int (105 : Int32)), (.int (102 : Int32))]) (z := (4 : Int32)) (by decide) (by decide) rfl (g := (mkF m 15 #[.val (.int p1), .val (.int (1 : Int32)), .val (.ref s_ZERO), .val (.ref l_ZERO), .unset, .unset] [(.ref l_ZERO)])) rfl (hb hby at_15) (n := 16) (by decide) (by decide) (by decide) (by decide)
    refine Go.step st145 ?_
    have F146 : Sta Z h145 "com/example/inchworm/inchworm/photos/PositionKind" "EXIF" "Lcom/example/inchworm/inchworm/photos/PositionKind;" (.ref s_EXIF) := (S_EXIF.ext E145)
    have F147 : Sta Z h145 "com/example/inchworm/inchworm/photos/PositionKind" "ZERO" "Lcom/example/inchworm/inchworm/photos/PositionKind;" (.ref s_ZERO) := (S_ZERO.ext E145)
    have F148 : Sta Z h145 "com/example/inchworm/inchworm/photos/PositionKind" "INVALID" "Lcom/example/inchworm/inchworm/photos/PositionKind;" (.ref s_INVALID) := (S_INVALID.ext E145)
    have F149 : Sta Z h145 "com/example/inchworm/inchworm/photos/PositionKind" "NONE" "Lcom/example/inchworm/inchworm/photos/PositionKind;" (.ref s_NONE) := (S_NONE.ext E145)
    have F150 : Sta Z h145 "java/lang/String" "COMPACT_STRINGS" "Z" (.int cs) := (S_cs.ext E145)
    have F151 : Exa Z h145 s_EXIF "com/example/inchworm/inchworm/photos/PositionKind" := (E_EXIF.ext E145)
    have F152 : Fld Z h145 s_EXIF "com/example/inchworm/inchworm/photos/PositionKind" "label" "Ljava/lang/String;" (.ref l_EXIF) := (Fl_EXIF.ext E145)
    have F153 : Fld Z h145 s_EXIF "java/lang/Enum" "ordinal" "I" (.int (0 : Int32)) := (Fo_EXIF.ext E145)
    have F154 : Exa Z h145 l_EXIF "java/lang/String" := (E_lEXIF.ext E145)
    have F155 : Fld Z h145 l_EXIF "java/lang/String" "coder" "B" (.int (0 : Int32)) := (Fc_lEXIF.ext E145)
    have F156 : Fld Z h145 l_EXIF "java/lang/String" "value" "[B" (.ref v_EXIF) := (Fv_lEXIF.ext E145)
    have F157 : Arv Z h145 v_EXIF k_EXIF .byte (4 : Int32) [(.int (101 : Int32)), (.int (120 : Int32)), (.int (105 : Int32)), (.int (102 : Int32))] (.int (0 : Int32)) := (V_lEXIF.ext E145)
    have F158 : Exa Z h145 s_ZERO "com/example/inchworm/inchworm/photos/PositionKind" := (E_ZERO.ext E145)
    have F159 : Fld Z h145 s_ZERO "com/example/inchworm/inchworm/photos/PositionKind" "label" "Ljava/lang/String;" (.ref l_ZERO) := (Fl_ZERO.ext E145)
    have F160 : Fld Z h145 s_ZERO "java/lang/Enum" "ordinal" "I" (.int (1 : Int32)) := (Fo_ZERO.ext E145)
    have F161 : Exa Z h145 l_ZERO "java/lang/String" := (E_lZERO.ext E145)
    have F162 : Fld Z h145 l_ZERO "java/lang/String" "coder" "B" (.int (0 : Int32)) := (Fc_lZERO.ext E145)
    have F163 : Fld Z h145 l_ZERO "java/lang/String" "value" "[B" (.ref v_ZERO) := (Fv_lZERO.ext E145)
    have F164 : Arv Z h145 v_ZERO k_ZERO .byte (4 : Int32) [(.int (122 : Int32)), (.int (101 : Int32)), (.int (114 : Int32)), (.int (111 : Int32))] (.int (0 : Int32)) := (V_lZERO.ext E145)
    have F165 : Exa Z h145 s_INVALID "com/example/inchworm/inchworm/photos/PositionKind" := (E_INVALID.ext E145)
    have F166 : Fld Z h145 s_INVALID "com/example/inchworm/inchworm/photos/PositionKind" "label" "Ljava/lang/String;" (.ref l_INVALID) := (Fl_INVALID.ext E145)
    have F167 : Fld Z h145 s_INVALID "java/lang/Enum" "ordinal" "I" (.int (2 : Int32)) := (Fo_INVALID.ext E145)
    have F168 : Exa Z h145 l_INVALID "java/lang/String" := (E_lINVALID.ext E145)
    have F169 : Fld Z h145 l_INVALID "java/lang/String" "coder" "B" (.int (0 : Int32)) := (Fc_lINVALID.ext E145)
    have F170 : Fld Z h145 l_INVALID "java/lang/String" "value" "[B" (.ref v_INVALID) := (Fv_lINVALID.ext E145)
    have F171 : Arv Z h145 v_INVALID k_INVALID .byte (7 : Int32) [(.int (105 : Int32)), (.int (110 : Int32)), (.int (118 : Int32)), (.int (97 : Int32)), (.int (108 : Int32)), (.int (105 : Int32)), (.int (100 : Int32))] (.int (0 : Int32)) := (V_lINVALID.ext E145)
    have F172 : Exa Z h145 s_NONE "com/example/inchworm/inchworm/photos/PositionKind" := (E_NONE.ext E145)
    have F173 : Fld Z h145 s_NONE "com/example/inchworm/inchworm/photos/PositionKind" "label" "Ljava/lang/String;" (.ref l_NONE) := (Fl_NONE.ext E145)
    have F174 : Fld Z h145 s_NONE "java/lang/Enum" "ordinal" "I" (.int (3 : Int32)) := (Fo_NONE.ext E145)
    have F175 : Exa Z h145 l_NONE "java/lang/String" := (E_lNONE.ext E145)
    have F176 : Fld Z h145 l_NONE "java/lang/String" "coder" "B" (.int (0 : Int32)) := (Fc_lNONE.ext E145)
    have F177 : Fld Z h145 l_NONE "java/lang/String" "value" "[B" (.ref v_NONE) := (Fv_lNONE.ext E145)
    have F178 : Arv Z h145 v_NONE k_NONE .byte (4 : Int32) [(.int (110 : Int32)), (.int (111 : Int32)), (.int (110 : Int32)), (.int (101 : Int32))] (.int (0 : Int32)) := (V_lNONE.ext E145)
    have Z179 : n0 ≤ h145.size := (Nat.le_trans Z0 E145.1)
    have C180 := (C0.trans Cq145)
    show Go p.tables e below _ (T145.setTop (mkF m 17 #[.val (.int p1), .val (.int (1 : Int32)), .val (.ref s_ZERO), .val (.ref l_ZERO), .unset, .unset] [(.ref b145), (.ref l_ZERO)]))
    obtain ⟨cq181, kq181, q181a, q181b, q181c⟩ := isOf hZ e145 F161
    obtain ⟨_, _, ⟨T181, L181, k181, n181⟩, -, X181, ⟨Lc181, hQ181, l181, y181, z181⟩, st181⟩ := X145.virtualBack hx (y := (⟨"java/lang/String", "equals", "(Ljava/lang/Object;)Z"⟩ : MethodName)) (z := (⟨"java/lang/String", "equals", "(Ljava/lang/Object;)Z"⟩ : MethodName)) hown (mvT hZ (hw _ (List.mem_of_getElem? (i := 22) rfl))) (mvT hZ (hw _ (List.mem_of_getElem? (i := 23) rfl))) (notFace_of_selects (args := #[]) (mvT hZ (hw _ (List.mem_of_getElem? (i := 25) rfl)))) (mvT hZ (hw _ (List.mem_of_getElem? (i := 25) rfl))) (mvT hZ (hw _ (List.mem_of_getElem? (i := 24) rfl))) (by decide) (backOf (W := 0) (rmeq2 l Z a0 hw [] l_ZERO b145 v_ZERO k_ZERO ba145 kc145 cs h145 n0 Z179 F161 F162 F163 F164 Ex145 Fc145 Fv145 Vb145 F150 hcs) hZ (hw _ (List.mem_of_getElem? (i := 26) rfl)) (hw _ (List.mem_of_getElem? (i := 15) rfl)) (by decide) (by decide)) q181a q181c (g := (mkF m 17 #[.val (.int p1), .val (.int (1 : Int32)), .val (.ref s_ZERO), .val (.ref l_ZERO), .unset, .unset] [(.ref b145), (.ref l_ZERO)])) rfl (by rw [hml]; rfl) (Steps.refl _) (argsL := [(.ref b145)]) (rest := []) (lenOf pd_4 rfl) rfl (by show 2 * 0 + _ ≤ _; exact Nat.le_of_eq rfl) (hb hby at_17) (fun _ _ => ⟨rfl, e145, (by decide : 2 + 0 ≤ _), (by decide : 20 + 0 ≤ _)⟩)
    dsimp only [Pt.U, Pt.locs, Pt.cells, Pt.slots] at X181 l181 y181 z181 st181 hQ181
    subst l181 y181 z181
    obtain ⟨rfl, N181q, eh181⟩ := hQ181
    have N181 := Fr.app N144 N181q
    refine Go.step (fun _ kt => st181.trans kt) ?_
    show Go p.tables e below _ (T181.setTop (mkF m 20 #[.val (.int p1), .val (.int (1 : Int32)), .val (.ref s_ZERO), .val (.ref l_ZERO), .unset, .unset] [(.int (0 : Int32))]))
    refine Go.step (fun _ kt => XS.istore X181.here hx rfl (hb hby at_20) rfl (l' := #[.val (.int p1), .val (.int (1 : Int32)), .val (.ref s_ZERO), .val (.ref l_ZERO), .val (.int (0 : Int32)), .unset]) rfl kt) ?_
    show Go p.tables e below _ (T181.setTop (mkF m 22 #[.val (.int p1), .val (.int (1 : Int32)), .val (.ref s_ZERO), .val (.ref l_ZERO), .val (.int (0 : Int32)), .unset] []))
    refine Go.step (fun _ kt => XS.aloadN X181.here hx rfl (hb hby at_22) rfl rfl kt) ?_
    show Go p.tables e below _ (T181.setTop (mkF m 23 #[.val (.int p1), .val (.int (1 : Int32)), .val (.ref s_ZERO), .val (.ref l_ZERO), .val (.int (0 : Int32)), .unset] [(.ref s_ZERO)]))
    obtain ⟨cq182, kq182, q182a, q182b, q182c⟩ := isOf hZ eh181 F158
    obtain ⟨_, _, ⟨T182, L182, k182, n182⟩, -, X182, ⟨Lc182, hQ182, l182, y182, z182⟩, st182⟩ := X181.virtualBack hx (y := (⟨"com/example/inchworm/inchworm/photos/PositionKind", "located", "()Z"⟩ : MethodName)) (z := (⟨"com/example/inchworm/inchworm/photos/PositionKind", "located", "()Z"⟩ : MethodName)) hown (mvT hZ (hw _ (List.mem_of_getElem? (i := 36) rfl))) (mvT hZ (hw _ (List.mem_of_getElem? (i := 37) rfl))) (notFace_of_selects (args := #[]) (mvT hZ (hw _ (List.mem_of_getElem? (i := 39) rfl)))) (mvT hZ (hw _ (List.mem_of_getElem? (i := 39) rfl))) (mvT hZ (hw _ (List.mem_of_getElem? (i := 38) rfl))) (by decide) (backOf (W := 0) (rml1 l Z a0 hw [] s_ZERO  h145 n0 Z179 F158 F160 ) hZ (hw _ (List.mem_of_getElem? (i := 40) rfl)) (hw _ (List.mem_of_getElem? (i := 5) rfl)) (by decide) (by decide)) q182a q182c (g := (mkF m 23 #[.val (.int p1), .val (.int (1 : Int32)), .val (.ref s_ZERO), .val (.ref l_ZERO), .val (.int (0 : Int32)), .unset] [(.ref s_ZERO)])) rfl (by rw [hml]; rfl) (Steps.refl _) (argsL := []) (rest := []) (lenOf pd_5 rfl) rfl (by show 2 * 0 + _ ≤ _; exact Nat.le_of_eq rfl) (hb hby at_23) (fun _ _ => ⟨rfl, eh181, (by decide : 2 + 0 ≤ _), (by decide : 20 + 0 ≤ _)⟩)
    dsimp only [Pt.U, Pt.locs, Pt.cells, Pt.slots] at X182 l182 y182 z182 st182 hQ182
    subst l182 y182 z182
    obtain ⟨rfl, N182q, eh182⟩ := hQ182
    have N182 := Fr.app N181 N182q
    refine Go.step (fun _ kt => st182.trans kt) ?_
    show Go p.tables e below _ (T182.setTop (mkF m 26 #[.val (.int p1), .val (.int (1 : Int32)), .val (.ref s_ZERO), .val (.ref l_ZERO), .val (.int (0 : Int32)), .unset] [(.int (0 : Int32))]))
    refine Go.step (fun _ kt => XS.istore X182.here hx rfl (hb hby at_26) rfl (l' := #[.val (.int p1), .val (.int (1 : Int32)), .val (.ref s_ZERO), .val (.ref l_ZERO), .val (.int (0 : Int32)), .val (.int (0 : Int32))]) rfl kt) ?_
    show Go p.tables e below _ (T182.setTop (mkF m 28 #[.val (.int p1), .val (.int (1 : Int32)), .val (.ref s_ZERO), .val (.ref l_ZERO), .val (.int (0 : Int32)), .val (.int (0 : Int32))] []))
    refine Go.step (fun _ kt => XS.iload X182.here hx rfl (hb hby at_28) rfl kt) ?_
    show Go p.tables e below _ (T182.setTop (mkF m 30 #[.val (.int p1), .val (.int (1 : Int32)), .val (.ref s_ZERO), .val (.ref l_ZERO), .val (.int (0 : Int32)), .val (.int (0 : Int32))] [(.int (0 : Int32))]))
    refine Go.step (fun _ kt => XS.iload X182.here hx rfl (hb hby at_30) rfl kt) ?_
    show Go p.tables e below _ (T182.setTop (mkF m 32 #[.val (.int p1), .val (.int (1 : Int32)), .val (.ref s_ZERO), .val (.ref l_ZERO), .val (.int (0 : Int32)), .val (.int (0 : Int32))] [(.int (0 : Int32)), (.int (0 : Int32))]))
    refine Go.step (fun _ kt => XS.icmpNo X182.here hx rfl (hb hby at_32) rfl (teq (by decide : (0 : Int32) = (0 : Int32))).2 kt) ?_
    show Go p.tables e below _ (T182.setTop (mkF m 35 #[.val (.int p1), .val (.int (1 : Int32)), .val (.ref s_ZERO), .val (.ref l_ZERO), .val (.int (0 : Int32)), .val (.int (0 : Int32))] []))
    refine Go.step (fun _ kt => XS.iconst X182.here hx rfl (hb hby at_35) kt) ?_
    show Go p.tables e below _ (T182.setTop (mkF m 36 #[.val (.int p1), .val (.int (1 : Int32)), .val (.ref s_ZERO), .val (.ref l_ZERO), .val (.int (0 : Int32)), .val (.int (0 : Int32))] [(.int (1 : Int32))]))
    refine Go.step (fun _ kt => XS.goto X182.here hx rfl (pc0 := 36) (pc' := 40) rfl (hb hby at_36) (by decide) (by decide) kt) ?_
    show Go p.tables e below _ (T182.setTop (mkF m 40 #[.val (.int p1), .val (.int (1 : Int32)), .val (.ref s_ZERO), .val (.ref l_ZERO), .val (.int (0 : Int32)), .val (.int (0 : Int32))] [(.int (1 : Int32))]))
    obtain ⟨fs, hr, hrun, hended, hRW⟩ := X182.leaveW hS145 (by rw [eh182]; exact hk145) (v := some (.int (1 : Int32))) (fun h => by rw [Bd.returns] at h; cases h)
    refine ⟨_, _, retN X182 hx (t := .boolean) Bd.returns (by simp) (hb hby at_40) hr, hrun, hended, _, _, rfl, ?_, (by have q := C180.trans (CHv.at X182 hZ (own_EW hw) C180.1); rw [hh]; rw [← eh182] at q; exact q), hRW.1, hRW.2.1, hRW.2.2.1, hRW.2.2.2.mono (by decide) (by decide)⟩
    show Qrm0 Z p1 s_EXIF s_ZERO s_INVALID s_NONE cs l_EXIF v_EXIF k_EXIF l_ZERO v_ZERO k_ZERO l_INVALID v_INVALID k_INVALID l_NONE v_NONE k_NONE h0 n0 _ T182.heap _
    rw [eh182]
    exact ⟨rfl, N182⟩
  · rw [hk]
    show Go p.tables e below _ (s₁.setTop (mkF m 4 #[.val (.int p1), .val (.int (2 : Int32)), .unset, .unset, .unset, .unset] []))
    refine Go.step (fun _ kt => XS.iloadN X0.here hx rfl (hb hby at_4) rfl kt) ?_
    show Go p.tables e below _ (s₁.setTop (mkF m 5 #[.val (.int p1), .val (.int (2 : Int32)), .unset, .unset, .unset, .unset] [(.int (2 : Int32))]))
    obtain ⟨_, _, ⟨T183, L183, k183, n183⟩, -, X183, ⟨Lc183, hQ183, l183, y183, z183⟩, st183⟩ := Jvm.LawKit.callS X0 hx (y := (⟨"com/example/inchworm/inchworm/photos/PositionKindLocatedPinLaw", "pick", "(I)Lcom/example/inchworm/inchworm/photos/PositionKind;"⟩ : MethodName)) hown (mvT hZ (hw _ (List.mem_of_getElem? (i := 0) rfl))) (mvT hZ (hw _ (List.mem_of_getElem? (i := 1) rfl))) (mvT hZ (hw _ (List.mem_of_getElem? (i := 2) rfl))) (mvT hZ (hw _ (List.mem_of_getElem? (i := 3) rfl))) (by decide) (backOf (W := 0) (rm1 l Z a0 hw [] (2 : Int32) s_EXIF s_ZERO s_INVALID s_NONE h0 n0 Z0 S_EXIF S_ZERO S_INVALID S_NONE ) hZ (hw _ (List.mem_of_getElem? (i := 3) rfl)) (hw _ (List.mem_of_getElem? (i := 2) rfl)) (by decide) (by decide)) (g := (mkF m 5 #[.val (.int p1), .val (.int (2 : Int32)), .unset, .unset, .unset, .unset] [(.int (2 : Int32))])) rfl (by rw [hml]; rfl) (argsL := [(.int (2 : Int32))]) (rest := []) (lenOf pd_1 rfl) rfl (by show 2 * 0 + _ ≤ _; exact Nat.le_of_eq rfl) (hb hby at_5) (fun _ _ => ⟨rfl, e0, (by decide : 0 + 0 ≤ _), (by decide : 0 + 0 ≤ _)⟩)
    dsimp only [Pt.U, Pt.locs, Pt.cells, Pt.slots] at X183 l183 y183 z183 st183 hQ183
    subst l183 y183 z183
    obtain ⟨rfl, N183q, eh183⟩ := hQ183
    have N183 := Fr.app N0 N183q
    refine Go.step st183 ?_
    show Go p.tables e below _ (T183.setTop (mkF m 8 #[.val (.int p1), .val (.int (2 : Int32)), .unset, .unset, .unset, .unset] [(.ref (own_pick (2 : Int32) s_EXIF s_ZERO s_INVALID s_NONE))]))
    have q184 : (own_pick (2 : Int32) s_EXIF s_ZERO s_INVALID s_NONE) = s_INVALID := rfl
    rw [q184]
    show Go p.tables e below _ (T183.setTop (mkF m 8 #[.val (.int p1), .val (.int (2 : Int32)), .unset, .unset, .unset, .unset] [(.ref s_INVALID)]))
    refine Go.step (fun _ kt => XS.astoreN X183.here hx rfl (hb hby at_8) rfl rfl (l' := #[.val (.int p1), .val (.int (2 : Int32)), .val (.ref s_INVALID), .unset, .unset, .unset]) rfl kt) ?_
    show Go p.tables e below _ (T183.setTop (mkF m 9 #[.val (.int p1), .val (.int (2 : Int32)), .val (.ref s_INVALID), .unset, .unset, .unset] []))
    refine Go.step (fun _ kt => XS.aloadN X183.here hx rfl (hb hby at_9) rfl rfl kt) ?_
    show Go p.tables e below _ (T183.setTop (mkF m 10 #[.val (.int p1), .val (.int (2 : Int32)), .val (.ref s_INVALID), .unset, .unset, .unset] [(.ref s_INVALID)]))
    obtain ⟨cq185, kq185, q185a, q185b, q185c⟩ := isOf hZ eh183 E_INVALID
    obtain ⟨_, _, ⟨T185, L185, k185, n185⟩, -, X185, ⟨Lc185, hQ185, l185, y185, z185⟩, st185⟩ := X183.virtualBack hx (y := (⟨"com/example/inchworm/inchworm/photos/PositionKind", "label", "()Ljava/lang/String;"⟩ : MethodName)) (z := (⟨"com/example/inchworm/inchworm/photos/PositionKind", "label", "()Ljava/lang/String;"⟩ : MethodName)) hown (mvT hZ (hw _ (List.mem_of_getElem? (i := 7) rfl))) (mvT hZ (hw _ (List.mem_of_getElem? (i := 8) rfl))) (notFace_of_selects (args := #[]) (mvT hZ (hw _ (List.mem_of_getElem? (i := 10) rfl)))) (mvT hZ (hw _ (List.mem_of_getElem? (i := 10) rfl))) (mvT hZ (hw _ (List.mem_of_getElem? (i := 9) rfl))) (by decide) (backOf (W := 0) (rm2 l Z a0 hw [] s_INVALID l_INVALID h0 n0 Z0 Fl_INVALID ) hZ (hw _ (List.mem_of_getElem? (i := 11) rfl)) (hw _ (List.mem_of_getElem? (i := 5) rfl)) (by decide) (by decide)) q185a q185c (g := (mkF m 10 #[.val (.int p1), .val (.int (2 : Int32)), .val (.ref s_INVALID), .unset, .unset, .unset] [(.ref s_INVALID)])) rfl (by rw [hml]; rfl) (Steps.refl _) (argsL := []) (rest := []) (lenOf pd_2 rfl) rfl (by show 2 * 0 + _ ≤ _; exact Nat.le_of_eq rfl) (hb hby at_10) (fun _ _ => ⟨rfl, eh183, (by decide : 0 + 0 ≤ _), (by decide : 0 + 0 ≤ _)⟩)
    dsimp only [Pt.U, Pt.locs, Pt.cells, Pt.slots] at X185 l185 y185 z185 st185 hQ185
    subst l185 y185 z185
    obtain ⟨rfl, N185q, eh185⟩ := hQ185
    have N185 := Fr.app N183 N185q
    refine Go.step (fun _ kt => st185.trans kt) ?_
    show Go p.tables e below _ (T185.setTop (mkF m 13 #[.val (.int p1), .val (.int (2 : Int32)), .val (.ref s_INVALID), .unset, .unset, .unset] [(.ref l_INVALID)]))
    refine Go.step (fun _ kt => XS.astoreN X185.here hx rfl (hb hby at_13) rfl rfl (l' := #[.val (.int p1), .val (.int (2 : Int32)), .val (.ref s_INVALID), .val (.ref l_INVALID), .unset, .unset]) rfl kt) ?_
    show Go p.tables e below _ (T185.setTop (mkF m 14 #[.val (.int p1), .val (.int (2 : Int32)), .val (.ref s_INVALID), .val (.ref l_INVALID), .unset, .unset] []))
    refine Go.step (fun _ kt => XS.aloadN X185.here hx rfl (hb hby at_14) rfl rfl kt) ?_
    show Go p.tables e below _ (T185.setTop (mkF m 15 #[.val (.int p1), .val (.int (2 : Int32)), .val (.ref s_INVALID), .val (.ref l_INVALID), .unset, .unset] [(.ref l_INVALID)]))
    obtain ⟨b186, T186, h186, k186, ba186, kc186, X186, e186, E186, hS186, hk186, hZ, hown, Ex186, Fc186, Fv186, Vb186, lt186, ltb186, Cq186, Li186, Ne186, st186⟩ := ldcCH (s := s) (EL := own_EL) X185 hx hZ hown (hw _ (List.mem_of_getElem? (i := 14) rfl)) (own_wS hw) eh185 hS0 hk0 (own_EW hw) (by decide) C0.1 (vs := [(.int (101 : Int32)), (.int (120 : Int32)), (.int (105 : Int32)), (.int (102 : Int32))]) (z := (4 : Int32)) (by decide) (by decide) rfl (g := (mkF m 15 #[.val (.int p1), .val (.int (2 : Int32)), .val (.ref s_INVALID), .val (.ref l_INVALID), .unset, .unset] [(.ref l_INVALID)])) rfl (hb hby at_15) (n := 16) (by decide) (by decide) (by decide) (by decide)
    refine Go.step st186 ?_
    have F187 : Sta Z h186 "com/example/inchworm/inchworm/photos/PositionKind" "EXIF" "Lcom/example/inchworm/inchworm/photos/PositionKind;" (.ref s_EXIF) := (S_EXIF.ext E186)
    have F188 : Sta Z h186 "com/example/inchworm/inchworm/photos/PositionKind" "ZERO" "Lcom/example/inchworm/inchworm/photos/PositionKind;" (.ref s_ZERO) := (S_ZERO.ext E186)
    have F189 : Sta Z h186 "com/example/inchworm/inchworm/photos/PositionKind" "INVALID" "Lcom/example/inchworm/inchworm/photos/PositionKind;" (.ref s_INVALID) := (S_INVALID.ext E186)
    have F190 : Sta Z h186 "com/example/inchworm/inchworm/photos/PositionKind" "NONE" "Lcom/example/inchworm/inchworm/photos/PositionKind;" (.ref s_NONE) := (S_NONE.ext E186)
    have F191 : Sta Z h186 "java/lang/String" "COMPACT_STRINGS" "Z" (.int cs) := (S_cs.ext E186)
    have F192 : Exa Z h186 s_EXIF "com/example/inchworm/inchworm/photos/PositionKind" := (E_EXIF.ext E186)
    have F193 : Fld Z h186 s_EXIF "com/example/inchworm/inchworm/photos/PositionKind" "label" "Ljava/lang/String;" (.ref l_EXIF) := (Fl_EXIF.ext E186)
    have F194 : Fld Z h186 s_EXIF "java/lang/Enum" "ordinal" "I" (.int (0 : Int32)) := (Fo_EXIF.ext E186)
    have F195 : Exa Z h186 l_EXIF "java/lang/String" := (E_lEXIF.ext E186)
    have F196 : Fld Z h186 l_EXIF "java/lang/String" "coder" "B" (.int (0 : Int32)) := (Fc_lEXIF.ext E186)
    have F197 : Fld Z h186 l_EXIF "java/lang/String" "value" "[B" (.ref v_EXIF) := (Fv_lEXIF.ext E186)
    have F198 : Arv Z h186 v_EXIF k_EXIF .byte (4 : Int32) [(.int (101 : Int32)), (.int (120 : Int32)), (.int (105 : Int32)), (.int (102 : Int32))] (.int (0 : Int32)) := (V_lEXIF.ext E186)
    have F199 : Exa Z h186 s_ZERO "com/example/inchworm/inchworm/photos/PositionKind" := (E_ZERO.ext E186)
    have F200 : Fld Z h186 s_ZERO "com/example/inchworm/inchworm/photos/PositionKind" "label" "Ljava/lang/String;" (.ref l_ZERO) := (Fl_ZERO.ext E186)
    have F201 : Fld Z h186 s_ZERO "java/lang/Enum" "ordinal" "I" (.int (1 : Int32)) := (Fo_ZERO.ext E186)
    have F202 : Exa Z h186 l_ZERO "java/lang/String" := (E_lZERO.ext E186)
    have F203 : Fld Z h186 l_ZERO "java/lang/String" "coder" "B" (.int (0 : Int32)) := (Fc_lZERO.ext E186)
    have F204 : Fld Z h186 l_ZERO "java/lang/String" "value" "[B" (.ref v_ZERO) := (Fv_lZERO.ext E186)
    have F205 : Arv Z h186 v_ZERO k_ZERO .byte (4 : Int32) [(.int (122 : Int32)), (.int (101 : Int32)), (.int (114 : Int32)), (.int (111 : Int32))] (.int (0 : Int32)) := (V_lZERO.ext E186)
    have F206 : Exa Z h186 s_INVALID "com/example/inchworm/inchworm/photos/PositionKind" := (E_INVALID.ext E186)
    have F207 : Fld Z h186 s_INVALID "com/example/inchworm/inchworm/photos/PositionKind" "label" "Ljava/lang/String;" (.ref l_INVALID) := (Fl_INVALID.ext E186)
    have F208 : Fld Z h186 s_INVALID "java/lang/Enum" "ordinal" "I" (.int (2 : Int32)) := (Fo_INVALID.ext E186)
    have F209 : Exa Z h186 l_INVALID "java/lang/String" := (E_lINVALID.ext E186)
    have F210 : Fld Z h186 l_INVALID "java/lang/String" "coder" "B" (.int (0 : Int32)) := (Fc_lINVALID.ext E186)
    have F211 : Fld Z h186 l_INVALID "java/lang/String" "value" "[B" (.ref v_INVALID) := (Fv_lINVALID.ext E186)
    have F212 : Arv Z h186 v_INVALID k_INVALID .byte (7 : Int32) [(.int (105 : Int32)), (.int (110 : Int32)), (.int (118 : Int32)), (.int (97 : Int32)), (.int (108 : Int32)), (.int (105 : Int32)), (.int (100 : Int32))] (.int (0 : Int32)) := (V_lINVALID.ext E186)
    have F213 : Exa Z h186 s_NONE "com/example/inchworm/inchworm/photos/PositionKind" := (E_NONE.ext E186)
    have F214 : Fld Z h186 s_NONE "com/example/inchworm/inchworm/photos/PositionKind" "label" "Ljava/lang/String;" (.ref l_NONE) := (Fl_NONE.ext E186)
    have F215 : Fld Z h186 s_NONE "java/lang/Enum" "ordinal" "I" (.int (3 : Int32)) := (Fo_NONE.ext E186)
    have F216 : Exa Z h186 l_NONE "java/lang/String" := (E_lNONE.ext E186)
    have F217 : Fld Z h186 l_NONE "java/lang/String" "coder" "B" (.int (0 : Int32)) := (Fc_lNONE.ext E186)
    have F218 : Fld Z h186 l_NONE "java/lang/String" "value" "[B" (.ref v_NONE) := (Fv_lNONE.ext E186)
    have F219 : Arv Z h186 v_NONE k_NONE .byte (4 : Int32) [(.int (110 : Int32)), (.int (111 : Int32)), (.int (110 : Int32)), (.int (101 : Int32))] (.int (0 : Int32)) := (V_lNONE.ext E186)
    have Z220 : n0 ≤ h186.size := (Nat.le_trans Z0 E186.1)
    have C221 := (C0.trans Cq186)
    show Go p.tables e below _ (T186.setTop (mkF m 17 #[.val (.int p1), .val (.int (2 : Int32)), .val (.ref s_INVALID), .val (.ref l_INVALID), .unset, .unset] [(.ref b186), (.ref l_INVALID)]))
    obtain ⟨cq222, kq222, q222a, q222b, q222c⟩ := isOf hZ e186 F209
    obtain ⟨_, _, ⟨T222, L222, k222, n222⟩, -, X222, ⟨Lc222, hQ222, l222, y222, z222⟩, st222⟩ := X186.virtualBack hx (y := (⟨"java/lang/String", "equals", "(Ljava/lang/Object;)Z"⟩ : MethodName)) (z := (⟨"java/lang/String", "equals", "(Ljava/lang/Object;)Z"⟩ : MethodName)) hown (mvT hZ (hw _ (List.mem_of_getElem? (i := 22) rfl))) (mvT hZ (hw _ (List.mem_of_getElem? (i := 23) rfl))) (notFace_of_selects (args := #[]) (mvT hZ (hw _ (List.mem_of_getElem? (i := 25) rfl)))) (mvT hZ (hw _ (List.mem_of_getElem? (i := 25) rfl))) (mvT hZ (hw _ (List.mem_of_getElem? (i := 24) rfl))) (by decide) (backOf (W := 0) (rmeq4 l Z a0 hw [] l_INVALID b186 v_INVALID k_INVALID ba186 kc186 cs h186 n0 Z220 F209 F210 F211 F212 Ex186 Fc186 Fv186 Vb186 F191 hcs) hZ (hw _ (List.mem_of_getElem? (i := 26) rfl)) (hw _ (List.mem_of_getElem? (i := 15) rfl)) (by decide) (by decide)) q222a q222c (g := (mkF m 17 #[.val (.int p1), .val (.int (2 : Int32)), .val (.ref s_INVALID), .val (.ref l_INVALID), .unset, .unset] [(.ref b186), (.ref l_INVALID)])) rfl (by rw [hml]; rfl) (Steps.refl _) (argsL := [(.ref b186)]) (rest := []) (lenOf pd_4 rfl) rfl (by show 2 * 0 + _ ≤ _; exact Nat.le_of_eq rfl) (hb hby at_17) (fun _ _ => ⟨rfl, e186, (by decide : 2 + 0 ≤ _), (by decide : 20 + 0 ≤ _)⟩)
    dsimp only [Pt.U, Pt.locs, Pt.cells, Pt.slots] at X222 l222 y222 z222 st222 hQ222
    subst l222 y222 z222
    obtain ⟨rfl, N222q, eh222⟩ := hQ222
    have N222 := Fr.app N185 N222q
    refine Go.step (fun _ kt => st222.trans kt) ?_
    show Go p.tables e below _ (T222.setTop (mkF m 20 #[.val (.int p1), .val (.int (2 : Int32)), .val (.ref s_INVALID), .val (.ref l_INVALID), .unset, .unset] [(.int (0 : Int32))]))
    refine Go.step (fun _ kt => XS.istore X222.here hx rfl (hb hby at_20) rfl (l' := #[.val (.int p1), .val (.int (2 : Int32)), .val (.ref s_INVALID), .val (.ref l_INVALID), .val (.int (0 : Int32)), .unset]) rfl kt) ?_
    show Go p.tables e below _ (T222.setTop (mkF m 22 #[.val (.int p1), .val (.int (2 : Int32)), .val (.ref s_INVALID), .val (.ref l_INVALID), .val (.int (0 : Int32)), .unset] []))
    refine Go.step (fun _ kt => XS.aloadN X222.here hx rfl (hb hby at_22) rfl rfl kt) ?_
    show Go p.tables e below _ (T222.setTop (mkF m 23 #[.val (.int p1), .val (.int (2 : Int32)), .val (.ref s_INVALID), .val (.ref l_INVALID), .val (.int (0 : Int32)), .unset] [(.ref s_INVALID)]))
    obtain ⟨cq223, kq223, q223a, q223b, q223c⟩ := isOf hZ eh222 F206
    obtain ⟨_, _, ⟨T223, L223, k223, n223⟩, -, X223, ⟨Lc223, hQ223, l223, y223, z223⟩, st223⟩ := X222.virtualBack hx (y := (⟨"com/example/inchworm/inchworm/photos/PositionKind", "located", "()Z"⟩ : MethodName)) (z := (⟨"com/example/inchworm/inchworm/photos/PositionKind", "located", "()Z"⟩ : MethodName)) hown (mvT hZ (hw _ (List.mem_of_getElem? (i := 36) rfl))) (mvT hZ (hw _ (List.mem_of_getElem? (i := 37) rfl))) (notFace_of_selects (args := #[]) (mvT hZ (hw _ (List.mem_of_getElem? (i := 39) rfl)))) (mvT hZ (hw _ (List.mem_of_getElem? (i := 39) rfl))) (mvT hZ (hw _ (List.mem_of_getElem? (i := 38) rfl))) (by decide) (backOf (W := 0) (rml2 l Z a0 hw [] s_INVALID  h186 n0 Z220 F206 F208 ) hZ (hw _ (List.mem_of_getElem? (i := 40) rfl)) (hw _ (List.mem_of_getElem? (i := 5) rfl)) (by decide) (by decide)) q223a q223c (g := (mkF m 23 #[.val (.int p1), .val (.int (2 : Int32)), .val (.ref s_INVALID), .val (.ref l_INVALID), .val (.int (0 : Int32)), .unset] [(.ref s_INVALID)])) rfl (by rw [hml]; rfl) (Steps.refl _) (argsL := []) (rest := []) (lenOf pd_5 rfl) rfl (by show 2 * 0 + _ ≤ _; exact Nat.le_of_eq rfl) (hb hby at_23) (fun _ _ => ⟨rfl, eh222, (by decide : 2 + 0 ≤ _), (by decide : 20 + 0 ≤ _)⟩)
    dsimp only [Pt.U, Pt.locs, Pt.cells, Pt.slots] at X223 l223 y223 z223 st223 hQ223
    subst l223 y223 z223
    obtain ⟨rfl, N223q, eh223⟩ := hQ223
    have N223 := Fr.app N222 N223q
    refine Go.step (fun _ kt => st223.trans kt) ?_
    show Go p.tables e below _ (T223.setTop (mkF m 26 #[.val (.int p1), .val (.int (2 : Int32)), .val (.ref s_INVALID), .val (.ref l_INVALID), .val (.int (0 : Int32)), .unset] [(.int (0 : Int32))]))
    refine Go.step (fun _ kt => XS.istore X223.here hx rfl (hb hby at_26) rfl (l' := #[.val (.int p1), .val (.int (2 : Int32)), .val (.ref s_INVALID), .val (.ref l_INVALID), .val (.int (0 : Int32)), .val (.int (0 : Int32))]) rfl kt) ?_
    show Go p.tables e below _ (T223.setTop (mkF m 28 #[.val (.int p1), .val (.int (2 : Int32)), .val (.ref s_INVALID), .val (.ref l_INVALID), .val (.int (0 : Int32)), .val (.int (0 : Int32))] []))
    refine Go.step (fun _ kt => XS.iload X223.here hx rfl (hb hby at_28) rfl kt) ?_
    show Go p.tables e below _ (T223.setTop (mkF m 30 #[.val (.int p1), .val (.int (2 : Int32)), .val (.ref s_INVALID), .val (.ref l_INVALID), .val (.int (0 : Int32)), .val (.int (0 : Int32))] [(.int (0 : Int32))]))
    refine Go.step (fun _ kt => XS.iload X223.here hx rfl (hb hby at_30) rfl kt) ?_
    show Go p.tables e below _ (T223.setTop (mkF m 32 #[.val (.int p1), .val (.int (2 : Int32)), .val (.ref s_INVALID), .val (.ref l_INVALID), .val (.int (0 : Int32)), .val (.int (0 : Int32))] [(.int (0 : Int32)), (.int (0 : Int32))]))
    refine Go.step (fun _ kt => XS.icmpNo X223.here hx rfl (hb hby at_32) rfl (teq (by decide : (0 : Int32) = (0 : Int32))).2 kt) ?_
    show Go p.tables e below _ (T223.setTop (mkF m 35 #[.val (.int p1), .val (.int (2 : Int32)), .val (.ref s_INVALID), .val (.ref l_INVALID), .val (.int (0 : Int32)), .val (.int (0 : Int32))] []))
    refine Go.step (fun _ kt => XS.iconst X223.here hx rfl (hb hby at_35) kt) ?_
    show Go p.tables e below _ (T223.setTop (mkF m 36 #[.val (.int p1), .val (.int (2 : Int32)), .val (.ref s_INVALID), .val (.ref l_INVALID), .val (.int (0 : Int32)), .val (.int (0 : Int32))] [(.int (1 : Int32))]))
    refine Go.step (fun _ kt => XS.goto X223.here hx rfl (pc0 := 36) (pc' := 40) rfl (hb hby at_36) (by decide) (by decide) kt) ?_
    show Go p.tables e below _ (T223.setTop (mkF m 40 #[.val (.int p1), .val (.int (2 : Int32)), .val (.ref s_INVALID), .val (.ref l_INVALID), .val (.int (0 : Int32)), .val (.int (0 : Int32))] [(.int (1 : Int32))]))
    obtain ⟨fs, hr, hrun, hended, hRW⟩ := X223.leaveW hS186 (by rw [eh223]; exact hk186) (v := some (.int (1 : Int32))) (fun h => by rw [Bd.returns] at h; cases h)
    refine ⟨_, _, retN X223 hx (t := .boolean) Bd.returns (by simp) (hb hby at_40) hr, hrun, hended, _, _, rfl, ?_, (by have q := C221.trans (CHv.at X223 hZ (own_EW hw) C221.1); rw [hh]; rw [← eh223] at q; exact q), hRW.1, hRW.2.1, hRW.2.2.1, hRW.2.2.2.mono (by decide) (by decide)⟩
    show Qrm0 Z p1 s_EXIF s_ZERO s_INVALID s_NONE cs l_EXIF v_EXIF k_EXIF l_ZERO v_ZERO k_ZERO l_INVALID v_INVALID k_INVALID l_NONE v_NONE k_NONE h0 n0 _ T223.heap _
    rw [eh223]
    exact ⟨rfl, N223⟩
  · rw [hk]
    show Go p.tables e below _ (s₁.setTop (mkF m 4 #[.val (.int p1), .val (.int (3 : Int32)), .unset, .unset, .unset, .unset] []))
    refine Go.step (fun _ kt => XS.iloadN X0.here hx rfl (hb hby at_4) rfl kt) ?_
    show Go p.tables e below _ (s₁.setTop (mkF m 5 #[.val (.int p1), .val (.int (3 : Int32)), .unset, .unset, .unset, .unset] [(.int (3 : Int32))]))
    obtain ⟨_, _, ⟨T224, L224, k224, n224⟩, -, X224, ⟨Lc224, hQ224, l224, y224, z224⟩, st224⟩ := Jvm.LawKit.callS X0 hx (y := (⟨"com/example/inchworm/inchworm/photos/PositionKindLocatedPinLaw", "pick", "(I)Lcom/example/inchworm/inchworm/photos/PositionKind;"⟩ : MethodName)) hown (mvT hZ (hw _ (List.mem_of_getElem? (i := 0) rfl))) (mvT hZ (hw _ (List.mem_of_getElem? (i := 1) rfl))) (mvT hZ (hw _ (List.mem_of_getElem? (i := 2) rfl))) (mvT hZ (hw _ (List.mem_of_getElem? (i := 3) rfl))) (by decide) (backOf (W := 0) (rm1 l Z a0 hw [] (3 : Int32) s_EXIF s_ZERO s_INVALID s_NONE h0 n0 Z0 S_EXIF S_ZERO S_INVALID S_NONE ) hZ (hw _ (List.mem_of_getElem? (i := 3) rfl)) (hw _ (List.mem_of_getElem? (i := 2) rfl)) (by decide) (by decide)) (g := (mkF m 5 #[.val (.int p1), .val (.int (3 : Int32)), .unset, .unset, .unset, .unset] [(.int (3 : Int32))])) rfl (by rw [hml]; rfl) (argsL := [(.int (3 : Int32))]) (rest := []) (lenOf pd_1 rfl) rfl (by show 2 * 0 + _ ≤ _; exact Nat.le_of_eq rfl) (hb hby at_5) (fun _ _ => ⟨rfl, e0, (by decide : 0 + 0 ≤ _), (by decide : 0 + 0 ≤ _)⟩)
    dsimp only [Pt.U, Pt.locs, Pt.cells, Pt.slots] at X224 l224 y224 z224 st224 hQ224
    subst l224 y224 z224
    obtain ⟨rfl, N224q, eh224⟩ := hQ224
    have N224 := Fr.app N0 N224q
    refine Go.step st224 ?_
    show Go p.tables e below _ (T224.setTop (mkF m 8 #[.val (.int p1), .val (.int (3 : Int32)), .unset, .unset, .unset, .unset] [(.ref (own_pick (3 : Int32) s_EXIF s_ZERO s_INVALID s_NONE))]))
    have q225 : (own_pick (3 : Int32) s_EXIF s_ZERO s_INVALID s_NONE) = s_NONE := rfl
    rw [q225]
    show Go p.tables e below _ (T224.setTop (mkF m 8 #[.val (.int p1), .val (.int (3 : Int32)), .unset, .unset, .unset, .unset] [(.ref s_NONE)]))
    refine Go.step (fun _ kt => XS.astoreN X224.here hx rfl (hb hby at_8) rfl rfl (l' := #[.val (.int p1), .val (.int (3 : Int32)), .val (.ref s_NONE), .unset, .unset, .unset]) rfl kt) ?_
    show Go p.tables e below _ (T224.setTop (mkF m 9 #[.val (.int p1), .val (.int (3 : Int32)), .val (.ref s_NONE), .unset, .unset, .unset] []))
    refine Go.step (fun _ kt => XS.aloadN X224.here hx rfl (hb hby at_9) rfl rfl kt) ?_
    show Go p.tables e below _ (T224.setTop (mkF m 10 #[.val (.int p1), .val (.int (3 : Int32)), .val (.ref s_NONE), .unset, .unset, .unset] [(.ref s_NONE)]))
    obtain ⟨cq226, kq226, q226a, q226b, q226c⟩ := isOf hZ eh224 E_NONE
    obtain ⟨_, _, ⟨T226, L226, k226, n226⟩, -, X226, ⟨Lc226, hQ226, l226, y226, z226⟩, st226⟩ := X224.virtualBack hx (y := (⟨"com/example/inchworm/inchworm/photos/PositionKind", "label", "()Ljava/lang/String;"⟩ : MethodName)) (z := (⟨"com/example/inchworm/inchworm/photos/PositionKind", "label", "()Ljava/lang/String;"⟩ : MethodName)) hown (mvT hZ (hw _ (List.mem_of_getElem? (i := 7) rfl))) (mvT hZ (hw _ (List.mem_of_getElem? (i := 8) rfl))) (notFace_of_selects (args := #[]) (mvT hZ (hw _ (List.mem_of_getElem? (i := 10) rfl)))) (mvT hZ (hw _ (List.mem_of_getElem? (i := 10) rfl))) (mvT hZ (hw _ (List.mem_of_getElem? (i := 9) rfl))) (by decide) (backOf (W := 0) (rm2 l Z a0 hw [] s_NONE l_NONE h0 n0 Z0 Fl_NONE ) hZ (hw _ (List.mem_of_getElem? (i := 11) rfl)) (hw _ (List.mem_of_getElem? (i := 5) rfl)) (by decide) (by decide)) q226a q226c (g := (mkF m 10 #[.val (.int p1), .val (.int (3 : Int32)), .val (.ref s_NONE), .unset, .unset, .unset] [(.ref s_NONE)])) rfl (by rw [hml]; rfl) (Steps.refl _) (argsL := []) (rest := []) (lenOf pd_2 rfl) rfl (by show 2 * 0 + _ ≤ _; exact Nat.le_of_eq rfl) (hb hby at_10) (fun _ _ => ⟨rfl, eh224, (by decide : 0 + 0 ≤ _), (by decide : 0 + 0 ≤ _)⟩)
    dsimp only [Pt.U, Pt.locs, Pt.cells, Pt.slots] at X226 l226 y226 z226 st226 hQ226
    subst l226 y226 z226
    obtain ⟨rfl, N226q, eh226⟩ := hQ226
    have N226 := Fr.app N224 N226q
    refine Go.step (fun _ kt => st226.trans kt) ?_
    show Go p.tables e below _ (T226.setTop (mkF m 13 #[.val (.int p1), .val (.int (3 : Int32)), .val (.ref s_NONE), .unset, .unset, .unset] [(.ref l_NONE)]))
    refine Go.step (fun _ kt => XS.astoreN X226.here hx rfl (hb hby at_13) rfl rfl (l' := #[.val (.int p1), .val (.int (3 : Int32)), .val (.ref s_NONE), .val (.ref l_NONE), .unset, .unset]) rfl kt) ?_
    show Go p.tables e below _ (T226.setTop (mkF m 14 #[.val (.int p1), .val (.int (3 : Int32)), .val (.ref s_NONE), .val (.ref l_NONE), .unset, .unset] []))
    refine Go.step (fun _ kt => XS.aloadN X226.here hx rfl (hb hby at_14) rfl rfl kt) ?_
    show Go p.tables e below _ (T226.setTop (mkF m 15 #[.val (.int p1), .val (.int (3 : Int32)), .val (.ref s_NONE), .val (.ref l_NONE), .unset, .unset] [(.ref l_NONE)]))
    obtain ⟨b227, T227, h227, k227, ba227, kc227, X227, e227, E227, hS227, hk227, hZ, hown, Ex227, Fc227, Fv227, Vb227, lt227, ltb227, Cq227, Li227, Ne227, st227⟩ := ldcCH (s := s) (EL := own_EL) X226 hx hZ hown (hw _ (List.mem_of_getElem? (i := 14) rfl)) (own_wS hw) eh226 hS0 hk0 (own_EW hw) (by decide) C0.1 (vs := [(.int (101 : Int32)), (.int (120 : Int32)), (.int (105 : Int32)), (.int (102 : Int32))]) (z := (4 : Int32)) (by decide) (by decide) rfl (g := (mkF m 15 #[.val (.int p1), .val (.int (3 : Int32)), .val (.ref s_NONE), .val (.ref l_NONE), .unset, .unset] [(.ref l_NONE)])) rfl (hb hby at_15) (n := 16) (by decide) (by decide) (by decide) (by decide)
    refine Go.step st227 ?_
    have F228 : Sta Z h227 "com/example/inchworm/inchworm/photos/PositionKind" "EXIF" "Lcom/example/inchworm/inchworm/photos/PositionKind;" (.ref s_EXIF) := (S_EXIF.ext E227)
    have F229 : Sta Z h227 "com/example/inchworm/inchworm/photos/PositionKind" "ZERO" "Lcom/example/inchworm/inchworm/photos/PositionKind;" (.ref s_ZERO) := (S_ZERO.ext E227)
    have F230 : Sta Z h227 "com/example/inchworm/inchworm/photos/PositionKind" "INVALID" "Lcom/example/inchworm/inchworm/photos/PositionKind;" (.ref s_INVALID) := (S_INVALID.ext E227)
    have F231 : Sta Z h227 "com/example/inchworm/inchworm/photos/PositionKind" "NONE" "Lcom/example/inchworm/inchworm/photos/PositionKind;" (.ref s_NONE) := (S_NONE.ext E227)
    have F232 : Sta Z h227 "java/lang/String" "COMPACT_STRINGS" "Z" (.int cs) := (S_cs.ext E227)
    have F233 : Exa Z h227 s_EXIF "com/example/inchworm/inchworm/photos/PositionKind" := (E_EXIF.ext E227)
    have F234 : Fld Z h227 s_EXIF "com/example/inchworm/inchworm/photos/PositionKind" "label" "Ljava/lang/String;" (.ref l_EXIF) := (Fl_EXIF.ext E227)
    have F235 : Fld Z h227 s_EXIF "java/lang/Enum" "ordinal" "I" (.int (0 : Int32)) := (Fo_EXIF.ext E227)
    have F236 : Exa Z h227 l_EXIF "java/lang/String" := (E_lEXIF.ext E227)
    have F237 : Fld Z h227 l_EXIF "java/lang/String" "coder" "B" (.int (0 : Int32)) := (Fc_lEXIF.ext E227)
    have F238 : Fld Z h227 l_EXIF "java/lang/String" "value" "[B" (.ref v_EXIF) := (Fv_lEXIF.ext E227)
    have F239 : Arv Z h227 v_EXIF k_EXIF .byte (4 : Int32) [(.int (101 : Int32)), (.int (120 : Int32)), (.int (105 : Int32)), (.int (102 : Int32))] (.int (0 : Int32)) := (V_lEXIF.ext E227)
    have F240 : Exa Z h227 s_ZERO "com/example/inchworm/inchworm/photos/PositionKind" := (E_ZERO.ext E227)
    have F241 : Fld Z h227 s_ZERO "com/example/inchworm/inchworm/photos/PositionKind" "label" "Ljava/lang/String;" (.ref l_ZERO) := (Fl_ZERO.ext E227)
    have F242 : Fld Z h227 s_ZERO "java/lang/Enum" "ordinal" "I" (.int (1 : Int32)) := (Fo_ZERO.ext E227)
    have F243 : Exa Z h227 l_ZERO "java/lang/String" := (E_lZERO.ext E227)
    have F244 : Fld Z h227 l_ZERO "java/lang/String" "coder" "B" (.int (0 : Int32)) := (Fc_lZERO.ext E227)
    have F245 : Fld Z h227 l_ZERO "java/lang/String" "value" "[B" (.ref v_ZERO) := (Fv_lZERO.ext E227)
    have F246 : Arv Z h227 v_ZERO k_ZERO .byte (4 : Int32) [(.int (122 : Int32)), (.int (101 : Int32)), (.int (114 : Int32)), (.int (111 : Int32))] (.int (0 : Int32)) := (V_lZERO.ext E227)
    have F247 : Exa Z h227 s_INVALID "com/example/inchworm/inchworm/photos/PositionKind" := (E_INVALID.ext E227)
    have F248 : Fld Z h227 s_INVALID "com/example/inchworm/inchworm/photos/PositionKind" "label" "Ljava/lang/String;" (.ref l_INVALID) := (Fl_INVALID.ext E227)
    have F249 : Fld Z h227 s_INVALID "java/lang/Enum" "ordinal" "I" (.int (2 : Int32)) := (Fo_INVALID.ext E227)
    have F250 : Exa Z h227 l_INVALID "java/lang/String" := (E_lINVALID.ext E227)
    have F251 : Fld Z h227 l_INVALID "java/lang/String" "coder" "B" (.int (0 : Int32)) := (Fc_lINVALID.ext E227)
    have F252 : Fld Z h227 l_INVALID "java/lang/String" "value" "[B" (.ref v_INVALID) := (Fv_lINVALID.ext E227)
    have F253 : Arv Z h227 v_INVALID k_INVALID .byte (7 : Int32) [(.int (105 : Int32)), (.int (110 : Int32)), (.int (118 : Int32)), (.int (97 : Int32)), (.int (108 : Int32)), (.int (105 : Int32)), (.int (100 : Int32))] (.int (0 : Int32)) := (V_lINVALID.ext E227)
    have F254 : Exa Z h227 s_NONE "com/example/inchworm/inchworm/photos/PositionKind" := (E_NONE.ext E227)
    have F255 : Fld Z h227 s_NONE "com/example/inchworm/inchworm/photos/PositionKind" "label" "Ljava/lang/String;" (.ref l_NONE) := (Fl_NONE.ext E227)
    have F256 : Fld Z h227 s_NONE "java/lang/Enum" "ordinal" "I" (.int (3 : Int32)) := (Fo_NONE.ext E227)
    have F257 : Exa Z h227 l_NONE "java/lang/String" := (E_lNONE.ext E227)
    have F258 : Fld Z h227 l_NONE "java/lang/String" "coder" "B" (.int (0 : Int32)) := (Fc_lNONE.ext E227)
    have F259 : Fld Z h227 l_NONE "java/lang/String" "value" "[B" (.ref v_NONE) := (Fv_lNONE.ext E227)
    have F260 : Arv Z h227 v_NONE k_NONE .byte (4 : Int32) [(.int (110 : Int32)), (.int (111 : Int32)), (.int (110 : Int32)), (.int (101 : Int32))] (.int (0 : Int32)) := (V_lNONE.ext E227)
    have Z261 : n0 ≤ h227.size := (Nat.le_trans Z0 E227.1)
    have C262 := (C0.trans Cq227)
    show Go p.tables e below _ (T227.setTop (mkF m 17 #[.val (.int p1), .val (.int (3 : Int32)), .val (.ref s_NONE), .val (.ref l_NONE), .unset, .unset] [(.ref b227), (.ref l_NONE)]))
    obtain ⟨cq263, kq263, q263a, q263b, q263c⟩ := isOf hZ e227 F257
    obtain ⟨_, _, ⟨T263, L263, k263, n263⟩, -, X263, ⟨Lc263, hQ263, l263, y263, z263⟩, st263⟩ := X227.virtualBack hx (y := (⟨"java/lang/String", "equals", "(Ljava/lang/Object;)Z"⟩ : MethodName)) (z := (⟨"java/lang/String", "equals", "(Ljava/lang/Object;)Z"⟩ : MethodName)) hown (mvT hZ (hw _ (List.mem_of_getElem? (i := 22) rfl))) (mvT hZ (hw _ (List.mem_of_getElem? (i := 23) rfl))) (notFace_of_selects (args := #[]) (mvT hZ (hw _ (List.mem_of_getElem? (i := 25) rfl)))) (mvT hZ (hw _ (List.mem_of_getElem? (i := 25) rfl))) (mvT hZ (hw _ (List.mem_of_getElem? (i := 24) rfl))) (by decide) (backOf (W := 0) (rmeq6 l Z a0 hw [] l_NONE b227 v_NONE k_NONE ba227 kc227 cs h227 n0 Z261 F257 F258 F259 F260 Ex227 Fc227 Fv227 Vb227 F232 hcs) hZ (hw _ (List.mem_of_getElem? (i := 26) rfl)) (hw _ (List.mem_of_getElem? (i := 15) rfl)) (by decide) (by decide)) q263a q263c (g := (mkF m 17 #[.val (.int p1), .val (.int (3 : Int32)), .val (.ref s_NONE), .val (.ref l_NONE), .unset, .unset] [(.ref b227), (.ref l_NONE)])) rfl (by rw [hml]; rfl) (Steps.refl _) (argsL := [(.ref b227)]) (rest := []) (lenOf pd_4 rfl) rfl (by show 2 * 0 + _ ≤ _; exact Nat.le_of_eq rfl) (hb hby at_17) (fun _ _ => ⟨rfl, e227, (by decide : 2 + 0 ≤ _), (by decide : 20 + 0 ≤ _)⟩)
    dsimp only [Pt.U, Pt.locs, Pt.cells, Pt.slots] at X263 l263 y263 z263 st263 hQ263
    subst l263 y263 z263
    obtain ⟨rfl, N263q, eh263⟩ := hQ263
    have N263 := Fr.app N226 N263q
    refine Go.step (fun _ kt => st263.trans kt) ?_
    show Go p.tables e below _ (T263.setTop (mkF m 20 #[.val (.int p1), .val (.int (3 : Int32)), .val (.ref s_NONE), .val (.ref l_NONE), .unset, .unset] [(.int (0 : Int32))]))
    refine Go.step (fun _ kt => XS.istore X263.here hx rfl (hb hby at_20) rfl (l' := #[.val (.int p1), .val (.int (3 : Int32)), .val (.ref s_NONE), .val (.ref l_NONE), .val (.int (0 : Int32)), .unset]) rfl kt) ?_
    show Go p.tables e below _ (T263.setTop (mkF m 22 #[.val (.int p1), .val (.int (3 : Int32)), .val (.ref s_NONE), .val (.ref l_NONE), .val (.int (0 : Int32)), .unset] []))
    refine Go.step (fun _ kt => XS.aloadN X263.here hx rfl (hb hby at_22) rfl rfl kt) ?_
    show Go p.tables e below _ (T263.setTop (mkF m 23 #[.val (.int p1), .val (.int (3 : Int32)), .val (.ref s_NONE), .val (.ref l_NONE), .val (.int (0 : Int32)), .unset] [(.ref s_NONE)]))
    obtain ⟨cq264, kq264, q264a, q264b, q264c⟩ := isOf hZ eh263 F254
    obtain ⟨_, _, ⟨T264, L264, k264, n264⟩, -, X264, ⟨Lc264, hQ264, l264, y264, z264⟩, st264⟩ := X263.virtualBack hx (y := (⟨"com/example/inchworm/inchworm/photos/PositionKind", "located", "()Z"⟩ : MethodName)) (z := (⟨"com/example/inchworm/inchworm/photos/PositionKind", "located", "()Z"⟩ : MethodName)) hown (mvT hZ (hw _ (List.mem_of_getElem? (i := 36) rfl))) (mvT hZ (hw _ (List.mem_of_getElem? (i := 37) rfl))) (notFace_of_selects (args := #[]) (mvT hZ (hw _ (List.mem_of_getElem? (i := 39) rfl)))) (mvT hZ (hw _ (List.mem_of_getElem? (i := 39) rfl))) (mvT hZ (hw _ (List.mem_of_getElem? (i := 38) rfl))) (by decide) (backOf (W := 0) (rml3 l Z a0 hw [] s_NONE  h227 n0 Z261 F254 F256 ) hZ (hw _ (List.mem_of_getElem? (i := 40) rfl)) (hw _ (List.mem_of_getElem? (i := 5) rfl)) (by decide) (by decide)) q264a q264c (g := (mkF m 23 #[.val (.int p1), .val (.int (3 : Int32)), .val (.ref s_NONE), .val (.ref l_NONE), .val (.int (0 : Int32)), .unset] [(.ref s_NONE)])) rfl (by rw [hml]; rfl) (Steps.refl _) (argsL := []) (rest := []) (lenOf pd_5 rfl) rfl (by show 2 * 0 + _ ≤ _; exact Nat.le_of_eq rfl) (hb hby at_23) (fun _ _ => ⟨rfl, eh263, (by decide : 2 + 0 ≤ _), (by decide : 20 + 0 ≤ _)⟩)
    dsimp only [Pt.U, Pt.locs, Pt.cells, Pt.slots] at X264 l264 y264 z264 st264 hQ264
    subst l264 y264 z264
    obtain ⟨rfl, N264q, eh264⟩ := hQ264
    have N264 := Fr.app N263 N264q
    refine Go.step (fun _ kt => st264.trans kt) ?_
    show Go p.tables e below _ (T264.setTop (mkF m 26 #[.val (.int p1), .val (.int (3 : Int32)), .val (.ref s_NONE), .val (.ref l_NONE), .val (.int (0 : Int32)), .unset] [(.int (0 : Int32))]))
    refine Go.step (fun _ kt => XS.istore X264.here hx rfl (hb hby at_26) rfl (l' := #[.val (.int p1), .val (.int (3 : Int32)), .val (.ref s_NONE), .val (.ref l_NONE), .val (.int (0 : Int32)), .val (.int (0 : Int32))]) rfl kt) ?_
    show Go p.tables e below _ (T264.setTop (mkF m 28 #[.val (.int p1), .val (.int (3 : Int32)), .val (.ref s_NONE), .val (.ref l_NONE), .val (.int (0 : Int32)), .val (.int (0 : Int32))] []))
    refine Go.step (fun _ kt => XS.iload X264.here hx rfl (hb hby at_28) rfl kt) ?_
    show Go p.tables e below _ (T264.setTop (mkF m 30 #[.val (.int p1), .val (.int (3 : Int32)), .val (.ref s_NONE), .val (.ref l_NONE), .val (.int (0 : Int32)), .val (.int (0 : Int32))] [(.int (0 : Int32))]))
    refine Go.step (fun _ kt => XS.iload X264.here hx rfl (hb hby at_30) rfl kt) ?_
    show Go p.tables e below _ (T264.setTop (mkF m 32 #[.val (.int p1), .val (.int (3 : Int32)), .val (.ref s_NONE), .val (.ref l_NONE), .val (.int (0 : Int32)), .val (.int (0 : Int32))] [(.int (0 : Int32)), (.int (0 : Int32))]))
    refine Go.step (fun _ kt => XS.icmpNo X264.here hx rfl (hb hby at_32) rfl (teq (by decide : (0 : Int32) = (0 : Int32))).2 kt) ?_
    show Go p.tables e below _ (T264.setTop (mkF m 35 #[.val (.int p1), .val (.int (3 : Int32)), .val (.ref s_NONE), .val (.ref l_NONE), .val (.int (0 : Int32)), .val (.int (0 : Int32))] []))
    refine Go.step (fun _ kt => XS.iconst X264.here hx rfl (hb hby at_35) kt) ?_
    show Go p.tables e below _ (T264.setTop (mkF m 36 #[.val (.int p1), .val (.int (3 : Int32)), .val (.ref s_NONE), .val (.ref l_NONE), .val (.int (0 : Int32)), .val (.int (0 : Int32))] [(.int (1 : Int32))]))
    refine Go.step (fun _ kt => XS.goto X264.here hx rfl (pc0 := 36) (pc' := 40) rfl (hb hby at_36) (by decide) (by decide) kt) ?_
    show Go p.tables e below _ (T264.setTop (mkF m 40 #[.val (.int p1), .val (.int (3 : Int32)), .val (.ref s_NONE), .val (.ref l_NONE), .val (.int (0 : Int32)), .val (.int (0 : Int32))] [(.int (1 : Int32))]))
    obtain ⟨fs, hr, hrun, hended, hRW⟩ := X264.leaveW hS227 (by rw [eh264]; exact hk227) (v := some (.int (1 : Int32))) (fun h => by rw [Bd.returns] at h; cases h)
    refine ⟨_, _, retN X264 hx (t := .boolean) Bd.returns (by simp) (hb hby at_40) hr, hrun, hended, _, _, rfl, ?_, (by have q := C262.trans (CHv.at X264 hZ (own_EW hw) C262.1); rw [hh]; rw [← eh264] at q; exact q), hRW.1, hRW.2.1, hRW.2.2.1, hRW.2.2.2.mono (by decide) (by decide)⟩
    show Qrm0 Z p1 s_EXIF s_ZERO s_INVALID s_NONE cs l_EXIF v_EXIF k_EXIF l_ZERO v_ZERO k_ZERO l_INVALID v_INVALID k_INVALID l_NONE v_NONE k_NONE h0 n0 _ T264.heap _
    rw [eh264]
    exact ⟨rfl, N264⟩
set_option maxRecDepth 65536 in
set_option maxHeartbeats 40000000 in
theorem comes_1 {Post : Tables → Env → Array Value → State → Outcome → State → Prop} (hpost : ∀ tb e args s v u, (limb_1_1.after args s (.returned v) u = true ∧ limb_1_2.after args s (.returned v) u = true ∧ True) → ReturnedEndW s (.returned v) u (Jvm.fieldLocs frame_1_writes args s ++ Jvm.arrayLocs frame_1_arrays args s ++ Jvm.staticLocs frame_1_statics s) 8 1088 → Post tb e args s (.returned v) u) :
    ArmFor flags0 classFile x code maxLocals ret World_1 tables_1 room_1 Calls_1 rest_1 Pre_1 Post := by
  intro l hfl _ _ p e ha hc hk s m args below hf hA hF happ hP
  obtain ⟨hcalls, hrest, hpre⟩ := hP
  obtain ⟨-, -, -, hnamed, -, -, -, hat⟩ := (Spec.applies_iff hf).mp happ
  obtain ⟨hg, hn⟩ := and_e (Cond.before_iff.mp (show (Jvm.Cond.and given_1 narrow_1).before args s = true from hpre))
  obtain ⟨hcount, hg1⟩ := and_e hg
  have ga0 := hg1
  obtain ⟨w0, rfl⟩ : ∃ w0 : Value, args = #[w0] := by
    have hs : args.size = 1 := by simpa [Cond.value, given_1] using hcount
    obtain ⟨L⟩ := args
    match L, hs with
    | [w0], _ => exact ⟨w0, rfl⟩
  have hw := fun d (hd : d ∈ tables_1) => atoms_spec (ws := Jvm.Cond.code x code maxLocals ret :: tables_1) hat d (List.mem_cons_of_mem _ hd)
  have hfit : Fit s := fun {y c} hc i hi => by
    obtain ⟨ha, rfl⟩ := Array.getElem?_eq_some_iff.mp hc
    have q := List.all_eq_true.mp ((Array.all_eq_true_iff_forall_mem.mp hF) _ (Array.getElem_mem ha)) i (List.mem_range.mpr hi)
    simpa [Array.getElem?_eq_getElem hi] using q
  obtain ⟨hsets, hown0⟩ := atoms_of _ (rest_1_c_eq ▸ (show rest_1_c.before _ s = true from hrest))
  have hr0 := Cond.before_iff.mp hown0
  obtain ⟨i0, ei0⟩ := is_v ga0
  obtain rfl : w0 = (.int i0) := Option.some.inj ei0
  obtain ⟨nq0, hn1⟩ := and_e hn
  obtain ⟨nq1, hn2⟩ := and_e hn1
  obtain ⟨nq2, hn3⟩ := and_e hn2
  obtain ⟨nq3, hn4⟩ := and_e hn3
  obtain ⟨nq4, hn5⟩ := and_e hn4
  obtain ⟨nq5, hn6⟩ := and_e hn5
  obtain ⟨nq6, hn7⟩ := and_e hn6
  obtain ⟨nq7, hn8⟩ := and_e hn7
  obtain ⟨nq8, hn9⟩ := and_e hn8
  obtain ⟨nq9, hn10⟩ := and_e hn9
  obtain ⟨nq10, hn11⟩ := and_e hn10
  obtain ⟨nq11, hn12⟩ := and_e hn11
  obtain ⟨nq12, hn13⟩ := and_e hn12
  obtain ⟨nq13, hn14⟩ := and_e hn13
  obtain ⟨nq14, hn15⟩ := and_e hn14
  obtain ⟨nq15, hn16⟩ := and_e hn15
  obtain ⟨nq16, hn17⟩ := and_e hn16
  obtain ⟨nq17, hn18⟩ := and_e hn17
  obtain ⟨nq18, hn19⟩ := and_e hn18
  obtain ⟨nq19, hn20⟩ := and_e hn19
  obtain ⟨nq20, hn21⟩ := and_e hn20
  obtain ⟨nq21, hn22⟩ := and_e hn21
  obtain ⟨nq22, hn23⟩ := and_e hn22
  obtain ⟨nq23, hn24⟩ := and_e hn23
  obtain ⟨nq24, hn25⟩ := and_e hn24
  obtain ⟨nq25, hn26⟩ := and_e hn25
  obtain ⟨nq26, hn27⟩ := and_e hn26
  obtain ⟨nq27, hn28⟩ := and_e hn27
  obtain ⟨nq28, hn29⟩ := and_e hn28
  obtain ⟨nq29, hn30⟩ := and_e hn29
  obtain ⟨nq30, hn31⟩ := and_e hn30
  obtain ⟨nq31, hn32⟩ := and_e hn31
  obtain ⟨nq32, hn33⟩ := and_e hn32
  obtain ⟨nq33, hn34⟩ := and_e hn33
  obtain ⟨nq34, hn35⟩ := and_e hn34
  obtain ⟨nq35, hn36⟩ := and_e hn35
  obtain ⟨nq36, hn37⟩ := and_e hn36
  obtain ⟨nq37, hn38⟩ := and_e hn37
  obtain ⟨nq38, hn39⟩ := and_e hn38
  obtain ⟨nq39, hn40⟩ := and_e hn39
  obtain ⟨nq40, hn41⟩ := and_e hn40
  obtain ⟨nq41, hn42⟩ := and_e hn41
  have nq42 := hn42
  obtain ⟨cs, evcs⟩ := is_v (Cond.before_iff.mp (hsets _ (List.mem_of_getElem? (i := 1) rfl)))
  have S_cs : Sta s s.heap "java/lang/String" "COMPACT_STRINGS" "Z" (.int cs) := Sta.start evcs (Or.inl (hsets _ (List.mem_of_getElem? (i := 0) rfl)))
  have hcs : ¬ cs = 0 := gotF (Cond.eq_ints evcs rfl) (not_v (Cond.before_iff.mp (hsets _ (List.mem_of_getElem? (i := 2) rfl))))
  have hCH : CHv s own_EL s.vm s.heap := CHv.start (own_EW hw) (fun p hp => hcalls.1 p hp) (hsets _ (List.mem_of_getElem? (i := 2) rfl)) (hw _ (List.mem_of_getElem? (i := 17) rfl)) (hw _ (List.mem_of_getElem? (i := 16) rfl))
  obtain ⟨s_EXIF, ev_EXIF⟩ := exa_v nq0
  have S_EXIF : Sta s s.heap "com/example/inchworm/inchworm/photos/PositionKind" "EXIF" "Lcom/example/inchworm/inchworm/photos/PositionKind;" (.ref s_EXIF) := Sta.start ev_EXIF (Or.inr ⟨(hw _ (List.mem_of_getElem? (i := 5) rfl)), (hw _ (List.mem_of_getElem? (i := 6) rfl))⟩)
  have E_EXIF : Exa s s.heap s_EXIF "com/example/inchworm/inchworm/photos/PositionKind" := Exa.start ev_EXIF nq0
  obtain ⟨l_EXIF, evl_EXIF⟩ := exa_v nq1
  have E_lEXIF : Exa s s.heap l_EXIF "java/lang/String" := Exa.start evl_EXIF nq1
  have Fl_EXIF : Fld s s.heap s_EXIF "com/example/inchworm/inchworm/photos/PositionKind" "label" "Ljava/lang/String;" (.ref l_EXIF) := Fld.start ((fld_at ev_EXIF).symm.trans evl_EXIF)
  have Fo_EXIF : Fld s s.heap s_EXIF "java/lang/Enum" "ordinal" "I" (.int (0 : Int32)) := Fld.start ((fld_at ev_EXIF).symm.trans (own_eqI nq9))
  have Fc_lEXIF : Fld s s.heap l_EXIF "java/lang/String" "coder" "B" (.int (0 : Int32)) := Fld.start ((fld_at evl_EXIF).symm.trans (own_eqI nq2))
  obtain ⟨v_EXIF, evv_EXIF⟩ := arr_v nq3
  have Fv_lEXIF : Fld s s.heap l_EXIF "java/lang/String" "value" "[B" (.ref v_EXIF) := Fld.start ((fld_at evl_EXIF).symm.trans evv_EXIF)
  obtain ⟨c_EXIF, Ar_EXIF⟩ := Arr.start evv_EXIF nq3
  obtain ⟨lq1_EXIF, lq2_EXIF⟩ := own_len (own_eqI nq4) evv_EXIF Ar_EXIF.1
  have V_lEXIF : Arv s s.heap v_EXIF c_EXIF.cls .byte (4 : Int32) [(.int (101 : Int32)), (.int (120 : Int32)), (.int (105 : Int32)), (.int (102 : Int32))] (.int (0 : Int32)) := Arv.start hfit Ar_EXIF lq1_EXIF lq2_EXIF (by decide) rfl ⟨(elem_in (own_eqI nq5) evv_EXIF rfl Ar_EXIF.1).2, (elem_in (own_eqI nq6) evv_EXIF rfl Ar_EXIF.1).2, (elem_in (own_eqI nq7) evv_EXIF rfl Ar_EXIF.1).2, (elem_in (own_eqI nq8) evv_EXIF rfl Ar_EXIF.1).2, trivial⟩
  obtain ⟨s_ZERO, ev_ZERO⟩ := exa_v nq23
  have S_ZERO : Sta s s.heap "com/example/inchworm/inchworm/photos/PositionKind" "ZERO" "Lcom/example/inchworm/inchworm/photos/PositionKind;" (.ref s_ZERO) := Sta.start ev_ZERO (Or.inr ⟨(hw _ (List.mem_of_getElem? (i := 5) rfl)), (hw _ (List.mem_of_getElem? (i := 55) rfl))⟩)
  have E_ZERO : Exa s s.heap s_ZERO "com/example/inchworm/inchworm/photos/PositionKind" := Exa.start ev_ZERO nq23
  obtain ⟨l_ZERO, evl_ZERO⟩ := exa_v nq24
  have E_lZERO : Exa s s.heap l_ZERO "java/lang/String" := Exa.start evl_ZERO nq24
  have Fl_ZERO : Fld s s.heap s_ZERO "com/example/inchworm/inchworm/photos/PositionKind" "label" "Ljava/lang/String;" (.ref l_ZERO) := Fld.start ((fld_at ev_ZERO).symm.trans evl_ZERO)
  have Fo_ZERO : Fld s s.heap s_ZERO "java/lang/Enum" "ordinal" "I" (.int (1 : Int32)) := Fld.start ((fld_at ev_ZERO).symm.trans (own_eqI nq29))
  have Fc_lZERO : Fld s s.heap l_ZERO "java/lang/String" "coder" "B" (.int (0 : Int32)) := Fld.start ((fld_at evl_ZERO).symm.trans (own_eqI nq25))
  obtain ⟨v_ZERO, evv_ZERO⟩ := arr_v nq26
  have Fv_lZERO : Fld s s.heap l_ZERO "java/lang/String" "value" "[B" (.ref v_ZERO) := Fld.start ((fld_at evl_ZERO).symm.trans evv_ZERO)
  obtain ⟨c_ZERO, Ar_ZERO⟩ := Arr.start evv_ZERO nq26
  obtain ⟨lq1_ZERO, lq2_ZERO⟩ := own_len (own_eqI nq27) evv_ZERO Ar_ZERO.1
  have V_lZERO : Arv s s.heap v_ZERO c_ZERO.cls .byte (4 : Int32) [(.int (122 : Int32)), (.int (101 : Int32)), (.int (114 : Int32)), (.int (111 : Int32))] (.int (0 : Int32)) := Arv.start hfit Ar_ZERO lq1_ZERO lq2_ZERO (by decide) rfl ⟨(elem_in (own_eqI nq28) evv_ZERO rfl Ar_ZERO.1).2, (elem_in (own_eqI nq33) evv_ZERO rfl Ar_ZERO.1).2, (elem_in (own_eqI nq34) evv_ZERO rfl Ar_ZERO.1).2, (elem_in (own_eqI nq35) evv_ZERO rfl Ar_ZERO.1).2, trivial⟩
  obtain ⟨s_INVALID, ev_INVALID⟩ := exa_v nq17
  have S_INVALID : Sta s s.heap "com/example/inchworm/inchworm/photos/PositionKind" "INVALID" "Lcom/example/inchworm/inchworm/photos/PositionKind;" (.ref s_INVALID) := Sta.start ev_INVALID (Or.inr ⟨(hw _ (List.mem_of_getElem? (i := 5) rfl)), (hw _ (List.mem_of_getElem? (i := 53) rfl))⟩)
  have E_INVALID : Exa s s.heap s_INVALID "com/example/inchworm/inchworm/photos/PositionKind" := Exa.start ev_INVALID nq17
  obtain ⟨l_INVALID, evl_INVALID⟩ := exa_v nq18
  have E_lINVALID : Exa s s.heap l_INVALID "java/lang/String" := Exa.start evl_INVALID nq18
  have Fl_INVALID : Fld s s.heap s_INVALID "com/example/inchworm/inchworm/photos/PositionKind" "label" "Ljava/lang/String;" (.ref l_INVALID) := Fld.start ((fld_at ev_INVALID).symm.trans evl_INVALID)
  have Fo_INVALID : Fld s s.heap s_INVALID "java/lang/Enum" "ordinal" "I" (.int (2 : Int32)) := Fld.start ((fld_at ev_INVALID).symm.trans (own_eqI nq22))
  have Fc_lINVALID : Fld s s.heap l_INVALID "java/lang/String" "coder" "B" (.int (0 : Int32)) := Fld.start ((fld_at evl_INVALID).symm.trans (own_eqI nq19))
  obtain ⟨v_INVALID, evv_INVALID⟩ := arr_v nq20
  have Fv_lINVALID : Fld s s.heap l_INVALID "java/lang/String" "value" "[B" (.ref v_INVALID) := Fld.start ((fld_at evl_INVALID).symm.trans evv_INVALID)
  obtain ⟨c_INVALID, Ar_INVALID⟩ := Arr.start evv_INVALID nq20
  obtain ⟨lq1_INVALID, lq2_INVALID⟩ := own_len (own_eqI nq21) evv_INVALID Ar_INVALID.1
  have V_lINVALID : Arv s s.heap v_INVALID c_INVALID.cls .byte (7 : Int32) [(.int (105 : Int32)), (.int (110 : Int32)), (.int (118 : Int32)), (.int (97 : Int32)), (.int (108 : Int32)), (.int (105 : Int32)), (.int (100 : Int32))] (.int (0 : Int32)) := Arv.start hfit Ar_INVALID lq1_INVALID lq2_INVALID (by decide) rfl ⟨(elem_in (own_eqI nq36) evv_INVALID rfl Ar_INVALID.1).2, (elem_in (own_eqI nq37) evv_INVALID rfl Ar_INVALID.1).2, (elem_in (own_eqI nq38) evv_INVALID rfl Ar_INVALID.1).2, (elem_in (own_eqI nq39) evv_INVALID rfl Ar_INVALID.1).2, (elem_in (own_eqI nq40) evv_INVALID rfl Ar_INVALID.1).2, (elem_in (own_eqI nq41) evv_INVALID rfl Ar_INVALID.1).2, (elem_in (own_eqI nq42) evv_INVALID rfl Ar_INVALID.1).2, trivial⟩
  obtain ⟨s_NONE, ev_NONE⟩ := exa_v nq10
  have S_NONE : Sta s s.heap "com/example/inchworm/inchworm/photos/PositionKind" "NONE" "Lcom/example/inchworm/inchworm/photos/PositionKind;" (.ref s_NONE) := Sta.start ev_NONE (Or.inr ⟨(hw _ (List.mem_of_getElem? (i := 5) rfl)), (hw _ (List.mem_of_getElem? (i := 51) rfl))⟩)
  have E_NONE : Exa s s.heap s_NONE "com/example/inchworm/inchworm/photos/PositionKind" := Exa.start ev_NONE nq10
  obtain ⟨l_NONE, evl_NONE⟩ := exa_v nq11
  have E_lNONE : Exa s s.heap l_NONE "java/lang/String" := Exa.start evl_NONE nq11
  have Fl_NONE : Fld s s.heap s_NONE "com/example/inchworm/inchworm/photos/PositionKind" "label" "Ljava/lang/String;" (.ref l_NONE) := Fld.start ((fld_at ev_NONE).symm.trans evl_NONE)
  have Fo_NONE : Fld s s.heap s_NONE "java/lang/Enum" "ordinal" "I" (.int (3 : Int32)) := Fld.start ((fld_at ev_NONE).symm.trans (own_eqI nq16))
  have Fc_lNONE : Fld s s.heap l_NONE "java/lang/String" "coder" "B" (.int (0 : Int32)) := Fld.start ((fld_at evl_NONE).symm.trans (own_eqI nq12))
  obtain ⟨v_NONE, evv_NONE⟩ := arr_v nq13
  have Fv_lNONE : Fld s s.heap l_NONE "java/lang/String" "value" "[B" (.ref v_NONE) := Fld.start ((fld_at evl_NONE).symm.trans evv_NONE)
  obtain ⟨c_NONE, Ar_NONE⟩ := Arr.start evv_NONE nq13
  obtain ⟨lq1_NONE, lq2_NONE⟩ := own_len (own_eqI nq14) evv_NONE Ar_NONE.1
  have V_lNONE : Arv s s.heap v_NONE c_NONE.cls .byte (4 : Int32) [(.int (110 : Int32)), (.int (111 : Int32)), (.int (110 : Int32)), (.int (101 : Int32))] (.int (0 : Int32)) := Arv.start hfit Ar_NONE lq1_NONE lq2_NONE (by decide) rfl ⟨(elem_in (own_eqI nq15) evv_NONE rfl Ar_NONE.1).2, (elem_in (own_eqI nq30) evv_NONE rfl Ar_NONE.1).2, (elem_in (own_eqI nq31) evv_NONE rfl Ar_NONE.1).2, (elem_in (own_eqI nq32) evv_NONE rfl Ar_NONE.1).2, trivial⟩
  obtain ⟨n, o, h1, h2, h3, _, L, rfl, ⟨rfl, N⟩, -, hq⟩ := rm0 l s _ hw tables_1 i0 s_EXIF s_ZERO s_INVALID s_NONE cs l_EXIF v_EXIF c_EXIF.cls l_ZERO v_ZERO c_ZERO.cls l_INVALID v_INVALID c_INVALID.cls l_NONE v_NONE c_NONE.cls s.heap s.heap.size (Nat.le_refl _) S_EXIF S_ZERO S_INVALID S_NONE S_cs E_EXIF Fl_EXIF Fo_EXIF E_lEXIF Fc_lEXIF Fv_lEXIF V_lEXIF E_ZERO Fl_ZERO Fo_ZERO E_lZERO Fc_lZERO Fv_lZERO V_lZERO E_INVALID Fl_INVALID Fo_INVALID E_lINVALID Fc_lINVALID Fv_lINVALID V_lINVALID E_NONE Fl_NONE Fo_NONE E_lNONE Fc_lNONE Fv_lNONE V_lNONE hcs p e ha hc hk s m _ below hf ((Spec.applies_iff_loose hf).mp happ).1 ⟨rfl, State.Warmed39.refl s, rfl, hCH⟩ trivial
  refine ⟨n, _, h1, h2, h3, hpost _ _ _ _ _ _ ⟨Cond.after_iff.mpr rfl, Cond.after_iff.mpr (eq_i res_at (Term.int_eval (1)) rfl), trivial⟩ ⟨hq.1, hq.2.1, hq.2.2.1, (hq.2.2.2.sift fun y hy => Or.inr (N y hy)).mono (by decide) (by decide)⟩⟩
theorem main_1_1 : Claimed_1_1 := comes_1 fun _ _ _ _ _ _ h hF => ⟨h.1, hF⟩
theorem main_1_2 : Claimed_1_2 := comes_1 fun _ _ _ _ _ _ h hF => ⟨h.2.1, hF⟩
end Jvm.Pilot.@@N@@
namespace Jvm.Pilot.@@N@@
open Jvm Jvm.ClassFile Sem Op Lib Jvm.Free Jvm.Stand Jvm.Pilot.@@N@@.Jvm.D
/-! MADE BY PROGRAM (witnessworld.py) out of the Statement's table words and the real class files: 19 classes; the members and pool entries that the words name. The judged class is class 1, her method 2. -/
namespace start1
open Jvm.ClassFile
def u (s : String) : CpInfo := .utf8 (stringToUtf16 s)
/-- a pool by its gaps: so many unusable entries, then the entry; so many at the end -/
def gap : Nat → List CpInfo → List CpInfo
  | 0, r => r
  | n + 1, r => .unusable :: gap n r
def poolList (es : List (Nat × CpInfo)) (last : Nat) : List CpInfo := es.foldr (fun e r => gap e.1 (e.2 :: r)) (gap last [])
def pool (es : List (Nat × CpInfo)) (last : Nat) : Array CpInfo := ⟨poolList es last⟩
def fileOf (pool : Array CpInfo) (this : Nat) (attrs : Array Attribute := #[]) (ms : Array MethodInfo := #[]) (fl : Nat := 33) (sup : Nat := 0) (ifs : Array Nat := #[]) (fds : Array FieldInfo := #[]) : ClassFile where
  minorVersion := 0
  majorVersion := 65
  constantPool := pool
  accessFlags := fl
  thisClass := this
  superClass := sup
  interfaces := ifs
  fields := fds
  methods := ms
  attributes := attrs
def plain (name : String) (sup : Option ClassId) : Class where
  name := name
  kind := .ordinary
  loader := none
  accessFlags := 33
  super := sup
  interfaces := #[]
  cf := none
  fields := #[]
  methods := #[]
  instanceTypes := #[]
  staticTypes := #[]
  resolved := #[]
  callSites := []
  init := .initialized
  statics := none
  mirror := none

def pool0 : Array CpInfo := pool [(5, u "<init>"), (0, u "()V"), (1, .class_ 10), (1, u "java/lang/Object")] 113

def k0m0 : Method := { name := "<init>", desc := "()V", sig := { parameters := [], returnType := none }, accessFlags := 1, code := none }
/-- java/lang/Object -/
def k0 : Class := { plain "java/lang/Object" none with
  accessFlags := 33
  interfaces := #[]
  cf := some (fileOf pool0 8 #[] #[{ accessFlags := 1, nameIndex := 5, descriptorIndex := 6, attributes := #[] }] 33 0 #[] #[])
  fields := #[]
  methods := #[k0m0]
  instanceTypes := #[]
  staticTypes := #[]
  resolved := Array.replicate 124 none
  statics := none }

def pool1 : Array CpInfo := pool [(2, .class_ 4), (1, u "java/lang/Object"), (0, u "<init>"), (0, u "()V"), (0, .fieldref 8 9), (0, .class_ 10), (0, .nameAndType 11 12), (0, u "com/example/inchworm/inchworm/photos/PositionKind"), (0, u "EXIF"), (0, u "Lcom/example/inchworm/inchworm/photos/PositionKind;"), (0, .fieldref 8 14), (0, .nameAndType 15 12), (0, u "ZERO"), (0, .fieldref 8 17), (0, .nameAndType 18 12), (0, u "INVALID"), (0, .fieldref 8 20), (0, .nameAndType 21 12), (0, u "NONE"), (0, .methodref 23 24), (0, .class_ 25), (0, .nameAndType 26 27), (0, u "com/example/inchworm/inchworm/photos/PositionKindLocatedPinLaw"), (0, u "pick"), (0, u "(I)Lcom/example/inchworm/inchworm/photos/PositionKind;"), (0, .methodref 8 29), (0, .nameAndType 30 31), (0, u "label"), (0, u "()Ljava/lang/String;"), (0, .string 33), (0, u "exif"), (0, .methodref 35 36), (0, .class_ 37), (0, .nameAndType 38 39), (0, u "java/lang/String"), (0, u "equals"), (0, u "(Ljava/lang/Object;)Z"), (0, .methodref 8 41), (0, .nameAndType 42 43), (0, u "located"), (0, u "()Z"), (3, u "law"), (0, u "(I)Z")] 2

def k1m0 : Method := { name := "<init>", desc := "()V", sig := { parameters := [], returnType := none }, accessFlags := 2, code := none }
def k1c1 : Code := { maxStack := 2, maxLocals := 1, code := method_2_code, exceptionTable := #[], attributes := #[] }
def k1m1 : Method := { name := "pick", desc := "(I)Lcom/example/inchworm/inchworm/photos/PositionKind;", sig := { parameters := [.int], returnType := some (.object "com/example/inchworm/inchworm/photos/PositionKind") }, accessFlags := 10, code := some k1c1 }
def k1c2 : Code := { maxStack := 2, maxLocals := 6, code := code, exceptionTable := #[], attributes := #[] }
def k1m2 : Method := { name := "law", desc := "(I)Z", sig := { parameters := [.int], returnType := some .boolean }, accessFlags := 9, code := some k1c2 }
/-- com/example/inchworm/inchworm/photos/PositionKindLocatedPinLaw -/
def k1 : Class := { plain "com/example/inchworm/inchworm/photos/PositionKindLocatedPinLaw" (some 0) with
  accessFlags := 49
  interfaces := #[]
  cf := some (fileOf pool1 23 #[] #[{ accessFlags := 2, nameIndex := 5, descriptorIndex := 6, attributes := #[] }, { accessFlags := 10, nameIndex := 26, descriptorIndex := 27, attributes := #[] }, { accessFlags := 9, nameIndex := 47, descriptorIndex := 48, attributes := #[] }] 49 2 #[] #[])
  fields := #[]
  methods := #[k1m0, k1m1, k1m2]
  instanceTypes := #[]
  staticTypes := #[]
  resolved := Array.replicate 51 none
  statics := none }

def pool2 : Array CpInfo := pool [(1, .class_ 2), (0, u "java/lang/constant/Constable"), (0, .class_ 4), (0, u "java/lang/Object")] 6

/-- java/lang/constant/Constable -/
def k2 : Class := { plain "java/lang/constant/Constable" (some 0) with
  accessFlags := 1537
  interfaces := #[]
  cf := some (fileOf pool2 1 #[] #[] 1537 3 #[] #[])
  fields := #[]
  methods := #[]
  instanceTypes := #[]
  staticTypes := #[]
  resolved := Array.replicate 11 none
  statics := none }

def pool3 : Array CpInfo := pool [(1, .class_ 2), (0, u "java/lang/Comparable"), (0, .class_ 4), (0, u "java/lang/Object")] 7

/-- java/lang/Comparable -/
def k3 : Class := { plain "java/lang/Comparable" (some 0) with
  accessFlags := 1537
  interfaces := #[]
  cf := some (fileOf pool3 1 #[] #[] 1537 3 #[] #[])
  fields := #[]
  methods := #[]
  instanceTypes := #[]
  staticTypes := #[]
  resolved := Array.replicate 12 none
  statics := none }

def pool4 : Array CpInfo := pool [(1, .class_ 2), (0, u "java/io/Serializable"), (0, .class_ 4), (0, u "java/lang/Object")] 2

/-- java/io/Serializable -/
def k4 : Class := { plain "java/io/Serializable" (some 0) with
  accessFlags := 1537
  interfaces := #[]
  cf := some (fileOf pool4 1 #[] #[] 1537 3 #[] #[])
  fields := #[]
  methods := #[]
  instanceTypes := #[]
  staticTypes := #[]
  resolved := Array.replicate 7 none
  statics := none }

def pool5 : Array CpInfo := pool [(2, .class_ 4), (1, u "java/lang/Enum"), (0, u "name"), (0, u "Ljava/lang/String;"), (0, .fieldref 2 8), (0, .nameAndType 9 10), (0, u "ordinal"), (0, u "I"), (1, .class_ 14), (1, u "java/lang/Object"), (4, u "hash"), (86, .class_ 108), (1, u "java/lang/Enum$EnumDesc"), (2, .class_ 112), (0, u "java/lang/constant/Constable"), (0, .class_ 114), (0, u "java/lang/Comparable"), (0, .class_ 116), (0, u "java/io/Serializable"), (9, u "()I")] 77

def k5c0 : Code := { maxStack := 1, maxLocals := 1, code := jdk_37_method_2_code, exceptionTable := #[], attributes := #[] }
def k5m0 : Method := { name := "ordinal", desc := "()I", sig := { parameters := [], returnType := some .int }, accessFlags := 17, code := some k5c0 }
/-- java/lang/Enum -/
def k5 : Class := { plain "java/lang/Enum" (some 0) with
  accessFlags := 1057
  interfaces := #[2, 3, 4]
  cf := some (fileOf pool5 2 #[.nestMembers #[106]] #[{ accessFlags := 17, nameIndex := 9, descriptorIndex := 126, attributes := #[] }] 1057 12 #[111, 113, 115] #[{ accessFlags := 18, nameIndex := 5, descriptorIndex := 6, attributes := #[] }, { accessFlags := 18, nameIndex := 9, descriptorIndex := 10, attributes := #[] }, { accessFlags := 2, nameIndex := 19, descriptorIndex := 10, attributes := #[] }])
  fields := #[{ name := "name", type := (.object "java/lang/String"), accessFlags := 18, slot := 0, constantValue := 0 }, { name := "ordinal", type := .int, accessFlags := 18, slot := 1, constantValue := 0 }, { name := "hash", type := .int, accessFlags := 2, slot := 2, constantValue := 0 }]
  methods := #[k5m0]
  instanceTypes := #[(.object "java/lang/String"), .int, .int]
  staticTypes := #[]
  resolved := Array.replicate 204 none
  statics := none }

def pool6 : Array CpInfo := pool [(9, .class_ 10), (0, u "com/example/inchworm/inchworm/photos/Labelled"), (23, .class_ 35), (0, u "java/lang/Object")] 24

/-- com/example/inchworm/inchworm/photos/Labelled -/
def k6 : Class := { plain "com/example/inchworm/inchworm/photos/Labelled" (some 0) with
  accessFlags := 1537
  interfaces := #[]
  cf := some (fileOf pool6 9 #[] #[] 1537 34 #[] #[])
  fields := #[]
  methods := #[]
  instanceTypes := #[]
  staticTypes := #[]
  resolved := Array.replicate 60 none
  statics := none }

def pool7 : Array CpInfo := pool [(1, .class_ 2), (0, u "com/example/inchworm/inchworm/photos/PositionKind"), (2, u "EXIF"), (0, u "Lcom/example/inchworm/inchworm/photos/PositionKind;"), (2, u "ZERO"), (2, u "INVALID"), (2, u "NONE"), (2, u "$VALUES"), (0, u "[Lcom/example/inchworm/inchworm/photos/PositionKind;"), (6, .class_ 28), (1, u "java/lang/Enum"), (6, .fieldref 1 36), (0, .nameAndType 37 38), (0, u "label"), (0, u "Ljava/lang/String;"), (0, .methodref 1 40), (0, .nameAndType 41 42), (0, u "ordinal"), (0, u "()I"), (24, .class_ 68), (0, u "com/example/inchworm/inchworm/photos/Labelled"), (7, u "()Ljava/lang/String;"), (0, u "located"), (0, u "()Z")] 6

def k7c0 : Code := { maxStack := 1, maxLocals := 1, code := prog_53_method_4_code, exceptionTable := #[], attributes := #[] }
def k7m0 : Method := { name := "label", desc := "()Ljava/lang/String;", sig := { parameters := [], returnType := some (.object "java/lang/String") }, accessFlags := 1, code := some k7c0 }
def k7c1 : Code := { maxStack := 4, maxLocals := 1, code := prog_53_method_5_code, exceptionTable := #[], attributes := #[] }
def k7m1 : Method := { name := "located", desc := "()Z", sig := { parameters := [], returnType := some .boolean }, accessFlags := 1, code := some k7c1 }
/-- com/example/inchworm/inchworm/photos/PositionKind -/
def k7 : Class := { plain "com/example/inchworm/inchworm/photos/PositionKind" (some 5) with
  accessFlags := 16433
  interfaces := #[6]
  cf := some (fileOf pool7 1 #[] #[{ accessFlags := 1, nameIndex := 37, descriptorIndex := 76, attributes := #[] }, { accessFlags := 1, nameIndex := 77, descriptorIndex := 78, attributes := #[] }] 16433 26 #[67] #[{ accessFlags := 16409, nameIndex := 5, descriptorIndex := 6, attributes := #[] }, { accessFlags := 16409, nameIndex := 9, descriptorIndex := 6, attributes := #[] }, { accessFlags := 16409, nameIndex := 12, descriptorIndex := 6, attributes := #[] }, { accessFlags := 16409, nameIndex := 15, descriptorIndex := 6, attributes := #[] }, { accessFlags := 18, nameIndex := 37, descriptorIndex := 38, attributes := #[] }, { accessFlags := 4122, nameIndex := 18, descriptorIndex := 19, attributes := #[] }])
  fields := #[{ name := "EXIF", type := (.object "com/example/inchworm/inchworm/photos/PositionKind"), accessFlags := 16409, slot := 0, constantValue := 0 }, { name := "ZERO", type := (.object "com/example/inchworm/inchworm/photos/PositionKind"), accessFlags := 16409, slot := 1, constantValue := 0 }, { name := "INVALID", type := (.object "com/example/inchworm/inchworm/photos/PositionKind"), accessFlags := 16409, slot := 2, constantValue := 0 }, { name := "NONE", type := (.object "com/example/inchworm/inchworm/photos/PositionKind"), accessFlags := 16409, slot := 3, constantValue := 0 }, { name := "label", type := (.object "java/lang/String"), accessFlags := 18, slot := 3, constantValue := 0 }, { name := "$VALUES", type := (.array (.object "com/example/inchworm/inchworm/photos/PositionKind")), accessFlags := 4122, slot := 4, constantValue := 0 }]
  methods := #[k7m0, k7m1]
  instanceTypes := #[(.object "java/lang/String"), .int, .int, (.object "java/lang/String")]
  staticTypes := #[(.object "com/example/inchworm/inchworm/photos/PositionKind"), (.object "com/example/inchworm/inchworm/photos/PositionKind"), (.object "com/example/inchworm/inchworm/photos/PositionKind"), (.object "com/example/inchworm/inchworm/photos/PositionKind"), (.array (.object "com/example/inchworm/inchworm/photos/PositionKind"))]
  resolved := Array.replicate 85 none
  statics := some 0 }

def pool8 : Array CpInfo := pool [(2, .class_ 4), (1, u "java/lang/CharSequence"), (42, .class_ 48), (0, u "java/lang/CharSequence$1CodePointIterator"), (10, .class_ 60), (0, u "java/lang/CharSequence$1CharIterator"), (5, .class_ 67), (0, u "java/lang/Object")] 63

/-- java/lang/CharSequence -/
def k8 : Class := { plain "java/lang/CharSequence" (some 0) with
  accessFlags := 1537
  interfaces := #[]
  cf := some (fileOf pool8 2 #[.nestMembers #[47, 59]] #[] 1537 66 #[] #[])
  fields := #[]
  methods := #[]
  instanceTypes := #[]
  staticTypes := #[]
  resolved := Array.replicate 131 none
  statics := none }

def pool9 : Array CpInfo := pool [(1, .class_ 2), (0, u "java/lang/constant/ConstantDesc"), (0, .class_ 4), (0, u "java/lang/Object")] 32

/-- java/lang/constant/ConstantDesc -/
def k9 : Class := { plain "java/lang/constant/ConstantDesc" (some 0) with
  accessFlags := 1537
  interfaces := #[]
  cf := some (fileOf pool9 1 #[] #[] 1537 3 #[] #[])
  fields := #[]
  methods := #[]
  instanceTypes := #[]
  staticTypes := #[]
  resolved := Array.replicate 37 none
  statics := none }

def pool10 : Array CpInfo := pool [(2, .class_ 4), (1, u "java/lang/Object"), (0, u "<init>"), (0, u "()V"), (2, .fieldref 10 11), (0, .class_ 12), (0, .nameAndType 13 14), (0, u "java/lang/String"), (0, u "value"), (0, u "[B"), (0, .fieldref 10 16), (0, .nameAndType 17 18), (0, u "coder"), (0, u "B"), (2, u "hash"), (0, u "I"), (2, u "hashIsZero"), (0, u "Z"), (11, .fieldref 10 39), (0, .nameAndType 40 26), (0, u "COMPACT_STRINGS"), (66, .class_ 109), (1, u "java/lang/StringLatin1"), (431, .methodref 107 542), (0, .nameAndType 543 544), (0, u "equals"), (0, u "([B[B)Z"), (28, u "(Ljava/lang/Object;)Z"), (1, .class_ 576), (0, u "java/lang/CharSequence"), (22, u "CASE_INSENSITIVE_ORDER"), (0, u "Ljava/util/Comparator;"), (500, u "serialPersistentFields"), (0, u "[Ljava/io/ObjectStreamField;"), (0, .class_ 1104), (0, u "java/lang/String$CaseInsensitiveComparator"), (1, .class_ 1107), (0, u "java/io/Serializable"), (0, .class_ 1109), (0, u "java/lang/Comparable"), (0, .class_ 1111), (0, u "java/lang/constant/Constable"), (0, .class_ 1113), (0, u "java/lang/constant/ConstantDesc"), (2, u "serialVersionUID"), (0, u "J"), (3, u "REPL"), (0, u "C"), (2, u "LATIN1"), (1, u "UTF16")] 323

def k10m0 : Method := { name := "<init>", desc := "()V", sig := { parameters := [], returnType := none }, accessFlags := 1, code := none }
def k10c1 : Code := { maxStack := 2, maxLocals := 3, code := jdk_42_method_66_code, exceptionTable := #[], attributes := #[] }
def k10m1 : Method := { name := "equals", desc := "(Ljava/lang/Object;)Z", sig := { parameters := [(.object "java/lang/Object")], returnType := some .boolean }, accessFlags := 1, code := some k10c1 }
/-- java/lang/String -/
def k10 : Class := { plain "java/lang/String" (some 0) with
  accessFlags := 49
  interfaces := #[4, 3, 8, 2, 9]
  cf := some (fileOf pool10 10 #[.nestMembers #[1103]] #[{ accessFlags := 1, nameIndex := 5, descriptorIndex := 6, attributes := #[] }, { accessFlags := 1, nameIndex := 543, descriptorIndex := 573, attributes := #[] }] 49 2 #[1106, 1108, 575, 1110, 1112] #[{ accessFlags := 18, nameIndex := 13, descriptorIndex := 14, attributes := #[] }, { accessFlags := 18, nameIndex := 17, descriptorIndex := 18, attributes := #[] }, { accessFlags := 2, nameIndex := 21, descriptorIndex := 22, attributes := #[] }, { accessFlags := 2, nameIndex := 25, descriptorIndex := 26, attributes := #[] }, { accessFlags := 26, nameIndex := 1116, descriptorIndex := 1117, attributes := #[] }, { accessFlags := 24, nameIndex := 40, descriptorIndex := 26, attributes := #[] }, { accessFlags := 26, nameIndex := 1101, descriptorIndex := 1102, attributes := #[] }, { accessFlags := 26, nameIndex := 1121, descriptorIndex := 1122, attributes := #[] }, { accessFlags := 25, nameIndex := 599, descriptorIndex := 600, attributes := #[] }, { accessFlags := 24, nameIndex := 1125, descriptorIndex := 18, attributes := #[] }, { accessFlags := 24, nameIndex := 1127, descriptorIndex := 18, attributes := #[] }])
  fields := #[{ name := "value", type := (.array .byte), accessFlags := 18, slot := 0, constantValue := 0 }, { name := "coder", type := .byte, accessFlags := 18, slot := 1, constantValue := 0 }, { name := "hash", type := .int, accessFlags := 2, slot := 2, constantValue := 0 }, { name := "hashIsZero", type := .boolean, accessFlags := 2, slot := 3, constantValue := 0 }, { name := "serialVersionUID", type := .long, accessFlags := 26, slot := 0, constantValue := 0 }, { name := "COMPACT_STRINGS", type := .boolean, accessFlags := 24, slot := 1, constantValue := 0 }, { name := "serialPersistentFields", type := (.array (.object "java/io/ObjectStreamField")), accessFlags := 26, slot := 2, constantValue := 0 }, { name := "REPL", type := .char, accessFlags := 26, slot := 3, constantValue := 0 }, { name := "CASE_INSENSITIVE_ORDER", type := (.object "java/util/Comparator"), accessFlags := 25, slot := 4, constantValue := 0 }, { name := "LATIN1", type := .byte, accessFlags := 24, slot := 5, constantValue := 0 }, { name := "UTF16", type := .byte, accessFlags := 24, slot := 6, constantValue := 0 }]
  methods := #[k10m0, k10m1]
  instanceTypes := #[(.array .byte), .byte, .int, .boolean]
  staticTypes := #[.long, .boolean, (.array (.object "java/io/ObjectStreamField")), .char, (.object "java/util/Comparator"), .byte, .byte]
  resolved := Array.replicate 1451 none
  statics := some 1 }

def pool11 : Array CpInfo := pool [(4, .class_ 6), (1, u "java/lang/Object"), (0, u "<init>"), (0, u "()V"), (5, .class_ 16), (1, u "java/lang/StringLatin1"), (104, u "$assertionsDisabled"), (0, u "Z"), (98, .class_ 223), (1, u "java/lang/StringLatin1$LinesSpliterator"), (57, u "equals"), (0, u "([B[B)Z"), (107, .class_ 391), (0, u "java/lang/StringLatin1$CharsSpliterator")] 3

def k11m0 : Method := { name := "<init>", desc := "()V", sig := { parameters := [], returnType := none }, accessFlags := 0, code := none }
def k11c1 : Code := { maxStack := 3, maxLocals := 3, code := jdk_43_method_13_code, exceptionTable := #[], attributes := #[] }
def k11m1 : Method := { name := "equals", desc := "([B[B)Z", sig := { parameters := [(.array .byte), (.array .byte)], returnType := some .boolean }, accessFlags := 9, code := some k11c1 }
/-- java/lang/StringLatin1 -/
def k11 : Class := { plain "java/lang/StringLatin1" (some 0) with
  accessFlags := 48
  interfaces := #[]
  cf := some (fileOf pool11 14 #[.nestMembers #[390, 221]] #[{ accessFlags := 0, nameIndex := 7, descriptorIndex := 8, attributes := #[] }, { accessFlags := 9, nameIndex := 281, descriptorIndex := 282, attributes := #[] }] 48 4 #[] #[{ accessFlags := 4120, nameIndex := 121, descriptorIndex := 122, attributes := #[] }])
  fields := #[{ name := "$assertionsDisabled", type := .boolean, accessFlags := 4120, slot := 0, constantValue := 0 }]
  methods := #[k11m0, k11m1]
  instanceTypes := #[]
  staticTypes := #[.boolean]
  resolved := Array.replicate 395 none
  statics := none }

def pool12 : Array CpInfo := pool [(2, .class_ 4), (1, u "java/lang/Object"), (0, u "<init>"), (0, u "()V"), (17, .class_ 26), (1, u "jdk/internal/util/Preconditions"), (28, .class_ 56), (0, u "jdk/internal/util/Preconditions$4"), (57, .class_ 115), (0, u "jdk/internal/util/Preconditions$1"), (7, u "SIOOBE_FORMATTER"), (0, u "Ljava/util/function/BiFunction;"), (0, .class_ 126), (0, u "jdk/internal/util/Preconditions$2"), (3, u "AIOOBE_FORMATTER"), (0, .class_ 132), (0, u "jdk/internal/util/Preconditions$3"), (3, u "IOOBE_FORMATTER")] 57

def k12m0 : Method := { name := "<init>", desc := "()V", sig := { parameters := [], returnType := none }, accessFlags := 1, code := none }
/-- jdk/internal/util/Preconditions -/
def k12 : Class := { plain "jdk/internal/util/Preconditions" (some 0) with
  accessFlags := 33
  interfaces := #[]
  cf := some (fileOf pool12 24 #[.nestMembers #[55, 131, 125, 114]] #[{ accessFlags := 1, nameIndex := 5, descriptorIndex := 6, attributes := #[] }] 33 2 #[] #[{ accessFlags := 25, nameIndex := 123, descriptorIndex := 124, attributes := #[] }, { accessFlags := 25, nameIndex := 130, descriptorIndex := 124, attributes := #[] }, { accessFlags := 25, nameIndex := 136, descriptorIndex := 124, attributes := #[] }])
  fields := #[{ name := "SIOOBE_FORMATTER", type := (.object "java/util/function/BiFunction"), accessFlags := 25, slot := 0, constantValue := 0 }, { name := "AIOOBE_FORMATTER", type := (.object "java/util/function/BiFunction"), accessFlags := 25, slot := 1, constantValue := 0 }, { name := "IOOBE_FORMATTER", type := (.object "java/util/function/BiFunction"), accessFlags := 25, slot := 2, constantValue := 0 }]
  methods := #[k12m0]
  instanceTypes := #[]
  staticTypes := #[(.object "java/util/function/BiFunction"), (.object "java/util/function/BiFunction"), (.object "java/util/function/BiFunction")]
  resolved := Array.replicate 194 none
  statics := some 2 }

def pool13 : Array CpInfo := pool [(9, u "<init>"), (6, .class_ 18), (1, u "java/lang/Object"), (0, u "()V"), (1, .class_ 23), (1, u "jdk/internal/util/ArraysSupport"), (0, u "LOG2_ARRAY_LONG_INDEX_SCALE"), (0, u "I"), (2, u "U"), (0, u "Ljdk/internal/misc/Unsafe;"), (8, u "BIG_ENDIAN"), (0, u "Z"), (8, u "LOG2_BYTE_BIT_SIZE"), (4, u "LOG2_ARRAY_INT_INDEX_SCALE"), (54, u "JLA"), (0, u "Ljdk/internal/access/JavaLangAccess;"), (11, u "LOG2_ARRAY_BOOLEAN_INDEX_SCALE"), (9, u "LOG2_ARRAY_BYTE_INDEX_SCALE"), (5, u "LOG2_ARRAY_CHAR_INDEX_SCALE"), (5, u "LOG2_ARRAY_SHORT_INDEX_SCALE"), (18, u "LOG2_ARRAY_FLOAT_INDEX_SCALE"), (24, u "LOG2_ARRAY_DOUBLE_INDEX_SCALE"), (89, u "T_BOOLEAN"), (2, u "T_CHAR"), (1, u "T_FLOAT"), (1, u "T_DOUBLE"), (1, u "T_BYTE"), (1, u "T_SHORT"), (1, u "T_INT"), (1, u "T_LONG"), (1, u "SOFT_MAX_ARRAY_LENGTH")] 83

def k13m0 : Method := { name := "<init>", desc := "()V", sig := { parameters := [], returnType := none }, accessFlags := 2, code := none }
/-- jdk/internal/util/ArraysSupport -/
def k13 : Class := { plain "jdk/internal/util/ArraysSupport" (some 0) with
  accessFlags := 33
  interfaces := #[]
  cf := some (fileOf pool13 21 #[] #[{ accessFlags := 2, nameIndex := 9, descriptorIndex := 19, attributes := #[] }] 33 16 #[] #[{ accessFlags := 24, nameIndex := 28, descriptorIndex := 29, attributes := #[] }, { accessFlags := 26, nameIndex := 38, descriptorIndex := 39, attributes := #[] }, { accessFlags := 25, nameIndex := 121, descriptorIndex := 25, attributes := #[] }, { accessFlags := 25, nameIndex := 131, descriptorIndex := 25, attributes := #[] }, { accessFlags := 25, nameIndex := 137, descriptorIndex := 25, attributes := #[] }, { accessFlags := 25, nameIndex := 143, descriptorIndex := 25, attributes := #[] }, { accessFlags := 25, nameIndex := 53, descriptorIndex := 25, attributes := #[] }, { accessFlags := 25, nameIndex := 24, descriptorIndex := 25, attributes := #[] }, { accessFlags := 25, nameIndex := 162, descriptorIndex := 25, attributes := #[] }, { accessFlags := 25, nameIndex := 187, descriptorIndex := 25, attributes := #[] }, { accessFlags := 26, nameIndex := 48, descriptorIndex := 25, attributes := #[] }, { accessFlags := 25, nameIndex := 277, descriptorIndex := 25, attributes := #[] }, { accessFlags := 25, nameIndex := 280, descriptorIndex := 25, attributes := #[] }, { accessFlags := 25, nameIndex := 282, descriptorIndex := 25, attributes := #[] }, { accessFlags := 25, nameIndex := 284, descriptorIndex := 25, attributes := #[] }, { accessFlags := 25, nameIndex := 286, descriptorIndex := 25, attributes := #[] }, { accessFlags := 25, nameIndex := 288, descriptorIndex := 25, attributes := #[] }, { accessFlags := 25, nameIndex := 290, descriptorIndex := 25, attributes := #[] }, { accessFlags := 25, nameIndex := 292, descriptorIndex := 25, attributes := #[] }, { accessFlags := 26, nameIndex := 108, descriptorIndex := 109, attributes := #[] }, { accessFlags := 25, nameIndex := 294, descriptorIndex := 25, attributes := #[] }])
  fields := #[{ name := "U", type := (.object "jdk/internal/misc/Unsafe"), accessFlags := 24, slot := 0, constantValue := 0 }, { name := "BIG_ENDIAN", type := .boolean, accessFlags := 26, slot := 1, constantValue := 0 }, { name := "LOG2_ARRAY_BOOLEAN_INDEX_SCALE", type := .int, accessFlags := 25, slot := 2, constantValue := 0 }, { name := "LOG2_ARRAY_BYTE_INDEX_SCALE", type := .int, accessFlags := 25, slot := 3, constantValue := 0 }, { name := "LOG2_ARRAY_CHAR_INDEX_SCALE", type := .int, accessFlags := 25, slot := 4, constantValue := 0 }, { name := "LOG2_ARRAY_SHORT_INDEX_SCALE", type := .int, accessFlags := 25, slot := 5, constantValue := 0 }, { name := "LOG2_ARRAY_INT_INDEX_SCALE", type := .int, accessFlags := 25, slot := 6, constantValue := 0 }, { name := "LOG2_ARRAY_LONG_INDEX_SCALE", type := .int, accessFlags := 25, slot := 7, constantValue := 0 }, { name := "LOG2_ARRAY_FLOAT_INDEX_SCALE", type := .int, accessFlags := 25, slot := 8, constantValue := 0 }, { name := "LOG2_ARRAY_DOUBLE_INDEX_SCALE", type := .int, accessFlags := 25, slot := 9, constantValue := 0 }, { name := "LOG2_BYTE_BIT_SIZE", type := .int, accessFlags := 26, slot := 10, constantValue := 0 }, { name := "T_BOOLEAN", type := .int, accessFlags := 25, slot := 11, constantValue := 0 }, { name := "T_CHAR", type := .int, accessFlags := 25, slot := 12, constantValue := 0 }, { name := "T_FLOAT", type := .int, accessFlags := 25, slot := 13, constantValue := 0 }, { name := "T_DOUBLE", type := .int, accessFlags := 25, slot := 14, constantValue := 0 }, { name := "T_BYTE", type := .int, accessFlags := 25, slot := 15, constantValue := 0 }, { name := "T_SHORT", type := .int, accessFlags := 25, slot := 16, constantValue := 0 }, { name := "T_INT", type := .int, accessFlags := 25, slot := 17, constantValue := 0 }, { name := "T_LONG", type := .int, accessFlags := 25, slot := 18, constantValue := 0 }, { name := "JLA", type := (.object "jdk/internal/access/JavaLangAccess"), accessFlags := 26, slot := 19, constantValue := 0 }, { name := "SOFT_MAX_ARRAY_LENGTH", type := .int, accessFlags := 25, slot := 20, constantValue := 0 }]
  methods := #[k13m0]
  instanceTypes := #[]
  staticTypes := #[(.object "jdk/internal/misc/Unsafe"), .boolean, .int, .int, .int, .int, .int, .int, .int, .int, .int, .int, .int, .int, .int, .int, .int, .int, .int, (.object "jdk/internal/access/JavaLangAccess"), .int]
  resolved := Array.replicate 378 none
  statics := none }

def pool14 : Array CpInfo := pool [(1, u "java/lang/Cloneable"), (0, .class_ 1), (0, u "java/lang/Object"), (0, .class_ 3)] 3

/-- java/lang/Cloneable -/
def k14 : Class := { plain "java/lang/Cloneable" (some 0) with
  accessFlags := 1537
  interfaces := #[]
  cf := some (fileOf pool14 2 #[] #[] 1537 4 #[] #[])
  fields := #[]
  methods := #[]
  instanceTypes := #[]
  staticTypes := #[]
  resolved := Array.replicate 8 none
  statics := none }

/-- the primitive byte -/
def k15 : Class := { plain "byte" none with kind := .primitive 'B', accessFlags := 0x411 }
/-- [B -/
def k16 : Class := { plain "[B" (some 0) with kind := .array 15 .byte, interfaces := #[14, 4], accessFlags := 1041 }

/-- the primitive int -/
def k17 : Class := { plain "int" none with kind := .primitive 'I', accessFlags := 0x411 }
/-- [I -/
def k18 : Class := { plain "[I" (some 0) with kind := .array 17 .int, interfaces := #[14, 4], accessFlags := 1041 }

def heap : Heap := #[{ cls := 7, slots := #[.ref 11, .ref 12, .ref 13, .ref 14, .null], vm := .statics 7 },
  { cls := 10, slots := #[.long 0, .int 1, .null, .int 0, .null, .int 0, .int 0], vm := .statics 10 },
  { cls := 12, slots := #[.null, .null, .null], vm := .statics 12 },
  { cls := 16, slots := #[.int 101, .int 120, .int 105, .int 102], vm := .none },
  { cls := 16, slots := #[.int 122, .int 101, .int 114, .int 111], vm := .none },
  { cls := 16, slots := #[.int 105, .int 110, .int 118, .int 97, .int 108, .int 105, .int 100], vm := .none },
  { cls := 16, slots := #[.int 110, .int 111, .int 110, .int 101], vm := .none },
  { cls := 10, slots := #[.ref 3, .int 0, .int 0, .int 0], vm := .none },
  { cls := 10, slots := #[.ref 4, .int 0, .int 0, .int 0], vm := .none },
  { cls := 10, slots := #[.ref 5, .int 0, .int 0, .int 0], vm := .none },
  { cls := 10, slots := #[.ref 6, .int 0, .int 0, .int 0], vm := .none },
  { cls := 7, slots := #[.null, .int 0, .int 0, .ref 7], vm := .none },
  { cls := 7, slots := #[.null, .int 1, .int 0, .ref 8], vm := .none },
  { cls := 7, slots := #[.null, .int 2, .int 0, .ref 9], vm := .none },
  { cls := 7, slots := #[.null, .int 3, .int 0, .ref 10], vm := .none }]
def classes : Array Class := #[k0, k1, k2, k3, k4, k5, k6, k7, k8, k9, k10, k11, k12, k13, k14, k15, k16, k17, k18]
def interned : List (Array UInt16 × Addr) := []
def slotsUsed : Nat := 66
def theMethod : MethodId := ⟨1, 2⟩
def args0 : Array Value := #[.int 5]
def aboutOver (below : List Frame) : State where
  vm := { classes := classes, interned := interned.toArray }
  heap := heap
  slotsUsed := slotsUsed
  threads := #[{ frames := .invoking theMethod args0 :: below }]
def below0 : List Frame := [.native { method := ⟨0, 0⟩, args := #[] }]
def about1 : State := aboutOver below0
def p0 : Program := .bare "" "" ""
def e0 : Env := launch0.env 0 0 0
theorem w_frames : about1.frames = Frame.invoking theMethod args0 :: below0 := rfl
set_option maxRecDepth 65536 in
theorem w_args : argsFit about1.vm theMethod args0 = true := by decide +kernel
set_option maxRecDepth 65536 in
theorem w_heap : heapFits about1 = true := by decide +kernel
set_option maxRecDepth 65536 in
theorem w_runnable : about1.curStatus? = some .runnable := by decide +kernel
set_option maxRecDepth 65536 in
theorem w_alone : about1.alone = true := by decide +kernel
set_option maxRecDepth 65536 in
theorem w_named : about1.methodNamed? x = some theMethod := by decide +kernel
set_option maxRecDepth 65536 in
theorem w_hears : about1.hears theMethod below0 = true := by decide +kernel
set_option maxRecDepth 65536 in
theorem w_ripe : about1.ripe theMethod args0 below0 = true := by decide +kernel
theorem w_running : about1.status = .running := rfl
set_option maxRecDepth 65536 in
theorem w_room : about1.hasRoom e0.platform room_1 = true :=
  launch0.hasRoom_least _ room_1 (by decide +kernel) (by decide +kernel) (by decide +kernel) (by decide +kernel) (by decide +kernel) (by decide +kernel)
theorem allAtoms_all (ts : List Jvm.Cond) (a : Array Jvm.Value) (st : Jvm.State) : (allAtoms ts).before a st = ts.all (fun c => c.before a st) := by
  induction ts with
  | nil => rfl
  | cons c t ih =>
    show (Jvm.Cond.and c (allAtoms t)).before a st = _
    rw [Jvm.Cond.before_and, ih, List.all_cons]
def words1 : List Jvm.Cond := Jvm.Cond.code x code maxLocals ret :: tables_1
/-- a 'code' word, met by the world's own term for the bytes: nothing is compared byte by byte -/
theorem code_word {y : MethodName} {bytes : ByteArray} {mx : Nat} {rt : Option FieldType} {a : Array Value} {s : State} {m : MethodId} {meth : Method} {c : Code} (h1 : s.methodNamed? y = some m) (h2 : s.vm.method? m = some meth) (h3 : meth.code = some c) (h4 : c.code = bytes)
    (h5 : (c.maxLocals == mx && c.exceptionTable.isEmpty && decide (c.maxStack ≤ mostOperands) && decide (meth.sig.returnType = rt) && !meth.locks && decide (parseMethodDescriptor y.desc = some meth.sig)) = true) : (Jvm.Cond.code y bytes mx rt).before a s = true := by
  simp only [Bool.and_eq_true, beq_iff_eq, Bool.not_eq_true', decide_eq_true_eq] at h5
  obtain ⟨⟨⟨⟨⟨g1, g2⟩, g3⟩, g4⟩, g5⟩, g6⟩ := h5
  simp [Cond.before, Cond.holds, Cond.value, h1, h2, h3, h4, g1, g2, g3, g4, g5, g6]
def isCode : Jvm.Cond → Bool
  | .code _ _ _ _ => true
  | _ => false
theorem all_split {L : List Jvm.Cond} {P : Jvm.Cond → Bool} (h1 : L.all (fun c => isCode c || P c) = true) (h2 : ∀ c ∈ L.filter isCode, P c = true) : L.all P = true := by
  refine List.all_eq_true.mpr fun c hc => ?_
  have h := List.all_eq_true.mp h1 c hc
  rcases Bool.eq_false_or_eq_true (isCode c) with hi | hi
  · exact h2 c (List.mem_filter.mpr ⟨hc, hi⟩)
  · simpa [hi] using h
set_option maxRecDepth 65536 in
theorem w_c0 : (Jvm.Cond.code x code maxLocals ret).before args0 about1 = true := code_word (m := ⟨1, 2⟩) (meth := k1m2) (c := k1c2) (by decide +kernel) rfl rfl rfl (by decide +kernel)
set_option maxRecDepth 65536 in
theorem w_c1 : (Jvm.Cond.code ({ cls := "com/example/inchworm/inchworm/photos/PositionKindLocatedPinLaw", name := "pick", desc := "(I)Lcom/example/inchworm/inchworm/photos/PositionKind;" } : Jvm.MethodName) method_2_code (1 : Nat) (Option.some (Jvm.ClassFile.FieldType.object "com/example/inchworm/inchworm/photos/PositionKind"))).before args0 about1 = true := code_word (m := ⟨1, 1⟩) (meth := k1m1) (c := k1c1) (by decide +kernel) rfl rfl rfl (by decide +kernel)
set_option maxRecDepth 65536 in
theorem w_c2 : (Jvm.Cond.code ({ cls := "com/example/inchworm/inchworm/photos/PositionKind", name := "label", desc := "()Ljava/lang/String;" } : Jvm.MethodName) prog_53_method_4_code (1 : Nat) (Option.some (Jvm.ClassFile.FieldType.object "java/lang/String"))).before args0 about1 = true := code_word (m := ⟨7, 0⟩) (meth := k7m0) (c := k7c0) (by decide +kernel) rfl rfl rfl (by decide +kernel)
set_option maxRecDepth 65536 in
theorem w_c3 : (Jvm.Cond.code ({ cls := "java/lang/String", name := "equals", desc := "(Ljava/lang/Object;)Z" } : Jvm.MethodName) jdk_42_method_66_code (3 : Nat) (Option.some Jvm.ClassFile.FieldType.boolean)).before args0 about1 = true := code_word (m := ⟨10, 1⟩) (meth := k10m1) (c := k10c1) (by decide +kernel) rfl rfl rfl (by decide +kernel)
set_option maxRecDepth 65536 in
theorem w_c4 : (Jvm.Cond.code ({ cls := "java/lang/StringLatin1", name := "equals", desc := "([B[B)Z" } : Jvm.MethodName) jdk_43_method_13_code (3 : Nat) (Option.some Jvm.ClassFile.FieldType.boolean)).before args0 about1 = true := code_word (m := ⟨11, 1⟩) (meth := k11m1) (c := k11c1) (by decide +kernel) rfl rfl rfl (by decide +kernel)
set_option maxRecDepth 65536 in
theorem w_c5 : (Jvm.Cond.code ({ cls := "com/example/inchworm/inchworm/photos/PositionKind", name := "located", desc := "()Z" } : Jvm.MethodName) prog_53_method_5_code (1 : Nat) (Option.some Jvm.ClassFile.FieldType.boolean)).before args0 about1 = true := code_word (m := ⟨7, 1⟩) (meth := k7m1) (c := k7c1) (by decide +kernel) rfl rfl rfl (by decide +kernel)
set_option maxRecDepth 65536 in
theorem w_c6 : (Jvm.Cond.code ({ cls := "java/lang/Enum", name := "ordinal", desc := "()I" } : Jvm.MethodName) jdk_37_method_2_code (1 : Nat) (Option.some Jvm.ClassFile.FieldType.int)).before args0 about1 = true := code_word (m := ⟨5, 0⟩) (meth := k5m0) (c := k5c0) (by decide +kernel) rfl rfl rfl (by decide +kernel)
def codes1 : List Jvm.Cond := [Jvm.Cond.code x code maxLocals ret, Jvm.Cond.code ({ cls := "com/example/inchworm/inchworm/photos/PositionKindLocatedPinLaw", name := "pick", desc := "(I)Lcom/example/inchworm/inchworm/photos/PositionKind;" } : Jvm.MethodName) method_2_code (1 : Nat) (Option.some (Jvm.ClassFile.FieldType.object "com/example/inchworm/inchworm/photos/PositionKind")), Jvm.Cond.code ({ cls := "com/example/inchworm/inchworm/photos/PositionKind", name := "label", desc := "()Ljava/lang/String;" } : Jvm.MethodName) prog_53_method_4_code (1 : Nat) (Option.some (Jvm.ClassFile.FieldType.object "java/lang/String")), Jvm.Cond.code ({ cls := "java/lang/String", name := "equals", desc := "(Ljava/lang/Object;)Z" } : Jvm.MethodName) jdk_42_method_66_code (3 : Nat) (Option.some Jvm.ClassFile.FieldType.boolean), Jvm.Cond.code ({ cls := "java/lang/StringLatin1", name := "equals", desc := "([B[B)Z" } : Jvm.MethodName) jdk_43_method_13_code (3 : Nat) (Option.some Jvm.ClassFile.FieldType.boolean), Jvm.Cond.code ({ cls := "com/example/inchworm/inchworm/photos/PositionKind", name := "located", desc := "()Z" } : Jvm.MethodName) prog_53_method_5_code (1 : Nat) (Option.some Jvm.ClassFile.FieldType.boolean), Jvm.Cond.code ({ cls := "java/lang/Enum", name := "ordinal", desc := "()I" } : Jvm.MethodName) jdk_37_method_2_code (1 : Nat) (Option.some Jvm.ClassFile.FieldType.int)]
set_option maxRecDepth 65536 in
theorem codes_eq : words1.filter isCode = codes1 := rfl
theorem w_codes : ∀ c ∈ words1.filter isCode, c.before args0 about1 = true := by
  rw [codes_eq]
  intro c hc
  simp only [codes1, List.mem_cons, List.not_mem_nil, or_false] at hc
  rcases hc with rfl | rfl | rfl | rfl | rfl | rfl | rfl
  · exact w_c0
  · exact w_c1
  · exact w_c2
  · exact w_c3
  · exact w_c4
  · exact w_c5
  · exact w_c6
set_option maxRecDepth 65536 in
theorem w_t1 : (words1.take 24).all (fun c => isCode c || c.before args0 about1) = true := by decide +kernel
set_option maxRecDepth 65536 in
theorem w_t2 : ((words1.drop 24).take 24).all (fun c => isCode c || c.before args0 about1) = true := by decide +kernel
set_option maxRecDepth 65536 in
theorem w_t3 : ((words1.drop 24).drop 24).all (fun c => isCode c || c.before args0 about1) = true := by decide +kernel
theorem w_tables : (allAtoms (Jvm.Cond.code x code maxLocals ret :: tables_1)).before args0 about1 = true := by
  rw [allAtoms_all]
  show words1.all (fun c => c.before args0 about1) = true
  refine all_split ?_ w_codes
  rw [← List.take_append_drop 24 words1, List.all_append, w_t1, ← List.take_append_drop 24 (words1.drop 24), List.all_append, w_t2, w_t3]
  rfl
set_option maxRecDepth 65536 in
theorem w_rest : rest_1_c.before args0 about1 = true := by decide +kernel
set_option maxRecDepth 65536 in
theorem w_case : (Jvm.Cond.and given_1 narrow_1).before args0 about1 = true := by decide +kernel
set_option maxRecDepth 65536 in
theorem w_consts : constsHeld consts_1 about1 := Jvm.Lit.constsHeldB_iff.mp (by decide +kernel)
theorem w_applies : (headSpec (Jvm.Cond.code x code maxLocals ret :: tables_1) room_1).applies x e0.platform about1 = true :=
  (Spec.applies_iff w_frames).mpr ⟨w_running, w_runnable, w_alone, w_named, w_hears, w_ripe, w_room, w_tables⟩
theorem atStart : AtStart classFile x code maxLocals ret World_1 tables_1 room_1 Calls_1 rest_1 Pre_1 launch0 p0 e0 about1 theMethod args0 below0 :=
  ⟨lists_1, trivial, launch0.admits_env _ _ _, launch0.least_env, fairChoices_fair.cas, fairChoices_fair.clock, w_frames, w_args, w_heap, w_applies, ⟨w_consts, trivial⟩, w_rest, w_case⟩
end start1
theorem witness_1 : WitnessClaimed_1 := ⟨start1.p0, start1.e0, start1.about1, start1.theMethod, start1.args0, start1.below0, start1.atStart⟩
end Jvm.Pilot.@@N@@
