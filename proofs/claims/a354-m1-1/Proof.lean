import JvmDerived
import JvmDerived.Pilot.@@N@@Statement
import JvmDerived.Pilot.@@N@@Code
set_option linter.unusedVariables false
set_option linter.unusedSimpArgs false
namespace Jvm.RoadKit
open Sem ClassFile Op Lib Jvm.Stand Jvm.Free Jvm.LawKit
section New
variable {p : Program} {l : Launch} {e : Env} {R : Room} {s : State} {m : MethodId} {args : Array Value} {below : List Frame} {meth : Method} {c : Code} {T : State} {locs : List Loc} {cells slots : Nat}
theorem retI (X : Stand p l e R s m args below meth c T locs cells slots) (hx : p.tables.exec = Jvm.exec) {pc : Nat} {Ls : Array Slot} {z : Int32} {rest : List Value} (hret : meth.sig.returnType = some .int) (hd : decode c.code pc = .ok (.ireturn, 1)) {fs : List Frame}
    (hl : ∀ (f : JFrame) (acts : List Action), f.method = m → f.locked = none → f.entered = [] → (doReturn e (T.setTop f) acts (some (.int z))).1 = T.setFrames fs) : Steps p.tables e below (T.setTop (mkF m pc Ls (.int z :: rest))) (T.setFrames fs) := by
  have hm' : T.vm.method? m = some meth := X.method'
  have hn : narrow .int (.int z) = .int z := rfl
  show Steps p.tables e below (T.setTop { method := m, pc := pc, locals := Ls, stack := _ :: rest, locked := none }) _
  jvm_step X.here [X.here.top, hx, hd, hm', hret, hn]
  first | (intro acts; rw [hl _ acts rfl rfl rfl]) | rw [hl _ _ rfl rfl rfl]
  exact Steps.refl _
end New
/-- the run from S ends, with Post of its end -/
def Go (tb : Tables) (e : Env) (below : List Frame) (Post : Outcome → State → Prop) (S : State) : Prop := ∃ s₂ o, Steps tb e below S s₂ ∧ s₂.status = .running ∧ Ended s₂ below o ∧ Post o s₂
theorem Go.step {tb : Tables} {e : Env} {below : List Frame} {Post : Outcome → State → Prop} {S S' : State} (h : ∀ t, Steps tb e below S' t → Steps tb e below S t) (g : Go tb e below Post S') : Go tb e below Post S := by
  obtain ⟨s₂, o, a, b⟩ := g
  exact ⟨s₂, o, h _ a, b⟩
theorem at_of {c : Cell} {vs : List Value} {d v : Value} {j : Int32} (H : Has c vs d) (hin : ¬ (j < 0 ∨ c.slots.size ≤ j.toNatClampNeg)) (e : vs.getD j.toNatClampNeg d = v) : c.slots[j.toNatClampNeg]? = some v := by
  have q : j.toNatClampNeg < c.slots.size := Nat.lt_of_not_le (fun h => hin (Or.inr h))
  rw [H _ q, e]
end Jvm.RoadKit
namespace Jvm.Pilot.@@N@@
open Jvm Jvm.ClassFile Sem Op Lib Jvm.Free Jvm.Stand Jvm.LawKit Jvm.RoadKit Bundle Jvm.Pilot.@@N@@.Jvm.D
theorem own_eqI {args : Array Value} {s : State} {t : Term} {n : Int32} (h : (Jvm.Cond.eq t (.int n)).value args s none s [] = some true) : t.eval args s none [] s = some (.int n) := by
  simp only [Cond.value, Term.eval] at h
  cases ht : t.eval args s none [] s with
  | none => simp [ht] at h
  | some x => cases x <;> simp [ht] at h ⊢; exact h
theorem own_rem14 (x : Int32) : let k := (x &&& (2147483647 : Int32)) % (14 : Int32); k = 0 ∨ k = 1 ∨ k = 2 ∨ k = 3 ∨ k = 4 ∨ k = 5 ∨ k = 6 ∨ k = 7 ∨ k = 8 ∨ k = 9 ∨ k = 10 ∨ k = 11 ∨ k = 12 ∨ k = 13 := by
  intro k
  have h := c_mask x 2147483647 31 (by decide) (by decide)
  have h2 := (c_irem (x &&& (2147483647 : Int32)) 14 14 (by decide)).1 (by omega)
  have e0 : (0 : Int32).toInt = 0 := by decide
  have e1 : (1 : Int32).toInt = 1 := by decide
  have e2 : (2 : Int32).toInt = 2 := by decide
  have e3 : (3 : Int32).toInt = 3 := by decide
  have e4 : (4 : Int32).toInt = 4 := by decide
  have e5 : (5 : Int32).toInt = 5 := by decide
  have e6 : (6 : Int32).toInt = 6 := by decide
  have e7 : (7 : Int32).toInt = 7 := by decide
  have e8 : (8 : Int32).toInt = 8 := by decide
  have e9 : (9 : Int32).toInt = 9 := by decide
  have e10 : (10 : Int32).toInt = 10 := by decide
  have e11 : (11 : Int32).toInt = 11 := by decide
  have e12 : (12 : Int32).toInt = 12 := by decide
  have e13 : (13 : Int32).toInt = 13 := by decide
  have h3 : k.toInt = (x &&& (2147483647 : Int32)).toInt % 14 := h2
  simp only [← Int32.toInt_inj]
  omega
def own_pick (p : Int32) (a0 a1 a2 a3 a4 a5 a6 a7 a8 a9 a10 a11 a12 a13 : Addr) : Addr := if p = 0 then a0 else if p = 1 then a1 else if p = 2 then a2 else if p = 3 then a3 else if p = 4 then a4 else if p = 5 then a5 else if p = 6 then a6 else if p = 7 then a7 else if p = 8 then a8 else if p = 9 then a9 else if p = 10 then a10 else if p = 11 then a11 else if p = 12 then a12 else a13
theorem pn_0 : plainName "com/example/kenning/kenning/StatusIsErrorPinLaw" = true := by first | (simp [plainName, overriddenIn]; done) | decide +kernel
theorem d1_0 : decode method_2_code 0 = .ok (.iload_n 0, 1) := by decide +kernel
theorem d1_1 : decode method_2_code 1 = .ok (.ifCond .ne 7, 3) := by decide +kernel
theorem d1_4 : decode method_2_code 4 = .ok (.getstatic 7, 3) := by decide +kernel
theorem d1_7 : decode method_2_code 7 = .ok (.areturn, 1) := by decide +kernel
theorem d1_8 : decode method_2_code 8 = .ok (.iload_n 0, 1) := by decide +kernel
theorem d1_9 : decode method_2_code 9 = .ok (.iconst 1, 1) := by decide +kernel
theorem d1_10 : decode method_2_code 10 = .ok (.if_icmp .ne 7, 3) := by decide +kernel
theorem d1_13 : decode method_2_code 13 = .ok (.getstatic 13, 3) := by decide +kernel
theorem d1_16 : decode method_2_code 16 = .ok (.areturn, 1) := by decide +kernel
theorem d1_17 : decode method_2_code 17 = .ok (.iload_n 0, 1) := by decide +kernel
theorem d1_18 : decode method_2_code 18 = .ok (.iconst 2, 1) := by decide +kernel
theorem d1_19 : decode method_2_code 19 = .ok (.if_icmp .ne 7, 3) := by decide +kernel
theorem d1_22 : decode method_2_code 22 = .ok (.getstatic 16, 3) := by decide +kernel
theorem d1_25 : decode method_2_code 25 = .ok (.areturn, 1) := by decide +kernel
theorem d1_26 : decode method_2_code 26 = .ok (.iload_n 0, 1) := by decide +kernel
theorem d1_27 : decode method_2_code 27 = .ok (.iconst 3, 1) := by decide +kernel
theorem d1_28 : decode method_2_code 28 = .ok (.if_icmp .ne 7, 3) := by decide +kernel
theorem d1_31 : decode method_2_code 31 = .ok (.getstatic 19, 3) := by decide +kernel
theorem d1_34 : decode method_2_code 34 = .ok (.areturn, 1) := by decide +kernel
theorem d1_35 : decode method_2_code 35 = .ok (.iload_n 0, 1) := by decide +kernel
theorem d1_36 : decode method_2_code 36 = .ok (.iconst 4, 1) := by decide +kernel
theorem d1_37 : decode method_2_code 37 = .ok (.if_icmp .ne 7, 3) := by decide +kernel
theorem d1_40 : decode method_2_code 40 = .ok (.getstatic 22, 3) := by decide +kernel
theorem d1_43 : decode method_2_code 43 = .ok (.areturn, 1) := by decide +kernel
theorem d1_44 : decode method_2_code 44 = .ok (.iload_n 0, 1) := by decide +kernel
theorem d1_45 : decode method_2_code 45 = .ok (.iconst 5, 1) := by decide +kernel
theorem d1_46 : decode method_2_code 46 = .ok (.if_icmp .ne 7, 3) := by decide +kernel
theorem d1_49 : decode method_2_code 49 = .ok (.getstatic 25, 3) := by decide +kernel
theorem d1_52 : decode method_2_code 52 = .ok (.areturn, 1) := by decide +kernel
theorem d1_53 : decode method_2_code 53 = .ok (.iload_n 0, 1) := by decide +kernel
theorem d1_54 : decode method_2_code 54 = .ok (.bipush 6, 2) := by decide +kernel
theorem d1_56 : decode method_2_code 56 = .ok (.if_icmp .ne 7, 3) := by decide +kernel
theorem d1_59 : decode method_2_code 59 = .ok (.getstatic 28, 3) := by decide +kernel
theorem d1_62 : decode method_2_code 62 = .ok (.areturn, 1) := by decide +kernel
theorem d1_63 : decode method_2_code 63 = .ok (.iload_n 0, 1) := by decide +kernel
theorem d1_64 : decode method_2_code 64 = .ok (.bipush 7, 2) := by decide +kernel
theorem d1_66 : decode method_2_code 66 = .ok (.if_icmp .ne 7, 3) := by decide +kernel
theorem d1_69 : decode method_2_code 69 = .ok (.getstatic 31, 3) := by decide +kernel
theorem d1_72 : decode method_2_code 72 = .ok (.areturn, 1) := by decide +kernel
theorem d1_73 : decode method_2_code 73 = .ok (.iload_n 0, 1) := by decide +kernel
theorem d1_74 : decode method_2_code 74 = .ok (.bipush 8, 2) := by decide +kernel
theorem d1_76 : decode method_2_code 76 = .ok (.if_icmp .ne 7, 3) := by decide +kernel
theorem d1_79 : decode method_2_code 79 = .ok (.getstatic 34, 3) := by decide +kernel
theorem d1_82 : decode method_2_code 82 = .ok (.areturn, 1) := by decide +kernel
theorem d1_83 : decode method_2_code 83 = .ok (.iload_n 0, 1) := by decide +kernel
theorem d1_84 : decode method_2_code 84 = .ok (.bipush 9, 2) := by decide +kernel
theorem d1_86 : decode method_2_code 86 = .ok (.if_icmp .ne 7, 3) := by decide +kernel
theorem d1_89 : decode method_2_code 89 = .ok (.getstatic 37, 3) := by decide +kernel
theorem d1_92 : decode method_2_code 92 = .ok (.areturn, 1) := by decide +kernel
theorem d1_93 : decode method_2_code 93 = .ok (.iload_n 0, 1) := by decide +kernel
theorem d1_94 : decode method_2_code 94 = .ok (.bipush 10, 2) := by decide +kernel
theorem d1_96 : decode method_2_code 96 = .ok (.if_icmp .ne 7, 3) := by decide +kernel
theorem d1_99 : decode method_2_code 99 = .ok (.getstatic 40, 3) := by decide +kernel
theorem d1_102 : decode method_2_code 102 = .ok (.areturn, 1) := by decide +kernel
theorem d1_103 : decode method_2_code 103 = .ok (.iload_n 0, 1) := by decide +kernel
theorem d1_104 : decode method_2_code 104 = .ok (.bipush 11, 2) := by decide +kernel
theorem d1_106 : decode method_2_code 106 = .ok (.if_icmp .ne 7, 3) := by decide +kernel
theorem d1_109 : decode method_2_code 109 = .ok (.getstatic 43, 3) := by decide +kernel
theorem d1_112 : decode method_2_code 112 = .ok (.areturn, 1) := by decide +kernel
theorem d1_113 : decode method_2_code 113 = .ok (.iload_n 0, 1) := by decide +kernel
theorem d1_114 : decode method_2_code 114 = .ok (.bipush 12, 2) := by decide +kernel
theorem d1_116 : decode method_2_code 116 = .ok (.if_icmp .ne 7, 3) := by decide +kernel
theorem d1_119 : decode method_2_code 119 = .ok (.getstatic 46, 3) := by decide +kernel
theorem d1_122 : decode method_2_code 122 = .ok (.areturn, 1) := by decide +kernel
theorem d1_123 : decode method_2_code 123 = .ok (.getstatic 49, 3) := by decide +kernel
theorem d1_126 : decode method_2_code 126 = .ok (.areturn, 1) := by decide +kernel
theorem ef_rm1 (m : MethodId) (p1 : Int32) (s_CREATED : Addr) (s_DELETED : Addr) (s_VALID : Addr) (s_CHANGED : Addr) (s_CONTENT : Addr) (s_BAD_REQUEST : Addr) (s_UNAUTHORIZED : Addr) (s_FORBIDDEN : Addr) (s_NOT_FOUND : Addr) (s_METHOD_NOT_ALLOWED : Addr) (s_REQUEST_TOO_LARGE : Addr) (s_UNPROCESSABLE_ENTITY : Addr) (s_INTERNAL_SERVER_ERROR : Addr) (s_NOT_IMPLEMENTED : Addr) : entryFrame m #[(.int p1)] 1 = mkF m 0 #[.val (.int p1)] [] := by first | (simp [entryFrame, mkF, argsToLocals, Value.category]; done) | rfl
def Qrm1 (Z : State) (p1 : Int32) (s_CREATED : Addr) (s_DELETED : Addr) (s_VALID : Addr) (s_CHANGED : Addr) (s_CONTENT : Addr) (s_BAD_REQUEST : Addr) (s_UNAUTHORIZED : Addr) (s_FORBIDDEN : Addr) (s_NOT_FOUND : Addr) (s_METHOD_NOT_ALLOWED : Addr) (s_REQUEST_TOO_LARGE : Addr) (s_UNPROCESSABLE_ENTITY : Addr) (s_INTERNAL_SERVER_ERROR : Addr) (s_NOT_IMPLEMENTED : Addr) (h0 : Heap) (n0 : Nat) (v : Option Value) (h : Heap) (L : List Loc) : Prop := v = some (.ref (own_pick p1 s_CREATED s_DELETED s_VALID s_CHANGED s_CONTENT s_BAD_REQUEST s_UNAUTHORIZED s_FORBIDDEN s_NOT_FOUND s_METHOD_NOT_ALLOWED s_REQUEST_TOO_LARGE s_UNPROCESSABLE_ENTITY s_INTERNAL_SERVER_ERROR s_NOT_IMPLEMENTED)) ∧ Fr n0 L ∧ h = h0
set_option maxRecDepth 65536 in
set_option maxHeartbeats 40000000 in
theorem rm1 (l : Launch) (Z : State) (a0 : Array Value) (hw : ∀ d ∈ tables_1, d.before a0 Z = true) (ws : List Jvm.Cond) (p1 : Int32) (s_CREATED : Addr) (s_DELETED : Addr) (s_VALID : Addr) (s_CHANGED : Addr) (s_CONTENT : Addr) (s_BAD_REQUEST : Addr) (s_UNAUTHORIZED : Addr) (s_FORBIDDEN : Addr) (s_NOT_FOUND : Addr) (s_METHOD_NOT_ALLOWED : Addr) (s_REQUEST_TOO_LARGE : Addr) (s_UNPROCESSABLE_ENTITY : Addr) (s_INTERNAL_SERVER_ERROR : Addr) (s_NOT_IMPLEMENTED : Addr) (h0 : Heap) (n0 : Nat) (Z0 : n0 ≤ h0.size) (S_CREATED : Sta Z h0 "com/example/kenning/kenning/Status" "CREATED" "Lcom/example/kenning/kenning/Status;" (.ref s_CREATED)) (S_DELETED : Sta Z h0 "com/example/kenning/kenning/Status" "DELETED" "Lcom/example/kenning/kenning/Status;" (.ref s_DELETED)) (S_VALID : Sta Z h0 "com/example/kenning/kenning/Status" "VALID" "Lcom/example/kenning/kenning/Status;" (.ref s_VALID)) (S_CHANGED : Sta Z h0 "com/example/kenning/kenning/Status" "CHANGED" "Lcom/example/kenning/kenning/Status;" (.ref s_CHANGED)) (S_CONTENT : Sta Z h0 "com/example/kenning/kenning/Status" "CONTENT" "Lcom/example/kenning/kenning/Status;" (.ref s_CONTENT)) (S_BAD_REQUEST : Sta Z h0 "com/example/kenning/kenning/Status" "BAD_REQUEST" "Lcom/example/kenning/kenning/Status;" (.ref s_BAD_REQUEST)) (S_UNAUTHORIZED : Sta Z h0 "com/example/kenning/kenning/Status" "UNAUTHORIZED" "Lcom/example/kenning/kenning/Status;" (.ref s_UNAUTHORIZED)) (S_FORBIDDEN : Sta Z h0 "com/example/kenning/kenning/Status" "FORBIDDEN" "Lcom/example/kenning/kenning/Status;" (.ref s_FORBIDDEN)) (S_NOT_FOUND : Sta Z h0 "com/example/kenning/kenning/Status" "NOT_FOUND" "Lcom/example/kenning/kenning/Status;" (.ref s_NOT_FOUND)) (S_METHOD_NOT_ALLOWED : Sta Z h0 "com/example/kenning/kenning/Status" "METHOD_NOT_ALLOWED" "Lcom/example/kenning/kenning/Status;" (.ref s_METHOD_NOT_ALLOWED)) (S_REQUEST_TOO_LARGE : Sta Z h0 "com/example/kenning/kenning/Status" "REQUEST_TOO_LARGE" "Lcom/example/kenning/kenning/Status;" (.ref s_REQUEST_TOO_LARGE)) (S_UNPROCESSABLE_ENTITY : Sta Z h0 "com/example/kenning/kenning/Status" "UNPROCESSABLE_ENTITY" "Lcom/example/kenning/kenning/Status;" (.ref s_UNPROCESSABLE_ENTITY)) (S_INTERNAL_SERVER_ERROR : Sta Z h0 "com/example/kenning/kenning/Status" "INTERNAL_SERVER_ERROR" "Lcom/example/kenning/kenning/Status;" (.ref s_INTERNAL_SERVER_ERROR)) (S_NOT_IMPLEMENTED : Sta Z h0 "com/example/kenning/kenning/Status" "NOT_IMPLEMENTED" "Lcom/example/kenning/kenning/Status;" (.ref s_NOT_IMPLEMENTED)) :
    MetFree l (⟨"com/example/kenning/kenning/StatusIsErrorPinLaw", "pick", "(I)Lcom/example/kenning/kenning/Status;"⟩ : MethodName) (head1 (Jvm.Cond.code (⟨"com/example/kenning/kenning/StatusIsErrorPinLaw", "pick", "(I)Lcom/example/kenning/kenning/Status;"⟩ : MethodName) method_2_code 1 (some (.object "com/example/kenning/kenning/Status")) :: ws) ({ frames := 0, cells := 0, slots := 0, locals := 0 } : Room)) (fun a U => a = #[(.int p1)] ∧ Z.Warmed39 U.vm ∧ U.heap = h0) (fun _ _ _ _ _ => True) (fun _ U o U' => ∃ v L, o = .returned v ∧ Qrm1 Z p1 s_CREATED s_DELETED s_VALID s_CHANGED s_CONTENT s_BAD_REQUEST s_UNAUTHORIZED s_FORBIDDEN s_NOT_FOUND s_METHOD_NOT_ALLOWED s_REQUEST_TOO_LARGE s_UNPROCESSABLE_ENTITY s_INTERNAL_SERVER_ERROR s_NOT_IMPLEMENTED h0 n0 v U'.heap L ∧ FrameEnd U o U' L ({ frames := 0, cells := 0, slots := 0, locals := 0 } : Room).cells ({ frames := 0, cells := 0, slots := 0, locals := 0 } : Room).slots) := by
  refine MetFree.of_bodySF (plainFor_of_name pn_0) hisR ?_
  intro p e s m args below meth c s₁ Bd hml0 hP hK
  obtain ⟨rfl, hZ, hh⟩ := hP
  have hx := Bd.exec
  have hby := Bd.bytes
  have hml : c.maxLocals = 1 := hml0
  have hown : s.vm.findClass "com/example/kenning/kenning/StatusIsErrorPinLaw" = some m.cls := findClass_of_methodNamed Bd.named
  have hnm := (name_of_methodNamed Bd.named Bd.method).1
  have X0 : Stand p l e ({ frames := 0, cells := 0, slots := 0, locals := 0 } : Room) s m #[(.int p1)] below meth c s₁ [] 0 0 := Stand.of_body Bd
  have e0 : s₁.heap = h0 := by rw [← hh, Bd.state]; rfl
  have N0 := Fr.nil n0
  show Go p.tables e below (fun o U' => ∃ v L, o = .returned v ∧ Qrm1 Z p1 s_CREATED s_DELETED s_VALID s_CHANGED s_CONTENT s_BAD_REQUEST s_UNAUTHORIZED s_FORBIDDEN s_NOT_FOUND s_METHOD_NOT_ALLOWED s_REQUEST_TOO_LARGE s_UNPROCESSABLE_ENTITY s_INTERNAL_SERVER_ERROR s_NOT_IMPLEMENTED h0 n0 v U'.heap L ∧ FrameEnd s o U' L ({ frames := 0, cells := 0, slots := 0, locals := 0 } : Room).cells ({ frames := 0, cells := 0, slots := 0, locals := 0 } : Room).slots) _
  refine Go.step (fun t kt => castTop (ef_rm1 m p1 s_CREATED s_DELETED s_VALID s_CHANGED s_CONTENT s_BAD_REQUEST s_UNAUTHORIZED s_FORBIDDEN s_NOT_FOUND s_METHOD_NOT_ALLOWED s_REQUEST_TOO_LARGE s_UNPROCESSABLE_ENTITY s_INTERNAL_SERVER_ERROR s_NOT_IMPLEMENTED) kt) ?_
  show Go p.tables e below _ (s₁.setTop (mkF m 0 #[.val (.int p1)] []))
  refine Go.step (fun _ kt => XS.iloadN X0.here hx rfl (hb hby d1_0) rfl kt) ?_
  show Go p.tables e below _ (s₁.setTop (mkF m 1 #[.val (.int p1)] [(.int p1)]))
  by_cases hc1_101 : p1 = (0 : Int32)
  · refine Go.step (fun _ kt => XS.ifNo X0.here hx rfl (hb hby d1_1) rfl ((if0 _ _).trans (teq hc1_101).2) kt) ?_
    show Go p.tables e below _ (s₁.setTop (mkF m 4 #[.val (.int p1)] []))
    obtain ⟨T102, X102, e102, st102⟩ := getS2 X0 hx hZ hown (host := "") (Or.inl (hw _ (List.mem_of_getElem? (i := 5) rfl))) Via.refl e0 S_CREATED (g := (mkF m 4 #[.val (.int p1)] [])) rfl (hb hby d1_4)
    refine Go.step st102 ?_
    show Go p.tables e below _ (T102.setTop (mkF m 7 #[.val (.int p1)] [(.ref s_CREATED)]))
    obtain ⟨fs, hr, hrun, hended, hW, hsame⟩ := X102.leave (v := some (.ref s_CREATED)) (fun h => by rw [Bd.returns] at h; cases h)
    refine ⟨_, _, retOut X102 hx Bd.returns rfl (Or.inr (Or.inr (Or.inr (Or.inr ⟨rfl, rfl, rfl⟩)))) (hb hby d1_7) hr, hrun, hended, _, _, rfl, ?_, ⟨_, rfl⟩, hW, hsame.mono (by decide) (by decide)⟩
    show Qrm1 Z p1 s_CREATED s_DELETED s_VALID s_CHANGED s_CONTENT s_BAD_REQUEST s_UNAUTHORIZED s_FORBIDDEN s_NOT_FOUND s_METHOD_NOT_ALLOWED s_REQUEST_TOO_LARGE s_UNPROCESSABLE_ENTITY s_INTERNAL_SERVER_ERROR s_NOT_IMPLEMENTED h0 n0 _ T102.heap _
    rw [e102]
    refine ⟨?_, N0, rfl⟩
    have q : own_pick p1 s_CREATED s_DELETED s_VALID s_CHANGED s_CONTENT s_BAD_REQUEST s_UNAUTHORIZED s_FORBIDDEN s_NOT_FOUND s_METHOD_NOT_ALLOWED s_REQUEST_TOO_LARGE s_UNPROCESSABLE_ENTITY s_INTERNAL_SERVER_ERROR s_NOT_IMPLEMENTED = s_CREATED := by simp only [own_pick]; simp [hc1_101]
    rw [q]
  · refine Go.step (fun _ kt => XS.ifYes X0.here hx rfl (pc0 := 1) (pc' := 8) rfl (hb hby d1_1) rfl ((if0 _ _).trans (feq hc1_101).2) (by decide) (by decide) kt) ?_
    show Go p.tables e below _ (s₁.setTop (mkF m 8 #[.val (.int p1)] []))
    refine Go.step (fun _ kt => XS.iloadN X0.here hx rfl (hb hby d1_8) rfl kt) ?_
    show Go p.tables e below _ (s₁.setTop (mkF m 9 #[.val (.int p1)] [(.int p1)]))
    refine Go.step (fun _ kt => XS.iconst X0.here hx rfl (hb hby d1_9) kt) ?_
    show Go p.tables e below _ (s₁.setTop (mkF m 10 #[.val (.int p1)] [(.int (1 : Int32)), (.int p1)]))
    by_cases hc10_103 : p1 = (1 : Int32)
    · refine Go.step (fun _ kt => XS.icmpNo X0.here hx rfl (hb hby d1_10) rfl (teq hc10_103).2 kt) ?_
      show Go p.tables e below _ (s₁.setTop (mkF m 13 #[.val (.int p1)] []))
      obtain ⟨T104, X104, e104, st104⟩ := getS2 X0 hx hZ hown (host := "") (Or.inl (hw _ (List.mem_of_getElem? (i := 38) rfl))) Via.refl e0 S_DELETED (g := (mkF m 13 #[.val (.int p1)] [])) rfl (hb hby d1_13)
      refine Go.step st104 ?_
      show Go p.tables e below _ (T104.setTop (mkF m 16 #[.val (.int p1)] [(.ref s_DELETED)]))
      obtain ⟨fs, hr, hrun, hended, hW, hsame⟩ := X104.leave (v := some (.ref s_DELETED)) (fun h => by rw [Bd.returns] at h; cases h)
      refine ⟨_, _, retOut X104 hx Bd.returns rfl (Or.inr (Or.inr (Or.inr (Or.inr ⟨rfl, rfl, rfl⟩)))) (hb hby d1_16) hr, hrun, hended, _, _, rfl, ?_, ⟨_, rfl⟩, hW, hsame.mono (by decide) (by decide)⟩
      show Qrm1 Z p1 s_CREATED s_DELETED s_VALID s_CHANGED s_CONTENT s_BAD_REQUEST s_UNAUTHORIZED s_FORBIDDEN s_NOT_FOUND s_METHOD_NOT_ALLOWED s_REQUEST_TOO_LARGE s_UNPROCESSABLE_ENTITY s_INTERNAL_SERVER_ERROR s_NOT_IMPLEMENTED h0 n0 _ T104.heap _
      rw [e104]
      refine ⟨?_, N0, rfl⟩
      have q : own_pick p1 s_CREATED s_DELETED s_VALID s_CHANGED s_CONTENT s_BAD_REQUEST s_UNAUTHORIZED s_FORBIDDEN s_NOT_FOUND s_METHOD_NOT_ALLOWED s_REQUEST_TOO_LARGE s_UNPROCESSABLE_ENTITY s_INTERNAL_SERVER_ERROR s_NOT_IMPLEMENTED = s_DELETED := by simp only [own_pick]; simp [hc1_101, hc10_103]
      rw [q]
    · refine Go.step (fun _ kt => XS.icmpYes X0.here hx rfl (pc0 := 10) (pc' := 17) rfl (hb hby d1_10) rfl (feq hc10_103).2 (by decide) (by decide) kt) ?_
      show Go p.tables e below _ (s₁.setTop (mkF m 17 #[.val (.int p1)] []))
      refine Go.step (fun _ kt => XS.iloadN X0.here hx rfl (hb hby d1_17) rfl kt) ?_
      show Go p.tables e below _ (s₁.setTop (mkF m 18 #[.val (.int p1)] [(.int p1)]))
      refine Go.step (fun _ kt => XS.iconst X0.here hx rfl (hb hby d1_18) kt) ?_
      show Go p.tables e below _ (s₁.setTop (mkF m 19 #[.val (.int p1)] [(.int (2 : Int32)), (.int p1)]))
      by_cases hc19_105 : p1 = (2 : Int32)
      · refine Go.step (fun _ kt => XS.icmpNo X0.here hx rfl (hb hby d1_19) rfl (teq hc19_105).2 kt) ?_
        show Go p.tables e below _ (s₁.setTop (mkF m 22 #[.val (.int p1)] []))
        obtain ⟨T106, X106, e106, st106⟩ := getS2 X0 hx hZ hown (host := "") (Or.inl (hw _ (List.mem_of_getElem? (i := 30) rfl))) Via.refl e0 S_VALID (g := (mkF m 22 #[.val (.int p1)] [])) rfl (hb hby d1_22)
        refine Go.step st106 ?_
        show Go p.tables e below _ (T106.setTop (mkF m 25 #[.val (.int p1)] [(.ref s_VALID)]))
        obtain ⟨fs, hr, hrun, hended, hW, hsame⟩ := X106.leave (v := some (.ref s_VALID)) (fun h => by rw [Bd.returns] at h; cases h)
        refine ⟨_, _, retOut X106 hx Bd.returns rfl (Or.inr (Or.inr (Or.inr (Or.inr ⟨rfl, rfl, rfl⟩)))) (hb hby d1_25) hr, hrun, hended, _, _, rfl, ?_, ⟨_, rfl⟩, hW, hsame.mono (by decide) (by decide)⟩
        show Qrm1 Z p1 s_CREATED s_DELETED s_VALID s_CHANGED s_CONTENT s_BAD_REQUEST s_UNAUTHORIZED s_FORBIDDEN s_NOT_FOUND s_METHOD_NOT_ALLOWED s_REQUEST_TOO_LARGE s_UNPROCESSABLE_ENTITY s_INTERNAL_SERVER_ERROR s_NOT_IMPLEMENTED h0 n0 _ T106.heap _
        rw [e106]
        refine ⟨?_, N0, rfl⟩
        have q : own_pick p1 s_CREATED s_DELETED s_VALID s_CHANGED s_CONTENT s_BAD_REQUEST s_UNAUTHORIZED s_FORBIDDEN s_NOT_FOUND s_METHOD_NOT_ALLOWED s_REQUEST_TOO_LARGE s_UNPROCESSABLE_ENTITY s_INTERNAL_SERVER_ERROR s_NOT_IMPLEMENTED = s_VALID := by simp only [own_pick]; simp [hc1_101, hc10_103, hc19_105]
        rw [q]
      · refine Go.step (fun _ kt => XS.icmpYes X0.here hx rfl (pc0 := 19) (pc' := 26) rfl (hb hby d1_19) rfl (feq hc19_105).2 (by decide) (by decide) kt) ?_
        show Go p.tables e below _ (s₁.setTop (mkF m 26 #[.val (.int p1)] []))
        refine Go.step (fun _ kt => XS.iloadN X0.here hx rfl (hb hby d1_26) rfl kt) ?_
        show Go p.tables e below _ (s₁.setTop (mkF m 27 #[.val (.int p1)] [(.int p1)]))
        refine Go.step (fun _ kt => XS.iconst X0.here hx rfl (hb hby d1_27) kt) ?_
        show Go p.tables e below _ (s₁.setTop (mkF m 28 #[.val (.int p1)] [(.int (3 : Int32)), (.int p1)]))
        by_cases hc28_107 : p1 = (3 : Int32)
        · refine Go.step (fun _ kt => XS.icmpNo X0.here hx rfl (hb hby d1_28) rfl (teq hc28_107).2 kt) ?_
          show Go p.tables e below _ (s₁.setTop (mkF m 31 #[.val (.int p1)] []))
          obtain ⟨T108, X108, e108, st108⟩ := getS2 X0 hx hZ hown (host := "") (Or.inl (hw _ (List.mem_of_getElem? (i := 20) rfl))) Via.refl e0 S_CHANGED (g := (mkF m 31 #[.val (.int p1)] [])) rfl (hb hby d1_31)
          refine Go.step st108 ?_
          show Go p.tables e below _ (T108.setTop (mkF m 34 #[.val (.int p1)] [(.ref s_CHANGED)]))
          obtain ⟨fs, hr, hrun, hended, hW, hsame⟩ := X108.leave (v := some (.ref s_CHANGED)) (fun h => by rw [Bd.returns] at h; cases h)
          refine ⟨_, _, retOut X108 hx Bd.returns rfl (Or.inr (Or.inr (Or.inr (Or.inr ⟨rfl, rfl, rfl⟩)))) (hb hby d1_34) hr, hrun, hended, _, _, rfl, ?_, ⟨_, rfl⟩, hW, hsame.mono (by decide) (by decide)⟩
          show Qrm1 Z p1 s_CREATED s_DELETED s_VALID s_CHANGED s_CONTENT s_BAD_REQUEST s_UNAUTHORIZED s_FORBIDDEN s_NOT_FOUND s_METHOD_NOT_ALLOWED s_REQUEST_TOO_LARGE s_UNPROCESSABLE_ENTITY s_INTERNAL_SERVER_ERROR s_NOT_IMPLEMENTED h0 n0 _ T108.heap _
          rw [e108]
          refine ⟨?_, N0, rfl⟩
          have q : own_pick p1 s_CREATED s_DELETED s_VALID s_CHANGED s_CONTENT s_BAD_REQUEST s_UNAUTHORIZED s_FORBIDDEN s_NOT_FOUND s_METHOD_NOT_ALLOWED s_REQUEST_TOO_LARGE s_UNPROCESSABLE_ENTITY s_INTERNAL_SERVER_ERROR s_NOT_IMPLEMENTED = s_CHANGED := by simp only [own_pick]; simp [hc1_101, hc10_103, hc19_105, hc28_107]
          rw [q]
        · refine Go.step (fun _ kt => XS.icmpYes X0.here hx rfl (pc0 := 28) (pc' := 35) rfl (hb hby d1_28) rfl (feq hc28_107).2 (by decide) (by decide) kt) ?_
          show Go p.tables e below _ (s₁.setTop (mkF m 35 #[.val (.int p1)] []))
          refine Go.step (fun _ kt => XS.iloadN X0.here hx rfl (hb hby d1_35) rfl kt) ?_
          show Go p.tables e below _ (s₁.setTop (mkF m 36 #[.val (.int p1)] [(.int p1)]))
          refine Go.step (fun _ kt => XS.iconst X0.here hx rfl (hb hby d1_36) kt) ?_
          show Go p.tables e below _ (s₁.setTop (mkF m 37 #[.val (.int p1)] [(.int (4 : Int32)), (.int p1)]))
          by_cases hc37_109 : p1 = (4 : Int32)
          · refine Go.step (fun _ kt => XS.icmpNo X0.here hx rfl (hb hby d1_37) rfl (teq hc37_109).2 kt) ?_
            show Go p.tables e below _ (s₁.setTop (mkF m 40 #[.val (.int p1)] []))
            obtain ⟨T110, X110, e110, st110⟩ := getS2 X0 hx hZ hown (host := "") (Or.inl (hw _ (List.mem_of_getElem? (i := 26) rfl))) Via.refl e0 S_CONTENT (g := (mkF m 40 #[.val (.int p1)] [])) rfl (hb hby d1_40)
            refine Go.step st110 ?_
            show Go p.tables e below _ (T110.setTop (mkF m 43 #[.val (.int p1)] [(.ref s_CONTENT)]))
            obtain ⟨fs, hr, hrun, hended, hW, hsame⟩ := X110.leave (v := some (.ref s_CONTENT)) (fun h => by rw [Bd.returns] at h; cases h)
            refine ⟨_, _, retOut X110 hx Bd.returns rfl (Or.inr (Or.inr (Or.inr (Or.inr ⟨rfl, rfl, rfl⟩)))) (hb hby d1_43) hr, hrun, hended, _, _, rfl, ?_, ⟨_, rfl⟩, hW, hsame.mono (by decide) (by decide)⟩
            show Qrm1 Z p1 s_CREATED s_DELETED s_VALID s_CHANGED s_CONTENT s_BAD_REQUEST s_UNAUTHORIZED s_FORBIDDEN s_NOT_FOUND s_METHOD_NOT_ALLOWED s_REQUEST_TOO_LARGE s_UNPROCESSABLE_ENTITY s_INTERNAL_SERVER_ERROR s_NOT_IMPLEMENTED h0 n0 _ T110.heap _
            rw [e110]
            refine ⟨?_, N0, rfl⟩
            have q : own_pick p1 s_CREATED s_DELETED s_VALID s_CHANGED s_CONTENT s_BAD_REQUEST s_UNAUTHORIZED s_FORBIDDEN s_NOT_FOUND s_METHOD_NOT_ALLOWED s_REQUEST_TOO_LARGE s_UNPROCESSABLE_ENTITY s_INTERNAL_SERVER_ERROR s_NOT_IMPLEMENTED = s_CONTENT := by simp only [own_pick]; simp [hc1_101, hc10_103, hc19_105, hc28_107, hc37_109]
            rw [q]
          · refine Go.step (fun _ kt => XS.icmpYes X0.here hx rfl (pc0 := 37) (pc' := 44) rfl (hb hby d1_37) rfl (feq hc37_109).2 (by decide) (by decide) kt) ?_
            show Go p.tables e below _ (s₁.setTop (mkF m 44 #[.val (.int p1)] []))
            refine Go.step (fun _ kt => XS.iloadN X0.here hx rfl (hb hby d1_44) rfl kt) ?_
            show Go p.tables e below _ (s₁.setTop (mkF m 45 #[.val (.int p1)] [(.int p1)]))
            refine Go.step (fun _ kt => XS.iconst X0.here hx rfl (hb hby d1_45) kt) ?_
            show Go p.tables e below _ (s₁.setTop (mkF m 46 #[.val (.int p1)] [(.int (5 : Int32)), (.int p1)]))
            by_cases hc46_111 : p1 = (5 : Int32)
            · refine Go.step (fun _ kt => XS.icmpNo X0.here hx rfl (hb hby d1_46) rfl (teq hc46_111).2 kt) ?_
              show Go p.tables e below _ (s₁.setTop (mkF m 49 #[.val (.int p1)] []))
              obtain ⟨T112, X112, e112, st112⟩ := getS2 X0 hx hZ hown (host := "") (Or.inl (hw _ (List.mem_of_getElem? (i := 42) rfl))) Via.refl e0 S_BAD_REQUEST (g := (mkF m 49 #[.val (.int p1)] [])) rfl (hb hby d1_49)
              refine Go.step st112 ?_
              show Go p.tables e below _ (T112.setTop (mkF m 52 #[.val (.int p1)] [(.ref s_BAD_REQUEST)]))
              obtain ⟨fs, hr, hrun, hended, hW, hsame⟩ := X112.leave (v := some (.ref s_BAD_REQUEST)) (fun h => by rw [Bd.returns] at h; cases h)
              refine ⟨_, _, retOut X112 hx Bd.returns rfl (Or.inr (Or.inr (Or.inr (Or.inr ⟨rfl, rfl, rfl⟩)))) (hb hby d1_52) hr, hrun, hended, _, _, rfl, ?_, ⟨_, rfl⟩, hW, hsame.mono (by decide) (by decide)⟩
              show Qrm1 Z p1 s_CREATED s_DELETED s_VALID s_CHANGED s_CONTENT s_BAD_REQUEST s_UNAUTHORIZED s_FORBIDDEN s_NOT_FOUND s_METHOD_NOT_ALLOWED s_REQUEST_TOO_LARGE s_UNPROCESSABLE_ENTITY s_INTERNAL_SERVER_ERROR s_NOT_IMPLEMENTED h0 n0 _ T112.heap _
              rw [e112]
              refine ⟨?_, N0, rfl⟩
              have q : own_pick p1 s_CREATED s_DELETED s_VALID s_CHANGED s_CONTENT s_BAD_REQUEST s_UNAUTHORIZED s_FORBIDDEN s_NOT_FOUND s_METHOD_NOT_ALLOWED s_REQUEST_TOO_LARGE s_UNPROCESSABLE_ENTITY s_INTERNAL_SERVER_ERROR s_NOT_IMPLEMENTED = s_BAD_REQUEST := by simp only [own_pick]; simp [hc1_101, hc10_103, hc19_105, hc28_107, hc37_109, hc46_111]
              rw [q]
            · refine Go.step (fun _ kt => XS.icmpYes X0.here hx rfl (pc0 := 46) (pc' := 53) rfl (hb hby d1_46) rfl (feq hc46_111).2 (by decide) (by decide) kt) ?_
              show Go p.tables e below _ (s₁.setTop (mkF m 53 #[.val (.int p1)] []))
              refine Go.step (fun _ kt => XS.iloadN X0.here hx rfl (hb hby d1_53) rfl kt) ?_
              show Go p.tables e below _ (s₁.setTop (mkF m 54 #[.val (.int p1)] [(.int p1)]))
              refine Go.step (fun _ kt => XS.bipush X0.here hx rfl (hb hby d1_54) kt) ?_
              show Go p.tables e below _ (s₁.setTop (mkF m 56 #[.val (.int p1)] [(.int (6 : Int32)), (.int p1)]))
              by_cases hc56_113 : p1 = (6 : Int32)
              · refine Go.step (fun _ kt => XS.icmpNo X0.here hx rfl (hb hby d1_56) rfl (teq hc56_113).2 kt) ?_
                show Go p.tables e below _ (s₁.setTop (mkF m 59 #[.val (.int p1)] []))
                obtain ⟨T114, X114, e114, st114⟩ := getS2 X0 hx hZ hown (host := "") (Or.inl (hw _ (List.mem_of_getElem? (i := 44) rfl))) Via.refl e0 S_UNAUTHORIZED (g := (mkF m 59 #[.val (.int p1)] [])) rfl (hb hby d1_59)
                refine Go.step st114 ?_
                show Go p.tables e below _ (T114.setTop (mkF m 62 #[.val (.int p1)] [(.ref s_UNAUTHORIZED)]))
                obtain ⟨fs, hr, hrun, hended, hW, hsame⟩ := X114.leave (v := some (.ref s_UNAUTHORIZED)) (fun h => by rw [Bd.returns] at h; cases h)
                refine ⟨_, _, retOut X114 hx Bd.returns rfl (Or.inr (Or.inr (Or.inr (Or.inr ⟨rfl, rfl, rfl⟩)))) (hb hby d1_62) hr, hrun, hended, _, _, rfl, ?_, ⟨_, rfl⟩, hW, hsame.mono (by decide) (by decide)⟩
                show Qrm1 Z p1 s_CREATED s_DELETED s_VALID s_CHANGED s_CONTENT s_BAD_REQUEST s_UNAUTHORIZED s_FORBIDDEN s_NOT_FOUND s_METHOD_NOT_ALLOWED s_REQUEST_TOO_LARGE s_UNPROCESSABLE_ENTITY s_INTERNAL_SERVER_ERROR s_NOT_IMPLEMENTED h0 n0 _ T114.heap _
                rw [e114]
                refine ⟨?_, N0, rfl⟩
                have q : own_pick p1 s_CREATED s_DELETED s_VALID s_CHANGED s_CONTENT s_BAD_REQUEST s_UNAUTHORIZED s_FORBIDDEN s_NOT_FOUND s_METHOD_NOT_ALLOWED s_REQUEST_TOO_LARGE s_UNPROCESSABLE_ENTITY s_INTERNAL_SERVER_ERROR s_NOT_IMPLEMENTED = s_UNAUTHORIZED := by simp only [own_pick]; simp [hc1_101, hc10_103, hc19_105, hc28_107, hc37_109, hc46_111, hc56_113]
                rw [q]
              · refine Go.step (fun _ kt => XS.icmpYes X0.here hx rfl (pc0 := 56) (pc' := 63) rfl (hb hby d1_56) rfl (feq hc56_113).2 (by decide) (by decide) kt) ?_
                show Go p.tables e below _ (s₁.setTop (mkF m 63 #[.val (.int p1)] []))
                refine Go.step (fun _ kt => XS.iloadN X0.here hx rfl (hb hby d1_63) rfl kt) ?_
                show Go p.tables e below _ (s₁.setTop (mkF m 64 #[.val (.int p1)] [(.int p1)]))
                refine Go.step (fun _ kt => XS.bipush X0.here hx rfl (hb hby d1_64) kt) ?_
                show Go p.tables e below _ (s₁.setTop (mkF m 66 #[.val (.int p1)] [(.int (7 : Int32)), (.int p1)]))
                by_cases hc66_115 : p1 = (7 : Int32)
                · refine Go.step (fun _ kt => XS.icmpNo X0.here hx rfl (hb hby d1_66) rfl (teq hc66_115).2 kt) ?_
                  show Go p.tables e below _ (s₁.setTop (mkF m 69 #[.val (.int p1)] []))
                  obtain ⟨T116, X116, e116, st116⟩ := getS2 X0 hx hZ hown (host := "") (Or.inl (hw _ (List.mem_of_getElem? (i := 28) rfl))) Via.refl e0 S_FORBIDDEN (g := (mkF m 69 #[.val (.int p1)] [])) rfl (hb hby d1_69)
                  refine Go.step st116 ?_
                  show Go p.tables e below _ (T116.setTop (mkF m 72 #[.val (.int p1)] [(.ref s_FORBIDDEN)]))
                  obtain ⟨fs, hr, hrun, hended, hW, hsame⟩ := X116.leave (v := some (.ref s_FORBIDDEN)) (fun h => by rw [Bd.returns] at h; cases h)
                  refine ⟨_, _, retOut X116 hx Bd.returns rfl (Or.inr (Or.inr (Or.inr (Or.inr ⟨rfl, rfl, rfl⟩)))) (hb hby d1_72) hr, hrun, hended, _, _, rfl, ?_, ⟨_, rfl⟩, hW, hsame.mono (by decide) (by decide)⟩
                  show Qrm1 Z p1 s_CREATED s_DELETED s_VALID s_CHANGED s_CONTENT s_BAD_REQUEST s_UNAUTHORIZED s_FORBIDDEN s_NOT_FOUND s_METHOD_NOT_ALLOWED s_REQUEST_TOO_LARGE s_UNPROCESSABLE_ENTITY s_INTERNAL_SERVER_ERROR s_NOT_IMPLEMENTED h0 n0 _ T116.heap _
                  rw [e116]
                  refine ⟨?_, N0, rfl⟩
                  have q : own_pick p1 s_CREATED s_DELETED s_VALID s_CHANGED s_CONTENT s_BAD_REQUEST s_UNAUTHORIZED s_FORBIDDEN s_NOT_FOUND s_METHOD_NOT_ALLOWED s_REQUEST_TOO_LARGE s_UNPROCESSABLE_ENTITY s_INTERNAL_SERVER_ERROR s_NOT_IMPLEMENTED = s_FORBIDDEN := by simp only [own_pick]; simp [hc1_101, hc10_103, hc19_105, hc28_107, hc37_109, hc46_111, hc56_113, hc66_115]
                  rw [q]
                · refine Go.step (fun _ kt => XS.icmpYes X0.here hx rfl (pc0 := 66) (pc' := 73) rfl (hb hby d1_66) rfl (feq hc66_115).2 (by decide) (by decide) kt) ?_
                  show Go p.tables e below _ (s₁.setTop (mkF m 73 #[.val (.int p1)] []))
                  refine Go.step (fun _ kt => XS.iloadN X0.here hx rfl (hb hby d1_73) rfl kt) ?_
                  show Go p.tables e below _ (s₁.setTop (mkF m 74 #[.val (.int p1)] [(.int p1)]))
                  refine Go.step (fun _ kt => XS.bipush X0.here hx rfl (hb hby d1_74) kt) ?_
                  show Go p.tables e below _ (s₁.setTop (mkF m 76 #[.val (.int p1)] [(.int (8 : Int32)), (.int p1)]))
                  by_cases hc76_117 : p1 = (8 : Int32)
                  · refine Go.step (fun _ kt => XS.icmpNo X0.here hx rfl (hb hby d1_76) rfl (teq hc76_117).2 kt) ?_
                    show Go p.tables e below _ (s₁.setTop (mkF m 79 #[.val (.int p1)] []))
                    obtain ⟨T118, X118, e118, st118⟩ := getS2 X0 hx hZ hown (host := "") (Or.inl (hw _ (List.mem_of_getElem? (i := 36) rfl))) Via.refl e0 S_NOT_FOUND (g := (mkF m 79 #[.val (.int p1)] [])) rfl (hb hby d1_79)
                    refine Go.step st118 ?_
                    show Go p.tables e below _ (T118.setTop (mkF m 82 #[.val (.int p1)] [(.ref s_NOT_FOUND)]))
                    obtain ⟨fs, hr, hrun, hended, hW, hsame⟩ := X118.leave (v := some (.ref s_NOT_FOUND)) (fun h => by rw [Bd.returns] at h; cases h)
                    refine ⟨_, _, retOut X118 hx Bd.returns rfl (Or.inr (Or.inr (Or.inr (Or.inr ⟨rfl, rfl, rfl⟩)))) (hb hby d1_82) hr, hrun, hended, _, _, rfl, ?_, ⟨_, rfl⟩, hW, hsame.mono (by decide) (by decide)⟩
                    show Qrm1 Z p1 s_CREATED s_DELETED s_VALID s_CHANGED s_CONTENT s_BAD_REQUEST s_UNAUTHORIZED s_FORBIDDEN s_NOT_FOUND s_METHOD_NOT_ALLOWED s_REQUEST_TOO_LARGE s_UNPROCESSABLE_ENTITY s_INTERNAL_SERVER_ERROR s_NOT_IMPLEMENTED h0 n0 _ T118.heap _
                    rw [e118]
                    refine ⟨?_, N0, rfl⟩
                    have q : own_pick p1 s_CREATED s_DELETED s_VALID s_CHANGED s_CONTENT s_BAD_REQUEST s_UNAUTHORIZED s_FORBIDDEN s_NOT_FOUND s_METHOD_NOT_ALLOWED s_REQUEST_TOO_LARGE s_UNPROCESSABLE_ENTITY s_INTERNAL_SERVER_ERROR s_NOT_IMPLEMENTED = s_NOT_FOUND := by simp only [own_pick]; simp [hc1_101, hc10_103, hc19_105, hc28_107, hc37_109, hc46_111, hc56_113, hc66_115, hc76_117]
                    rw [q]
                  · refine Go.step (fun _ kt => XS.icmpYes X0.here hx rfl (pc0 := 76) (pc' := 83) rfl (hb hby d1_76) rfl (feq hc76_117).2 (by decide) (by decide) kt) ?_
                    show Go p.tables e below _ (s₁.setTop (mkF m 83 #[.val (.int p1)] []))
                    refine Go.step (fun _ kt => XS.iloadN X0.here hx rfl (hb hby d1_83) rfl kt) ?_
                    show Go p.tables e below _ (s₁.setTop (mkF m 84 #[.val (.int p1)] [(.int p1)]))
                    refine Go.step (fun _ kt => XS.bipush X0.here hx rfl (hb hby d1_84) kt) ?_
                    show Go p.tables e below _ (s₁.setTop (mkF m 86 #[.val (.int p1)] [(.int (9 : Int32)), (.int p1)]))
                    by_cases hc86_119 : p1 = (9 : Int32)
                    · refine Go.step (fun _ kt => XS.icmpNo X0.here hx rfl (hb hby d1_86) rfl (teq hc86_119).2 kt) ?_
                      show Go p.tables e below _ (s₁.setTop (mkF m 89 #[.val (.int p1)] []))
                      obtain ⟨T120, X120, e120, st120⟩ := getS2 X0 hx hZ hown (host := "") (Or.inl (hw _ (List.mem_of_getElem? (i := 40) rfl))) Via.refl e0 S_METHOD_NOT_ALLOWED (g := (mkF m 89 #[.val (.int p1)] [])) rfl (hb hby d1_89)
                      refine Go.step st120 ?_
                      show Go p.tables e below _ (T120.setTop (mkF m 92 #[.val (.int p1)] [(.ref s_METHOD_NOT_ALLOWED)]))
                      obtain ⟨fs, hr, hrun, hended, hW, hsame⟩ := X120.leave (v := some (.ref s_METHOD_NOT_ALLOWED)) (fun h => by rw [Bd.returns] at h; cases h)
                      refine ⟨_, _, retOut X120 hx Bd.returns rfl (Or.inr (Or.inr (Or.inr (Or.inr ⟨rfl, rfl, rfl⟩)))) (hb hby d1_92) hr, hrun, hended, _, _, rfl, ?_, ⟨_, rfl⟩, hW, hsame.mono (by decide) (by decide)⟩
                      show Qrm1 Z p1 s_CREATED s_DELETED s_VALID s_CHANGED s_CONTENT s_BAD_REQUEST s_UNAUTHORIZED s_FORBIDDEN s_NOT_FOUND s_METHOD_NOT_ALLOWED s_REQUEST_TOO_LARGE s_UNPROCESSABLE_ENTITY s_INTERNAL_SERVER_ERROR s_NOT_IMPLEMENTED h0 n0 _ T120.heap _
                      rw [e120]
                      refine ⟨?_, N0, rfl⟩
                      have q : own_pick p1 s_CREATED s_DELETED s_VALID s_CHANGED s_CONTENT s_BAD_REQUEST s_UNAUTHORIZED s_FORBIDDEN s_NOT_FOUND s_METHOD_NOT_ALLOWED s_REQUEST_TOO_LARGE s_UNPROCESSABLE_ENTITY s_INTERNAL_SERVER_ERROR s_NOT_IMPLEMENTED = s_METHOD_NOT_ALLOWED := by simp only [own_pick]; simp [hc1_101, hc10_103, hc19_105, hc28_107, hc37_109, hc46_111, hc56_113, hc66_115, hc76_117, hc86_119]
                      rw [q]
                    · refine Go.step (fun _ kt => XS.icmpYes X0.here hx rfl (pc0 := 86) (pc' := 93) rfl (hb hby d1_86) rfl (feq hc86_119).2 (by decide) (by decide) kt) ?_
                      show Go p.tables e below _ (s₁.setTop (mkF m 93 #[.val (.int p1)] []))
                      refine Go.step (fun _ kt => XS.iloadN X0.here hx rfl (hb hby d1_93) rfl kt) ?_
                      show Go p.tables e below _ (s₁.setTop (mkF m 94 #[.val (.int p1)] [(.int p1)]))
                      refine Go.step (fun _ kt => XS.bipush X0.here hx rfl (hb hby d1_94) kt) ?_
                      show Go p.tables e below _ (s₁.setTop (mkF m 96 #[.val (.int p1)] [(.int (10 : Int32)), (.int p1)]))
                      by_cases hc96_121 : p1 = (10 : Int32)
                      · refine Go.step (fun _ kt => XS.icmpNo X0.here hx rfl (hb hby d1_96) rfl (teq hc96_121).2 kt) ?_
                        show Go p.tables e below _ (s₁.setTop (mkF m 99 #[.val (.int p1)] []))
                        obtain ⟨T122, X122, e122, st122⟩ := getS2 X0 hx hZ hown (host := "") (Or.inl (hw _ (List.mem_of_getElem? (i := 34) rfl))) Via.refl e0 S_REQUEST_TOO_LARGE (g := (mkF m 99 #[.val (.int p1)] [])) rfl (hb hby d1_99)
                        refine Go.step st122 ?_
                        show Go p.tables e below _ (T122.setTop (mkF m 102 #[.val (.int p1)] [(.ref s_REQUEST_TOO_LARGE)]))
                        obtain ⟨fs, hr, hrun, hended, hW, hsame⟩ := X122.leave (v := some (.ref s_REQUEST_TOO_LARGE)) (fun h => by rw [Bd.returns] at h; cases h)
                        refine ⟨_, _, retOut X122 hx Bd.returns rfl (Or.inr (Or.inr (Or.inr (Or.inr ⟨rfl, rfl, rfl⟩)))) (hb hby d1_102) hr, hrun, hended, _, _, rfl, ?_, ⟨_, rfl⟩, hW, hsame.mono (by decide) (by decide)⟩
                        show Qrm1 Z p1 s_CREATED s_DELETED s_VALID s_CHANGED s_CONTENT s_BAD_REQUEST s_UNAUTHORIZED s_FORBIDDEN s_NOT_FOUND s_METHOD_NOT_ALLOWED s_REQUEST_TOO_LARGE s_UNPROCESSABLE_ENTITY s_INTERNAL_SERVER_ERROR s_NOT_IMPLEMENTED h0 n0 _ T122.heap _
                        rw [e122]
                        refine ⟨?_, N0, rfl⟩
                        have q : own_pick p1 s_CREATED s_DELETED s_VALID s_CHANGED s_CONTENT s_BAD_REQUEST s_UNAUTHORIZED s_FORBIDDEN s_NOT_FOUND s_METHOD_NOT_ALLOWED s_REQUEST_TOO_LARGE s_UNPROCESSABLE_ENTITY s_INTERNAL_SERVER_ERROR s_NOT_IMPLEMENTED = s_REQUEST_TOO_LARGE := by simp only [own_pick]; simp [hc1_101, hc10_103, hc19_105, hc28_107, hc37_109, hc46_111, hc56_113, hc66_115, hc76_117, hc86_119, hc96_121]
                        rw [q]
                      · refine Go.step (fun _ kt => XS.icmpYes X0.here hx rfl (pc0 := 96) (pc' := 103) rfl (hb hby d1_96) rfl (feq hc96_121).2 (by decide) (by decide) kt) ?_
                        show Go p.tables e below _ (s₁.setTop (mkF m 103 #[.val (.int p1)] []))
                        refine Go.step (fun _ kt => XS.iloadN X0.here hx rfl (hb hby d1_103) rfl kt) ?_
                        show Go p.tables e below _ (s₁.setTop (mkF m 104 #[.val (.int p1)] [(.int p1)]))
                        refine Go.step (fun _ kt => XS.bipush X0.here hx rfl (hb hby d1_104) kt) ?_
                        show Go p.tables e below _ (s₁.setTop (mkF m 106 #[.val (.int p1)] [(.int (11 : Int32)), (.int p1)]))
                        by_cases hc106_123 : p1 = (11 : Int32)
                        · refine Go.step (fun _ kt => XS.icmpNo X0.here hx rfl (hb hby d1_106) rfl (teq hc106_123).2 kt) ?_
                          show Go p.tables e below _ (s₁.setTop (mkF m 109 #[.val (.int p1)] []))
                          obtain ⟨T124, X124, e124, st124⟩ := getS2 X0 hx hZ hown (host := "") (Or.inl (hw _ (List.mem_of_getElem? (i := 32) rfl))) Via.refl e0 S_UNPROCESSABLE_ENTITY (g := (mkF m 109 #[.val (.int p1)] [])) rfl (hb hby d1_109)
                          refine Go.step st124 ?_
                          show Go p.tables e below _ (T124.setTop (mkF m 112 #[.val (.int p1)] [(.ref s_UNPROCESSABLE_ENTITY)]))
                          obtain ⟨fs, hr, hrun, hended, hW, hsame⟩ := X124.leave (v := some (.ref s_UNPROCESSABLE_ENTITY)) (fun h => by rw [Bd.returns] at h; cases h)
                          refine ⟨_, _, retOut X124 hx Bd.returns rfl (Or.inr (Or.inr (Or.inr (Or.inr ⟨rfl, rfl, rfl⟩)))) (hb hby d1_112) hr, hrun, hended, _, _, rfl, ?_, ⟨_, rfl⟩, hW, hsame.mono (by decide) (by decide)⟩
                          show Qrm1 Z p1 s_CREATED s_DELETED s_VALID s_CHANGED s_CONTENT s_BAD_REQUEST s_UNAUTHORIZED s_FORBIDDEN s_NOT_FOUND s_METHOD_NOT_ALLOWED s_REQUEST_TOO_LARGE s_UNPROCESSABLE_ENTITY s_INTERNAL_SERVER_ERROR s_NOT_IMPLEMENTED h0 n0 _ T124.heap _
                          rw [e124]
                          refine ⟨?_, N0, rfl⟩
                          have q : own_pick p1 s_CREATED s_DELETED s_VALID s_CHANGED s_CONTENT s_BAD_REQUEST s_UNAUTHORIZED s_FORBIDDEN s_NOT_FOUND s_METHOD_NOT_ALLOWED s_REQUEST_TOO_LARGE s_UNPROCESSABLE_ENTITY s_INTERNAL_SERVER_ERROR s_NOT_IMPLEMENTED = s_UNPROCESSABLE_ENTITY := by simp only [own_pick]; simp [hc1_101, hc10_103, hc19_105, hc28_107, hc37_109, hc46_111, hc56_113, hc66_115, hc76_117, hc86_119, hc96_121, hc106_123]
                          rw [q]
                        · refine Go.step (fun _ kt => XS.icmpYes X0.here hx rfl (pc0 := 106) (pc' := 113) rfl (hb hby d1_106) rfl (feq hc106_123).2 (by decide) (by decide) kt) ?_
                          show Go p.tables e below _ (s₁.setTop (mkF m 113 #[.val (.int p1)] []))
                          refine Go.step (fun _ kt => XS.iloadN X0.here hx rfl (hb hby d1_113) rfl kt) ?_
                          show Go p.tables e below _ (s₁.setTop (mkF m 114 #[.val (.int p1)] [(.int p1)]))
                          refine Go.step (fun _ kt => XS.bipush X0.here hx rfl (hb hby d1_114) kt) ?_
                          show Go p.tables e below _ (s₁.setTop (mkF m 116 #[.val (.int p1)] [(.int (12 : Int32)), (.int p1)]))
                          by_cases hc116_125 : p1 = (12 : Int32)
                          · refine Go.step (fun _ kt => XS.icmpNo X0.here hx rfl (hb hby d1_116) rfl (teq hc116_125).2 kt) ?_
                            show Go p.tables e below _ (s₁.setTop (mkF m 119 #[.val (.int p1)] []))
                            obtain ⟨T126, X126, e126, st126⟩ := getS2 X0 hx hZ hown (host := "") (Or.inl (hw _ (List.mem_of_getElem? (i := 22) rfl))) Via.refl e0 S_INTERNAL_SERVER_ERROR (g := (mkF m 119 #[.val (.int p1)] [])) rfl (hb hby d1_119)
                            refine Go.step st126 ?_
                            show Go p.tables e below _ (T126.setTop (mkF m 122 #[.val (.int p1)] [(.ref s_INTERNAL_SERVER_ERROR)]))
                            obtain ⟨fs, hr, hrun, hended, hW, hsame⟩ := X126.leave (v := some (.ref s_INTERNAL_SERVER_ERROR)) (fun h => by rw [Bd.returns] at h; cases h)
                            refine ⟨_, _, retOut X126 hx Bd.returns rfl (Or.inr (Or.inr (Or.inr (Or.inr ⟨rfl, rfl, rfl⟩)))) (hb hby d1_122) hr, hrun, hended, _, _, rfl, ?_, ⟨_, rfl⟩, hW, hsame.mono (by decide) (by decide)⟩
                            show Qrm1 Z p1 s_CREATED s_DELETED s_VALID s_CHANGED s_CONTENT s_BAD_REQUEST s_UNAUTHORIZED s_FORBIDDEN s_NOT_FOUND s_METHOD_NOT_ALLOWED s_REQUEST_TOO_LARGE s_UNPROCESSABLE_ENTITY s_INTERNAL_SERVER_ERROR s_NOT_IMPLEMENTED h0 n0 _ T126.heap _
                            rw [e126]
                            refine ⟨?_, N0, rfl⟩
                            have q : own_pick p1 s_CREATED s_DELETED s_VALID s_CHANGED s_CONTENT s_BAD_REQUEST s_UNAUTHORIZED s_FORBIDDEN s_NOT_FOUND s_METHOD_NOT_ALLOWED s_REQUEST_TOO_LARGE s_UNPROCESSABLE_ENTITY s_INTERNAL_SERVER_ERROR s_NOT_IMPLEMENTED = s_INTERNAL_SERVER_ERROR := by simp only [own_pick]; simp [hc1_101, hc10_103, hc19_105, hc28_107, hc37_109, hc46_111, hc56_113, hc66_115, hc76_117, hc86_119, hc96_121, hc106_123, hc116_125]
                            rw [q]
                          · refine Go.step (fun _ kt => XS.icmpYes X0.here hx rfl (pc0 := 116) (pc' := 123) rfl (hb hby d1_116) rfl (feq hc116_125).2 (by decide) (by decide) kt) ?_
                            show Go p.tables e below _ (s₁.setTop (mkF m 123 #[.val (.int p1)] []))
                            obtain ⟨T127, X127, e127, st127⟩ := getS2 X0 hx hZ hown (host := "") (Or.inl (hw _ (List.mem_of_getElem? (i := 24) rfl))) Via.refl e0 S_NOT_IMPLEMENTED (g := (mkF m 123 #[.val (.int p1)] [])) rfl (hb hby d1_123)
                            refine Go.step st127 ?_
                            show Go p.tables e below _ (T127.setTop (mkF m 126 #[.val (.int p1)] [(.ref s_NOT_IMPLEMENTED)]))
                            obtain ⟨fs, hr, hrun, hended, hW, hsame⟩ := X127.leave (v := some (.ref s_NOT_IMPLEMENTED)) (fun h => by rw [Bd.returns] at h; cases h)
                            refine ⟨_, _, retOut X127 hx Bd.returns rfl (Or.inr (Or.inr (Or.inr (Or.inr ⟨rfl, rfl, rfl⟩)))) (hb hby d1_126) hr, hrun, hended, _, _, rfl, ?_, ⟨_, rfl⟩, hW, hsame.mono (by decide) (by decide)⟩
                            show Qrm1 Z p1 s_CREATED s_DELETED s_VALID s_CHANGED s_CONTENT s_BAD_REQUEST s_UNAUTHORIZED s_FORBIDDEN s_NOT_FOUND s_METHOD_NOT_ALLOWED s_REQUEST_TOO_LARGE s_UNPROCESSABLE_ENTITY s_INTERNAL_SERVER_ERROR s_NOT_IMPLEMENTED h0 n0 _ T127.heap _
                            rw [e127]
                            refine ⟨?_, N0, rfl⟩
                            have q : own_pick p1 s_CREATED s_DELETED s_VALID s_CHANGED s_CONTENT s_BAD_REQUEST s_UNAUTHORIZED s_FORBIDDEN s_NOT_FOUND s_METHOD_NOT_ALLOWED s_REQUEST_TOO_LARGE s_UNPROCESSABLE_ENTITY s_INTERNAL_SERVER_ERROR s_NOT_IMPLEMENTED = s_NOT_IMPLEMENTED := by simp only [own_pick]; simp [hc1_101, hc10_103, hc19_105, hc28_107, hc37_109, hc46_111, hc56_113, hc66_115, hc76_117, hc86_119, hc96_121, hc106_123, hc116_125]
                            rw [q]
theorem pn_1 : plainName "com/example/kenning/kenning/Status" = true := by first | (simp [plainName, overriddenIn]; done) | decide +kernel
theorem d2_0 : decode prog_13_method_4_code 0 = .ok (.aload_n 0, 1) := by decide +kernel
theorem d2_1 : decode prog_13_method_4_code 1 = .ok (.getfield 65, 3) := by decide +kernel
theorem d2_4 : decode prog_13_method_4_code 4 = .ok (.ireturn, 1) := by decide +kernel
theorem ef_rm2 (m : MethodId) (a1 : Addr) (k : Int32) : entryFrame m #[(.ref a1)] 1 = mkF m 0 #[.val (.ref a1)] [] := by first | (simp [entryFrame, mkF, argsToLocals, Value.category]; done) | rfl
def Qrm2 (Z : State) (a1 : Addr) (k : Int32) (h0 : Heap) (n0 : Nat) (v : Option Value) (h : Heap) (L : List Loc) : Prop := v = some (.int k) ∧ Fr n0 L ∧ h = h0
set_option maxRecDepth 65536 in
set_option maxHeartbeats 40000000 in
theorem rm2 (l : Launch) (Z : State) (a0 : Array Value) (hw : ∀ d ∈ tables_1, d.before a0 Z = true) (ws : List Jvm.Cond) (a1 : Addr) (k : Int32) (h0 : Heap) (n0 : Nat) (Z0 : n0 ≤ h0.size) (F1 : Fld Z h0 a1 "com/example/kenning/kenning/Status" "code" "I" (.int k)) :
    MetFree l (⟨"com/example/kenning/kenning/Status", "code", "()I"⟩ : MethodName) (head1 (Jvm.Cond.code (⟨"com/example/kenning/kenning/Status", "code", "()I"⟩ : MethodName) prog_13_method_4_code 1 (some .int) :: ws) ({ frames := 0, cells := 0, slots := 0, locals := 0 } : Room)) (fun a U => a = #[(.ref a1)] ∧ Z.Warmed39 U.vm ∧ U.heap = h0) (fun _ _ _ _ _ => True) (fun _ U o U' => ∃ v L, o = .returned v ∧ Qrm2 Z a1 k h0 n0 v U'.heap L ∧ FrameEnd U o U' L ({ frames := 0, cells := 0, slots := 0, locals := 0 } : Room).cells ({ frames := 0, cells := 0, slots := 0, locals := 0 } : Room).slots) := by
  refine MetFree.of_bodySF (plainFor_of_name pn_1) hisR ?_
  intro p e s m args below meth c s₁ Bd hml0 hP hK
  obtain ⟨rfl, hZ, hh⟩ := hP
  have hx := Bd.exec
  have hby := Bd.bytes
  have hml : c.maxLocals = 1 := hml0
  have hown : s.vm.findClass "com/example/kenning/kenning/Status" = some m.cls := findClass_of_methodNamed Bd.named
  have hnm := (name_of_methodNamed Bd.named Bd.method).1
  have X0 : Stand p l e ({ frames := 0, cells := 0, slots := 0, locals := 0 } : Room) s m #[(.ref a1)] below meth c s₁ [] 0 0 := Stand.of_body Bd
  have e0 : s₁.heap = h0 := by rw [← hh, Bd.state]; rfl
  have N0 := Fr.nil n0
  show Go p.tables e below (fun o U' => ∃ v L, o = .returned v ∧ Qrm2 Z a1 k h0 n0 v U'.heap L ∧ FrameEnd s o U' L ({ frames := 0, cells := 0, slots := 0, locals := 0 } : Room).cells ({ frames := 0, cells := 0, slots := 0, locals := 0 } : Room).slots) _
  refine Go.step (fun t kt => castTop (ef_rm2 m a1 k) kt) ?_
  show Go p.tables e below _ (s₁.setTop (mkF m 0 #[.val (.ref a1)] []))
  refine Go.step (fun _ kt => XS.aloadN X0.here hx rfl (hb hby d2_0) rfl rfl kt) ?_
  show Go p.tables e below _ (s₁.setTop (mkF m 1 #[.val (.ref a1)] [(.ref a1)]))
  obtain ⟨T101, X101, e101, st101⟩ := getF X0 hx hZ hown (host := "") (Or.inl (hw _ (List.mem_of_getElem? (i := 13) rfl))) Via.refl e0 F1 (g := (mkF m 1 #[.val (.ref a1)] [(.ref a1)])) rfl rfl (hb hby d2_1)
  refine Go.step st101 ?_
  show Go p.tables e below _ (T101.setTop (mkF m 4 #[.val (.ref a1)] [(.int k)]))
  obtain ⟨fs, hr, hrun, hended, hW, hsame⟩ := X101.leave (v := some (.int k)) (fun h => by rw [Bd.returns] at h; cases h)
  refine ⟨_, _, retI X101 hx Bd.returns (hb hby d2_4) hr, hrun, hended, _, _, rfl, ?_, ⟨_, rfl⟩, hW, hsame.mono (by decide) (by decide)⟩
  show Qrm2 Z a1 k h0 n0 _ T101.heap _
  rw [e101]
  refine ⟨?_, N0, rfl⟩
  rfl
def own_err (k : Int32) : Int32 := if k < 160 then 0 else 1
theorem d3_0 : decode prog_13_method_7_code 0 = .ok (.aload_n 0, 1) := by decide +kernel
theorem d3_1 : decode prog_13_method_7_code 1 = .ok (.getfield 65, 3) := by decide +kernel
theorem d3_4 : decode prog_13_method_7_code 4 = .ok (.sipush 160, 3) := by decide +kernel
theorem d3_7 : decode prog_13_method_7_code 7 = .ok (.if_icmp .lt 7, 3) := by decide +kernel
theorem d3_10 : decode prog_13_method_7_code 10 = .ok (.iconst 1, 1) := by decide +kernel
theorem d3_11 : decode prog_13_method_7_code 11 = .ok (.goto 4, 3) := by decide +kernel
theorem d3_14 : decode prog_13_method_7_code 14 = .ok (.iconst 0, 1) := by decide +kernel
theorem d3_15 : decode prog_13_method_7_code 15 = .ok (.ireturn, 1) := by decide +kernel
theorem ef_rm3 (m : MethodId) (a1 : Addr) (k : Int32) : entryFrame m #[(.ref a1)] 1 = mkF m 0 #[.val (.ref a1)] [] := by first | (simp [entryFrame, mkF, argsToLocals, Value.category]; done) | rfl
def Qrm3 (Z : State) (a1 : Addr) (k : Int32) (h0 : Heap) (n0 : Nat) (v : Option Value) (h : Heap) (L : List Loc) : Prop := v = some (.int (own_err k)) ∧ Fr n0 L ∧ h = h0
set_option maxRecDepth 65536 in
set_option maxHeartbeats 40000000 in
theorem rm3 (l : Launch) (Z : State) (a0 : Array Value) (hw : ∀ d ∈ tables_1, d.before a0 Z = true) (ws : List Jvm.Cond) (a1 : Addr) (k : Int32) (h0 : Heap) (n0 : Nat) (Z0 : n0 ≤ h0.size) (F1 : Fld Z h0 a1 "com/example/kenning/kenning/Status" "code" "I" (.int k)) :
    MetFree l (⟨"com/example/kenning/kenning/Status", "isError", "()Z"⟩ : MethodName) (head1 (Jvm.Cond.code (⟨"com/example/kenning/kenning/Status", "isError", "()Z"⟩ : MethodName) prog_13_method_7_code 1 (some .boolean) :: ws) ({ frames := 0, cells := 0, slots := 0, locals := 0 } : Room)) (fun a U => a = #[(.ref a1)] ∧ Z.Warmed39 U.vm ∧ U.heap = h0) (fun _ _ _ _ _ => True) (fun _ U o U' => ∃ v L, o = .returned v ∧ Qrm3 Z a1 k h0 n0 v U'.heap L ∧ FrameEnd U o U' L ({ frames := 0, cells := 0, slots := 0, locals := 0 } : Room).cells ({ frames := 0, cells := 0, slots := 0, locals := 0 } : Room).slots) := by
  refine MetFree.of_bodySF (plainFor_of_name pn_1) hisR ?_
  intro p e s m args below meth c s₁ Bd hml0 hP hK
  obtain ⟨rfl, hZ, hh⟩ := hP
  have hx := Bd.exec
  have hby := Bd.bytes
  have hml : c.maxLocals = 1 := hml0
  have hown : s.vm.findClass "com/example/kenning/kenning/Status" = some m.cls := findClass_of_methodNamed Bd.named
  have hnm := (name_of_methodNamed Bd.named Bd.method).1
  have X0 : Stand p l e ({ frames := 0, cells := 0, slots := 0, locals := 0 } : Room) s m #[(.ref a1)] below meth c s₁ [] 0 0 := Stand.of_body Bd
  have e0 : s₁.heap = h0 := by rw [← hh, Bd.state]; rfl
  have N0 := Fr.nil n0
  show Go p.tables e below (fun o U' => ∃ v L, o = .returned v ∧ Qrm3 Z a1 k h0 n0 v U'.heap L ∧ FrameEnd s o U' L ({ frames := 0, cells := 0, slots := 0, locals := 0 } : Room).cells ({ frames := 0, cells := 0, slots := 0, locals := 0 } : Room).slots) _
  refine Go.step (fun t kt => castTop (ef_rm3 m a1 k) kt) ?_
  show Go p.tables e below _ (s₁.setTop (mkF m 0 #[.val (.ref a1)] []))
  refine Go.step (fun _ kt => XS.aloadN X0.here hx rfl (hb hby d3_0) rfl rfl kt) ?_
  show Go p.tables e below _ (s₁.setTop (mkF m 1 #[.val (.ref a1)] [(.ref a1)]))
  obtain ⟨T101, X101, e101, st101⟩ := getF X0 hx hZ hown (host := "") (Or.inl (hw _ (List.mem_of_getElem? (i := 13) rfl))) Via.refl e0 F1 (g := (mkF m 1 #[.val (.ref a1)] [(.ref a1)])) rfl rfl (hb hby d3_1)
  refine Go.step st101 ?_
  show Go p.tables e below _ (T101.setTop (mkF m 4 #[.val (.ref a1)] [(.int k)]))
  refine Go.step (fun _ kt => XS.sipush X101.here hx rfl (hb hby d3_4) kt) ?_
  show Go p.tables e below _ (T101.setTop (mkF m 7 #[.val (.ref a1)] [(.int (160 : Int32)), (.int k)]))
  by_cases hc7_102 : k < (160 : Int32)
  · refine Go.step (fun _ kt => XS.icmpYes X101.here hx rfl (pc0 := 7) (pc' := 14) rfl (hb hby d3_7) rfl (tlt hc7_102).1 (by decide) (by decide) kt) ?_
    show Go p.tables e below _ (T101.setTop (mkF m 14 #[.val (.ref a1)] []))
    refine Go.step (fun _ kt => XS.iconst X101.here hx rfl (hb hby d3_14) kt) ?_
    show Go p.tables e below _ (T101.setTop (mkF m 15 #[.val (.ref a1)] [(.int (0 : Int32))]))
    obtain ⟨fs, hr, hrun, hended, hW, hsame⟩ := X101.leave (v := some (.int (0 : Int32))) (fun h => by rw [Bd.returns] at h; cases h)
    refine ⟨_, _, retN X101 hx (t := .boolean) Bd.returns (by simp) (hb hby d3_15) hr, hrun, hended, _, _, rfl, ?_, ⟨_, rfl⟩, hW, hsame.mono (by decide) (by decide)⟩
    show Qrm3 Z a1 k h0 n0 _ T101.heap _
    rw [e101]
    refine ⟨?_, N0, rfl⟩
    have q : own_err k = (0 : Int32) := by simp only [own_err]; simp [hc7_102]
    rw [q]
  · refine Go.step (fun _ kt => XS.icmpNo X101.here hx rfl (hb hby d3_7) rfl (flt hc7_102).1 kt) ?_
    show Go p.tables e below _ (T101.setTop (mkF m 10 #[.val (.ref a1)] []))
    refine Go.step (fun _ kt => XS.iconst X101.here hx rfl (hb hby d3_10) kt) ?_
    show Go p.tables e below _ (T101.setTop (mkF m 11 #[.val (.ref a1)] [(.int (1 : Int32))]))
    refine Go.step (fun _ kt => XS.goto X101.here hx rfl (pc0 := 11) (pc' := 15) rfl (hb hby d3_11) (by decide) (by decide) kt) ?_
    show Go p.tables e below _ (T101.setTop (mkF m 15 #[.val (.ref a1)] [(.int (1 : Int32))]))
    obtain ⟨fs, hr, hrun, hended, hW, hsame⟩ := X101.leave (v := some (.int (1 : Int32))) (fun h => by rw [Bd.returns] at h; cases h)
    refine ⟨_, _, retN X101 hx (t := .boolean) Bd.returns (by simp) (hb hby d3_15) hr, hrun, hended, _, _, rfl, ?_, ⟨_, rfl⟩, hW, hsame.mono (by decide) (by decide)⟩
    show Qrm3 Z a1 k h0 n0 _ T101.heap _
    rw [e101]
    refine ⟨?_, N0, rfl⟩
    have q : own_err k = (1 : Int32) := by simp only [own_err]; simp [hc7_102]
    rw [q]
theorem pd_0 : parseMethodDescriptor "(I)Lcom/example/kenning/kenning/Status;" = some ⟨[.int], some (.object "com/example/kenning/kenning/Status")⟩ := by decide +kernel
theorem pd_1 : parseMethodDescriptor "()I" = some ⟨[], some .int⟩ := by decide +kernel
theorem pd_2 : parseMethodDescriptor "()Z" = some ⟨[], some .boolean⟩ := by decide +kernel
theorem ef_rm0 (m : MethodId) (p1 : Int32) (s_CREATED : Addr) (s_DELETED : Addr) (s_VALID : Addr) (s_CHANGED : Addr) (s_CONTENT : Addr) (s_BAD_REQUEST : Addr) (s_UNAUTHORIZED : Addr) (s_FORBIDDEN : Addr) (s_NOT_FOUND : Addr) (s_METHOD_NOT_ALLOWED : Addr) (s_REQUEST_TOO_LARGE : Addr) (s_UNPROCESSABLE_ENTITY : Addr) (s_INTERNAL_SERVER_ERROR : Addr) (s_NOT_IMPLEMENTED : Addr) : entryFrame m #[(.int p1)] maxLocals = mkF m 0 #[.val (.int p1), .unset, .unset, .unset, .unset, .unset, .unset] [] := by first | (simp [entryFrame, mkF, argsToLocals, Value.category, maxLocals]; done) | rfl
def Qrm0 (Z : State) (p1 : Int32) (s_CREATED : Addr) (s_DELETED : Addr) (s_VALID : Addr) (s_CHANGED : Addr) (s_CONTENT : Addr) (s_BAD_REQUEST : Addr) (s_UNAUTHORIZED : Addr) (s_FORBIDDEN : Addr) (s_NOT_FOUND : Addr) (s_METHOD_NOT_ALLOWED : Addr) (s_REQUEST_TOO_LARGE : Addr) (s_UNPROCESSABLE_ENTITY : Addr) (s_INTERNAL_SERVER_ERROR : Addr) (s_NOT_IMPLEMENTED : Addr) (h0 : Heap) (n0 : Nat) (v : Option Value) (h : Heap) (L : List Loc) : Prop := v = some (.int 1) ∧ Fr n0 L
set_option maxRecDepth 65536 in
set_option maxHeartbeats 40000000 in
theorem rm0 (l : Launch) (Z : State) (a0 : Array Value) (hw : ∀ d ∈ tables_1, d.before a0 Z = true) (ws : List Jvm.Cond) (p1 : Int32) (s_CREATED : Addr) (s_DELETED : Addr) (s_VALID : Addr) (s_CHANGED : Addr) (s_CONTENT : Addr) (s_BAD_REQUEST : Addr) (s_UNAUTHORIZED : Addr) (s_FORBIDDEN : Addr) (s_NOT_FOUND : Addr) (s_METHOD_NOT_ALLOWED : Addr) (s_REQUEST_TOO_LARGE : Addr) (s_UNPROCESSABLE_ENTITY : Addr) (s_INTERNAL_SERVER_ERROR : Addr) (s_NOT_IMPLEMENTED : Addr) (h0 : Heap) (n0 : Nat) (Z0 : n0 ≤ h0.size) (S_CREATED : Sta Z h0 "com/example/kenning/kenning/Status" "CREATED" "Lcom/example/kenning/kenning/Status;" (.ref s_CREATED)) (E_CREATED : Exa Z h0 s_CREATED "com/example/kenning/kenning/Status") (F_CREATED_code : Fld Z h0 s_CREATED "com/example/kenning/kenning/Status" "code" "I" (.int (129 : Int32))) (S_DELETED : Sta Z h0 "com/example/kenning/kenning/Status" "DELETED" "Lcom/example/kenning/kenning/Status;" (.ref s_DELETED)) (E_DELETED : Exa Z h0 s_DELETED "com/example/kenning/kenning/Status") (F_DELETED_code : Fld Z h0 s_DELETED "com/example/kenning/kenning/Status" "code" "I" (.int (130 : Int32))) (S_VALID : Sta Z h0 "com/example/kenning/kenning/Status" "VALID" "Lcom/example/kenning/kenning/Status;" (.ref s_VALID)) (E_VALID : Exa Z h0 s_VALID "com/example/kenning/kenning/Status") (F_VALID_code : Fld Z h0 s_VALID "com/example/kenning/kenning/Status" "code" "I" (.int (131 : Int32))) (S_CHANGED : Sta Z h0 "com/example/kenning/kenning/Status" "CHANGED" "Lcom/example/kenning/kenning/Status;" (.ref s_CHANGED)) (E_CHANGED : Exa Z h0 s_CHANGED "com/example/kenning/kenning/Status") (F_CHANGED_code : Fld Z h0 s_CHANGED "com/example/kenning/kenning/Status" "code" "I" (.int (132 : Int32))) (S_CONTENT : Sta Z h0 "com/example/kenning/kenning/Status" "CONTENT" "Lcom/example/kenning/kenning/Status;" (.ref s_CONTENT)) (E_CONTENT : Exa Z h0 s_CONTENT "com/example/kenning/kenning/Status") (F_CONTENT_code : Fld Z h0 s_CONTENT "com/example/kenning/kenning/Status" "code" "I" (.int (133 : Int32))) (S_BAD_REQUEST : Sta Z h0 "com/example/kenning/kenning/Status" "BAD_REQUEST" "Lcom/example/kenning/kenning/Status;" (.ref s_BAD_REQUEST)) (E_BAD_REQUEST : Exa Z h0 s_BAD_REQUEST "com/example/kenning/kenning/Status") (F_BAD_REQUEST_code : Fld Z h0 s_BAD_REQUEST "com/example/kenning/kenning/Status" "code" "I" (.int (160 : Int32))) (S_UNAUTHORIZED : Sta Z h0 "com/example/kenning/kenning/Status" "UNAUTHORIZED" "Lcom/example/kenning/kenning/Status;" (.ref s_UNAUTHORIZED)) (E_UNAUTHORIZED : Exa Z h0 s_UNAUTHORIZED "com/example/kenning/kenning/Status") (F_UNAUTHORIZED_code : Fld Z h0 s_UNAUTHORIZED "com/example/kenning/kenning/Status" "code" "I" (.int (161 : Int32))) (S_FORBIDDEN : Sta Z h0 "com/example/kenning/kenning/Status" "FORBIDDEN" "Lcom/example/kenning/kenning/Status;" (.ref s_FORBIDDEN)) (E_FORBIDDEN : Exa Z h0 s_FORBIDDEN "com/example/kenning/kenning/Status") (F_FORBIDDEN_code : Fld Z h0 s_FORBIDDEN "com/example/kenning/kenning/Status" "code" "I" (.int (163 : Int32))) (S_NOT_FOUND : Sta Z h0 "com/example/kenning/kenning/Status" "NOT_FOUND" "Lcom/example/kenning/kenning/Status;" (.ref s_NOT_FOUND)) (E_NOT_FOUND : Exa Z h0 s_NOT_FOUND "com/example/kenning/kenning/Status") (F_NOT_FOUND_code : Fld Z h0 s_NOT_FOUND "com/example/kenning/kenning/Status" "code" "I" (.int (164 : Int32))) (S_METHOD_NOT_ALLOWED : Sta Z h0 "com/example/kenning/kenning/Status" "METHOD_NOT_ALLOWED" "Lcom/example/kenning/kenning/Status;" (.ref s_METHOD_NOT_ALLOWED)) (E_METHOD_NOT_ALLOWED : Exa Z h0 s_METHOD_NOT_ALLOWED "com/example/kenning/kenning/Status") (F_METHOD_NOT_ALLOWED_code : Fld Z h0 s_METHOD_NOT_ALLOWED "com/example/kenning/kenning/Status" "code" "I" (.int (165 : Int32))) (S_REQUEST_TOO_LARGE : Sta Z h0 "com/example/kenning/kenning/Status" "REQUEST_TOO_LARGE" "Lcom/example/kenning/kenning/Status;" (.ref s_REQUEST_TOO_LARGE)) (E_REQUEST_TOO_LARGE : Exa Z h0 s_REQUEST_TOO_LARGE "com/example/kenning/kenning/Status") (F_REQUEST_TOO_LARGE_code : Fld Z h0 s_REQUEST_TOO_LARGE "com/example/kenning/kenning/Status" "code" "I" (.int (173 : Int32))) (S_UNPROCESSABLE_ENTITY : Sta Z h0 "com/example/kenning/kenning/Status" "UNPROCESSABLE_ENTITY" "Lcom/example/kenning/kenning/Status;" (.ref s_UNPROCESSABLE_ENTITY)) (E_UNPROCESSABLE_ENTITY : Exa Z h0 s_UNPROCESSABLE_ENTITY "com/example/kenning/kenning/Status") (F_UNPROCESSABLE_ENTITY_code : Fld Z h0 s_UNPROCESSABLE_ENTITY "com/example/kenning/kenning/Status" "code" "I" (.int (182 : Int32))) (S_INTERNAL_SERVER_ERROR : Sta Z h0 "com/example/kenning/kenning/Status" "INTERNAL_SERVER_ERROR" "Lcom/example/kenning/kenning/Status;" (.ref s_INTERNAL_SERVER_ERROR)) (E_INTERNAL_SERVER_ERROR : Exa Z h0 s_INTERNAL_SERVER_ERROR "com/example/kenning/kenning/Status") (F_INTERNAL_SERVER_ERROR_code : Fld Z h0 s_INTERNAL_SERVER_ERROR "com/example/kenning/kenning/Status" "code" "I" (.int (192 : Int32))) (S_NOT_IMPLEMENTED : Sta Z h0 "com/example/kenning/kenning/Status" "NOT_IMPLEMENTED" "Lcom/example/kenning/kenning/Status;" (.ref s_NOT_IMPLEMENTED)) (E_NOT_IMPLEMENTED : Exa Z h0 s_NOT_IMPLEMENTED "com/example/kenning/kenning/Status") (F_NOT_IMPLEMENTED_code : Fld Z h0 s_NOT_IMPLEMENTED "com/example/kenning/kenning/Status" "code" "I" (.int (193 : Int32))) :
    MetFree l x (head1 (Jvm.Cond.code x code maxLocals ret :: ws) room_1) (fun a U => a = #[(.int p1)] ∧ Z.Warmed39 U.vm ∧ U.heap = h0) (fun _ _ _ _ _ => True) (fun _ U o U' => ∃ v L, o = .returned v ∧ Qrm0 Z p1 s_CREATED s_DELETED s_VALID s_CHANGED s_CONTENT s_BAD_REQUEST s_UNAUTHORIZED s_FORBIDDEN s_NOT_FOUND s_METHOD_NOT_ALLOWED s_REQUEST_TOO_LARGE s_UNPROCESSABLE_ENTITY s_INTERNAL_SERVER_ERROR s_NOT_IMPLEMENTED h0 n0 v U'.heap L ∧ FrameEnd U o U' L room_1.cells room_1.slots) := by
  refine MetFree.of_bodySF (plainFor_of_name pn_0) hisR ?_
  intro p e s m args below meth c s₁ Bd hml0 hP hK
  obtain ⟨rfl, hZ, hh⟩ := hP
  have hx := Bd.exec
  have hby := Bd.bytes
  have hml : c.maxLocals = 7 := hml0
  have hown : s.vm.findClass "com/example/kenning/kenning/StatusIsErrorPinLaw" = some m.cls := findClass_of_methodNamed Bd.named
  have hnm := (name_of_methodNamed Bd.named Bd.method).1
  have X0 : Stand p l e room_1 s m #[(.int p1)] below meth c s₁ [] 0 0 := Stand.of_body Bd
  have e0 : s₁.heap = h0 := by rw [← hh, Bd.state]; rfl
  have N0 := Fr.nil n0
  show Go p.tables e below (fun o U' => ∃ v L, o = .returned v ∧ Qrm0 Z p1 s_CREATED s_DELETED s_VALID s_CHANGED s_CONTENT s_BAD_REQUEST s_UNAUTHORIZED s_FORBIDDEN s_NOT_FOUND s_METHOD_NOT_ALLOWED s_REQUEST_TOO_LARGE s_UNPROCESSABLE_ENTITY s_INTERNAL_SERVER_ERROR s_NOT_IMPLEMENTED h0 n0 v U'.heap L ∧ FrameEnd s o U' L room_1.cells room_1.slots) _
  refine Go.step (fun t kt => castTop (ef_rm0 m p1 s_CREATED s_DELETED s_VALID s_CHANGED s_CONTENT s_BAD_REQUEST s_UNAUTHORIZED s_FORBIDDEN s_NOT_FOUND s_METHOD_NOT_ALLOWED s_REQUEST_TOO_LARGE s_UNPROCESSABLE_ENTITY s_INTERNAL_SERVER_ERROR s_NOT_IMPLEMENTED) kt) ?_
  show Go p.tables e below _ (s₁.setTop (mkF m 0 #[.val (.int p1), .unset, .unset, .unset, .unset, .unset, .unset] []))
  refine Go.step (fun _ kt => XS.iloadN X0.here hx rfl (hb hby at_0) rfl kt) ?_
  show Go p.tables e below _ (s₁.setTop (mkF m 1 #[.val (.int p1), .unset, .unset, .unset, .unset, .unset, .unset] [(.int p1)]))
  refine Go.step (X0.ldcInt hx hown (mvT hZ (hw _ (List.mem_of_getElem? (i := 0) rfl))) (g := (mkF m 1 #[.val (.int p1), .unset, .unset, .unset, .unset, .unset, .unset] [(.int p1)])) rfl (hb hby at_1)) ?_
  show Go p.tables e below _ (s₁.setTop (mkF m 3 #[.val (.int p1), .unset, .unset, .unset, .unset, .unset, .unset] [(.int (2147483647 : Int32)), (.int p1)]))
  refine Go.step (fun _ kt => XS.iand X0.here hx rfl (hb hby at_3) rfl kt) ?_
  show Go p.tables e below _ (s₁.setTop (mkF m 4 #[.val (.int p1), .unset, .unset, .unset, .unset, .unset, .unset] [(.int (p1 &&& (2147483647 : Int32)))]))
  refine Go.step (fun _ kt => XS.bipush X0.here hx rfl (hb hby at_4) kt) ?_
  show Go p.tables e below _ (s₁.setTop (mkF m 6 #[.val (.int p1), .unset, .unset, .unset, .unset, .unset, .unset] [(.int (14 : Int32)), (.int (p1 &&& (2147483647 : Int32)))]))
  refine Go.step (fun _ kt => iremM (g := (mkF m 6 #[.val (.int p1), .unset, .unset, .unset, .unset, .unset, .unset] [(.int (14 : Int32)), (.int (p1 &&& (2147483647 : Int32)))])) X0 hx rfl (hb hby at_6) rfl (by decide) kt) ?_
  show Go p.tables e below _ (s₁.setTop (mkF m 7 #[.val (.int p1), .unset, .unset, .unset, .unset, .unset, .unset] [(.int ((p1 &&& (2147483647 : Int32)) % (14 : Int32)))]))
  refine Go.step (fun _ kt => XS.istoreN X0.here hx rfl (hb hby at_7) rfl (l' := #[.val (.int p1), .val (.int ((p1 &&& (2147483647 : Int32)) % (14 : Int32))), .unset, .unset, .unset, .unset, .unset]) rfl kt) ?_
  show Go p.tables e below _ (s₁.setTop (mkF m 8 #[.val (.int p1), .val (.int ((p1 &&& (2147483647 : Int32)) % (14 : Int32))), .unset, .unset, .unset, .unset, .unset] []))
  rcases own_rem14 p1 with hk | hk | hk | hk | hk | hk | hk | hk | hk | hk | hk | hk | hk | hk
  · rw [hk]
    show Go p.tables e below _ (s₁.setTop (mkF m 8 #[.val (.int p1), .val (.int (0 : Int32)), .unset, .unset, .unset, .unset, .unset] []))
    refine Go.step (fun _ kt => XS.iloadN X0.here hx rfl (hb hby at_8) rfl kt) ?_
    show Go p.tables e below _ (s₁.setTop (mkF m 9 #[.val (.int p1), .val (.int (0 : Int32)), .unset, .unset, .unset, .unset, .unset] [(.int (0 : Int32))]))
    obtain ⟨_, _, ⟨T101, L101, k101, n101⟩, -, X101, ⟨Lc101, hQ101, l101, y101, z101⟩, st101⟩ := Jvm.LawKit.callS X0 hx (y := (⟨"com/example/kenning/kenning/StatusIsErrorPinLaw", "pick", "(I)Lcom/example/kenning/kenning/Status;"⟩ : MethodName)) hown (mvT hZ (hw _ (List.mem_of_getElem? (i := 1) rfl))) (mvT hZ (hw _ (List.mem_of_getElem? (i := 2) rfl))) (mvT hZ (hw _ (List.mem_of_getElem? (i := 3) rfl))) (mvT hZ (hw _ (List.mem_of_getElem? (i := 4) rfl))) (by decide) (backOf (W := 0) (rm1 l Z a0 hw [] (0 : Int32) s_CREATED s_DELETED s_VALID s_CHANGED s_CONTENT s_BAD_REQUEST s_UNAUTHORIZED s_FORBIDDEN s_NOT_FOUND s_METHOD_NOT_ALLOWED s_REQUEST_TOO_LARGE s_UNPROCESSABLE_ENTITY s_INTERNAL_SERVER_ERROR s_NOT_IMPLEMENTED h0 n0 Z0 S_CREATED S_DELETED S_VALID S_CHANGED S_CONTENT S_BAD_REQUEST S_UNAUTHORIZED S_FORBIDDEN S_NOT_FOUND S_METHOD_NOT_ALLOWED S_REQUEST_TOO_LARGE S_UNPROCESSABLE_ENTITY S_INTERNAL_SERVER_ERROR S_NOT_IMPLEMENTED ) hZ (hw _ (List.mem_of_getElem? (i := 4) rfl)) (hw _ (List.mem_of_getElem? (i := 3) rfl)) (by decide) (by decide)) (g := (mkF m 9 #[.val (.int p1), .val (.int (0 : Int32)), .unset, .unset, .unset, .unset, .unset] [(.int (0 : Int32))])) rfl (by rw [hml]; rfl) (argsL := [(.int (0 : Int32))]) (rest := []) (lenOf pd_0 rfl) rfl (by show 2 * 0 + _ ≤ _; exact Nat.le_of_eq rfl) (hb hby at_9) (fun _ _ => ⟨rfl, e0, (by decide : 0 + 0 ≤ _), (by decide : 0 + 0 ≤ _)⟩)
    dsimp only [Pt.U, Pt.locs, Pt.cells, Pt.slots] at X101 l101 y101 z101 st101 hQ101
    subst l101 y101 z101
    obtain ⟨rfl, N101q, eh101⟩ := hQ101
    have N101 := Fr.app N0 N101q
    refine Go.step st101 ?_
    show Go p.tables e below _ (T101.setTop (mkF m 12 #[.val (.int p1), .val (.int (0 : Int32)), .unset, .unset, .unset, .unset, .unset] [(.ref (own_pick (0 : Int32) s_CREATED s_DELETED s_VALID s_CHANGED s_CONTENT s_BAD_REQUEST s_UNAUTHORIZED s_FORBIDDEN s_NOT_FOUND s_METHOD_NOT_ALLOWED s_REQUEST_TOO_LARGE s_UNPROCESSABLE_ENTITY s_INTERNAL_SERVER_ERROR s_NOT_IMPLEMENTED))]))
    have q102 : (own_pick (0 : Int32) s_CREATED s_DELETED s_VALID s_CHANGED s_CONTENT s_BAD_REQUEST s_UNAUTHORIZED s_FORBIDDEN s_NOT_FOUND s_METHOD_NOT_ALLOWED s_REQUEST_TOO_LARGE s_UNPROCESSABLE_ENTITY s_INTERNAL_SERVER_ERROR s_NOT_IMPLEMENTED) = s_CREATED := rfl
    rw [q102]
    show Go p.tables e below _ (T101.setTop (mkF m 12 #[.val (.int p1), .val (.int (0 : Int32)), .unset, .unset, .unset, .unset, .unset] [(.ref s_CREATED)]))
    refine Go.step (fun _ kt => XS.astoreN X101.here hx rfl (hb hby at_12) rfl rfl (l' := #[.val (.int p1), .val (.int (0 : Int32)), .val (.ref s_CREATED), .unset, .unset, .unset, .unset]) rfl kt) ?_
    show Go p.tables e below _ (T101.setTop (mkF m 13 #[.val (.int p1), .val (.int (0 : Int32)), .val (.ref s_CREATED), .unset, .unset, .unset, .unset] []))
    refine Go.step (fun _ kt => XS.iloadN X101.here hx rfl (hb hby at_13) rfl kt) ?_
    show Go p.tables e below _ (T101.setTop (mkF m 14 #[.val (.int p1), .val (.int (0 : Int32)), .val (.ref s_CREATED), .unset, .unset, .unset, .unset] [(.int (0 : Int32))]))
    refine Go.step (fun _ kt => XS.iconst X101.here hx rfl (hb hby at_14) kt) ?_
    show Go p.tables e below _ (T101.setTop (mkF m 15 #[.val (.int p1), .val (.int (0 : Int32)), .val (.ref s_CREATED), .unset, .unset, .unset, .unset] [(.int (5 : Int32)), (.int (0 : Int32))]))
    refine Go.step (fun _ kt => XS.icmpYes X101.here hx rfl (pc0 := 15) (pc' := 22) rfl (hb hby at_15) rfl (tlt (by decide : (0 : Int32) < (5 : Int32))).1 (by decide) (by decide) kt) ?_
    show Go p.tables e below _ (T101.setTop (mkF m 22 #[.val (.int p1), .val (.int (0 : Int32)), .val (.ref s_CREATED), .unset, .unset, .unset, .unset] []))
    refine Go.step (fun _ kt => XS.iconst X101.here hx rfl (hb hby at_22) kt) ?_
    show Go p.tables e below _ (T101.setTop (mkF m 23 #[.val (.int p1), .val (.int (0 : Int32)), .val (.ref s_CREATED), .unset, .unset, .unset, .unset] [(.int (0 : Int32))]))
    refine Go.step (fun _ kt => XS.istoreN X101.here hx rfl (hb hby at_23) rfl (l' := #[.val (.int p1), .val (.int (0 : Int32)), .val (.ref s_CREATED), .val (.int (0 : Int32)), .unset, .unset, .unset]) rfl kt) ?_
    show Go p.tables e below _ (T101.setTop (mkF m 24 #[.val (.int p1), .val (.int (0 : Int32)), .val (.ref s_CREATED), .val (.int (0 : Int32)), .unset, .unset, .unset] []))
    refine Go.step (fun _ kt => XS.aloadN X101.here hx rfl (hb hby at_24) rfl rfl kt) ?_
    show Go p.tables e below _ (T101.setTop (mkF m 25 #[.val (.int p1), .val (.int (0 : Int32)), .val (.ref s_CREATED), .val (.int (0 : Int32)), .unset, .unset, .unset] [(.ref s_CREATED)]))
    obtain ⟨cq103, kq103, q103a, q103b, q103c⟩ := isOf hZ eh101 E_CREATED
    obtain ⟨_, _, ⟨T103, L103, k103, n103⟩, -, X103, ⟨Lc103, hQ103, l103, y103, z103⟩, st103⟩ := X101.virtualBack hx (y := (⟨"com/example/kenning/kenning/Status", "code", "()I"⟩ : MethodName)) (z := (⟨"com/example/kenning/kenning/Status", "code", "()I"⟩ : MethodName)) hown (mvT hZ (hw _ (List.mem_of_getElem? (i := 8) rfl))) (mvT hZ (hw _ (List.mem_of_getElem? (i := 9) rfl))) (notFace_of_selects (args := #[]) (mvT hZ (hw _ (List.mem_of_getElem? (i := 11) rfl)))) (mvT hZ (hw _ (List.mem_of_getElem? (i := 11) rfl))) (mvT hZ (hw _ (List.mem_of_getElem? (i := 10) rfl))) (by decide) (backOf (W := 0) (rm2 l Z a0 hw [] s_CREATED (129 : Int32) h0 n0 Z0 F_CREATED_code ) hZ (hw _ (List.mem_of_getElem? (i := 12) rfl)) (hw _ (List.mem_of_getElem? (i := 6) rfl)) (by decide) (by decide)) q103a q103c (g := (mkF m 25 #[.val (.int p1), .val (.int (0 : Int32)), .val (.ref s_CREATED), .val (.int (0 : Int32)), .unset, .unset, .unset] [(.ref s_CREATED)])) rfl (by rw [hml]; rfl) (Steps.refl _) (argsL := []) (rest := []) (lenOf pd_1 rfl) rfl (by show 2 * 0 + _ ≤ _; exact Nat.le_of_eq rfl) (hb hby at_25) (fun _ _ => ⟨rfl, eh101, (by decide : 0 + 0 ≤ _), (by decide : 0 + 0 ≤ _)⟩)
    dsimp only [Pt.U, Pt.locs, Pt.cells, Pt.slots] at X103 l103 y103 z103 st103 hQ103
    subst l103 y103 z103
    obtain ⟨rfl, N103q, eh103⟩ := hQ103
    have N103 := Fr.app N101 N103q
    refine Go.step (fun _ kt => st103.trans kt) ?_
    show Go p.tables e below _ (T103.setTop (mkF m 28 #[.val (.int p1), .val (.int (0 : Int32)), .val (.ref s_CREATED), .val (.int (0 : Int32)), .unset, .unset, .unset] [(.int (129 : Int32))]))
    refine Go.step (fun _ kt => XS.iconst X103.here hx rfl (hb hby at_28) kt) ?_
    show Go p.tables e below _ (T103.setTop (mkF m 29 #[.val (.int p1), .val (.int (0 : Int32)), .val (.ref s_CREATED), .val (.int (0 : Int32)), .unset, .unset, .unset] [(.int (5 : Int32)), (.int (129 : Int32))]))
    refine Go.step (fun _ kt => XS.ishr X103.here hx rfl (hb hby at_29) rfl kt) ?_
    show Go p.tables e below _ (T103.setTop (mkF m 30 #[.val (.int p1), .val (.int (0 : Int32)), .val (.ref s_CREATED), .val (.int (0 : Int32)), .unset, .unset, .unset] [(.int ((129 : Int32) >>> ((5 : Int32) &&& 31)))]))
    have q104 : ((129 : Int32) >>> ((5 : Int32) &&& 31)) = (4 : Int32) := by decide
    rw [q104]
    show Go p.tables e below _ (T103.setTop (mkF m 30 #[.val (.int p1), .val (.int (0 : Int32)), .val (.ref s_CREATED), .val (.int (0 : Int32)), .unset, .unset, .unset] [(.int (4 : Int32))]))
    refine Go.step (fun _ kt => XS.istore X103.here hx rfl (hb hby at_30) rfl (l' := #[.val (.int p1), .val (.int (0 : Int32)), .val (.ref s_CREATED), .val (.int (0 : Int32)), .val (.int (4 : Int32)), .unset, .unset]) rfl kt) ?_
    show Go p.tables e below _ (T103.setTop (mkF m 32 #[.val (.int p1), .val (.int (0 : Int32)), .val (.ref s_CREATED), .val (.int (0 : Int32)), .val (.int (4 : Int32)), .unset, .unset] []))
    refine Go.step (fun _ kt => XS.iload X103.here hx rfl (hb hby at_32) rfl kt) ?_
    show Go p.tables e below _ (T103.setTop (mkF m 34 #[.val (.int p1), .val (.int (0 : Int32)), .val (.ref s_CREATED), .val (.int (0 : Int32)), .val (.int (4 : Int32)), .unset, .unset] [(.int (4 : Int32))]))
    refine Go.step (fun _ kt => XS.iconst X103.here hx rfl (hb hby at_34) kt) ?_
    show Go p.tables e below _ (T103.setTop (mkF m 35 #[.val (.int p1), .val (.int (0 : Int32)), .val (.ref s_CREATED), .val (.int (0 : Int32)), .val (.int (4 : Int32)), .unset, .unset] [(.int (5 : Int32)), (.int (4 : Int32))]))
    refine Go.step (fun _ kt => XS.icmpNo X103.here hx rfl (hb hby at_35) rfl (feq (by decide : ¬ ((4 : Int32) = (5 : Int32)))).1 kt) ?_
    show Go p.tables e below _ (T103.setTop (mkF m 38 #[.val (.int p1), .val (.int (0 : Int32)), .val (.ref s_CREATED), .val (.int (0 : Int32)), .val (.int (4 : Int32)), .unset, .unset] []))
    refine Go.step (fun _ kt => XS.iload X103.here hx rfl (hb hby at_38) rfl kt) ?_
    show Go p.tables e below _ (T103.setTop (mkF m 40 #[.val (.int p1), .val (.int (0 : Int32)), .val (.ref s_CREATED), .val (.int (0 : Int32)), .val (.int (4 : Int32)), .unset, .unset] [(.int (4 : Int32))]))
    refine Go.step (fun _ kt => XS.bipush X103.here hx rfl (hb hby at_40) kt) ?_
    show Go p.tables e below _ (T103.setTop (mkF m 42 #[.val (.int p1), .val (.int (0 : Int32)), .val (.ref s_CREATED), .val (.int (0 : Int32)), .val (.int (4 : Int32)), .unset, .unset] [(.int (6 : Int32)), (.int (4 : Int32))]))
    refine Go.step (fun _ kt => XS.icmpYes X103.here hx rfl (pc0 := 42) (pc' := 49) rfl (hb hby at_42) rfl (feq (by decide : ¬ ((4 : Int32) = (6 : Int32)))).2 (by decide) (by decide) kt) ?_
    show Go p.tables e below _ (T103.setTop (mkF m 49 #[.val (.int p1), .val (.int (0 : Int32)), .val (.ref s_CREATED), .val (.int (0 : Int32)), .val (.int (4 : Int32)), .unset, .unset] []))
    refine Go.step (fun _ kt => XS.iconst X103.here hx rfl (hb hby at_49) kt) ?_
    show Go p.tables e below _ (T103.setTop (mkF m 50 #[.val (.int p1), .val (.int (0 : Int32)), .val (.ref s_CREATED), .val (.int (0 : Int32)), .val (.int (4 : Int32)), .unset, .unset] [(.int (0 : Int32))]))
    refine Go.step (fun _ kt => XS.istore X103.here hx rfl (hb hby at_50) rfl (l' := #[.val (.int p1), .val (.int (0 : Int32)), .val (.ref s_CREATED), .val (.int (0 : Int32)), .val (.int (4 : Int32)), .val (.int (0 : Int32)), .unset]) rfl kt) ?_
    show Go p.tables e below _ (T103.setTop (mkF m 52 #[.val (.int p1), .val (.int (0 : Int32)), .val (.ref s_CREATED), .val (.int (0 : Int32)), .val (.int (4 : Int32)), .val (.int (0 : Int32)), .unset] []))
    refine Go.step (fun _ kt => XS.aloadN X103.here hx rfl (hb hby at_52) rfl rfl kt) ?_
    show Go p.tables e below _ (T103.setTop (mkF m 53 #[.val (.int p1), .val (.int (0 : Int32)), .val (.ref s_CREATED), .val (.int (0 : Int32)), .val (.int (4 : Int32)), .val (.int (0 : Int32)), .unset] [(.ref s_CREATED)]))
    obtain ⟨cq105, kq105, q105a, q105b, q105c⟩ := isOf hZ eh103 E_CREATED
    obtain ⟨_, _, ⟨T105, L105, k105, n105⟩, -, X105, ⟨Lc105, hQ105, l105, y105, z105⟩, st105⟩ := X103.virtualBack hx (y := (⟨"com/example/kenning/kenning/Status", "isError", "()Z"⟩ : MethodName)) (z := (⟨"com/example/kenning/kenning/Status", "isError", "()Z"⟩ : MethodName)) hown (mvT hZ (hw _ (List.mem_of_getElem? (i := 15) rfl))) (mvT hZ (hw _ (List.mem_of_getElem? (i := 16) rfl))) (notFace_of_selects (args := #[]) (mvT hZ (hw _ (List.mem_of_getElem? (i := 18) rfl)))) (mvT hZ (hw _ (List.mem_of_getElem? (i := 18) rfl))) (mvT hZ (hw _ (List.mem_of_getElem? (i := 17) rfl))) (by decide) (backOf (W := 0) (rm3 l Z a0 hw [] s_CREATED (129 : Int32) h0 n0 Z0 F_CREATED_code ) hZ (hw _ (List.mem_of_getElem? (i := 19) rfl)) (hw _ (List.mem_of_getElem? (i := 6) rfl)) (by decide) (by decide)) q105a q105c (g := (mkF m 53 #[.val (.int p1), .val (.int (0 : Int32)), .val (.ref s_CREATED), .val (.int (0 : Int32)), .val (.int (4 : Int32)), .val (.int (0 : Int32)), .unset] [(.ref s_CREATED)])) rfl (by rw [hml]; rfl) (Steps.refl _) (argsL := []) (rest := []) (lenOf pd_2 rfl) rfl (by show 2 * 0 + _ ≤ _; exact Nat.le_of_eq rfl) (hb hby at_53) (fun _ _ => ⟨rfl, eh103, (by decide : 0 + 0 ≤ _), (by decide : 0 + 0 ≤ _)⟩)
    dsimp only [Pt.U, Pt.locs, Pt.cells, Pt.slots] at X105 l105 y105 z105 st105 hQ105
    subst l105 y105 z105
    obtain ⟨rfl, N105q, eh105⟩ := hQ105
    have N105 := Fr.app N103 N105q
    refine Go.step (fun _ kt => st105.trans kt) ?_
    show Go p.tables e below _ (T105.setTop (mkF m 56 #[.val (.int p1), .val (.int (0 : Int32)), .val (.ref s_CREATED), .val (.int (0 : Int32)), .val (.int (4 : Int32)), .val (.int (0 : Int32)), .unset] [(.int (own_err (129 : Int32)))]))
    have q106 : (own_err (129 : Int32)) = (0 : Int32) := by decide
    rw [q106]
    show Go p.tables e below _ (T105.setTop (mkF m 56 #[.val (.int p1), .val (.int (0 : Int32)), .val (.ref s_CREATED), .val (.int (0 : Int32)), .val (.int (4 : Int32)), .val (.int (0 : Int32)), .unset] [(.int (0 : Int32))]))
    refine Go.step (fun _ kt => XS.istore X105.here hx rfl (hb hby at_56) rfl (l' := #[.val (.int p1), .val (.int (0 : Int32)), .val (.ref s_CREATED), .val (.int (0 : Int32)), .val (.int (4 : Int32)), .val (.int (0 : Int32)), .val (.int (0 : Int32))]) rfl kt) ?_
    show Go p.tables e below _ (T105.setTop (mkF m 58 #[.val (.int p1), .val (.int (0 : Int32)), .val (.ref s_CREATED), .val (.int (0 : Int32)), .val (.int (4 : Int32)), .val (.int (0 : Int32)), .val (.int (0 : Int32))] []))
    refine Go.step (fun _ kt => XS.iload X105.here hx rfl (hb hby at_58) rfl kt) ?_
    show Go p.tables e below _ (T105.setTop (mkF m 60 #[.val (.int p1), .val (.int (0 : Int32)), .val (.ref s_CREATED), .val (.int (0 : Int32)), .val (.int (4 : Int32)), .val (.int (0 : Int32)), .val (.int (0 : Int32))] [(.int (0 : Int32))]))
    refine Go.step (fun _ kt => XS.iloadN X105.here hx rfl (hb hby at_60) rfl kt) ?_
    show Go p.tables e below _ (T105.setTop (mkF m 61 #[.val (.int p1), .val (.int (0 : Int32)), .val (.ref s_CREATED), .val (.int (0 : Int32)), .val (.int (4 : Int32)), .val (.int (0 : Int32)), .val (.int (0 : Int32))] [(.int (0 : Int32)), (.int (0 : Int32))]))
    refine Go.step (fun _ kt => XS.icmpNo X105.here hx rfl (hb hby at_61) rfl (teq (by decide : (0 : Int32) = (0 : Int32))).2 kt) ?_
    show Go p.tables e below _ (T105.setTop (mkF m 64 #[.val (.int p1), .val (.int (0 : Int32)), .val (.ref s_CREATED), .val (.int (0 : Int32)), .val (.int (4 : Int32)), .val (.int (0 : Int32)), .val (.int (0 : Int32))] []))
    refine Go.step (fun _ kt => XS.iload X105.here hx rfl (hb hby at_64) rfl kt) ?_
    show Go p.tables e below _ (T105.setTop (mkF m 66 #[.val (.int p1), .val (.int (0 : Int32)), .val (.ref s_CREATED), .val (.int (0 : Int32)), .val (.int (4 : Int32)), .val (.int (0 : Int32)), .val (.int (0 : Int32))] [(.int (0 : Int32))]))
    refine Go.step (fun _ kt => XS.iload X105.here hx rfl (hb hby at_66) rfl kt) ?_
    show Go p.tables e below _ (T105.setTop (mkF m 68 #[.val (.int p1), .val (.int (0 : Int32)), .val (.ref s_CREATED), .val (.int (0 : Int32)), .val (.int (4 : Int32)), .val (.int (0 : Int32)), .val (.int (0 : Int32))] [(.int (0 : Int32)), (.int (0 : Int32))]))
    refine Go.step (fun _ kt => XS.icmpNo X105.here hx rfl (hb hby at_68) rfl (teq (by decide : (0 : Int32) = (0 : Int32))).2 kt) ?_
    show Go p.tables e below _ (T105.setTop (mkF m 71 #[.val (.int p1), .val (.int (0 : Int32)), .val (.ref s_CREATED), .val (.int (0 : Int32)), .val (.int (4 : Int32)), .val (.int (0 : Int32)), .val (.int (0 : Int32))] []))
    refine Go.step (fun _ kt => XS.iconst X105.here hx rfl (hb hby at_71) kt) ?_
    show Go p.tables e below _ (T105.setTop (mkF m 72 #[.val (.int p1), .val (.int (0 : Int32)), .val (.ref s_CREATED), .val (.int (0 : Int32)), .val (.int (4 : Int32)), .val (.int (0 : Int32)), .val (.int (0 : Int32))] [(.int (1 : Int32))]))
    refine Go.step (fun _ kt => XS.goto X105.here hx rfl (pc0 := 72) (pc' := 76) rfl (hb hby at_72) (by decide) (by decide) kt) ?_
    show Go p.tables e below _ (T105.setTop (mkF m 76 #[.val (.int p1), .val (.int (0 : Int32)), .val (.ref s_CREATED), .val (.int (0 : Int32)), .val (.int (4 : Int32)), .val (.int (0 : Int32)), .val (.int (0 : Int32))] [(.int (1 : Int32))]))
    obtain ⟨fs, hr, hrun, hended, hW, hsame⟩ := X105.leave (v := some (.int (1 : Int32))) (fun h => by rw [Bd.returns] at h; cases h)
    refine ⟨_, _, retN X105 hx (t := .boolean) Bd.returns (by simp) (hb hby at_76) hr, hrun, hended, _, _, rfl, ?_, ⟨_, rfl⟩, hW, hsame.mono (by decide) (by decide)⟩
    show Qrm0 Z p1 s_CREATED s_DELETED s_VALID s_CHANGED s_CONTENT s_BAD_REQUEST s_UNAUTHORIZED s_FORBIDDEN s_NOT_FOUND s_METHOD_NOT_ALLOWED s_REQUEST_TOO_LARGE s_UNPROCESSABLE_ENTITY s_INTERNAL_SERVER_ERROR s_NOT_IMPLEMENTED h0 n0 _ T105.heap _
    rw [eh105]
    exact ⟨rfl, N105⟩
  · rw [hk]
    show Go p.tables e below _ (s₁.setTop (mkF m 8 #[.val (.int p1), .val (.int (1 : Int32)), .unset, .unset, .unset, .unset, .unset] []))
    refine Go.step (fun _ kt => XS.iloadN X0.here hx rfl (hb hby at_8) rfl kt) ?_
    show Go p.tables e below _ (s₁.setTop (mkF m 9 #[.val (.int p1), .val (.int (1 : Int32)), .unset, .unset, .unset, .unset, .unset] [(.int (1 : Int32))]))
    obtain ⟨_, _, ⟨T107, L107, k107, n107⟩, -, X107, ⟨Lc107, hQ107, l107, y107, z107⟩, st107⟩ := Jvm.LawKit.callS X0 hx (y := (⟨"com/example/kenning/kenning/StatusIsErrorPinLaw", "pick", "(I)Lcom/example/kenning/kenning/Status;"⟩ : MethodName)) hown (mvT hZ (hw _ (List.mem_of_getElem? (i := 1) rfl))) (mvT hZ (hw _ (List.mem_of_getElem? (i := 2) rfl))) (mvT hZ (hw _ (List.mem_of_getElem? (i := 3) rfl))) (mvT hZ (hw _ (List.mem_of_getElem? (i := 4) rfl))) (by decide) (backOf (W := 0) (rm1 l Z a0 hw [] (1 : Int32) s_CREATED s_DELETED s_VALID s_CHANGED s_CONTENT s_BAD_REQUEST s_UNAUTHORIZED s_FORBIDDEN s_NOT_FOUND s_METHOD_NOT_ALLOWED s_REQUEST_TOO_LARGE s_UNPROCESSABLE_ENTITY s_INTERNAL_SERVER_ERROR s_NOT_IMPLEMENTED h0 n0 Z0 S_CREATED S_DELETED S_VALID S_CHANGED S_CONTENT S_BAD_REQUEST S_UNAUTHORIZED S_FORBIDDEN S_NOT_FOUND S_METHOD_NOT_ALLOWED S_REQUEST_TOO_LARGE S_UNPROCESSABLE_ENTITY S_INTERNAL_SERVER_ERROR S_NOT_IMPLEMENTED ) hZ (hw _ (List.mem_of_getElem? (i := 4) rfl)) (hw _ (List.mem_of_getElem? (i := 3) rfl)) (by decide) (by decide)) (g := (mkF m 9 #[.val (.int p1), .val (.int (1 : Int32)), .unset, .unset, .unset, .unset, .unset] [(.int (1 : Int32))])) rfl (by rw [hml]; rfl) (argsL := [(.int (1 : Int32))]) (rest := []) (lenOf pd_0 rfl) rfl (by show 2 * 0 + _ ≤ _; exact Nat.le_of_eq rfl) (hb hby at_9) (fun _ _ => ⟨rfl, e0, (by decide : 0 + 0 ≤ _), (by decide : 0 + 0 ≤ _)⟩)
    dsimp only [Pt.U, Pt.locs, Pt.cells, Pt.slots] at X107 l107 y107 z107 st107 hQ107
    subst l107 y107 z107
    obtain ⟨rfl, N107q, eh107⟩ := hQ107
    have N107 := Fr.app N0 N107q
    refine Go.step st107 ?_
    show Go p.tables e below _ (T107.setTop (mkF m 12 #[.val (.int p1), .val (.int (1 : Int32)), .unset, .unset, .unset, .unset, .unset] [(.ref (own_pick (1 : Int32) s_CREATED s_DELETED s_VALID s_CHANGED s_CONTENT s_BAD_REQUEST s_UNAUTHORIZED s_FORBIDDEN s_NOT_FOUND s_METHOD_NOT_ALLOWED s_REQUEST_TOO_LARGE s_UNPROCESSABLE_ENTITY s_INTERNAL_SERVER_ERROR s_NOT_IMPLEMENTED))]))
    have q108 : (own_pick (1 : Int32) s_CREATED s_DELETED s_VALID s_CHANGED s_CONTENT s_BAD_REQUEST s_UNAUTHORIZED s_FORBIDDEN s_NOT_FOUND s_METHOD_NOT_ALLOWED s_REQUEST_TOO_LARGE s_UNPROCESSABLE_ENTITY s_INTERNAL_SERVER_ERROR s_NOT_IMPLEMENTED) = s_DELETED := rfl
    rw [q108]
    show Go p.tables e below _ (T107.setTop (mkF m 12 #[.val (.int p1), .val (.int (1 : Int32)), .unset, .unset, .unset, .unset, .unset] [(.ref s_DELETED)]))
    refine Go.step (fun _ kt => XS.astoreN X107.here hx rfl (hb hby at_12) rfl rfl (l' := #[.val (.int p1), .val (.int (1 : Int32)), .val (.ref s_DELETED), .unset, .unset, .unset, .unset]) rfl kt) ?_
    show Go p.tables e below _ (T107.setTop (mkF m 13 #[.val (.int p1), .val (.int (1 : Int32)), .val (.ref s_DELETED), .unset, .unset, .unset, .unset] []))
    refine Go.step (fun _ kt => XS.iloadN X107.here hx rfl (hb hby at_13) rfl kt) ?_
    show Go p.tables e below _ (T107.setTop (mkF m 14 #[.val (.int p1), .val (.int (1 : Int32)), .val (.ref s_DELETED), .unset, .unset, .unset, .unset] [(.int (1 : Int32))]))
    refine Go.step (fun _ kt => XS.iconst X107.here hx rfl (hb hby at_14) kt) ?_
    show Go p.tables e below _ (T107.setTop (mkF m 15 #[.val (.int p1), .val (.int (1 : Int32)), .val (.ref s_DELETED), .unset, .unset, .unset, .unset] [(.int (5 : Int32)), (.int (1 : Int32))]))
    refine Go.step (fun _ kt => XS.icmpYes X107.here hx rfl (pc0 := 15) (pc' := 22) rfl (hb hby at_15) rfl (tlt (by decide : (1 : Int32) < (5 : Int32))).1 (by decide) (by decide) kt) ?_
    show Go p.tables e below _ (T107.setTop (mkF m 22 #[.val (.int p1), .val (.int (1 : Int32)), .val (.ref s_DELETED), .unset, .unset, .unset, .unset] []))
    refine Go.step (fun _ kt => XS.iconst X107.here hx rfl (hb hby at_22) kt) ?_
    show Go p.tables e below _ (T107.setTop (mkF m 23 #[.val (.int p1), .val (.int (1 : Int32)), .val (.ref s_DELETED), .unset, .unset, .unset, .unset] [(.int (0 : Int32))]))
    refine Go.step (fun _ kt => XS.istoreN X107.here hx rfl (hb hby at_23) rfl (l' := #[.val (.int p1), .val (.int (1 : Int32)), .val (.ref s_DELETED), .val (.int (0 : Int32)), .unset, .unset, .unset]) rfl kt) ?_
    show Go p.tables e below _ (T107.setTop (mkF m 24 #[.val (.int p1), .val (.int (1 : Int32)), .val (.ref s_DELETED), .val (.int (0 : Int32)), .unset, .unset, .unset] []))
    refine Go.step (fun _ kt => XS.aloadN X107.here hx rfl (hb hby at_24) rfl rfl kt) ?_
    show Go p.tables e below _ (T107.setTop (mkF m 25 #[.val (.int p1), .val (.int (1 : Int32)), .val (.ref s_DELETED), .val (.int (0 : Int32)), .unset, .unset, .unset] [(.ref s_DELETED)]))
    obtain ⟨cq109, kq109, q109a, q109b, q109c⟩ := isOf hZ eh107 E_DELETED
    obtain ⟨_, _, ⟨T109, L109, k109, n109⟩, -, X109, ⟨Lc109, hQ109, l109, y109, z109⟩, st109⟩ := X107.virtualBack hx (y := (⟨"com/example/kenning/kenning/Status", "code", "()I"⟩ : MethodName)) (z := (⟨"com/example/kenning/kenning/Status", "code", "()I"⟩ : MethodName)) hown (mvT hZ (hw _ (List.mem_of_getElem? (i := 8) rfl))) (mvT hZ (hw _ (List.mem_of_getElem? (i := 9) rfl))) (notFace_of_selects (args := #[]) (mvT hZ (hw _ (List.mem_of_getElem? (i := 11) rfl)))) (mvT hZ (hw _ (List.mem_of_getElem? (i := 11) rfl))) (mvT hZ (hw _ (List.mem_of_getElem? (i := 10) rfl))) (by decide) (backOf (W := 0) (rm2 l Z a0 hw [] s_DELETED (130 : Int32) h0 n0 Z0 F_DELETED_code ) hZ (hw _ (List.mem_of_getElem? (i := 12) rfl)) (hw _ (List.mem_of_getElem? (i := 6) rfl)) (by decide) (by decide)) q109a q109c (g := (mkF m 25 #[.val (.int p1), .val (.int (1 : Int32)), .val (.ref s_DELETED), .val (.int (0 : Int32)), .unset, .unset, .unset] [(.ref s_DELETED)])) rfl (by rw [hml]; rfl) (Steps.refl _) (argsL := []) (rest := []) (lenOf pd_1 rfl) rfl (by show 2 * 0 + _ ≤ _; exact Nat.le_of_eq rfl) (hb hby at_25) (fun _ _ => ⟨rfl, eh107, (by decide : 0 + 0 ≤ _), (by decide : 0 + 0 ≤ _)⟩)
    dsimp only [Pt.U, Pt.locs, Pt.cells, Pt.slots] at X109 l109 y109 z109 st109 hQ109
    subst l109 y109 z109
    obtain ⟨rfl, N109q, eh109⟩ := hQ109
    have N109 := Fr.app N107 N109q
    refine Go.step (fun _ kt => st109.trans kt) ?_
    show Go p.tables e below _ (T109.setTop (mkF m 28 #[.val (.int p1), .val (.int (1 : Int32)), .val (.ref s_DELETED), .val (.int (0 : Int32)), .unset, .unset, .unset] [(.int (130 : Int32))]))
    refine Go.step (fun _ kt => XS.iconst X109.here hx rfl (hb hby at_28) kt) ?_
    show Go p.tables e below _ (T109.setTop (mkF m 29 #[.val (.int p1), .val (.int (1 : Int32)), .val (.ref s_DELETED), .val (.int (0 : Int32)), .unset, .unset, .unset] [(.int (5 : Int32)), (.int (130 : Int32))]))
    refine Go.step (fun _ kt => XS.ishr X109.here hx rfl (hb hby at_29) rfl kt) ?_
    show Go p.tables e below _ (T109.setTop (mkF m 30 #[.val (.int p1), .val (.int (1 : Int32)), .val (.ref s_DELETED), .val (.int (0 : Int32)), .unset, .unset, .unset] [(.int ((130 : Int32) >>> ((5 : Int32) &&& 31)))]))
    have q110 : ((130 : Int32) >>> ((5 : Int32) &&& 31)) = (4 : Int32) := by decide
    rw [q110]
    show Go p.tables e below _ (T109.setTop (mkF m 30 #[.val (.int p1), .val (.int (1 : Int32)), .val (.ref s_DELETED), .val (.int (0 : Int32)), .unset, .unset, .unset] [(.int (4 : Int32))]))
    refine Go.step (fun _ kt => XS.istore X109.here hx rfl (hb hby at_30) rfl (l' := #[.val (.int p1), .val (.int (1 : Int32)), .val (.ref s_DELETED), .val (.int (0 : Int32)), .val (.int (4 : Int32)), .unset, .unset]) rfl kt) ?_
    show Go p.tables e below _ (T109.setTop (mkF m 32 #[.val (.int p1), .val (.int (1 : Int32)), .val (.ref s_DELETED), .val (.int (0 : Int32)), .val (.int (4 : Int32)), .unset, .unset] []))
    refine Go.step (fun _ kt => XS.iload X109.here hx rfl (hb hby at_32) rfl kt) ?_
    show Go p.tables e below _ (T109.setTop (mkF m 34 #[.val (.int p1), .val (.int (1 : Int32)), .val (.ref s_DELETED), .val (.int (0 : Int32)), .val (.int (4 : Int32)), .unset, .unset] [(.int (4 : Int32))]))
    refine Go.step (fun _ kt => XS.iconst X109.here hx rfl (hb hby at_34) kt) ?_
    show Go p.tables e below _ (T109.setTop (mkF m 35 #[.val (.int p1), .val (.int (1 : Int32)), .val (.ref s_DELETED), .val (.int (0 : Int32)), .val (.int (4 : Int32)), .unset, .unset] [(.int (5 : Int32)), (.int (4 : Int32))]))
    refine Go.step (fun _ kt => XS.icmpNo X109.here hx rfl (hb hby at_35) rfl (feq (by decide : ¬ ((4 : Int32) = (5 : Int32)))).1 kt) ?_
    show Go p.tables e below _ (T109.setTop (mkF m 38 #[.val (.int p1), .val (.int (1 : Int32)), .val (.ref s_DELETED), .val (.int (0 : Int32)), .val (.int (4 : Int32)), .unset, .unset] []))
    refine Go.step (fun _ kt => XS.iload X109.here hx rfl (hb hby at_38) rfl kt) ?_
    show Go p.tables e below _ (T109.setTop (mkF m 40 #[.val (.int p1), .val (.int (1 : Int32)), .val (.ref s_DELETED), .val (.int (0 : Int32)), .val (.int (4 : Int32)), .unset, .unset] [(.int (4 : Int32))]))
    refine Go.step (fun _ kt => XS.bipush X109.here hx rfl (hb hby at_40) kt) ?_
    show Go p.tables e below _ (T109.setTop (mkF m 42 #[.val (.int p1), .val (.int (1 : Int32)), .val (.ref s_DELETED), .val (.int (0 : Int32)), .val (.int (4 : Int32)), .unset, .unset] [(.int (6 : Int32)), (.int (4 : Int32))]))
    refine Go.step (fun _ kt => XS.icmpYes X109.here hx rfl (pc0 := 42) (pc' := 49) rfl (hb hby at_42) rfl (feq (by decide : ¬ ((4 : Int32) = (6 : Int32)))).2 (by decide) (by decide) kt) ?_
    show Go p.tables e below _ (T109.setTop (mkF m 49 #[.val (.int p1), .val (.int (1 : Int32)), .val (.ref s_DELETED), .val (.int (0 : Int32)), .val (.int (4 : Int32)), .unset, .unset] []))
    refine Go.step (fun _ kt => XS.iconst X109.here hx rfl (hb hby at_49) kt) ?_
    show Go p.tables e below _ (T109.setTop (mkF m 50 #[.val (.int p1), .val (.int (1 : Int32)), .val (.ref s_DELETED), .val (.int (0 : Int32)), .val (.int (4 : Int32)), .unset, .unset] [(.int (0 : Int32))]))
    refine Go.step (fun _ kt => XS.istore X109.here hx rfl (hb hby at_50) rfl (l' := #[.val (.int p1), .val (.int (1 : Int32)), .val (.ref s_DELETED), .val (.int (0 : Int32)), .val (.int (4 : Int32)), .val (.int (0 : Int32)), .unset]) rfl kt) ?_
    show Go p.tables e below _ (T109.setTop (mkF m 52 #[.val (.int p1), .val (.int (1 : Int32)), .val (.ref s_DELETED), .val (.int (0 : Int32)), .val (.int (4 : Int32)), .val (.int (0 : Int32)), .unset] []))
    refine Go.step (fun _ kt => XS.aloadN X109.here hx rfl (hb hby at_52) rfl rfl kt) ?_
    show Go p.tables e below _ (T109.setTop (mkF m 53 #[.val (.int p1), .val (.int (1 : Int32)), .val (.ref s_DELETED), .val (.int (0 : Int32)), .val (.int (4 : Int32)), .val (.int (0 : Int32)), .unset] [(.ref s_DELETED)]))
    obtain ⟨cq111, kq111, q111a, q111b, q111c⟩ := isOf hZ eh109 E_DELETED
    obtain ⟨_, _, ⟨T111, L111, k111, n111⟩, -, X111, ⟨Lc111, hQ111, l111, y111, z111⟩, st111⟩ := X109.virtualBack hx (y := (⟨"com/example/kenning/kenning/Status", "isError", "()Z"⟩ : MethodName)) (z := (⟨"com/example/kenning/kenning/Status", "isError", "()Z"⟩ : MethodName)) hown (mvT hZ (hw _ (List.mem_of_getElem? (i := 15) rfl))) (mvT hZ (hw _ (List.mem_of_getElem? (i := 16) rfl))) (notFace_of_selects (args := #[]) (mvT hZ (hw _ (List.mem_of_getElem? (i := 18) rfl)))) (mvT hZ (hw _ (List.mem_of_getElem? (i := 18) rfl))) (mvT hZ (hw _ (List.mem_of_getElem? (i := 17) rfl))) (by decide) (backOf (W := 0) (rm3 l Z a0 hw [] s_DELETED (130 : Int32) h0 n0 Z0 F_DELETED_code ) hZ (hw _ (List.mem_of_getElem? (i := 19) rfl)) (hw _ (List.mem_of_getElem? (i := 6) rfl)) (by decide) (by decide)) q111a q111c (g := (mkF m 53 #[.val (.int p1), .val (.int (1 : Int32)), .val (.ref s_DELETED), .val (.int (0 : Int32)), .val (.int (4 : Int32)), .val (.int (0 : Int32)), .unset] [(.ref s_DELETED)])) rfl (by rw [hml]; rfl) (Steps.refl _) (argsL := []) (rest := []) (lenOf pd_2 rfl) rfl (by show 2 * 0 + _ ≤ _; exact Nat.le_of_eq rfl) (hb hby at_53) (fun _ _ => ⟨rfl, eh109, (by decide : 0 + 0 ≤ _), (by decide : 0 + 0 ≤ _)⟩)
    dsimp only [Pt.U, Pt.locs, Pt.cells, Pt.slots] at X111 l111 y111 z111 st111 hQ111
    subst l111 y111 z111
    obtain ⟨rfl, N111q, eh111⟩ := hQ111
    have N111 := Fr.app N109 N111q
    refine Go.step (fun _ kt => st111.trans kt) ?_
    show Go p.tables e below _ (T111.setTop (mkF m 56 #[.val (.int p1), .val (.int (1 : Int32)), .val (.ref s_DELETED), .val (.int (0 : Int32)), .val (.int (4 : Int32)), .val (.int (0 : Int32)), .unset] [(.int (own_err (130 : Int32)))]))
    have q112 : (own_err (130 : Int32)) = (0 : Int32) := by decide
    rw [q112]
    show Go p.tables e below _ (T111.setTop (mkF m 56 #[.val (.int p1), .val (.int (1 : Int32)), .val (.ref s_DELETED), .val (.int (0 : Int32)), .val (.int (4 : Int32)), .val (.int (0 : Int32)), .unset] [(.int (0 : Int32))]))
    refine Go.step (fun _ kt => XS.istore X111.here hx rfl (hb hby at_56) rfl (l' := #[.val (.int p1), .val (.int (1 : Int32)), .val (.ref s_DELETED), .val (.int (0 : Int32)), .val (.int (4 : Int32)), .val (.int (0 : Int32)), .val (.int (0 : Int32))]) rfl kt) ?_
    show Go p.tables e below _ (T111.setTop (mkF m 58 #[.val (.int p1), .val (.int (1 : Int32)), .val (.ref s_DELETED), .val (.int (0 : Int32)), .val (.int (4 : Int32)), .val (.int (0 : Int32)), .val (.int (0 : Int32))] []))
    refine Go.step (fun _ kt => XS.iload X111.here hx rfl (hb hby at_58) rfl kt) ?_
    show Go p.tables e below _ (T111.setTop (mkF m 60 #[.val (.int p1), .val (.int (1 : Int32)), .val (.ref s_DELETED), .val (.int (0 : Int32)), .val (.int (4 : Int32)), .val (.int (0 : Int32)), .val (.int (0 : Int32))] [(.int (0 : Int32))]))
    refine Go.step (fun _ kt => XS.iloadN X111.here hx rfl (hb hby at_60) rfl kt) ?_
    show Go p.tables e below _ (T111.setTop (mkF m 61 #[.val (.int p1), .val (.int (1 : Int32)), .val (.ref s_DELETED), .val (.int (0 : Int32)), .val (.int (4 : Int32)), .val (.int (0 : Int32)), .val (.int (0 : Int32))] [(.int (0 : Int32)), (.int (0 : Int32))]))
    refine Go.step (fun _ kt => XS.icmpNo X111.here hx rfl (hb hby at_61) rfl (teq (by decide : (0 : Int32) = (0 : Int32))).2 kt) ?_
    show Go p.tables e below _ (T111.setTop (mkF m 64 #[.val (.int p1), .val (.int (1 : Int32)), .val (.ref s_DELETED), .val (.int (0 : Int32)), .val (.int (4 : Int32)), .val (.int (0 : Int32)), .val (.int (0 : Int32))] []))
    refine Go.step (fun _ kt => XS.iload X111.here hx rfl (hb hby at_64) rfl kt) ?_
    show Go p.tables e below _ (T111.setTop (mkF m 66 #[.val (.int p1), .val (.int (1 : Int32)), .val (.ref s_DELETED), .val (.int (0 : Int32)), .val (.int (4 : Int32)), .val (.int (0 : Int32)), .val (.int (0 : Int32))] [(.int (0 : Int32))]))
    refine Go.step (fun _ kt => XS.iload X111.here hx rfl (hb hby at_66) rfl kt) ?_
    show Go p.tables e below _ (T111.setTop (mkF m 68 #[.val (.int p1), .val (.int (1 : Int32)), .val (.ref s_DELETED), .val (.int (0 : Int32)), .val (.int (4 : Int32)), .val (.int (0 : Int32)), .val (.int (0 : Int32))] [(.int (0 : Int32)), (.int (0 : Int32))]))
    refine Go.step (fun _ kt => XS.icmpNo X111.here hx rfl (hb hby at_68) rfl (teq (by decide : (0 : Int32) = (0 : Int32))).2 kt) ?_
    show Go p.tables e below _ (T111.setTop (mkF m 71 #[.val (.int p1), .val (.int (1 : Int32)), .val (.ref s_DELETED), .val (.int (0 : Int32)), .val (.int (4 : Int32)), .val (.int (0 : Int32)), .val (.int (0 : Int32))] []))
    refine Go.step (fun _ kt => XS.iconst X111.here hx rfl (hb hby at_71) kt) ?_
    show Go p.tables e below _ (T111.setTop (mkF m 72 #[.val (.int p1), .val (.int (1 : Int32)), .val (.ref s_DELETED), .val (.int (0 : Int32)), .val (.int (4 : Int32)), .val (.int (0 : Int32)), .val (.int (0 : Int32))] [(.int (1 : Int32))]))
    refine Go.step (fun _ kt => XS.goto X111.here hx rfl (pc0 := 72) (pc' := 76) rfl (hb hby at_72) (by decide) (by decide) kt) ?_
    show Go p.tables e below _ (T111.setTop (mkF m 76 #[.val (.int p1), .val (.int (1 : Int32)), .val (.ref s_DELETED), .val (.int (0 : Int32)), .val (.int (4 : Int32)), .val (.int (0 : Int32)), .val (.int (0 : Int32))] [(.int (1 : Int32))]))
    obtain ⟨fs, hr, hrun, hended, hW, hsame⟩ := X111.leave (v := some (.int (1 : Int32))) (fun h => by rw [Bd.returns] at h; cases h)
    refine ⟨_, _, retN X111 hx (t := .boolean) Bd.returns (by simp) (hb hby at_76) hr, hrun, hended, _, _, rfl, ?_, ⟨_, rfl⟩, hW, hsame.mono (by decide) (by decide)⟩
    show Qrm0 Z p1 s_CREATED s_DELETED s_VALID s_CHANGED s_CONTENT s_BAD_REQUEST s_UNAUTHORIZED s_FORBIDDEN s_NOT_FOUND s_METHOD_NOT_ALLOWED s_REQUEST_TOO_LARGE s_UNPROCESSABLE_ENTITY s_INTERNAL_SERVER_ERROR s_NOT_IMPLEMENTED h0 n0 _ T111.heap _
    rw [eh111]
    exact ⟨rfl, N111⟩
  · rw [hk]
    show Go p.tables e below _ (s₁.setTop (mkF m 8 #[.val (.int p1), .val (.int (2 : Int32)), .unset, .unset, .unset, .unset, .unset] []))
    refine Go.step (fun _ kt => XS.iloadN X0.here hx rfl (hb hby at_8) rfl kt) ?_
    show Go p.tables e below _ (s₁.setTop (mkF m 9 #[.val (.int p1), .val (.int (2 : Int32)), .unset, .unset, .unset, .unset, .unset] [(.int (2 : Int32))]))
    obtain ⟨_, _, ⟨T113, L113, k113, n113⟩, -, X113, ⟨Lc113, hQ113, l113, y113, z113⟩, st113⟩ := Jvm.LawKit.callS X0 hx (y := (⟨"com/example/kenning/kenning/StatusIsErrorPinLaw", "pick", "(I)Lcom/example/kenning/kenning/Status;"⟩ : MethodName)) hown (mvT hZ (hw _ (List.mem_of_getElem? (i := 1) rfl))) (mvT hZ (hw _ (List.mem_of_getElem? (i := 2) rfl))) (mvT hZ (hw _ (List.mem_of_getElem? (i := 3) rfl))) (mvT hZ (hw _ (List.mem_of_getElem? (i := 4) rfl))) (by decide) (backOf (W := 0) (rm1 l Z a0 hw [] (2 : Int32) s_CREATED s_DELETED s_VALID s_CHANGED s_CONTENT s_BAD_REQUEST s_UNAUTHORIZED s_FORBIDDEN s_NOT_FOUND s_METHOD_NOT_ALLOWED s_REQUEST_TOO_LARGE s_UNPROCESSABLE_ENTITY s_INTERNAL_SERVER_ERROR s_NOT_IMPLEMENTED h0 n0 Z0 S_CREATED S_DELETED S_VALID S_CHANGED S_CONTENT S_BAD_REQUEST S_UNAUTHORIZED S_FORBIDDEN S_NOT_FOUND S_METHOD_NOT_ALLOWED S_REQUEST_TOO_LARGE S_UNPROCESSABLE_ENTITY S_INTERNAL_SERVER_ERROR S_NOT_IMPLEMENTED ) hZ (hw _ (List.mem_of_getElem? (i := 4) rfl)) (hw _ (List.mem_of_getElem? (i := 3) rfl)) (by decide) (by decide)) (g := (mkF m 9 #[.val (.int p1), .val (.int (2 : Int32)), .unset, .unset, .unset, .unset, .unset] [(.int (2 : Int32))])) rfl (by rw [hml]; rfl) (argsL := [(.int (2 : Int32))]) (rest := []) (lenOf pd_0 rfl) rfl (by show 2 * 0 + _ ≤ _; exact Nat.le_of_eq rfl) (hb hby at_9) (fun _ _ => ⟨rfl, e0, (by decide : 0 + 0 ≤ _), (by decide : 0 + 0 ≤ _)⟩)
    dsimp only [Pt.U, Pt.locs, Pt.cells, Pt.slots] at X113 l113 y113 z113 st113 hQ113
    subst l113 y113 z113
    obtain ⟨rfl, N113q, eh113⟩ := hQ113
    have N113 := Fr.app N0 N113q
    refine Go.step st113 ?_
    show Go p.tables e below _ (T113.setTop (mkF m 12 #[.val (.int p1), .val (.int (2 : Int32)), .unset, .unset, .unset, .unset, .unset] [(.ref (own_pick (2 : Int32) s_CREATED s_DELETED s_VALID s_CHANGED s_CONTENT s_BAD_REQUEST s_UNAUTHORIZED s_FORBIDDEN s_NOT_FOUND s_METHOD_NOT_ALLOWED s_REQUEST_TOO_LARGE s_UNPROCESSABLE_ENTITY s_INTERNAL_SERVER_ERROR s_NOT_IMPLEMENTED))]))
    have q114 : (own_pick (2 : Int32) s_CREATED s_DELETED s_VALID s_CHANGED s_CONTENT s_BAD_REQUEST s_UNAUTHORIZED s_FORBIDDEN s_NOT_FOUND s_METHOD_NOT_ALLOWED s_REQUEST_TOO_LARGE s_UNPROCESSABLE_ENTITY s_INTERNAL_SERVER_ERROR s_NOT_IMPLEMENTED) = s_VALID := rfl
    rw [q114]
    show Go p.tables e below _ (T113.setTop (mkF m 12 #[.val (.int p1), .val (.int (2 : Int32)), .unset, .unset, .unset, .unset, .unset] [(.ref s_VALID)]))
    refine Go.step (fun _ kt => XS.astoreN X113.here hx rfl (hb hby at_12) rfl rfl (l' := #[.val (.int p1), .val (.int (2 : Int32)), .val (.ref s_VALID), .unset, .unset, .unset, .unset]) rfl kt) ?_
    show Go p.tables e below _ (T113.setTop (mkF m 13 #[.val (.int p1), .val (.int (2 : Int32)), .val (.ref s_VALID), .unset, .unset, .unset, .unset] []))
    refine Go.step (fun _ kt => XS.iloadN X113.here hx rfl (hb hby at_13) rfl kt) ?_
    show Go p.tables e below _ (T113.setTop (mkF m 14 #[.val (.int p1), .val (.int (2 : Int32)), .val (.ref s_VALID), .unset, .unset, .unset, .unset] [(.int (2 : Int32))]))
    refine Go.step (fun _ kt => XS.iconst X113.here hx rfl (hb hby at_14) kt) ?_
    show Go p.tables e below _ (T113.setTop (mkF m 15 #[.val (.int p1), .val (.int (2 : Int32)), .val (.ref s_VALID), .unset, .unset, .unset, .unset] [(.int (5 : Int32)), (.int (2 : Int32))]))
    refine Go.step (fun _ kt => XS.icmpYes X113.here hx rfl (pc0 := 15) (pc' := 22) rfl (hb hby at_15) rfl (tlt (by decide : (2 : Int32) < (5 : Int32))).1 (by decide) (by decide) kt) ?_
    show Go p.tables e below _ (T113.setTop (mkF m 22 #[.val (.int p1), .val (.int (2 : Int32)), .val (.ref s_VALID), .unset, .unset, .unset, .unset] []))
    refine Go.step (fun _ kt => XS.iconst X113.here hx rfl (hb hby at_22) kt) ?_
    show Go p.tables e below _ (T113.setTop (mkF m 23 #[.val (.int p1), .val (.int (2 : Int32)), .val (.ref s_VALID), .unset, .unset, .unset, .unset] [(.int (0 : Int32))]))
    refine Go.step (fun _ kt => XS.istoreN X113.here hx rfl (hb hby at_23) rfl (l' := #[.val (.int p1), .val (.int (2 : Int32)), .val (.ref s_VALID), .val (.int (0 : Int32)), .unset, .unset, .unset]) rfl kt) ?_
    show Go p.tables e below _ (T113.setTop (mkF m 24 #[.val (.int p1), .val (.int (2 : Int32)), .val (.ref s_VALID), .val (.int (0 : Int32)), .unset, .unset, .unset] []))
    refine Go.step (fun _ kt => XS.aloadN X113.here hx rfl (hb hby at_24) rfl rfl kt) ?_
    show Go p.tables e below _ (T113.setTop (mkF m 25 #[.val (.int p1), .val (.int (2 : Int32)), .val (.ref s_VALID), .val (.int (0 : Int32)), .unset, .unset, .unset] [(.ref s_VALID)]))
    obtain ⟨cq115, kq115, q115a, q115b, q115c⟩ := isOf hZ eh113 E_VALID
    obtain ⟨_, _, ⟨T115, L115, k115, n115⟩, -, X115, ⟨Lc115, hQ115, l115, y115, z115⟩, st115⟩ := X113.virtualBack hx (y := (⟨"com/example/kenning/kenning/Status", "code", "()I"⟩ : MethodName)) (z := (⟨"com/example/kenning/kenning/Status", "code", "()I"⟩ : MethodName)) hown (mvT hZ (hw _ (List.mem_of_getElem? (i := 8) rfl))) (mvT hZ (hw _ (List.mem_of_getElem? (i := 9) rfl))) (notFace_of_selects (args := #[]) (mvT hZ (hw _ (List.mem_of_getElem? (i := 11) rfl)))) (mvT hZ (hw _ (List.mem_of_getElem? (i := 11) rfl))) (mvT hZ (hw _ (List.mem_of_getElem? (i := 10) rfl))) (by decide) (backOf (W := 0) (rm2 l Z a0 hw [] s_VALID (131 : Int32) h0 n0 Z0 F_VALID_code ) hZ (hw _ (List.mem_of_getElem? (i := 12) rfl)) (hw _ (List.mem_of_getElem? (i := 6) rfl)) (by decide) (by decide)) q115a q115c (g := (mkF m 25 #[.val (.int p1), .val (.int (2 : Int32)), .val (.ref s_VALID), .val (.int (0 : Int32)), .unset, .unset, .unset] [(.ref s_VALID)])) rfl (by rw [hml]; rfl) (Steps.refl _) (argsL := []) (rest := []) (lenOf pd_1 rfl) rfl (by show 2 * 0 + _ ≤ _; exact Nat.le_of_eq rfl) (hb hby at_25) (fun _ _ => ⟨rfl, eh113, (by decide : 0 + 0 ≤ _), (by decide : 0 + 0 ≤ _)⟩)
    dsimp only [Pt.U, Pt.locs, Pt.cells, Pt.slots] at X115 l115 y115 z115 st115 hQ115
    subst l115 y115 z115
    obtain ⟨rfl, N115q, eh115⟩ := hQ115
    have N115 := Fr.app N113 N115q
    refine Go.step (fun _ kt => st115.trans kt) ?_
    show Go p.tables e below _ (T115.setTop (mkF m 28 #[.val (.int p1), .val (.int (2 : Int32)), .val (.ref s_VALID), .val (.int (0 : Int32)), .unset, .unset, .unset] [(.int (131 : Int32))]))
    refine Go.step (fun _ kt => XS.iconst X115.here hx rfl (hb hby at_28) kt) ?_
    show Go p.tables e below _ (T115.setTop (mkF m 29 #[.val (.int p1), .val (.int (2 : Int32)), .val (.ref s_VALID), .val (.int (0 : Int32)), .unset, .unset, .unset] [(.int (5 : Int32)), (.int (131 : Int32))]))
    refine Go.step (fun _ kt => XS.ishr X115.here hx rfl (hb hby at_29) rfl kt) ?_
    show Go p.tables e below _ (T115.setTop (mkF m 30 #[.val (.int p1), .val (.int (2 : Int32)), .val (.ref s_VALID), .val (.int (0 : Int32)), .unset, .unset, .unset] [(.int ((131 : Int32) >>> ((5 : Int32) &&& 31)))]))
    have q116 : ((131 : Int32) >>> ((5 : Int32) &&& 31)) = (4 : Int32) := by decide
    rw [q116]
    show Go p.tables e below _ (T115.setTop (mkF m 30 #[.val (.int p1), .val (.int (2 : Int32)), .val (.ref s_VALID), .val (.int (0 : Int32)), .unset, .unset, .unset] [(.int (4 : Int32))]))
    refine Go.step (fun _ kt => XS.istore X115.here hx rfl (hb hby at_30) rfl (l' := #[.val (.int p1), .val (.int (2 : Int32)), .val (.ref s_VALID), .val (.int (0 : Int32)), .val (.int (4 : Int32)), .unset, .unset]) rfl kt) ?_
    show Go p.tables e below _ (T115.setTop (mkF m 32 #[.val (.int p1), .val (.int (2 : Int32)), .val (.ref s_VALID), .val (.int (0 : Int32)), .val (.int (4 : Int32)), .unset, .unset] []))
    refine Go.step (fun _ kt => XS.iload X115.here hx rfl (hb hby at_32) rfl kt) ?_
    show Go p.tables e below _ (T115.setTop (mkF m 34 #[.val (.int p1), .val (.int (2 : Int32)), .val (.ref s_VALID), .val (.int (0 : Int32)), .val (.int (4 : Int32)), .unset, .unset] [(.int (4 : Int32))]))
    refine Go.step (fun _ kt => XS.iconst X115.here hx rfl (hb hby at_34) kt) ?_
    show Go p.tables e below _ (T115.setTop (mkF m 35 #[.val (.int p1), .val (.int (2 : Int32)), .val (.ref s_VALID), .val (.int (0 : Int32)), .val (.int (4 : Int32)), .unset, .unset] [(.int (5 : Int32)), (.int (4 : Int32))]))
    refine Go.step (fun _ kt => XS.icmpNo X115.here hx rfl (hb hby at_35) rfl (feq (by decide : ¬ ((4 : Int32) = (5 : Int32)))).1 kt) ?_
    show Go p.tables e below _ (T115.setTop (mkF m 38 #[.val (.int p1), .val (.int (2 : Int32)), .val (.ref s_VALID), .val (.int (0 : Int32)), .val (.int (4 : Int32)), .unset, .unset] []))
    refine Go.step (fun _ kt => XS.iload X115.here hx rfl (hb hby at_38) rfl kt) ?_
    show Go p.tables e below _ (T115.setTop (mkF m 40 #[.val (.int p1), .val (.int (2 : Int32)), .val (.ref s_VALID), .val (.int (0 : Int32)), .val (.int (4 : Int32)), .unset, .unset] [(.int (4 : Int32))]))
    refine Go.step (fun _ kt => XS.bipush X115.here hx rfl (hb hby at_40) kt) ?_
    show Go p.tables e below _ (T115.setTop (mkF m 42 #[.val (.int p1), .val (.int (2 : Int32)), .val (.ref s_VALID), .val (.int (0 : Int32)), .val (.int (4 : Int32)), .unset, .unset] [(.int (6 : Int32)), (.int (4 : Int32))]))
    refine Go.step (fun _ kt => XS.icmpYes X115.here hx rfl (pc0 := 42) (pc' := 49) rfl (hb hby at_42) rfl (feq (by decide : ¬ ((4 : Int32) = (6 : Int32)))).2 (by decide) (by decide) kt) ?_
    show Go p.tables e below _ (T115.setTop (mkF m 49 #[.val (.int p1), .val (.int (2 : Int32)), .val (.ref s_VALID), .val (.int (0 : Int32)), .val (.int (4 : Int32)), .unset, .unset] []))
    refine Go.step (fun _ kt => XS.iconst X115.here hx rfl (hb hby at_49) kt) ?_
    show Go p.tables e below _ (T115.setTop (mkF m 50 #[.val (.int p1), .val (.int (2 : Int32)), .val (.ref s_VALID), .val (.int (0 : Int32)), .val (.int (4 : Int32)), .unset, .unset] [(.int (0 : Int32))]))
    refine Go.step (fun _ kt => XS.istore X115.here hx rfl (hb hby at_50) rfl (l' := #[.val (.int p1), .val (.int (2 : Int32)), .val (.ref s_VALID), .val (.int (0 : Int32)), .val (.int (4 : Int32)), .val (.int (0 : Int32)), .unset]) rfl kt) ?_
    show Go p.tables e below _ (T115.setTop (mkF m 52 #[.val (.int p1), .val (.int (2 : Int32)), .val (.ref s_VALID), .val (.int (0 : Int32)), .val (.int (4 : Int32)), .val (.int (0 : Int32)), .unset] []))
    refine Go.step (fun _ kt => XS.aloadN X115.here hx rfl (hb hby at_52) rfl rfl kt) ?_
    show Go p.tables e below _ (T115.setTop (mkF m 53 #[.val (.int p1), .val (.int (2 : Int32)), .val (.ref s_VALID), .val (.int (0 : Int32)), .val (.int (4 : Int32)), .val (.int (0 : Int32)), .unset] [(.ref s_VALID)]))
    obtain ⟨cq117, kq117, q117a, q117b, q117c⟩ := isOf hZ eh115 E_VALID
    obtain ⟨_, _, ⟨T117, L117, k117, n117⟩, -, X117, ⟨Lc117, hQ117, l117, y117, z117⟩, st117⟩ := X115.virtualBack hx (y := (⟨"com/example/kenning/kenning/Status", "isError", "()Z"⟩ : MethodName)) (z := (⟨"com/example/kenning/kenning/Status", "isError", "()Z"⟩ : MethodName)) hown (mvT hZ (hw _ (List.mem_of_getElem? (i := 15) rfl))) (mvT hZ (hw _ (List.mem_of_getElem? (i := 16) rfl))) (notFace_of_selects (args := #[]) (mvT hZ (hw _ (List.mem_of_getElem? (i := 18) rfl)))) (mvT hZ (hw _ (List.mem_of_getElem? (i := 18) rfl))) (mvT hZ (hw _ (List.mem_of_getElem? (i := 17) rfl))) (by decide) (backOf (W := 0) (rm3 l Z a0 hw [] s_VALID (131 : Int32) h0 n0 Z0 F_VALID_code ) hZ (hw _ (List.mem_of_getElem? (i := 19) rfl)) (hw _ (List.mem_of_getElem? (i := 6) rfl)) (by decide) (by decide)) q117a q117c (g := (mkF m 53 #[.val (.int p1), .val (.int (2 : Int32)), .val (.ref s_VALID), .val (.int (0 : Int32)), .val (.int (4 : Int32)), .val (.int (0 : Int32)), .unset] [(.ref s_VALID)])) rfl (by rw [hml]; rfl) (Steps.refl _) (argsL := []) (rest := []) (lenOf pd_2 rfl) rfl (by show 2 * 0 + _ ≤ _; exact Nat.le_of_eq rfl) (hb hby at_53) (fun _ _ => ⟨rfl, eh115, (by decide : 0 + 0 ≤ _), (by decide : 0 + 0 ≤ _)⟩)
    dsimp only [Pt.U, Pt.locs, Pt.cells, Pt.slots] at X117 l117 y117 z117 st117 hQ117
    subst l117 y117 z117
    obtain ⟨rfl, N117q, eh117⟩ := hQ117
    have N117 := Fr.app N115 N117q
    refine Go.step (fun _ kt => st117.trans kt) ?_
    show Go p.tables e below _ (T117.setTop (mkF m 56 #[.val (.int p1), .val (.int (2 : Int32)), .val (.ref s_VALID), .val (.int (0 : Int32)), .val (.int (4 : Int32)), .val (.int (0 : Int32)), .unset] [(.int (own_err (131 : Int32)))]))
    have q118 : (own_err (131 : Int32)) = (0 : Int32) := by decide
    rw [q118]
    show Go p.tables e below _ (T117.setTop (mkF m 56 #[.val (.int p1), .val (.int (2 : Int32)), .val (.ref s_VALID), .val (.int (0 : Int32)), .val (.int (4 : Int32)), .val (.int (0 : Int32)), .unset] [(.int (0 : Int32))]))
    refine Go.step (fun _ kt => XS.istore X117.here hx rfl (hb hby at_56) rfl (l' := #[.val (.int p1), .val (.int (2 : Int32)), .val (.ref s_VALID), .val (.int (0 : Int32)), .val (.int (4 : Int32)), .val (.int (0 : Int32)), .val (.int (0 : Int32))]) rfl kt) ?_
    show Go p.tables e below _ (T117.setTop (mkF m 58 #[.val (.int p1), .val (.int (2 : Int32)), .val (.ref s_VALID), .val (.int (0 : Int32)), .val (.int (4 : Int32)), .val (.int (0 : Int32)), .val (.int (0 : Int32))] []))
    refine Go.step (fun _ kt => XS.iload X117.here hx rfl (hb hby at_58) rfl kt) ?_
    show Go p.tables e below _ (T117.setTop (mkF m 60 #[.val (.int p1), .val (.int (2 : Int32)), .val (.ref s_VALID), .val (.int (0 : Int32)), .val (.int (4 : Int32)), .val (.int (0 : Int32)), .val (.int (0 : Int32))] [(.int (0 : Int32))]))
    refine Go.step (fun _ kt => XS.iloadN X117.here hx rfl (hb hby at_60) rfl kt) ?_
    show Go p.tables e below _ (T117.setTop (mkF m 61 #[.val (.int p1), .val (.int (2 : Int32)), .val (.ref s_VALID), .val (.int (0 : Int32)), .val (.int (4 : Int32)), .val (.int (0 : Int32)), .val (.int (0 : Int32))] [(.int (0 : Int32)), (.int (0 : Int32))]))
    refine Go.step (fun _ kt => XS.icmpNo X117.here hx rfl (hb hby at_61) rfl (teq (by decide : (0 : Int32) = (0 : Int32))).2 kt) ?_
    show Go p.tables e below _ (T117.setTop (mkF m 64 #[.val (.int p1), .val (.int (2 : Int32)), .val (.ref s_VALID), .val (.int (0 : Int32)), .val (.int (4 : Int32)), .val (.int (0 : Int32)), .val (.int (0 : Int32))] []))
    refine Go.step (fun _ kt => XS.iload X117.here hx rfl (hb hby at_64) rfl kt) ?_
    show Go p.tables e below _ (T117.setTop (mkF m 66 #[.val (.int p1), .val (.int (2 : Int32)), .val (.ref s_VALID), .val (.int (0 : Int32)), .val (.int (4 : Int32)), .val (.int (0 : Int32)), .val (.int (0 : Int32))] [(.int (0 : Int32))]))
    refine Go.step (fun _ kt => XS.iload X117.here hx rfl (hb hby at_66) rfl kt) ?_
    show Go p.tables e below _ (T117.setTop (mkF m 68 #[.val (.int p1), .val (.int (2 : Int32)), .val (.ref s_VALID), .val (.int (0 : Int32)), .val (.int (4 : Int32)), .val (.int (0 : Int32)), .val (.int (0 : Int32))] [(.int (0 : Int32)), (.int (0 : Int32))]))
    refine Go.step (fun _ kt => XS.icmpNo X117.here hx rfl (hb hby at_68) rfl (teq (by decide : (0 : Int32) = (0 : Int32))).2 kt) ?_
    show Go p.tables e below _ (T117.setTop (mkF m 71 #[.val (.int p1), .val (.int (2 : Int32)), .val (.ref s_VALID), .val (.int (0 : Int32)), .val (.int (4 : Int32)), .val (.int (0 : Int32)), .val (.int (0 : Int32))] []))
    refine Go.step (fun _ kt => XS.iconst X117.here hx rfl (hb hby at_71) kt) ?_
    show Go p.tables e below _ (T117.setTop (mkF m 72 #[.val (.int p1), .val (.int (2 : Int32)), .val (.ref s_VALID), .val (.int (0 : Int32)), .val (.int (4 : Int32)), .val (.int (0 : Int32)), .val (.int (0 : Int32))] [(.int (1 : Int32))]))
    refine Go.step (fun _ kt => XS.goto X117.here hx rfl (pc0 := 72) (pc' := 76) rfl (hb hby at_72) (by decide) (by decide) kt) ?_
    show Go p.tables e below _ (T117.setTop (mkF m 76 #[.val (.int p1), .val (.int (2 : Int32)), .val (.ref s_VALID), .val (.int (0 : Int32)), .val (.int (4 : Int32)), .val (.int (0 : Int32)), .val (.int (0 : Int32))] [(.int (1 : Int32))]))
    obtain ⟨fs, hr, hrun, hended, hW, hsame⟩ := X117.leave (v := some (.int (1 : Int32))) (fun h => by rw [Bd.returns] at h; cases h)
    refine ⟨_, _, retN X117 hx (t := .boolean) Bd.returns (by simp) (hb hby at_76) hr, hrun, hended, _, _, rfl, ?_, ⟨_, rfl⟩, hW, hsame.mono (by decide) (by decide)⟩
    show Qrm0 Z p1 s_CREATED s_DELETED s_VALID s_CHANGED s_CONTENT s_BAD_REQUEST s_UNAUTHORIZED s_FORBIDDEN s_NOT_FOUND s_METHOD_NOT_ALLOWED s_REQUEST_TOO_LARGE s_UNPROCESSABLE_ENTITY s_INTERNAL_SERVER_ERROR s_NOT_IMPLEMENTED h0 n0 _ T117.heap _
    rw [eh117]
    exact ⟨rfl, N117⟩
  · rw [hk]
    show Go p.tables e below _ (s₁.setTop (mkF m 8 #[.val (.int p1), .val (.int (3 : Int32)), .unset, .unset, .unset, .unset, .unset] []))
    refine Go.step (fun _ kt => XS.iloadN X0.here hx rfl (hb hby at_8) rfl kt) ?_
    show Go p.tables e below _ (s₁.setTop (mkF m 9 #[.val (.int p1), .val (.int (3 : Int32)), .unset, .unset, .unset, .unset, .unset] [(.int (3 : Int32))]))
    obtain ⟨_, _, ⟨T119, L119, k119, n119⟩, -, X119, ⟨Lc119, hQ119, l119, y119, z119⟩, st119⟩ := Jvm.LawKit.callS X0 hx (y := (⟨"com/example/kenning/kenning/StatusIsErrorPinLaw", "pick", "(I)Lcom/example/kenning/kenning/Status;"⟩ : MethodName)) hown (mvT hZ (hw _ (List.mem_of_getElem? (i := 1) rfl))) (mvT hZ (hw _ (List.mem_of_getElem? (i := 2) rfl))) (mvT hZ (hw _ (List.mem_of_getElem? (i := 3) rfl))) (mvT hZ (hw _ (List.mem_of_getElem? (i := 4) rfl))) (by decide) (backOf (W := 0) (rm1 l Z a0 hw [] (3 : Int32) s_CREATED s_DELETED s_VALID s_CHANGED s_CONTENT s_BAD_REQUEST s_UNAUTHORIZED s_FORBIDDEN s_NOT_FOUND s_METHOD_NOT_ALLOWED s_REQUEST_TOO_LARGE s_UNPROCESSABLE_ENTITY s_INTERNAL_SERVER_ERROR s_NOT_IMPLEMENTED h0 n0 Z0 S_CREATED S_DELETED S_VALID S_CHANGED S_CONTENT S_BAD_REQUEST S_UNAUTHORIZED S_FORBIDDEN S_NOT_FOUND S_METHOD_NOT_ALLOWED S_REQUEST_TOO_LARGE S_UNPROCESSABLE_ENTITY S_INTERNAL_SERVER_ERROR S_NOT_IMPLEMENTED ) hZ (hw _ (List.mem_of_getElem? (i := 4) rfl)) (hw _ (List.mem_of_getElem? (i := 3) rfl)) (by decide) (by decide)) (g := (mkF m 9 #[.val (.int p1), .val (.int (3 : Int32)), .unset, .unset, .unset, .unset, .unset] [(.int (3 : Int32))])) rfl (by rw [hml]; rfl) (argsL := [(.int (3 : Int32))]) (rest := []) (lenOf pd_0 rfl) rfl (by show 2 * 0 + _ ≤ _; exact Nat.le_of_eq rfl) (hb hby at_9) (fun _ _ => ⟨rfl, e0, (by decide : 0 + 0 ≤ _), (by decide : 0 + 0 ≤ _)⟩)
    dsimp only [Pt.U, Pt.locs, Pt.cells, Pt.slots] at X119 l119 y119 z119 st119 hQ119
    subst l119 y119 z119
    obtain ⟨rfl, N119q, eh119⟩ := hQ119
    have N119 := Fr.app N0 N119q
    refine Go.step st119 ?_
    show Go p.tables e below _ (T119.setTop (mkF m 12 #[.val (.int p1), .val (.int (3 : Int32)), .unset, .unset, .unset, .unset, .unset] [(.ref (own_pick (3 : Int32) s_CREATED s_DELETED s_VALID s_CHANGED s_CONTENT s_BAD_REQUEST s_UNAUTHORIZED s_FORBIDDEN s_NOT_FOUND s_METHOD_NOT_ALLOWED s_REQUEST_TOO_LARGE s_UNPROCESSABLE_ENTITY s_INTERNAL_SERVER_ERROR s_NOT_IMPLEMENTED))]))
    have q120 : (own_pick (3 : Int32) s_CREATED s_DELETED s_VALID s_CHANGED s_CONTENT s_BAD_REQUEST s_UNAUTHORIZED s_FORBIDDEN s_NOT_FOUND s_METHOD_NOT_ALLOWED s_REQUEST_TOO_LARGE s_UNPROCESSABLE_ENTITY s_INTERNAL_SERVER_ERROR s_NOT_IMPLEMENTED) = s_CHANGED := rfl
    rw [q120]
    show Go p.tables e below _ (T119.setTop (mkF m 12 #[.val (.int p1), .val (.int (3 : Int32)), .unset, .unset, .unset, .unset, .unset] [(.ref s_CHANGED)]))
    refine Go.step (fun _ kt => XS.astoreN X119.here hx rfl (hb hby at_12) rfl rfl (l' := #[.val (.int p1), .val (.int (3 : Int32)), .val (.ref s_CHANGED), .unset, .unset, .unset, .unset]) rfl kt) ?_
    show Go p.tables e below _ (T119.setTop (mkF m 13 #[.val (.int p1), .val (.int (3 : Int32)), .val (.ref s_CHANGED), .unset, .unset, .unset, .unset] []))
    refine Go.step (fun _ kt => XS.iloadN X119.here hx rfl (hb hby at_13) rfl kt) ?_
    show Go p.tables e below _ (T119.setTop (mkF m 14 #[.val (.int p1), .val (.int (3 : Int32)), .val (.ref s_CHANGED), .unset, .unset, .unset, .unset] [(.int (3 : Int32))]))
    refine Go.step (fun _ kt => XS.iconst X119.here hx rfl (hb hby at_14) kt) ?_
    show Go p.tables e below _ (T119.setTop (mkF m 15 #[.val (.int p1), .val (.int (3 : Int32)), .val (.ref s_CHANGED), .unset, .unset, .unset, .unset] [(.int (5 : Int32)), (.int (3 : Int32))]))
    refine Go.step (fun _ kt => XS.icmpYes X119.here hx rfl (pc0 := 15) (pc' := 22) rfl (hb hby at_15) rfl (tlt (by decide : (3 : Int32) < (5 : Int32))).1 (by decide) (by decide) kt) ?_
    show Go p.tables e below _ (T119.setTop (mkF m 22 #[.val (.int p1), .val (.int (3 : Int32)), .val (.ref s_CHANGED), .unset, .unset, .unset, .unset] []))
    refine Go.step (fun _ kt => XS.iconst X119.here hx rfl (hb hby at_22) kt) ?_
    show Go p.tables e below _ (T119.setTop (mkF m 23 #[.val (.int p1), .val (.int (3 : Int32)), .val (.ref s_CHANGED), .unset, .unset, .unset, .unset] [(.int (0 : Int32))]))
    refine Go.step (fun _ kt => XS.istoreN X119.here hx rfl (hb hby at_23) rfl (l' := #[.val (.int p1), .val (.int (3 : Int32)), .val (.ref s_CHANGED), .val (.int (0 : Int32)), .unset, .unset, .unset]) rfl kt) ?_
    show Go p.tables e below _ (T119.setTop (mkF m 24 #[.val (.int p1), .val (.int (3 : Int32)), .val (.ref s_CHANGED), .val (.int (0 : Int32)), .unset, .unset, .unset] []))
    refine Go.step (fun _ kt => XS.aloadN X119.here hx rfl (hb hby at_24) rfl rfl kt) ?_
    show Go p.tables e below _ (T119.setTop (mkF m 25 #[.val (.int p1), .val (.int (3 : Int32)), .val (.ref s_CHANGED), .val (.int (0 : Int32)), .unset, .unset, .unset] [(.ref s_CHANGED)]))
    obtain ⟨cq121, kq121, q121a, q121b, q121c⟩ := isOf hZ eh119 E_CHANGED
    obtain ⟨_, _, ⟨T121, L121, k121, n121⟩, -, X121, ⟨Lc121, hQ121, l121, y121, z121⟩, st121⟩ := X119.virtualBack hx (y := (⟨"com/example/kenning/kenning/Status", "code", "()I"⟩ : MethodName)) (z := (⟨"com/example/kenning/kenning/Status", "code", "()I"⟩ : MethodName)) hown (mvT hZ (hw _ (List.mem_of_getElem? (i := 8) rfl))) (mvT hZ (hw _ (List.mem_of_getElem? (i := 9) rfl))) (notFace_of_selects (args := #[]) (mvT hZ (hw _ (List.mem_of_getElem? (i := 11) rfl)))) (mvT hZ (hw _ (List.mem_of_getElem? (i := 11) rfl))) (mvT hZ (hw _ (List.mem_of_getElem? (i := 10) rfl))) (by decide) (backOf (W := 0) (rm2 l Z a0 hw [] s_CHANGED (132 : Int32) h0 n0 Z0 F_CHANGED_code ) hZ (hw _ (List.mem_of_getElem? (i := 12) rfl)) (hw _ (List.mem_of_getElem? (i := 6) rfl)) (by decide) (by decide)) q121a q121c (g := (mkF m 25 #[.val (.int p1), .val (.int (3 : Int32)), .val (.ref s_CHANGED), .val (.int (0 : Int32)), .unset, .unset, .unset] [(.ref s_CHANGED)])) rfl (by rw [hml]; rfl) (Steps.refl _) (argsL := []) (rest := []) (lenOf pd_1 rfl) rfl (by show 2 * 0 + _ ≤ _; exact Nat.le_of_eq rfl) (hb hby at_25) (fun _ _ => ⟨rfl, eh119, (by decide : 0 + 0 ≤ _), (by decide : 0 + 0 ≤ _)⟩)
    dsimp only [Pt.U, Pt.locs, Pt.cells, Pt.slots] at X121 l121 y121 z121 st121 hQ121
    subst l121 y121 z121
    obtain ⟨rfl, N121q, eh121⟩ := hQ121
    have N121 := Fr.app N119 N121q
    refine Go.step (fun _ kt => st121.trans kt) ?_
    show Go p.tables e below _ (T121.setTop (mkF m 28 #[.val (.int p1), .val (.int (3 : Int32)), .val (.ref s_CHANGED), .val (.int (0 : Int32)), .unset, .unset, .unset] [(.int (132 : Int32))]))
    refine Go.step (fun _ kt => XS.iconst X121.here hx rfl (hb hby at_28) kt) ?_
    show Go p.tables e below _ (T121.setTop (mkF m 29 #[.val (.int p1), .val (.int (3 : Int32)), .val (.ref s_CHANGED), .val (.int (0 : Int32)), .unset, .unset, .unset] [(.int (5 : Int32)), (.int (132 : Int32))]))
    refine Go.step (fun _ kt => XS.ishr X121.here hx rfl (hb hby at_29) rfl kt) ?_
    show Go p.tables e below _ (T121.setTop (mkF m 30 #[.val (.int p1), .val (.int (3 : Int32)), .val (.ref s_CHANGED), .val (.int (0 : Int32)), .unset, .unset, .unset] [(.int ((132 : Int32) >>> ((5 : Int32) &&& 31)))]))
    have q122 : ((132 : Int32) >>> ((5 : Int32) &&& 31)) = (4 : Int32) := by decide
    rw [q122]
    show Go p.tables e below _ (T121.setTop (mkF m 30 #[.val (.int p1), .val (.int (3 : Int32)), .val (.ref s_CHANGED), .val (.int (0 : Int32)), .unset, .unset, .unset] [(.int (4 : Int32))]))
    refine Go.step (fun _ kt => XS.istore X121.here hx rfl (hb hby at_30) rfl (l' := #[.val (.int p1), .val (.int (3 : Int32)), .val (.ref s_CHANGED), .val (.int (0 : Int32)), .val (.int (4 : Int32)), .unset, .unset]) rfl kt) ?_
    show Go p.tables e below _ (T121.setTop (mkF m 32 #[.val (.int p1), .val (.int (3 : Int32)), .val (.ref s_CHANGED), .val (.int (0 : Int32)), .val (.int (4 : Int32)), .unset, .unset] []))
    refine Go.step (fun _ kt => XS.iload X121.here hx rfl (hb hby at_32) rfl kt) ?_
    show Go p.tables e below _ (T121.setTop (mkF m 34 #[.val (.int p1), .val (.int (3 : Int32)), .val (.ref s_CHANGED), .val (.int (0 : Int32)), .val (.int (4 : Int32)), .unset, .unset] [(.int (4 : Int32))]))
    refine Go.step (fun _ kt => XS.iconst X121.here hx rfl (hb hby at_34) kt) ?_
    show Go p.tables e below _ (T121.setTop (mkF m 35 #[.val (.int p1), .val (.int (3 : Int32)), .val (.ref s_CHANGED), .val (.int (0 : Int32)), .val (.int (4 : Int32)), .unset, .unset] [(.int (5 : Int32)), (.int (4 : Int32))]))
    refine Go.step (fun _ kt => XS.icmpNo X121.here hx rfl (hb hby at_35) rfl (feq (by decide : ¬ ((4 : Int32) = (5 : Int32)))).1 kt) ?_
    show Go p.tables e below _ (T121.setTop (mkF m 38 #[.val (.int p1), .val (.int (3 : Int32)), .val (.ref s_CHANGED), .val (.int (0 : Int32)), .val (.int (4 : Int32)), .unset, .unset] []))
    refine Go.step (fun _ kt => XS.iload X121.here hx rfl (hb hby at_38) rfl kt) ?_
    show Go p.tables e below _ (T121.setTop (mkF m 40 #[.val (.int p1), .val (.int (3 : Int32)), .val (.ref s_CHANGED), .val (.int (0 : Int32)), .val (.int (4 : Int32)), .unset, .unset] [(.int (4 : Int32))]))
    refine Go.step (fun _ kt => XS.bipush X121.here hx rfl (hb hby at_40) kt) ?_
    show Go p.tables e below _ (T121.setTop (mkF m 42 #[.val (.int p1), .val (.int (3 : Int32)), .val (.ref s_CHANGED), .val (.int (0 : Int32)), .val (.int (4 : Int32)), .unset, .unset] [(.int (6 : Int32)), (.int (4 : Int32))]))
    refine Go.step (fun _ kt => XS.icmpYes X121.here hx rfl (pc0 := 42) (pc' := 49) rfl (hb hby at_42) rfl (feq (by decide : ¬ ((4 : Int32) = (6 : Int32)))).2 (by decide) (by decide) kt) ?_
    show Go p.tables e below _ (T121.setTop (mkF m 49 #[.val (.int p1), .val (.int (3 : Int32)), .val (.ref s_CHANGED), .val (.int (0 : Int32)), .val (.int (4 : Int32)), .unset, .unset] []))
    refine Go.step (fun _ kt => XS.iconst X121.here hx rfl (hb hby at_49) kt) ?_
    show Go p.tables e below _ (T121.setTop (mkF m 50 #[.val (.int p1), .val (.int (3 : Int32)), .val (.ref s_CHANGED), .val (.int (0 : Int32)), .val (.int (4 : Int32)), .unset, .unset] [(.int (0 : Int32))]))
    refine Go.step (fun _ kt => XS.istore X121.here hx rfl (hb hby at_50) rfl (l' := #[.val (.int p1), .val (.int (3 : Int32)), .val (.ref s_CHANGED), .val (.int (0 : Int32)), .val (.int (4 : Int32)), .val (.int (0 : Int32)), .unset]) rfl kt) ?_
    show Go p.tables e below _ (T121.setTop (mkF m 52 #[.val (.int p1), .val (.int (3 : Int32)), .val (.ref s_CHANGED), .val (.int (0 : Int32)), .val (.int (4 : Int32)), .val (.int (0 : Int32)), .unset] []))
    refine Go.step (fun _ kt => XS.aloadN X121.here hx rfl (hb hby at_52) rfl rfl kt) ?_
    show Go p.tables e below _ (T121.setTop (mkF m 53 #[.val (.int p1), .val (.int (3 : Int32)), .val (.ref s_CHANGED), .val (.int (0 : Int32)), .val (.int (4 : Int32)), .val (.int (0 : Int32)), .unset] [(.ref s_CHANGED)]))
    obtain ⟨cq123, kq123, q123a, q123b, q123c⟩ := isOf hZ eh121 E_CHANGED
    obtain ⟨_, _, ⟨T123, L123, k123, n123⟩, -, X123, ⟨Lc123, hQ123, l123, y123, z123⟩, st123⟩ := X121.virtualBack hx (y := (⟨"com/example/kenning/kenning/Status", "isError", "()Z"⟩ : MethodName)) (z := (⟨"com/example/kenning/kenning/Status", "isError", "()Z"⟩ : MethodName)) hown (mvT hZ (hw _ (List.mem_of_getElem? (i := 15) rfl))) (mvT hZ (hw _ (List.mem_of_getElem? (i := 16) rfl))) (notFace_of_selects (args := #[]) (mvT hZ (hw _ (List.mem_of_getElem? (i := 18) rfl)))) (mvT hZ (hw _ (List.mem_of_getElem? (i := 18) rfl))) (mvT hZ (hw _ (List.mem_of_getElem? (i := 17) rfl))) (by decide) (backOf (W := 0) (rm3 l Z a0 hw [] s_CHANGED (132 : Int32) h0 n0 Z0 F_CHANGED_code ) hZ (hw _ (List.mem_of_getElem? (i := 19) rfl)) (hw _ (List.mem_of_getElem? (i := 6) rfl)) (by decide) (by decide)) q123a q123c (g := (mkF m 53 #[.val (.int p1), .val (.int (3 : Int32)), .val (.ref s_CHANGED), .val (.int (0 : Int32)), .val (.int (4 : Int32)), .val (.int (0 : Int32)), .unset] [(.ref s_CHANGED)])) rfl (by rw [hml]; rfl) (Steps.refl _) (argsL := []) (rest := []) (lenOf pd_2 rfl) rfl (by show 2 * 0 + _ ≤ _; exact Nat.le_of_eq rfl) (hb hby at_53) (fun _ _ => ⟨rfl, eh121, (by decide : 0 + 0 ≤ _), (by decide : 0 + 0 ≤ _)⟩)
    dsimp only [Pt.U, Pt.locs, Pt.cells, Pt.slots] at X123 l123 y123 z123 st123 hQ123
    subst l123 y123 z123
    obtain ⟨rfl, N123q, eh123⟩ := hQ123
    have N123 := Fr.app N121 N123q
    refine Go.step (fun _ kt => st123.trans kt) ?_
    show Go p.tables e below _ (T123.setTop (mkF m 56 #[.val (.int p1), .val (.int (3 : Int32)), .val (.ref s_CHANGED), .val (.int (0 : Int32)), .val (.int (4 : Int32)), .val (.int (0 : Int32)), .unset] [(.int (own_err (132 : Int32)))]))
    have q124 : (own_err (132 : Int32)) = (0 : Int32) := by decide
    rw [q124]
    show Go p.tables e below _ (T123.setTop (mkF m 56 #[.val (.int p1), .val (.int (3 : Int32)), .val (.ref s_CHANGED), .val (.int (0 : Int32)), .val (.int (4 : Int32)), .val (.int (0 : Int32)), .unset] [(.int (0 : Int32))]))
    refine Go.step (fun _ kt => XS.istore X123.here hx rfl (hb hby at_56) rfl (l' := #[.val (.int p1), .val (.int (3 : Int32)), .val (.ref s_CHANGED), .val (.int (0 : Int32)), .val (.int (4 : Int32)), .val (.int (0 : Int32)), .val (.int (0 : Int32))]) rfl kt) ?_
    show Go p.tables e below _ (T123.setTop (mkF m 58 #[.val (.int p1), .val (.int (3 : Int32)), .val (.ref s_CHANGED), .val (.int (0 : Int32)), .val (.int (4 : Int32)), .val (.int (0 : Int32)), .val (.int (0 : Int32))] []))
    refine Go.step (fun _ kt => XS.iload X123.here hx rfl (hb hby at_58) rfl kt) ?_
    show Go p.tables e below _ (T123.setTop (mkF m 60 #[.val (.int p1), .val (.int (3 : Int32)), .val (.ref s_CHANGED), .val (.int (0 : Int32)), .val (.int (4 : Int32)), .val (.int (0 : Int32)), .val (.int (0 : Int32))] [(.int (0 : Int32))]))
    refine Go.step (fun _ kt => XS.iloadN X123.here hx rfl (hb hby at_60) rfl kt) ?_
    show Go p.tables e below _ (T123.setTop (mkF m 61 #[.val (.int p1), .val (.int (3 : Int32)), .val (.ref s_CHANGED), .val (.int (0 : Int32)), .val (.int (4 : Int32)), .val (.int (0 : Int32)), .val (.int (0 : Int32))] [(.int (0 : Int32)), (.int (0 : Int32))]))
    refine Go.step (fun _ kt => XS.icmpNo X123.here hx rfl (hb hby at_61) rfl (teq (by decide : (0 : Int32) = (0 : Int32))).2 kt) ?_
    show Go p.tables e below _ (T123.setTop (mkF m 64 #[.val (.int p1), .val (.int (3 : Int32)), .val (.ref s_CHANGED), .val (.int (0 : Int32)), .val (.int (4 : Int32)), .val (.int (0 : Int32)), .val (.int (0 : Int32))] []))
    refine Go.step (fun _ kt => XS.iload X123.here hx rfl (hb hby at_64) rfl kt) ?_
    show Go p.tables e below _ (T123.setTop (mkF m 66 #[.val (.int p1), .val (.int (3 : Int32)), .val (.ref s_CHANGED), .val (.int (0 : Int32)), .val (.int (4 : Int32)), .val (.int (0 : Int32)), .val (.int (0 : Int32))] [(.int (0 : Int32))]))
    refine Go.step (fun _ kt => XS.iload X123.here hx rfl (hb hby at_66) rfl kt) ?_
    show Go p.tables e below _ (T123.setTop (mkF m 68 #[.val (.int p1), .val (.int (3 : Int32)), .val (.ref s_CHANGED), .val (.int (0 : Int32)), .val (.int (4 : Int32)), .val (.int (0 : Int32)), .val (.int (0 : Int32))] [(.int (0 : Int32)), (.int (0 : Int32))]))
    refine Go.step (fun _ kt => XS.icmpNo X123.here hx rfl (hb hby at_68) rfl (teq (by decide : (0 : Int32) = (0 : Int32))).2 kt) ?_
    show Go p.tables e below _ (T123.setTop (mkF m 71 #[.val (.int p1), .val (.int (3 : Int32)), .val (.ref s_CHANGED), .val (.int (0 : Int32)), .val (.int (4 : Int32)), .val (.int (0 : Int32)), .val (.int (0 : Int32))] []))
    refine Go.step (fun _ kt => XS.iconst X123.here hx rfl (hb hby at_71) kt) ?_
    show Go p.tables e below _ (T123.setTop (mkF m 72 #[.val (.int p1), .val (.int (3 : Int32)), .val (.ref s_CHANGED), .val (.int (0 : Int32)), .val (.int (4 : Int32)), .val (.int (0 : Int32)), .val (.int (0 : Int32))] [(.int (1 : Int32))]))
    refine Go.step (fun _ kt => XS.goto X123.here hx rfl (pc0 := 72) (pc' := 76) rfl (hb hby at_72) (by decide) (by decide) kt) ?_
    show Go p.tables e below _ (T123.setTop (mkF m 76 #[.val (.int p1), .val (.int (3 : Int32)), .val (.ref s_CHANGED), .val (.int (0 : Int32)), .val (.int (4 : Int32)), .val (.int (0 : Int32)), .val (.int (0 : Int32))] [(.int (1 : Int32))]))
    obtain ⟨fs, hr, hrun, hended, hW, hsame⟩ := X123.leave (v := some (.int (1 : Int32))) (fun h => by rw [Bd.returns] at h; cases h)
    refine ⟨_, _, retN X123 hx (t := .boolean) Bd.returns (by simp) (hb hby at_76) hr, hrun, hended, _, _, rfl, ?_, ⟨_, rfl⟩, hW, hsame.mono (by decide) (by decide)⟩
    show Qrm0 Z p1 s_CREATED s_DELETED s_VALID s_CHANGED s_CONTENT s_BAD_REQUEST s_UNAUTHORIZED s_FORBIDDEN s_NOT_FOUND s_METHOD_NOT_ALLOWED s_REQUEST_TOO_LARGE s_UNPROCESSABLE_ENTITY s_INTERNAL_SERVER_ERROR s_NOT_IMPLEMENTED h0 n0 _ T123.heap _
    rw [eh123]
    exact ⟨rfl, N123⟩
  · rw [hk]
    show Go p.tables e below _ (s₁.setTop (mkF m 8 #[.val (.int p1), .val (.int (4 : Int32)), .unset, .unset, .unset, .unset, .unset] []))
    refine Go.step (fun _ kt => XS.iloadN X0.here hx rfl (hb hby at_8) rfl kt) ?_
    show Go p.tables e below _ (s₁.setTop (mkF m 9 #[.val (.int p1), .val (.int (4 : Int32)), .unset, .unset, .unset, .unset, .unset] [(.int (4 : Int32))]))
    obtain ⟨_, _, ⟨T125, L125, k125, n125⟩, -, X125, ⟨Lc125, hQ125, l125, y125, z125⟩, st125⟩ := Jvm.LawKit.callS X0 hx (y := (⟨"com/example/kenning/kenning/StatusIsErrorPinLaw", "pick", "(I)Lcom/example/kenning/kenning/Status;"⟩ : MethodName)) hown (mvT hZ (hw _ (List.mem_of_getElem? (i := 1) rfl))) (mvT hZ (hw _ (List.mem_of_getElem? (i := 2) rfl))) (mvT hZ (hw _ (List.mem_of_getElem? (i := 3) rfl))) (mvT hZ (hw _ (List.mem_of_getElem? (i := 4) rfl))) (by decide) (backOf (W := 0) (rm1 l Z a0 hw [] (4 : Int32) s_CREATED s_DELETED s_VALID s_CHANGED s_CONTENT s_BAD_REQUEST s_UNAUTHORIZED s_FORBIDDEN s_NOT_FOUND s_METHOD_NOT_ALLOWED s_REQUEST_TOO_LARGE s_UNPROCESSABLE_ENTITY s_INTERNAL_SERVER_ERROR s_NOT_IMPLEMENTED h0 n0 Z0 S_CREATED S_DELETED S_VALID S_CHANGED S_CONTENT S_BAD_REQUEST S_UNAUTHORIZED S_FORBIDDEN S_NOT_FOUND S_METHOD_NOT_ALLOWED S_REQUEST_TOO_LARGE S_UNPROCESSABLE_ENTITY S_INTERNAL_SERVER_ERROR S_NOT_IMPLEMENTED ) hZ (hw _ (List.mem_of_getElem? (i := 4) rfl)) (hw _ (List.mem_of_getElem? (i := 3) rfl)) (by decide) (by decide)) (g := (mkF m 9 #[.val (.int p1), .val (.int (4 : Int32)), .unset, .unset, .unset, .unset, .unset] [(.int (4 : Int32))])) rfl (by rw [hml]; rfl) (argsL := [(.int (4 : Int32))]) (rest := []) (lenOf pd_0 rfl) rfl (by show 2 * 0 + _ ≤ _; exact Nat.le_of_eq rfl) (hb hby at_9) (fun _ _ => ⟨rfl, e0, (by decide : 0 + 0 ≤ _), (by decide : 0 + 0 ≤ _)⟩)
    dsimp only [Pt.U, Pt.locs, Pt.cells, Pt.slots] at X125 l125 y125 z125 st125 hQ125
    subst l125 y125 z125
    obtain ⟨rfl, N125q, eh125⟩ := hQ125
    have N125 := Fr.app N0 N125q
    refine Go.step st125 ?_
    show Go p.tables e below _ (T125.setTop (mkF m 12 #[.val (.int p1), .val (.int (4 : Int32)), .unset, .unset, .unset, .unset, .unset] [(.ref (own_pick (4 : Int32) s_CREATED s_DELETED s_VALID s_CHANGED s_CONTENT s_BAD_REQUEST s_UNAUTHORIZED s_FORBIDDEN s_NOT_FOUND s_METHOD_NOT_ALLOWED s_REQUEST_TOO_LARGE s_UNPROCESSABLE_ENTITY s_INTERNAL_SERVER_ERROR s_NOT_IMPLEMENTED))]))
    have q126 : (own_pick (4 : Int32) s_CREATED s_DELETED s_VALID s_CHANGED s_CONTENT s_BAD_REQUEST s_UNAUTHORIZED s_FORBIDDEN s_NOT_FOUND s_METHOD_NOT_ALLOWED s_REQUEST_TOO_LARGE s_UNPROCESSABLE_ENTITY s_INTERNAL_SERVER_ERROR s_NOT_IMPLEMENTED) = s_CONTENT := rfl
    rw [q126]
    show Go p.tables e below _ (T125.setTop (mkF m 12 #[.val (.int p1), .val (.int (4 : Int32)), .unset, .unset, .unset, .unset, .unset] [(.ref s_CONTENT)]))
    refine Go.step (fun _ kt => XS.astoreN X125.here hx rfl (hb hby at_12) rfl rfl (l' := #[.val (.int p1), .val (.int (4 : Int32)), .val (.ref s_CONTENT), .unset, .unset, .unset, .unset]) rfl kt) ?_
    show Go p.tables e below _ (T125.setTop (mkF m 13 #[.val (.int p1), .val (.int (4 : Int32)), .val (.ref s_CONTENT), .unset, .unset, .unset, .unset] []))
    refine Go.step (fun _ kt => XS.iloadN X125.here hx rfl (hb hby at_13) rfl kt) ?_
    show Go p.tables e below _ (T125.setTop (mkF m 14 #[.val (.int p1), .val (.int (4 : Int32)), .val (.ref s_CONTENT), .unset, .unset, .unset, .unset] [(.int (4 : Int32))]))
    refine Go.step (fun _ kt => XS.iconst X125.here hx rfl (hb hby at_14) kt) ?_
    show Go p.tables e below _ (T125.setTop (mkF m 15 #[.val (.int p1), .val (.int (4 : Int32)), .val (.ref s_CONTENT), .unset, .unset, .unset, .unset] [(.int (5 : Int32)), (.int (4 : Int32))]))
    refine Go.step (fun _ kt => XS.icmpYes X125.here hx rfl (pc0 := 15) (pc' := 22) rfl (hb hby at_15) rfl (tlt (by decide : (4 : Int32) < (5 : Int32))).1 (by decide) (by decide) kt) ?_
    show Go p.tables e below _ (T125.setTop (mkF m 22 #[.val (.int p1), .val (.int (4 : Int32)), .val (.ref s_CONTENT), .unset, .unset, .unset, .unset] []))
    refine Go.step (fun _ kt => XS.iconst X125.here hx rfl (hb hby at_22) kt) ?_
    show Go p.tables e below _ (T125.setTop (mkF m 23 #[.val (.int p1), .val (.int (4 : Int32)), .val (.ref s_CONTENT), .unset, .unset, .unset, .unset] [(.int (0 : Int32))]))
    refine Go.step (fun _ kt => XS.istoreN X125.here hx rfl (hb hby at_23) rfl (l' := #[.val (.int p1), .val (.int (4 : Int32)), .val (.ref s_CONTENT), .val (.int (0 : Int32)), .unset, .unset, .unset]) rfl kt) ?_
    show Go p.tables e below _ (T125.setTop (mkF m 24 #[.val (.int p1), .val (.int (4 : Int32)), .val (.ref s_CONTENT), .val (.int (0 : Int32)), .unset, .unset, .unset] []))
    refine Go.step (fun _ kt => XS.aloadN X125.here hx rfl (hb hby at_24) rfl rfl kt) ?_
    show Go p.tables e below _ (T125.setTop (mkF m 25 #[.val (.int p1), .val (.int (4 : Int32)), .val (.ref s_CONTENT), .val (.int (0 : Int32)), .unset, .unset, .unset] [(.ref s_CONTENT)]))
    obtain ⟨cq127, kq127, q127a, q127b, q127c⟩ := isOf hZ eh125 E_CONTENT
    obtain ⟨_, _, ⟨T127, L127, k127, n127⟩, -, X127, ⟨Lc127, hQ127, l127, y127, z127⟩, st127⟩ := X125.virtualBack hx (y := (⟨"com/example/kenning/kenning/Status", "code", "()I"⟩ : MethodName)) (z := (⟨"com/example/kenning/kenning/Status", "code", "()I"⟩ : MethodName)) hown (mvT hZ (hw _ (List.mem_of_getElem? (i := 8) rfl))) (mvT hZ (hw _ (List.mem_of_getElem? (i := 9) rfl))) (notFace_of_selects (args := #[]) (mvT hZ (hw _ (List.mem_of_getElem? (i := 11) rfl)))) (mvT hZ (hw _ (List.mem_of_getElem? (i := 11) rfl))) (mvT hZ (hw _ (List.mem_of_getElem? (i := 10) rfl))) (by decide) (backOf (W := 0) (rm2 l Z a0 hw [] s_CONTENT (133 : Int32) h0 n0 Z0 F_CONTENT_code ) hZ (hw _ (List.mem_of_getElem? (i := 12) rfl)) (hw _ (List.mem_of_getElem? (i := 6) rfl)) (by decide) (by decide)) q127a q127c (g := (mkF m 25 #[.val (.int p1), .val (.int (4 : Int32)), .val (.ref s_CONTENT), .val (.int (0 : Int32)), .unset, .unset, .unset] [(.ref s_CONTENT)])) rfl (by rw [hml]; rfl) (Steps.refl _) (argsL := []) (rest := []) (lenOf pd_1 rfl) rfl (by show 2 * 0 + _ ≤ _; exact Nat.le_of_eq rfl) (hb hby at_25) (fun _ _ => ⟨rfl, eh125, (by decide : 0 + 0 ≤ _), (by decide : 0 + 0 ≤ _)⟩)
    dsimp only [Pt.U, Pt.locs, Pt.cells, Pt.slots] at X127 l127 y127 z127 st127 hQ127
    subst l127 y127 z127
    obtain ⟨rfl, N127q, eh127⟩ := hQ127
    have N127 := Fr.app N125 N127q
    refine Go.step (fun _ kt => st127.trans kt) ?_
    show Go p.tables e below _ (T127.setTop (mkF m 28 #[.val (.int p1), .val (.int (4 : Int32)), .val (.ref s_CONTENT), .val (.int (0 : Int32)), .unset, .unset, .unset] [(.int (133 : Int32))]))
    refine Go.step (fun _ kt => XS.iconst X127.here hx rfl (hb hby at_28) kt) ?_
    show Go p.tables e below _ (T127.setTop (mkF m 29 #[.val (.int p1), .val (.int (4 : Int32)), .val (.ref s_CONTENT), .val (.int (0 : Int32)), .unset, .unset, .unset] [(.int (5 : Int32)), (.int (133 : Int32))]))
    refine Go.step (fun _ kt => XS.ishr X127.here hx rfl (hb hby at_29) rfl kt) ?_
    show Go p.tables e below _ (T127.setTop (mkF m 30 #[.val (.int p1), .val (.int (4 : Int32)), .val (.ref s_CONTENT), .val (.int (0 : Int32)), .unset, .unset, .unset] [(.int ((133 : Int32) >>> ((5 : Int32) &&& 31)))]))
    have q128 : ((133 : Int32) >>> ((5 : Int32) &&& 31)) = (4 : Int32) := by decide
    rw [q128]
    show Go p.tables e below _ (T127.setTop (mkF m 30 #[.val (.int p1), .val (.int (4 : Int32)), .val (.ref s_CONTENT), .val (.int (0 : Int32)), .unset, .unset, .unset] [(.int (4 : Int32))]))
    refine Go.step (fun _ kt => XS.istore X127.here hx rfl (hb hby at_30) rfl (l' := #[.val (.int p1), .val (.int (4 : Int32)), .val (.ref s_CONTENT), .val (.int (0 : Int32)), .val (.int (4 : Int32)), .unset, .unset]) rfl kt) ?_
    show Go p.tables e below _ (T127.setTop (mkF m 32 #[.val (.int p1), .val (.int (4 : Int32)), .val (.ref s_CONTENT), .val (.int (0 : Int32)), .val (.int (4 : Int32)), .unset, .unset] []))
    refine Go.step (fun _ kt => XS.iload X127.here hx rfl (hb hby at_32) rfl kt) ?_
    show Go p.tables e below _ (T127.setTop (mkF m 34 #[.val (.int p1), .val (.int (4 : Int32)), .val (.ref s_CONTENT), .val (.int (0 : Int32)), .val (.int (4 : Int32)), .unset, .unset] [(.int (4 : Int32))]))
    refine Go.step (fun _ kt => XS.iconst X127.here hx rfl (hb hby at_34) kt) ?_
    show Go p.tables e below _ (T127.setTop (mkF m 35 #[.val (.int p1), .val (.int (4 : Int32)), .val (.ref s_CONTENT), .val (.int (0 : Int32)), .val (.int (4 : Int32)), .unset, .unset] [(.int (5 : Int32)), (.int (4 : Int32))]))
    refine Go.step (fun _ kt => XS.icmpNo X127.here hx rfl (hb hby at_35) rfl (feq (by decide : ¬ ((4 : Int32) = (5 : Int32)))).1 kt) ?_
    show Go p.tables e below _ (T127.setTop (mkF m 38 #[.val (.int p1), .val (.int (4 : Int32)), .val (.ref s_CONTENT), .val (.int (0 : Int32)), .val (.int (4 : Int32)), .unset, .unset] []))
    refine Go.step (fun _ kt => XS.iload X127.here hx rfl (hb hby at_38) rfl kt) ?_
    show Go p.tables e below _ (T127.setTop (mkF m 40 #[.val (.int p1), .val (.int (4 : Int32)), .val (.ref s_CONTENT), .val (.int (0 : Int32)), .val (.int (4 : Int32)), .unset, .unset] [(.int (4 : Int32))]))
    refine Go.step (fun _ kt => XS.bipush X127.here hx rfl (hb hby at_40) kt) ?_
    show Go p.tables e below _ (T127.setTop (mkF m 42 #[.val (.int p1), .val (.int (4 : Int32)), .val (.ref s_CONTENT), .val (.int (0 : Int32)), .val (.int (4 : Int32)), .unset, .unset] [(.int (6 : Int32)), (.int (4 : Int32))]))
    refine Go.step (fun _ kt => XS.icmpYes X127.here hx rfl (pc0 := 42) (pc' := 49) rfl (hb hby at_42) rfl (feq (by decide : ¬ ((4 : Int32) = (6 : Int32)))).2 (by decide) (by decide) kt) ?_
    show Go p.tables e below _ (T127.setTop (mkF m 49 #[.val (.int p1), .val (.int (4 : Int32)), .val (.ref s_CONTENT), .val (.int (0 : Int32)), .val (.int (4 : Int32)), .unset, .unset] []))
    refine Go.step (fun _ kt => XS.iconst X127.here hx rfl (hb hby at_49) kt) ?_
    show Go p.tables e below _ (T127.setTop (mkF m 50 #[.val (.int p1), .val (.int (4 : Int32)), .val (.ref s_CONTENT), .val (.int (0 : Int32)), .val (.int (4 : Int32)), .unset, .unset] [(.int (0 : Int32))]))
    refine Go.step (fun _ kt => XS.istore X127.here hx rfl (hb hby at_50) rfl (l' := #[.val (.int p1), .val (.int (4 : Int32)), .val (.ref s_CONTENT), .val (.int (0 : Int32)), .val (.int (4 : Int32)), .val (.int (0 : Int32)), .unset]) rfl kt) ?_
    show Go p.tables e below _ (T127.setTop (mkF m 52 #[.val (.int p1), .val (.int (4 : Int32)), .val (.ref s_CONTENT), .val (.int (0 : Int32)), .val (.int (4 : Int32)), .val (.int (0 : Int32)), .unset] []))
    refine Go.step (fun _ kt => XS.aloadN X127.here hx rfl (hb hby at_52) rfl rfl kt) ?_
    show Go p.tables e below _ (T127.setTop (mkF m 53 #[.val (.int p1), .val (.int (4 : Int32)), .val (.ref s_CONTENT), .val (.int (0 : Int32)), .val (.int (4 : Int32)), .val (.int (0 : Int32)), .unset] [(.ref s_CONTENT)]))
    obtain ⟨cq129, kq129, q129a, q129b, q129c⟩ := isOf hZ eh127 E_CONTENT
    obtain ⟨_, _, ⟨T129, L129, k129, n129⟩, -, X129, ⟨Lc129, hQ129, l129, y129, z129⟩, st129⟩ := X127.virtualBack hx (y := (⟨"com/example/kenning/kenning/Status", "isError", "()Z"⟩ : MethodName)) (z := (⟨"com/example/kenning/kenning/Status", "isError", "()Z"⟩ : MethodName)) hown (mvT hZ (hw _ (List.mem_of_getElem? (i := 15) rfl))) (mvT hZ (hw _ (List.mem_of_getElem? (i := 16) rfl))) (notFace_of_selects (args := #[]) (mvT hZ (hw _ (List.mem_of_getElem? (i := 18) rfl)))) (mvT hZ (hw _ (List.mem_of_getElem? (i := 18) rfl))) (mvT hZ (hw _ (List.mem_of_getElem? (i := 17) rfl))) (by decide) (backOf (W := 0) (rm3 l Z a0 hw [] s_CONTENT (133 : Int32) h0 n0 Z0 F_CONTENT_code ) hZ (hw _ (List.mem_of_getElem? (i := 19) rfl)) (hw _ (List.mem_of_getElem? (i := 6) rfl)) (by decide) (by decide)) q129a q129c (g := (mkF m 53 #[.val (.int p1), .val (.int (4 : Int32)), .val (.ref s_CONTENT), .val (.int (0 : Int32)), .val (.int (4 : Int32)), .val (.int (0 : Int32)), .unset] [(.ref s_CONTENT)])) rfl (by rw [hml]; rfl) (Steps.refl _) (argsL := []) (rest := []) (lenOf pd_2 rfl) rfl (by show 2 * 0 + _ ≤ _; exact Nat.le_of_eq rfl) (hb hby at_53) (fun _ _ => ⟨rfl, eh127, (by decide : 0 + 0 ≤ _), (by decide : 0 + 0 ≤ _)⟩)
    dsimp only [Pt.U, Pt.locs, Pt.cells, Pt.slots] at X129 l129 y129 z129 st129 hQ129
    subst l129 y129 z129
    obtain ⟨rfl, N129q, eh129⟩ := hQ129
    have N129 := Fr.app N127 N129q
    refine Go.step (fun _ kt => st129.trans kt) ?_
    show Go p.tables e below _ (T129.setTop (mkF m 56 #[.val (.int p1), .val (.int (4 : Int32)), .val (.ref s_CONTENT), .val (.int (0 : Int32)), .val (.int (4 : Int32)), .val (.int (0 : Int32)), .unset] [(.int (own_err (133 : Int32)))]))
    have q130 : (own_err (133 : Int32)) = (0 : Int32) := by decide
    rw [q130]
    show Go p.tables e below _ (T129.setTop (mkF m 56 #[.val (.int p1), .val (.int (4 : Int32)), .val (.ref s_CONTENT), .val (.int (0 : Int32)), .val (.int (4 : Int32)), .val (.int (0 : Int32)), .unset] [(.int (0 : Int32))]))
    refine Go.step (fun _ kt => XS.istore X129.here hx rfl (hb hby at_56) rfl (l' := #[.val (.int p1), .val (.int (4 : Int32)), .val (.ref s_CONTENT), .val (.int (0 : Int32)), .val (.int (4 : Int32)), .val (.int (0 : Int32)), .val (.int (0 : Int32))]) rfl kt) ?_
    show Go p.tables e below _ (T129.setTop (mkF m 58 #[.val (.int p1), .val (.int (4 : Int32)), .val (.ref s_CONTENT), .val (.int (0 : Int32)), .val (.int (4 : Int32)), .val (.int (0 : Int32)), .val (.int (0 : Int32))] []))
    refine Go.step (fun _ kt => XS.iload X129.here hx rfl (hb hby at_58) rfl kt) ?_
    show Go p.tables e below _ (T129.setTop (mkF m 60 #[.val (.int p1), .val (.int (4 : Int32)), .val (.ref s_CONTENT), .val (.int (0 : Int32)), .val (.int (4 : Int32)), .val (.int (0 : Int32)), .val (.int (0 : Int32))] [(.int (0 : Int32))]))
    refine Go.step (fun _ kt => XS.iloadN X129.here hx rfl (hb hby at_60) rfl kt) ?_
    show Go p.tables e below _ (T129.setTop (mkF m 61 #[.val (.int p1), .val (.int (4 : Int32)), .val (.ref s_CONTENT), .val (.int (0 : Int32)), .val (.int (4 : Int32)), .val (.int (0 : Int32)), .val (.int (0 : Int32))] [(.int (0 : Int32)), (.int (0 : Int32))]))
    refine Go.step (fun _ kt => XS.icmpNo X129.here hx rfl (hb hby at_61) rfl (teq (by decide : (0 : Int32) = (0 : Int32))).2 kt) ?_
    show Go p.tables e below _ (T129.setTop (mkF m 64 #[.val (.int p1), .val (.int (4 : Int32)), .val (.ref s_CONTENT), .val (.int (0 : Int32)), .val (.int (4 : Int32)), .val (.int (0 : Int32)), .val (.int (0 : Int32))] []))
    refine Go.step (fun _ kt => XS.iload X129.here hx rfl (hb hby at_64) rfl kt) ?_
    show Go p.tables e below _ (T129.setTop (mkF m 66 #[.val (.int p1), .val (.int (4 : Int32)), .val (.ref s_CONTENT), .val (.int (0 : Int32)), .val (.int (4 : Int32)), .val (.int (0 : Int32)), .val (.int (0 : Int32))] [(.int (0 : Int32))]))
    refine Go.step (fun _ kt => XS.iload X129.here hx rfl (hb hby at_66) rfl kt) ?_
    show Go p.tables e below _ (T129.setTop (mkF m 68 #[.val (.int p1), .val (.int (4 : Int32)), .val (.ref s_CONTENT), .val (.int (0 : Int32)), .val (.int (4 : Int32)), .val (.int (0 : Int32)), .val (.int (0 : Int32))] [(.int (0 : Int32)), (.int (0 : Int32))]))
    refine Go.step (fun _ kt => XS.icmpNo X129.here hx rfl (hb hby at_68) rfl (teq (by decide : (0 : Int32) = (0 : Int32))).2 kt) ?_
    show Go p.tables e below _ (T129.setTop (mkF m 71 #[.val (.int p1), .val (.int (4 : Int32)), .val (.ref s_CONTENT), .val (.int (0 : Int32)), .val (.int (4 : Int32)), .val (.int (0 : Int32)), .val (.int (0 : Int32))] []))
    refine Go.step (fun _ kt => XS.iconst X129.here hx rfl (hb hby at_71) kt) ?_
    show Go p.tables e below _ (T129.setTop (mkF m 72 #[.val (.int p1), .val (.int (4 : Int32)), .val (.ref s_CONTENT), .val (.int (0 : Int32)), .val (.int (4 : Int32)), .val (.int (0 : Int32)), .val (.int (0 : Int32))] [(.int (1 : Int32))]))
    refine Go.step (fun _ kt => XS.goto X129.here hx rfl (pc0 := 72) (pc' := 76) rfl (hb hby at_72) (by decide) (by decide) kt) ?_
    show Go p.tables e below _ (T129.setTop (mkF m 76 #[.val (.int p1), .val (.int (4 : Int32)), .val (.ref s_CONTENT), .val (.int (0 : Int32)), .val (.int (4 : Int32)), .val (.int (0 : Int32)), .val (.int (0 : Int32))] [(.int (1 : Int32))]))
    obtain ⟨fs, hr, hrun, hended, hW, hsame⟩ := X129.leave (v := some (.int (1 : Int32))) (fun h => by rw [Bd.returns] at h; cases h)
    refine ⟨_, _, retN X129 hx (t := .boolean) Bd.returns (by simp) (hb hby at_76) hr, hrun, hended, _, _, rfl, ?_, ⟨_, rfl⟩, hW, hsame.mono (by decide) (by decide)⟩
    show Qrm0 Z p1 s_CREATED s_DELETED s_VALID s_CHANGED s_CONTENT s_BAD_REQUEST s_UNAUTHORIZED s_FORBIDDEN s_NOT_FOUND s_METHOD_NOT_ALLOWED s_REQUEST_TOO_LARGE s_UNPROCESSABLE_ENTITY s_INTERNAL_SERVER_ERROR s_NOT_IMPLEMENTED h0 n0 _ T129.heap _
    rw [eh129]
    exact ⟨rfl, N129⟩
  · rw [hk]
    show Go p.tables e below _ (s₁.setTop (mkF m 8 #[.val (.int p1), .val (.int (5 : Int32)), .unset, .unset, .unset, .unset, .unset] []))
    refine Go.step (fun _ kt => XS.iloadN X0.here hx rfl (hb hby at_8) rfl kt) ?_
    show Go p.tables e below _ (s₁.setTop (mkF m 9 #[.val (.int p1), .val (.int (5 : Int32)), .unset, .unset, .unset, .unset, .unset] [(.int (5 : Int32))]))
    obtain ⟨_, _, ⟨T131, L131, k131, n131⟩, -, X131, ⟨Lc131, hQ131, l131, y131, z131⟩, st131⟩ := Jvm.LawKit.callS X0 hx (y := (⟨"com/example/kenning/kenning/StatusIsErrorPinLaw", "pick", "(I)Lcom/example/kenning/kenning/Status;"⟩ : MethodName)) hown (mvT hZ (hw _ (List.mem_of_getElem? (i := 1) rfl))) (mvT hZ (hw _ (List.mem_of_getElem? (i := 2) rfl))) (mvT hZ (hw _ (List.mem_of_getElem? (i := 3) rfl))) (mvT hZ (hw _ (List.mem_of_getElem? (i := 4) rfl))) (by decide) (backOf (W := 0) (rm1 l Z a0 hw [] (5 : Int32) s_CREATED s_DELETED s_VALID s_CHANGED s_CONTENT s_BAD_REQUEST s_UNAUTHORIZED s_FORBIDDEN s_NOT_FOUND s_METHOD_NOT_ALLOWED s_REQUEST_TOO_LARGE s_UNPROCESSABLE_ENTITY s_INTERNAL_SERVER_ERROR s_NOT_IMPLEMENTED h0 n0 Z0 S_CREATED S_DELETED S_VALID S_CHANGED S_CONTENT S_BAD_REQUEST S_UNAUTHORIZED S_FORBIDDEN S_NOT_FOUND S_METHOD_NOT_ALLOWED S_REQUEST_TOO_LARGE S_UNPROCESSABLE_ENTITY S_INTERNAL_SERVER_ERROR S_NOT_IMPLEMENTED ) hZ (hw _ (List.mem_of_getElem? (i := 4) rfl)) (hw _ (List.mem_of_getElem? (i := 3) rfl)) (by decide) (by decide)) (g := (mkF m 9 #[.val (.int p1), .val (.int (5 : Int32)), .unset, .unset, .unset, .unset, .unset] [(.int (5 : Int32))])) rfl (by rw [hml]; rfl) (argsL := [(.int (5 : Int32))]) (rest := []) (lenOf pd_0 rfl) rfl (by show 2 * 0 + _ ≤ _; exact Nat.le_of_eq rfl) (hb hby at_9) (fun _ _ => ⟨rfl, e0, (by decide : 0 + 0 ≤ _), (by decide : 0 + 0 ≤ _)⟩)
    dsimp only [Pt.U, Pt.locs, Pt.cells, Pt.slots] at X131 l131 y131 z131 st131 hQ131
    subst l131 y131 z131
    obtain ⟨rfl, N131q, eh131⟩ := hQ131
    have N131 := Fr.app N0 N131q
    refine Go.step st131 ?_
    show Go p.tables e below _ (T131.setTop (mkF m 12 #[.val (.int p1), .val (.int (5 : Int32)), .unset, .unset, .unset, .unset, .unset] [(.ref (own_pick (5 : Int32) s_CREATED s_DELETED s_VALID s_CHANGED s_CONTENT s_BAD_REQUEST s_UNAUTHORIZED s_FORBIDDEN s_NOT_FOUND s_METHOD_NOT_ALLOWED s_REQUEST_TOO_LARGE s_UNPROCESSABLE_ENTITY s_INTERNAL_SERVER_ERROR s_NOT_IMPLEMENTED))]))
    have q132 : (own_pick (5 : Int32) s_CREATED s_DELETED s_VALID s_CHANGED s_CONTENT s_BAD_REQUEST s_UNAUTHORIZED s_FORBIDDEN s_NOT_FOUND s_METHOD_NOT_ALLOWED s_REQUEST_TOO_LARGE s_UNPROCESSABLE_ENTITY s_INTERNAL_SERVER_ERROR s_NOT_IMPLEMENTED) = s_BAD_REQUEST := rfl
    rw [q132]
    show Go p.tables e below _ (T131.setTop (mkF m 12 #[.val (.int p1), .val (.int (5 : Int32)), .unset, .unset, .unset, .unset, .unset] [(.ref s_BAD_REQUEST)]))
    refine Go.step (fun _ kt => XS.astoreN X131.here hx rfl (hb hby at_12) rfl rfl (l' := #[.val (.int p1), .val (.int (5 : Int32)), .val (.ref s_BAD_REQUEST), .unset, .unset, .unset, .unset]) rfl kt) ?_
    show Go p.tables e below _ (T131.setTop (mkF m 13 #[.val (.int p1), .val (.int (5 : Int32)), .val (.ref s_BAD_REQUEST), .unset, .unset, .unset, .unset] []))
    refine Go.step (fun _ kt => XS.iloadN X131.here hx rfl (hb hby at_13) rfl kt) ?_
    show Go p.tables e below _ (T131.setTop (mkF m 14 #[.val (.int p1), .val (.int (5 : Int32)), .val (.ref s_BAD_REQUEST), .unset, .unset, .unset, .unset] [(.int (5 : Int32))]))
    refine Go.step (fun _ kt => XS.iconst X131.here hx rfl (hb hby at_14) kt) ?_
    show Go p.tables e below _ (T131.setTop (mkF m 15 #[.val (.int p1), .val (.int (5 : Int32)), .val (.ref s_BAD_REQUEST), .unset, .unset, .unset, .unset] [(.int (5 : Int32)), (.int (5 : Int32))]))
    refine Go.step (fun _ kt => XS.icmpNo X131.here hx rfl (hb hby at_15) rfl (flt (by decide : ¬ ((5 : Int32) < (5 : Int32)))).1 kt) ?_
    show Go p.tables e below _ (T131.setTop (mkF m 18 #[.val (.int p1), .val (.int (5 : Int32)), .val (.ref s_BAD_REQUEST), .unset, .unset, .unset, .unset] []))
    refine Go.step (fun _ kt => XS.iconst X131.here hx rfl (hb hby at_18) kt) ?_
    show Go p.tables e below _ (T131.setTop (mkF m 19 #[.val (.int p1), .val (.int (5 : Int32)), .val (.ref s_BAD_REQUEST), .unset, .unset, .unset, .unset] [(.int (1 : Int32))]))
    refine Go.step (fun _ kt => XS.goto X131.here hx rfl (pc0 := 19) (pc' := 23) rfl (hb hby at_19) (by decide) (by decide) kt) ?_
    show Go p.tables e below _ (T131.setTop (mkF m 23 #[.val (.int p1), .val (.int (5 : Int32)), .val (.ref s_BAD_REQUEST), .unset, .unset, .unset, .unset] [(.int (1 : Int32))]))
    refine Go.step (fun _ kt => XS.istoreN X131.here hx rfl (hb hby at_23) rfl (l' := #[.val (.int p1), .val (.int (5 : Int32)), .val (.ref s_BAD_REQUEST), .val (.int (1 : Int32)), .unset, .unset, .unset]) rfl kt) ?_
    show Go p.tables e below _ (T131.setTop (mkF m 24 #[.val (.int p1), .val (.int (5 : Int32)), .val (.ref s_BAD_REQUEST), .val (.int (1 : Int32)), .unset, .unset, .unset] []))
    refine Go.step (fun _ kt => XS.aloadN X131.here hx rfl (hb hby at_24) rfl rfl kt) ?_
    show Go p.tables e below _ (T131.setTop (mkF m 25 #[.val (.int p1), .val (.int (5 : Int32)), .val (.ref s_BAD_REQUEST), .val (.int (1 : Int32)), .unset, .unset, .unset] [(.ref s_BAD_REQUEST)]))
    obtain ⟨cq133, kq133, q133a, q133b, q133c⟩ := isOf hZ eh131 E_BAD_REQUEST
    obtain ⟨_, _, ⟨T133, L133, k133, n133⟩, -, X133, ⟨Lc133, hQ133, l133, y133, z133⟩, st133⟩ := X131.virtualBack hx (y := (⟨"com/example/kenning/kenning/Status", "code", "()I"⟩ : MethodName)) (z := (⟨"com/example/kenning/kenning/Status", "code", "()I"⟩ : MethodName)) hown (mvT hZ (hw _ (List.mem_of_getElem? (i := 8) rfl))) (mvT hZ (hw _ (List.mem_of_getElem? (i := 9) rfl))) (notFace_of_selects (args := #[]) (mvT hZ (hw _ (List.mem_of_getElem? (i := 11) rfl)))) (mvT hZ (hw _ (List.mem_of_getElem? (i := 11) rfl))) (mvT hZ (hw _ (List.mem_of_getElem? (i := 10) rfl))) (by decide) (backOf (W := 0) (rm2 l Z a0 hw [] s_BAD_REQUEST (160 : Int32) h0 n0 Z0 F_BAD_REQUEST_code ) hZ (hw _ (List.mem_of_getElem? (i := 12) rfl)) (hw _ (List.mem_of_getElem? (i := 6) rfl)) (by decide) (by decide)) q133a q133c (g := (mkF m 25 #[.val (.int p1), .val (.int (5 : Int32)), .val (.ref s_BAD_REQUEST), .val (.int (1 : Int32)), .unset, .unset, .unset] [(.ref s_BAD_REQUEST)])) rfl (by rw [hml]; rfl) (Steps.refl _) (argsL := []) (rest := []) (lenOf pd_1 rfl) rfl (by show 2 * 0 + _ ≤ _; exact Nat.le_of_eq rfl) (hb hby at_25) (fun _ _ => ⟨rfl, eh131, (by decide : 0 + 0 ≤ _), (by decide : 0 + 0 ≤ _)⟩)
    dsimp only [Pt.U, Pt.locs, Pt.cells, Pt.slots] at X133 l133 y133 z133 st133 hQ133
    subst l133 y133 z133
    obtain ⟨rfl, N133q, eh133⟩ := hQ133
    have N133 := Fr.app N131 N133q
    refine Go.step (fun _ kt => st133.trans kt) ?_
    show Go p.tables e below _ (T133.setTop (mkF m 28 #[.val (.int p1), .val (.int (5 : Int32)), .val (.ref s_BAD_REQUEST), .val (.int (1 : Int32)), .unset, .unset, .unset] [(.int (160 : Int32))]))
    refine Go.step (fun _ kt => XS.iconst X133.here hx rfl (hb hby at_28) kt) ?_
    show Go p.tables e below _ (T133.setTop (mkF m 29 #[.val (.int p1), .val (.int (5 : Int32)), .val (.ref s_BAD_REQUEST), .val (.int (1 : Int32)), .unset, .unset, .unset] [(.int (5 : Int32)), (.int (160 : Int32))]))
    refine Go.step (fun _ kt => XS.ishr X133.here hx rfl (hb hby at_29) rfl kt) ?_
    show Go p.tables e below _ (T133.setTop (mkF m 30 #[.val (.int p1), .val (.int (5 : Int32)), .val (.ref s_BAD_REQUEST), .val (.int (1 : Int32)), .unset, .unset, .unset] [(.int ((160 : Int32) >>> ((5 : Int32) &&& 31)))]))
    have q134 : ((160 : Int32) >>> ((5 : Int32) &&& 31)) = (5 : Int32) := by decide
    rw [q134]
    show Go p.tables e below _ (T133.setTop (mkF m 30 #[.val (.int p1), .val (.int (5 : Int32)), .val (.ref s_BAD_REQUEST), .val (.int (1 : Int32)), .unset, .unset, .unset] [(.int (5 : Int32))]))
    refine Go.step (fun _ kt => XS.istore X133.here hx rfl (hb hby at_30) rfl (l' := #[.val (.int p1), .val (.int (5 : Int32)), .val (.ref s_BAD_REQUEST), .val (.int (1 : Int32)), .val (.int (5 : Int32)), .unset, .unset]) rfl kt) ?_
    show Go p.tables e below _ (T133.setTop (mkF m 32 #[.val (.int p1), .val (.int (5 : Int32)), .val (.ref s_BAD_REQUEST), .val (.int (1 : Int32)), .val (.int (5 : Int32)), .unset, .unset] []))
    refine Go.step (fun _ kt => XS.iload X133.here hx rfl (hb hby at_32) rfl kt) ?_
    show Go p.tables e below _ (T133.setTop (mkF m 34 #[.val (.int p1), .val (.int (5 : Int32)), .val (.ref s_BAD_REQUEST), .val (.int (1 : Int32)), .val (.int (5 : Int32)), .unset, .unset] [(.int (5 : Int32))]))
    refine Go.step (fun _ kt => XS.iconst X133.here hx rfl (hb hby at_34) kt) ?_
    show Go p.tables e below _ (T133.setTop (mkF m 35 #[.val (.int p1), .val (.int (5 : Int32)), .val (.ref s_BAD_REQUEST), .val (.int (1 : Int32)), .val (.int (5 : Int32)), .unset, .unset] [(.int (5 : Int32)), (.int (5 : Int32))]))
    refine Go.step (fun _ kt => XS.icmpYes X133.here hx rfl (pc0 := 35) (pc' := 45) rfl (hb hby at_35) rfl (teq (by decide : (5 : Int32) = (5 : Int32))).1 (by decide) (by decide) kt) ?_
    show Go p.tables e below _ (T133.setTop (mkF m 45 #[.val (.int p1), .val (.int (5 : Int32)), .val (.ref s_BAD_REQUEST), .val (.int (1 : Int32)), .val (.int (5 : Int32)), .unset, .unset] []))
    refine Go.step (fun _ kt => XS.iconst X133.here hx rfl (hb hby at_45) kt) ?_
    show Go p.tables e below _ (T133.setTop (mkF m 46 #[.val (.int p1), .val (.int (5 : Int32)), .val (.ref s_BAD_REQUEST), .val (.int (1 : Int32)), .val (.int (5 : Int32)), .unset, .unset] [(.int (1 : Int32))]))
    refine Go.step (fun _ kt => XS.goto X133.here hx rfl (pc0 := 46) (pc' := 50) rfl (hb hby at_46) (by decide) (by decide) kt) ?_
    show Go p.tables e below _ (T133.setTop (mkF m 50 #[.val (.int p1), .val (.int (5 : Int32)), .val (.ref s_BAD_REQUEST), .val (.int (1 : Int32)), .val (.int (5 : Int32)), .unset, .unset] [(.int (1 : Int32))]))
    refine Go.step (fun _ kt => XS.istore X133.here hx rfl (hb hby at_50) rfl (l' := #[.val (.int p1), .val (.int (5 : Int32)), .val (.ref s_BAD_REQUEST), .val (.int (1 : Int32)), .val (.int (5 : Int32)), .val (.int (1 : Int32)), .unset]) rfl kt) ?_
    show Go p.tables e below _ (T133.setTop (mkF m 52 #[.val (.int p1), .val (.int (5 : Int32)), .val (.ref s_BAD_REQUEST), .val (.int (1 : Int32)), .val (.int (5 : Int32)), .val (.int (1 : Int32)), .unset] []))
    refine Go.step (fun _ kt => XS.aloadN X133.here hx rfl (hb hby at_52) rfl rfl kt) ?_
    show Go p.tables e below _ (T133.setTop (mkF m 53 #[.val (.int p1), .val (.int (5 : Int32)), .val (.ref s_BAD_REQUEST), .val (.int (1 : Int32)), .val (.int (5 : Int32)), .val (.int (1 : Int32)), .unset] [(.ref s_BAD_REQUEST)]))
    obtain ⟨cq135, kq135, q135a, q135b, q135c⟩ := isOf hZ eh133 E_BAD_REQUEST
    obtain ⟨_, _, ⟨T135, L135, k135, n135⟩, -, X135, ⟨Lc135, hQ135, l135, y135, z135⟩, st135⟩ := X133.virtualBack hx (y := (⟨"com/example/kenning/kenning/Status", "isError", "()Z"⟩ : MethodName)) (z := (⟨"com/example/kenning/kenning/Status", "isError", "()Z"⟩ : MethodName)) hown (mvT hZ (hw _ (List.mem_of_getElem? (i := 15) rfl))) (mvT hZ (hw _ (List.mem_of_getElem? (i := 16) rfl))) (notFace_of_selects (args := #[]) (mvT hZ (hw _ (List.mem_of_getElem? (i := 18) rfl)))) (mvT hZ (hw _ (List.mem_of_getElem? (i := 18) rfl))) (mvT hZ (hw _ (List.mem_of_getElem? (i := 17) rfl))) (by decide) (backOf (W := 0) (rm3 l Z a0 hw [] s_BAD_REQUEST (160 : Int32) h0 n0 Z0 F_BAD_REQUEST_code ) hZ (hw _ (List.mem_of_getElem? (i := 19) rfl)) (hw _ (List.mem_of_getElem? (i := 6) rfl)) (by decide) (by decide)) q135a q135c (g := (mkF m 53 #[.val (.int p1), .val (.int (5 : Int32)), .val (.ref s_BAD_REQUEST), .val (.int (1 : Int32)), .val (.int (5 : Int32)), .val (.int (1 : Int32)), .unset] [(.ref s_BAD_REQUEST)])) rfl (by rw [hml]; rfl) (Steps.refl _) (argsL := []) (rest := []) (lenOf pd_2 rfl) rfl (by show 2 * 0 + _ ≤ _; exact Nat.le_of_eq rfl) (hb hby at_53) (fun _ _ => ⟨rfl, eh133, (by decide : 0 + 0 ≤ _), (by decide : 0 + 0 ≤ _)⟩)
    dsimp only [Pt.U, Pt.locs, Pt.cells, Pt.slots] at X135 l135 y135 z135 st135 hQ135
    subst l135 y135 z135
    obtain ⟨rfl, N135q, eh135⟩ := hQ135
    have N135 := Fr.app N133 N135q
    refine Go.step (fun _ kt => st135.trans kt) ?_
    show Go p.tables e below _ (T135.setTop (mkF m 56 #[.val (.int p1), .val (.int (5 : Int32)), .val (.ref s_BAD_REQUEST), .val (.int (1 : Int32)), .val (.int (5 : Int32)), .val (.int (1 : Int32)), .unset] [(.int (own_err (160 : Int32)))]))
    have q136 : (own_err (160 : Int32)) = (1 : Int32) := by decide
    rw [q136]
    show Go p.tables e below _ (T135.setTop (mkF m 56 #[.val (.int p1), .val (.int (5 : Int32)), .val (.ref s_BAD_REQUEST), .val (.int (1 : Int32)), .val (.int (5 : Int32)), .val (.int (1 : Int32)), .unset] [(.int (1 : Int32))]))
    refine Go.step (fun _ kt => XS.istore X135.here hx rfl (hb hby at_56) rfl (l' := #[.val (.int p1), .val (.int (5 : Int32)), .val (.ref s_BAD_REQUEST), .val (.int (1 : Int32)), .val (.int (5 : Int32)), .val (.int (1 : Int32)), .val (.int (1 : Int32))]) rfl kt) ?_
    show Go p.tables e below _ (T135.setTop (mkF m 58 #[.val (.int p1), .val (.int (5 : Int32)), .val (.ref s_BAD_REQUEST), .val (.int (1 : Int32)), .val (.int (5 : Int32)), .val (.int (1 : Int32)), .val (.int (1 : Int32))] []))
    refine Go.step (fun _ kt => XS.iload X135.here hx rfl (hb hby at_58) rfl kt) ?_
    show Go p.tables e below _ (T135.setTop (mkF m 60 #[.val (.int p1), .val (.int (5 : Int32)), .val (.ref s_BAD_REQUEST), .val (.int (1 : Int32)), .val (.int (5 : Int32)), .val (.int (1 : Int32)), .val (.int (1 : Int32))] [(.int (1 : Int32))]))
    refine Go.step (fun _ kt => XS.iloadN X135.here hx rfl (hb hby at_60) rfl kt) ?_
    show Go p.tables e below _ (T135.setTop (mkF m 61 #[.val (.int p1), .val (.int (5 : Int32)), .val (.ref s_BAD_REQUEST), .val (.int (1 : Int32)), .val (.int (5 : Int32)), .val (.int (1 : Int32)), .val (.int (1 : Int32))] [(.int (1 : Int32)), (.int (1 : Int32))]))
    refine Go.step (fun _ kt => XS.icmpNo X135.here hx rfl (hb hby at_61) rfl (teq (by decide : (1 : Int32) = (1 : Int32))).2 kt) ?_
    show Go p.tables e below _ (T135.setTop (mkF m 64 #[.val (.int p1), .val (.int (5 : Int32)), .val (.ref s_BAD_REQUEST), .val (.int (1 : Int32)), .val (.int (5 : Int32)), .val (.int (1 : Int32)), .val (.int (1 : Int32))] []))
    refine Go.step (fun _ kt => XS.iload X135.here hx rfl (hb hby at_64) rfl kt) ?_
    show Go p.tables e below _ (T135.setTop (mkF m 66 #[.val (.int p1), .val (.int (5 : Int32)), .val (.ref s_BAD_REQUEST), .val (.int (1 : Int32)), .val (.int (5 : Int32)), .val (.int (1 : Int32)), .val (.int (1 : Int32))] [(.int (1 : Int32))]))
    refine Go.step (fun _ kt => XS.iload X135.here hx rfl (hb hby at_66) rfl kt) ?_
    show Go p.tables e below _ (T135.setTop (mkF m 68 #[.val (.int p1), .val (.int (5 : Int32)), .val (.ref s_BAD_REQUEST), .val (.int (1 : Int32)), .val (.int (5 : Int32)), .val (.int (1 : Int32)), .val (.int (1 : Int32))] [(.int (1 : Int32)), (.int (1 : Int32))]))
    refine Go.step (fun _ kt => XS.icmpNo X135.here hx rfl (hb hby at_68) rfl (teq (by decide : (1 : Int32) = (1 : Int32))).2 kt) ?_
    show Go p.tables e below _ (T135.setTop (mkF m 71 #[.val (.int p1), .val (.int (5 : Int32)), .val (.ref s_BAD_REQUEST), .val (.int (1 : Int32)), .val (.int (5 : Int32)), .val (.int (1 : Int32)), .val (.int (1 : Int32))] []))
    refine Go.step (fun _ kt => XS.iconst X135.here hx rfl (hb hby at_71) kt) ?_
    show Go p.tables e below _ (T135.setTop (mkF m 72 #[.val (.int p1), .val (.int (5 : Int32)), .val (.ref s_BAD_REQUEST), .val (.int (1 : Int32)), .val (.int (5 : Int32)), .val (.int (1 : Int32)), .val (.int (1 : Int32))] [(.int (1 : Int32))]))
    refine Go.step (fun _ kt => XS.goto X135.here hx rfl (pc0 := 72) (pc' := 76) rfl (hb hby at_72) (by decide) (by decide) kt) ?_
    show Go p.tables e below _ (T135.setTop (mkF m 76 #[.val (.int p1), .val (.int (5 : Int32)), .val (.ref s_BAD_REQUEST), .val (.int (1 : Int32)), .val (.int (5 : Int32)), .val (.int (1 : Int32)), .val (.int (1 : Int32))] [(.int (1 : Int32))]))
    obtain ⟨fs, hr, hrun, hended, hW, hsame⟩ := X135.leave (v := some (.int (1 : Int32))) (fun h => by rw [Bd.returns] at h; cases h)
    refine ⟨_, _, retN X135 hx (t := .boolean) Bd.returns (by simp) (hb hby at_76) hr, hrun, hended, _, _, rfl, ?_, ⟨_, rfl⟩, hW, hsame.mono (by decide) (by decide)⟩
    show Qrm0 Z p1 s_CREATED s_DELETED s_VALID s_CHANGED s_CONTENT s_BAD_REQUEST s_UNAUTHORIZED s_FORBIDDEN s_NOT_FOUND s_METHOD_NOT_ALLOWED s_REQUEST_TOO_LARGE s_UNPROCESSABLE_ENTITY s_INTERNAL_SERVER_ERROR s_NOT_IMPLEMENTED h0 n0 _ T135.heap _
    rw [eh135]
    exact ⟨rfl, N135⟩
  · rw [hk]
    show Go p.tables e below _ (s₁.setTop (mkF m 8 #[.val (.int p1), .val (.int (6 : Int32)), .unset, .unset, .unset, .unset, .unset] []))
    refine Go.step (fun _ kt => XS.iloadN X0.here hx rfl (hb hby at_8) rfl kt) ?_
    show Go p.tables e below _ (s₁.setTop (mkF m 9 #[.val (.int p1), .val (.int (6 : Int32)), .unset, .unset, .unset, .unset, .unset] [(.int (6 : Int32))]))
    obtain ⟨_, _, ⟨T137, L137, k137, n137⟩, -, X137, ⟨Lc137, hQ137, l137, y137, z137⟩, st137⟩ := Jvm.LawKit.callS X0 hx (y := (⟨"com/example/kenning/kenning/StatusIsErrorPinLaw", "pick", "(I)Lcom/example/kenning/kenning/Status;"⟩ : MethodName)) hown (mvT hZ (hw _ (List.mem_of_getElem? (i := 1) rfl))) (mvT hZ (hw _ (List.mem_of_getElem? (i := 2) rfl))) (mvT hZ (hw _ (List.mem_of_getElem? (i := 3) rfl))) (mvT hZ (hw _ (List.mem_of_getElem? (i := 4) rfl))) (by decide) (backOf (W := 0) (rm1 l Z a0 hw [] (6 : Int32) s_CREATED s_DELETED s_VALID s_CHANGED s_CONTENT s_BAD_REQUEST s_UNAUTHORIZED s_FORBIDDEN s_NOT_FOUND s_METHOD_NOT_ALLOWED s_REQUEST_TOO_LARGE s_UNPROCESSABLE_ENTITY s_INTERNAL_SERVER_ERROR s_NOT_IMPLEMENTED h0 n0 Z0 S_CREATED S_DELETED S_VALID S_CHANGED S_CONTENT S_BAD_REQUEST S_UNAUTHORIZED S_FORBIDDEN S_NOT_FOUND S_METHOD_NOT_ALLOWED S_REQUEST_TOO_LARGE S_UNPROCESSABLE_ENTITY S_INTERNAL_SERVER_ERROR S_NOT_IMPLEMENTED ) hZ (hw _ (List.mem_of_getElem? (i := 4) rfl)) (hw _ (List.mem_of_getElem? (i := 3) rfl)) (by decide) (by decide)) (g := (mkF m 9 #[.val (.int p1), .val (.int (6 : Int32)), .unset, .unset, .unset, .unset, .unset] [(.int (6 : Int32))])) rfl (by rw [hml]; rfl) (argsL := [(.int (6 : Int32))]) (rest := []) (lenOf pd_0 rfl) rfl (by show 2 * 0 + _ ≤ _; exact Nat.le_of_eq rfl) (hb hby at_9) (fun _ _ => ⟨rfl, e0, (by decide : 0 + 0 ≤ _), (by decide : 0 + 0 ≤ _)⟩)
    dsimp only [Pt.U, Pt.locs, Pt.cells, Pt.slots] at X137 l137 y137 z137 st137 hQ137
    subst l137 y137 z137
    obtain ⟨rfl, N137q, eh137⟩ := hQ137
    have N137 := Fr.app N0 N137q
    refine Go.step st137 ?_
    show Go p.tables e below _ (T137.setTop (mkF m 12 #[.val (.int p1), .val (.int (6 : Int32)), .unset, .unset, .unset, .unset, .unset] [(.ref (own_pick (6 : Int32) s_CREATED s_DELETED s_VALID s_CHANGED s_CONTENT s_BAD_REQUEST s_UNAUTHORIZED s_FORBIDDEN s_NOT_FOUND s_METHOD_NOT_ALLOWED s_REQUEST_TOO_LARGE s_UNPROCESSABLE_ENTITY s_INTERNAL_SERVER_ERROR s_NOT_IMPLEMENTED))]))
    have q138 : (own_pick (6 : Int32) s_CREATED s_DELETED s_VALID s_CHANGED s_CONTENT s_BAD_REQUEST s_UNAUTHORIZED s_FORBIDDEN s_NOT_FOUND s_METHOD_NOT_ALLOWED s_REQUEST_TOO_LARGE s_UNPROCESSABLE_ENTITY s_INTERNAL_SERVER_ERROR s_NOT_IMPLEMENTED) = s_UNAUTHORIZED := rfl
    rw [q138]
    show Go p.tables e below _ (T137.setTop (mkF m 12 #[.val (.int p1), .val (.int (6 : Int32)), .unset, .unset, .unset, .unset, .unset] [(.ref s_UNAUTHORIZED)]))
    refine Go.step (fun _ kt => XS.astoreN X137.here hx rfl (hb hby at_12) rfl rfl (l' := #[.val (.int p1), .val (.int (6 : Int32)), .val (.ref s_UNAUTHORIZED), .unset, .unset, .unset, .unset]) rfl kt) ?_
    show Go p.tables e below _ (T137.setTop (mkF m 13 #[.val (.int p1), .val (.int (6 : Int32)), .val (.ref s_UNAUTHORIZED), .unset, .unset, .unset, .unset] []))
    refine Go.step (fun _ kt => XS.iloadN X137.here hx rfl (hb hby at_13) rfl kt) ?_
    show Go p.tables e below _ (T137.setTop (mkF m 14 #[.val (.int p1), .val (.int (6 : Int32)), .val (.ref s_UNAUTHORIZED), .unset, .unset, .unset, .unset] [(.int (6 : Int32))]))
    refine Go.step (fun _ kt => XS.iconst X137.here hx rfl (hb hby at_14) kt) ?_
    show Go p.tables e below _ (T137.setTop (mkF m 15 #[.val (.int p1), .val (.int (6 : Int32)), .val (.ref s_UNAUTHORIZED), .unset, .unset, .unset, .unset] [(.int (5 : Int32)), (.int (6 : Int32))]))
    refine Go.step (fun _ kt => XS.icmpNo X137.here hx rfl (hb hby at_15) rfl (flt (by decide : ¬ ((6 : Int32) < (5 : Int32)))).1 kt) ?_
    show Go p.tables e below _ (T137.setTop (mkF m 18 #[.val (.int p1), .val (.int (6 : Int32)), .val (.ref s_UNAUTHORIZED), .unset, .unset, .unset, .unset] []))
    refine Go.step (fun _ kt => XS.iconst X137.here hx rfl (hb hby at_18) kt) ?_
    show Go p.tables e below _ (T137.setTop (mkF m 19 #[.val (.int p1), .val (.int (6 : Int32)), .val (.ref s_UNAUTHORIZED), .unset, .unset, .unset, .unset] [(.int (1 : Int32))]))
    refine Go.step (fun _ kt => XS.goto X137.here hx rfl (pc0 := 19) (pc' := 23) rfl (hb hby at_19) (by decide) (by decide) kt) ?_
    show Go p.tables e below _ (T137.setTop (mkF m 23 #[.val (.int p1), .val (.int (6 : Int32)), .val (.ref s_UNAUTHORIZED), .unset, .unset, .unset, .unset] [(.int (1 : Int32))]))
    refine Go.step (fun _ kt => XS.istoreN X137.here hx rfl (hb hby at_23) rfl (l' := #[.val (.int p1), .val (.int (6 : Int32)), .val (.ref s_UNAUTHORIZED), .val (.int (1 : Int32)), .unset, .unset, .unset]) rfl kt) ?_
    show Go p.tables e below _ (T137.setTop (mkF m 24 #[.val (.int p1), .val (.int (6 : Int32)), .val (.ref s_UNAUTHORIZED), .val (.int (1 : Int32)), .unset, .unset, .unset] []))
    refine Go.step (fun _ kt => XS.aloadN X137.here hx rfl (hb hby at_24) rfl rfl kt) ?_
    show Go p.tables e below _ (T137.setTop (mkF m 25 #[.val (.int p1), .val (.int (6 : Int32)), .val (.ref s_UNAUTHORIZED), .val (.int (1 : Int32)), .unset, .unset, .unset] [(.ref s_UNAUTHORIZED)]))
    obtain ⟨cq139, kq139, q139a, q139b, q139c⟩ := isOf hZ eh137 E_UNAUTHORIZED
    obtain ⟨_, _, ⟨T139, L139, k139, n139⟩, -, X139, ⟨Lc139, hQ139, l139, y139, z139⟩, st139⟩ := X137.virtualBack hx (y := (⟨"com/example/kenning/kenning/Status", "code", "()I"⟩ : MethodName)) (z := (⟨"com/example/kenning/kenning/Status", "code", "()I"⟩ : MethodName)) hown (mvT hZ (hw _ (List.mem_of_getElem? (i := 8) rfl))) (mvT hZ (hw _ (List.mem_of_getElem? (i := 9) rfl))) (notFace_of_selects (args := #[]) (mvT hZ (hw _ (List.mem_of_getElem? (i := 11) rfl)))) (mvT hZ (hw _ (List.mem_of_getElem? (i := 11) rfl))) (mvT hZ (hw _ (List.mem_of_getElem? (i := 10) rfl))) (by decide) (backOf (W := 0) (rm2 l Z a0 hw [] s_UNAUTHORIZED (161 : Int32) h0 n0 Z0 F_UNAUTHORIZED_code ) hZ (hw _ (List.mem_of_getElem? (i := 12) rfl)) (hw _ (List.mem_of_getElem? (i := 6) rfl)) (by decide) (by decide)) q139a q139c (g := (mkF m 25 #[.val (.int p1), .val (.int (6 : Int32)), .val (.ref s_UNAUTHORIZED), .val (.int (1 : Int32)), .unset, .unset, .unset] [(.ref s_UNAUTHORIZED)])) rfl (by rw [hml]; rfl) (Steps.refl _) (argsL := []) (rest := []) (lenOf pd_1 rfl) rfl (by show 2 * 0 + _ ≤ _; exact Nat.le_of_eq rfl) (hb hby at_25) (fun _ _ => ⟨rfl, eh137, (by decide : 0 + 0 ≤ _), (by decide : 0 + 0 ≤ _)⟩)
    dsimp only [Pt.U, Pt.locs, Pt.cells, Pt.slots] at X139 l139 y139 z139 st139 hQ139
    subst l139 y139 z139
    obtain ⟨rfl, N139q, eh139⟩ := hQ139
    have N139 := Fr.app N137 N139q
    refine Go.step (fun _ kt => st139.trans kt) ?_
    show Go p.tables e below _ (T139.setTop (mkF m 28 #[.val (.int p1), .val (.int (6 : Int32)), .val (.ref s_UNAUTHORIZED), .val (.int (1 : Int32)), .unset, .unset, .unset] [(.int (161 : Int32))]))
    refine Go.step (fun _ kt => XS.iconst X139.here hx rfl (hb hby at_28) kt) ?_
    show Go p.tables e below _ (T139.setTop (mkF m 29 #[.val (.int p1), .val (.int (6 : Int32)), .val (.ref s_UNAUTHORIZED), .val (.int (1 : Int32)), .unset, .unset, .unset] [(.int (5 : Int32)), (.int (161 : Int32))]))
    refine Go.step (fun _ kt => XS.ishr X139.here hx rfl (hb hby at_29) rfl kt) ?_
    show Go p.tables e below _ (T139.setTop (mkF m 30 #[.val (.int p1), .val (.int (6 : Int32)), .val (.ref s_UNAUTHORIZED), .val (.int (1 : Int32)), .unset, .unset, .unset] [(.int ((161 : Int32) >>> ((5 : Int32) &&& 31)))]))
    have q140 : ((161 : Int32) >>> ((5 : Int32) &&& 31)) = (5 : Int32) := by decide
    rw [q140]
    show Go p.tables e below _ (T139.setTop (mkF m 30 #[.val (.int p1), .val (.int (6 : Int32)), .val (.ref s_UNAUTHORIZED), .val (.int (1 : Int32)), .unset, .unset, .unset] [(.int (5 : Int32))]))
    refine Go.step (fun _ kt => XS.istore X139.here hx rfl (hb hby at_30) rfl (l' := #[.val (.int p1), .val (.int (6 : Int32)), .val (.ref s_UNAUTHORIZED), .val (.int (1 : Int32)), .val (.int (5 : Int32)), .unset, .unset]) rfl kt) ?_
    show Go p.tables e below _ (T139.setTop (mkF m 32 #[.val (.int p1), .val (.int (6 : Int32)), .val (.ref s_UNAUTHORIZED), .val (.int (1 : Int32)), .val (.int (5 : Int32)), .unset, .unset] []))
    refine Go.step (fun _ kt => XS.iload X139.here hx rfl (hb hby at_32) rfl kt) ?_
    show Go p.tables e below _ (T139.setTop (mkF m 34 #[.val (.int p1), .val (.int (6 : Int32)), .val (.ref s_UNAUTHORIZED), .val (.int (1 : Int32)), .val (.int (5 : Int32)), .unset, .unset] [(.int (5 : Int32))]))
    refine Go.step (fun _ kt => XS.iconst X139.here hx rfl (hb hby at_34) kt) ?_
    show Go p.tables e below _ (T139.setTop (mkF m 35 #[.val (.int p1), .val (.int (6 : Int32)), .val (.ref s_UNAUTHORIZED), .val (.int (1 : Int32)), .val (.int (5 : Int32)), .unset, .unset] [(.int (5 : Int32)), (.int (5 : Int32))]))
    refine Go.step (fun _ kt => XS.icmpYes X139.here hx rfl (pc0 := 35) (pc' := 45) rfl (hb hby at_35) rfl (teq (by decide : (5 : Int32) = (5 : Int32))).1 (by decide) (by decide) kt) ?_
    show Go p.tables e below _ (T139.setTop (mkF m 45 #[.val (.int p1), .val (.int (6 : Int32)), .val (.ref s_UNAUTHORIZED), .val (.int (1 : Int32)), .val (.int (5 : Int32)), .unset, .unset] []))
    refine Go.step (fun _ kt => XS.iconst X139.here hx rfl (hb hby at_45) kt) ?_
    show Go p.tables e below _ (T139.setTop (mkF m 46 #[.val (.int p1), .val (.int (6 : Int32)), .val (.ref s_UNAUTHORIZED), .val (.int (1 : Int32)), .val (.int (5 : Int32)), .unset, .unset] [(.int (1 : Int32))]))
    refine Go.step (fun _ kt => XS.goto X139.here hx rfl (pc0 := 46) (pc' := 50) rfl (hb hby at_46) (by decide) (by decide) kt) ?_
    show Go p.tables e below _ (T139.setTop (mkF m 50 #[.val (.int p1), .val (.int (6 : Int32)), .val (.ref s_UNAUTHORIZED), .val (.int (1 : Int32)), .val (.int (5 : Int32)), .unset, .unset] [(.int (1 : Int32))]))
    refine Go.step (fun _ kt => XS.istore X139.here hx rfl (hb hby at_50) rfl (l' := #[.val (.int p1), .val (.int (6 : Int32)), .val (.ref s_UNAUTHORIZED), .val (.int (1 : Int32)), .val (.int (5 : Int32)), .val (.int (1 : Int32)), .unset]) rfl kt) ?_
    show Go p.tables e below _ (T139.setTop (mkF m 52 #[.val (.int p1), .val (.int (6 : Int32)), .val (.ref s_UNAUTHORIZED), .val (.int (1 : Int32)), .val (.int (5 : Int32)), .val (.int (1 : Int32)), .unset] []))
    refine Go.step (fun _ kt => XS.aloadN X139.here hx rfl (hb hby at_52) rfl rfl kt) ?_
    show Go p.tables e below _ (T139.setTop (mkF m 53 #[.val (.int p1), .val (.int (6 : Int32)), .val (.ref s_UNAUTHORIZED), .val (.int (1 : Int32)), .val (.int (5 : Int32)), .val (.int (1 : Int32)), .unset] [(.ref s_UNAUTHORIZED)]))
    obtain ⟨cq141, kq141, q141a, q141b, q141c⟩ := isOf hZ eh139 E_UNAUTHORIZED
    obtain ⟨_, _, ⟨T141, L141, k141, n141⟩, -, X141, ⟨Lc141, hQ141, l141, y141, z141⟩, st141⟩ := X139.virtualBack hx (y := (⟨"com/example/kenning/kenning/Status", "isError", "()Z"⟩ : MethodName)) (z := (⟨"com/example/kenning/kenning/Status", "isError", "()Z"⟩ : MethodName)) hown (mvT hZ (hw _ (List.mem_of_getElem? (i := 15) rfl))) (mvT hZ (hw _ (List.mem_of_getElem? (i := 16) rfl))) (notFace_of_selects (args := #[]) (mvT hZ (hw _ (List.mem_of_getElem? (i := 18) rfl)))) (mvT hZ (hw _ (List.mem_of_getElem? (i := 18) rfl))) (mvT hZ (hw _ (List.mem_of_getElem? (i := 17) rfl))) (by decide) (backOf (W := 0) (rm3 l Z a0 hw [] s_UNAUTHORIZED (161 : Int32) h0 n0 Z0 F_UNAUTHORIZED_code ) hZ (hw _ (List.mem_of_getElem? (i := 19) rfl)) (hw _ (List.mem_of_getElem? (i := 6) rfl)) (by decide) (by decide)) q141a q141c (g := (mkF m 53 #[.val (.int p1), .val (.int (6 : Int32)), .val (.ref s_UNAUTHORIZED), .val (.int (1 : Int32)), .val (.int (5 : Int32)), .val (.int (1 : Int32)), .unset] [(.ref s_UNAUTHORIZED)])) rfl (by rw [hml]; rfl) (Steps.refl _) (argsL := []) (rest := []) (lenOf pd_2 rfl) rfl (by show 2 * 0 + _ ≤ _; exact Nat.le_of_eq rfl) (hb hby at_53) (fun _ _ => ⟨rfl, eh139, (by decide : 0 + 0 ≤ _), (by decide : 0 + 0 ≤ _)⟩)
    dsimp only [Pt.U, Pt.locs, Pt.cells, Pt.slots] at X141 l141 y141 z141 st141 hQ141
    subst l141 y141 z141
    obtain ⟨rfl, N141q, eh141⟩ := hQ141
    have N141 := Fr.app N139 N141q
    refine Go.step (fun _ kt => st141.trans kt) ?_
    show Go p.tables e below _ (T141.setTop (mkF m 56 #[.val (.int p1), .val (.int (6 : Int32)), .val (.ref s_UNAUTHORIZED), .val (.int (1 : Int32)), .val (.int (5 : Int32)), .val (.int (1 : Int32)), .unset] [(.int (own_err (161 : Int32)))]))
    have q142 : (own_err (161 : Int32)) = (1 : Int32) := by decide
    rw [q142]
    show Go p.tables e below _ (T141.setTop (mkF m 56 #[.val (.int p1), .val (.int (6 : Int32)), .val (.ref s_UNAUTHORIZED), .val (.int (1 : Int32)), .val (.int (5 : Int32)), .val (.int (1 : Int32)), .unset] [(.int (1 : Int32))]))
    refine Go.step (fun _ kt => XS.istore X141.here hx rfl (hb hby at_56) rfl (l' := #[.val (.int p1), .val (.int (6 : Int32)), .val (.ref s_UNAUTHORIZED), .val (.int (1 : Int32)), .val (.int (5 : Int32)), .val (.int (1 : Int32)), .val (.int (1 : Int32))]) rfl kt) ?_
    show Go p.tables e below _ (T141.setTop (mkF m 58 #[.val (.int p1), .val (.int (6 : Int32)), .val (.ref s_UNAUTHORIZED), .val (.int (1 : Int32)), .val (.int (5 : Int32)), .val (.int (1 : Int32)), .val (.int (1 : Int32))] []))
    refine Go.step (fun _ kt => XS.iload X141.here hx rfl (hb hby at_58) rfl kt) ?_
    show Go p.tables e below _ (T141.setTop (mkF m 60 #[.val (.int p1), .val (.int (6 : Int32)), .val (.ref s_UNAUTHORIZED), .val (.int (1 : Int32)), .val (.int (5 : Int32)), .val (.int (1 : Int32)), .val (.int (1 : Int32))] [(.int (1 : Int32))]))
    refine Go.step (fun _ kt => XS.iloadN X141.here hx rfl (hb hby at_60) rfl kt) ?_
    show Go p.tables e below _ (T141.setTop (mkF m 61 #[.val (.int p1), .val (.int (6 : Int32)), .val (.ref s_UNAUTHORIZED), .val (.int (1 : Int32)), .val (.int (5 : Int32)), .val (.int (1 : Int32)), .val (.int (1 : Int32))] [(.int (1 : Int32)), (.int (1 : Int32))]))
    refine Go.step (fun _ kt => XS.icmpNo X141.here hx rfl (hb hby at_61) rfl (teq (by decide : (1 : Int32) = (1 : Int32))).2 kt) ?_
    show Go p.tables e below _ (T141.setTop (mkF m 64 #[.val (.int p1), .val (.int (6 : Int32)), .val (.ref s_UNAUTHORIZED), .val (.int (1 : Int32)), .val (.int (5 : Int32)), .val (.int (1 : Int32)), .val (.int (1 : Int32))] []))
    refine Go.step (fun _ kt => XS.iload X141.here hx rfl (hb hby at_64) rfl kt) ?_
    show Go p.tables e below _ (T141.setTop (mkF m 66 #[.val (.int p1), .val (.int (6 : Int32)), .val (.ref s_UNAUTHORIZED), .val (.int (1 : Int32)), .val (.int (5 : Int32)), .val (.int (1 : Int32)), .val (.int (1 : Int32))] [(.int (1 : Int32))]))
    refine Go.step (fun _ kt => XS.iload X141.here hx rfl (hb hby at_66) rfl kt) ?_
    show Go p.tables e below _ (T141.setTop (mkF m 68 #[.val (.int p1), .val (.int (6 : Int32)), .val (.ref s_UNAUTHORIZED), .val (.int (1 : Int32)), .val (.int (5 : Int32)), .val (.int (1 : Int32)), .val (.int (1 : Int32))] [(.int (1 : Int32)), (.int (1 : Int32))]))
    refine Go.step (fun _ kt => XS.icmpNo X141.here hx rfl (hb hby at_68) rfl (teq (by decide : (1 : Int32) = (1 : Int32))).2 kt) ?_
    show Go p.tables e below _ (T141.setTop (mkF m 71 #[.val (.int p1), .val (.int (6 : Int32)), .val (.ref s_UNAUTHORIZED), .val (.int (1 : Int32)), .val (.int (5 : Int32)), .val (.int (1 : Int32)), .val (.int (1 : Int32))] []))
    refine Go.step (fun _ kt => XS.iconst X141.here hx rfl (hb hby at_71) kt) ?_
    show Go p.tables e below _ (T141.setTop (mkF m 72 #[.val (.int p1), .val (.int (6 : Int32)), .val (.ref s_UNAUTHORIZED), .val (.int (1 : Int32)), .val (.int (5 : Int32)), .val (.int (1 : Int32)), .val (.int (1 : Int32))] [(.int (1 : Int32))]))
    refine Go.step (fun _ kt => XS.goto X141.here hx rfl (pc0 := 72) (pc' := 76) rfl (hb hby at_72) (by decide) (by decide) kt) ?_
    show Go p.tables e below _ (T141.setTop (mkF m 76 #[.val (.int p1), .val (.int (6 : Int32)), .val (.ref s_UNAUTHORIZED), .val (.int (1 : Int32)), .val (.int (5 : Int32)), .val (.int (1 : Int32)), .val (.int (1 : Int32))] [(.int (1 : Int32))]))
    obtain ⟨fs, hr, hrun, hended, hW, hsame⟩ := X141.leave (v := some (.int (1 : Int32))) (fun h => by rw [Bd.returns] at h; cases h)
    refine ⟨_, _, retN X141 hx (t := .boolean) Bd.returns (by simp) (hb hby at_76) hr, hrun, hended, _, _, rfl, ?_, ⟨_, rfl⟩, hW, hsame.mono (by decide) (by decide)⟩
    show Qrm0 Z p1 s_CREATED s_DELETED s_VALID s_CHANGED s_CONTENT s_BAD_REQUEST s_UNAUTHORIZED s_FORBIDDEN s_NOT_FOUND s_METHOD_NOT_ALLOWED s_REQUEST_TOO_LARGE s_UNPROCESSABLE_ENTITY s_INTERNAL_SERVER_ERROR s_NOT_IMPLEMENTED h0 n0 _ T141.heap _
    rw [eh141]
    exact ⟨rfl, N141⟩
  · rw [hk]
    show Go p.tables e below _ (s₁.setTop (mkF m 8 #[.val (.int p1), .val (.int (7 : Int32)), .unset, .unset, .unset, .unset, .unset] []))
    refine Go.step (fun _ kt => XS.iloadN X0.here hx rfl (hb hby at_8) rfl kt) ?_
    show Go p.tables e below _ (s₁.setTop (mkF m 9 #[.val (.int p1), .val (.int (7 : Int32)), .unset, .unset, .unset, .unset, .unset] [(.int (7 : Int32))]))
    obtain ⟨_, _, ⟨T143, L143, k143, n143⟩, -, X143, ⟨Lc143, hQ143, l143, y143, z143⟩, st143⟩ := Jvm.LawKit.callS X0 hx (y := (⟨"com/example/kenning/kenning/StatusIsErrorPinLaw", "pick", "(I)Lcom/example/kenning/kenning/Status;"⟩ : MethodName)) hown (mvT hZ (hw _ (List.mem_of_getElem? (i := 1) rfl))) (mvT hZ (hw _ (List.mem_of_getElem? (i := 2) rfl))) (mvT hZ (hw _ (List.mem_of_getElem? (i := 3) rfl))) (mvT hZ (hw _ (List.mem_of_getElem? (i := 4) rfl))) (by decide) (backOf (W := 0) (rm1 l Z a0 hw [] (7 : Int32) s_CREATED s_DELETED s_VALID s_CHANGED s_CONTENT s_BAD_REQUEST s_UNAUTHORIZED s_FORBIDDEN s_NOT_FOUND s_METHOD_NOT_ALLOWED s_REQUEST_TOO_LARGE s_UNPROCESSABLE_ENTITY s_INTERNAL_SERVER_ERROR s_NOT_IMPLEMENTED h0 n0 Z0 S_CREATED S_DELETED S_VALID S_CHANGED S_CONTENT S_BAD_REQUEST S_UNAUTHORIZED S_FORBIDDEN S_NOT_FOUND S_METHOD_NOT_ALLOWED S_REQUEST_TOO_LARGE S_UNPROCESSABLE_ENTITY S_INTERNAL_SERVER_ERROR S_NOT_IMPLEMENTED ) hZ (hw _ (List.mem_of_getElem? (i := 4) rfl)) (hw _ (List.mem_of_getElem? (i := 3) rfl)) (by decide) (by decide)) (g := (mkF m 9 #[.val (.int p1), .val (.int (7 : Int32)), .unset, .unset, .unset, .unset, .unset] [(.int (7 : Int32))])) rfl (by rw [hml]; rfl) (argsL := [(.int (7 : Int32))]) (rest := []) (lenOf pd_0 rfl) rfl (by show 2 * 0 + _ ≤ _; exact Nat.le_of_eq rfl) (hb hby at_9) (fun _ _ => ⟨rfl, e0, (by decide : 0 + 0 ≤ _), (by decide : 0 + 0 ≤ _)⟩)
    dsimp only [Pt.U, Pt.locs, Pt.cells, Pt.slots] at X143 l143 y143 z143 st143 hQ143
    subst l143 y143 z143
    obtain ⟨rfl, N143q, eh143⟩ := hQ143
    have N143 := Fr.app N0 N143q
    refine Go.step st143 ?_
    show Go p.tables e below _ (T143.setTop (mkF m 12 #[.val (.int p1), .val (.int (7 : Int32)), .unset, .unset, .unset, .unset, .unset] [(.ref (own_pick (7 : Int32) s_CREATED s_DELETED s_VALID s_CHANGED s_CONTENT s_BAD_REQUEST s_UNAUTHORIZED s_FORBIDDEN s_NOT_FOUND s_METHOD_NOT_ALLOWED s_REQUEST_TOO_LARGE s_UNPROCESSABLE_ENTITY s_INTERNAL_SERVER_ERROR s_NOT_IMPLEMENTED))]))
    have q144 : (own_pick (7 : Int32) s_CREATED s_DELETED s_VALID s_CHANGED s_CONTENT s_BAD_REQUEST s_UNAUTHORIZED s_FORBIDDEN s_NOT_FOUND s_METHOD_NOT_ALLOWED s_REQUEST_TOO_LARGE s_UNPROCESSABLE_ENTITY s_INTERNAL_SERVER_ERROR s_NOT_IMPLEMENTED) = s_FORBIDDEN := rfl
    rw [q144]
    show Go p.tables e below _ (T143.setTop (mkF m 12 #[.val (.int p1), .val (.int (7 : Int32)), .unset, .unset, .unset, .unset, .unset] [(.ref s_FORBIDDEN)]))
    refine Go.step (fun _ kt => XS.astoreN X143.here hx rfl (hb hby at_12) rfl rfl (l' := #[.val (.int p1), .val (.int (7 : Int32)), .val (.ref s_FORBIDDEN), .unset, .unset, .unset, .unset]) rfl kt) ?_
    show Go p.tables e below _ (T143.setTop (mkF m 13 #[.val (.int p1), .val (.int (7 : Int32)), .val (.ref s_FORBIDDEN), .unset, .unset, .unset, .unset] []))
    refine Go.step (fun _ kt => XS.iloadN X143.here hx rfl (hb hby at_13) rfl kt) ?_
    show Go p.tables e below _ (T143.setTop (mkF m 14 #[.val (.int p1), .val (.int (7 : Int32)), .val (.ref s_FORBIDDEN), .unset, .unset, .unset, .unset] [(.int (7 : Int32))]))
    refine Go.step (fun _ kt => XS.iconst X143.here hx rfl (hb hby at_14) kt) ?_
    show Go p.tables e below _ (T143.setTop (mkF m 15 #[.val (.int p1), .val (.int (7 : Int32)), .val (.ref s_FORBIDDEN), .unset, .unset, .unset, .unset] [(.int (5 : Int32)), (.int (7 : Int32))]))
    refine Go.step (fun _ kt => XS.icmpNo X143.here hx rfl (hb hby at_15) rfl (flt (by decide : ¬ ((7 : Int32) < (5 : Int32)))).1 kt) ?_
    show Go p.tables e below _ (T143.setTop (mkF m 18 #[.val (.int p1), .val (.int (7 : Int32)), .val (.ref s_FORBIDDEN), .unset, .unset, .unset, .unset] []))
    refine Go.step (fun _ kt => XS.iconst X143.here hx rfl (hb hby at_18) kt) ?_
    show Go p.tables e below _ (T143.setTop (mkF m 19 #[.val (.int p1), .val (.int (7 : Int32)), .val (.ref s_FORBIDDEN), .unset, .unset, .unset, .unset] [(.int (1 : Int32))]))
    refine Go.step (fun _ kt => XS.goto X143.here hx rfl (pc0 := 19) (pc' := 23) rfl (hb hby at_19) (by decide) (by decide) kt) ?_
    show Go p.tables e below _ (T143.setTop (mkF m 23 #[.val (.int p1), .val (.int (7 : Int32)), .val (.ref s_FORBIDDEN), .unset, .unset, .unset, .unset] [(.int (1 : Int32))]))
    refine Go.step (fun _ kt => XS.istoreN X143.here hx rfl (hb hby at_23) rfl (l' := #[.val (.int p1), .val (.int (7 : Int32)), .val (.ref s_FORBIDDEN), .val (.int (1 : Int32)), .unset, .unset, .unset]) rfl kt) ?_
    show Go p.tables e below _ (T143.setTop (mkF m 24 #[.val (.int p1), .val (.int (7 : Int32)), .val (.ref s_FORBIDDEN), .val (.int (1 : Int32)), .unset, .unset, .unset] []))
    refine Go.step (fun _ kt => XS.aloadN X143.here hx rfl (hb hby at_24) rfl rfl kt) ?_
    show Go p.tables e below _ (T143.setTop (mkF m 25 #[.val (.int p1), .val (.int (7 : Int32)), .val (.ref s_FORBIDDEN), .val (.int (1 : Int32)), .unset, .unset, .unset] [(.ref s_FORBIDDEN)]))
    obtain ⟨cq145, kq145, q145a, q145b, q145c⟩ := isOf hZ eh143 E_FORBIDDEN
    obtain ⟨_, _, ⟨T145, L145, k145, n145⟩, -, X145, ⟨Lc145, hQ145, l145, y145, z145⟩, st145⟩ := X143.virtualBack hx (y := (⟨"com/example/kenning/kenning/Status", "code", "()I"⟩ : MethodName)) (z := (⟨"com/example/kenning/kenning/Status", "code", "()I"⟩ : MethodName)) hown (mvT hZ (hw _ (List.mem_of_getElem? (i := 8) rfl))) (mvT hZ (hw _ (List.mem_of_getElem? (i := 9) rfl))) (notFace_of_selects (args := #[]) (mvT hZ (hw _ (List.mem_of_getElem? (i := 11) rfl)))) (mvT hZ (hw _ (List.mem_of_getElem? (i := 11) rfl))) (mvT hZ (hw _ (List.mem_of_getElem? (i := 10) rfl))) (by decide) (backOf (W := 0) (rm2 l Z a0 hw [] s_FORBIDDEN (163 : Int32) h0 n0 Z0 F_FORBIDDEN_code ) hZ (hw _ (List.mem_of_getElem? (i := 12) rfl)) (hw _ (List.mem_of_getElem? (i := 6) rfl)) (by decide) (by decide)) q145a q145c (g := (mkF m 25 #[.val (.int p1), .val (.int (7 : Int32)), .val (.ref s_FORBIDDEN), .val (.int (1 : Int32)), .unset, .unset, .unset] [(.ref s_FORBIDDEN)])) rfl (by rw [hml]; rfl) (Steps.refl _) (argsL := []) (rest := []) (lenOf pd_1 rfl) rfl (by show 2 * 0 + _ ≤ _; exact Nat.le_of_eq rfl) (hb hby at_25) (fun _ _ => ⟨rfl, eh143, (by decide : 0 + 0 ≤ _), (by decide : 0 + 0 ≤ _)⟩)
    dsimp only [Pt.U, Pt.locs, Pt.cells, Pt.slots] at X145 l145 y145 z145 st145 hQ145
    subst l145 y145 z145
    obtain ⟨rfl, N145q, eh145⟩ := hQ145
    have N145 := Fr.app N143 N145q
    refine Go.step (fun _ kt => st145.trans kt) ?_
    show Go p.tables e below _ (T145.setTop (mkF m 28 #[.val (.int p1), .val (.int (7 : Int32)), .val (.ref s_FORBIDDEN), .val (.int (1 : Int32)), .unset, .unset, .unset] [(.int (163 : Int32))]))
    refine Go.step (fun _ kt => XS.iconst X145.here hx rfl (hb hby at_28) kt) ?_
    show Go p.tables e below _ (T145.setTop (mkF m 29 #[.val (.int p1), .val (.int (7 : Int32)), .val (.ref s_FORBIDDEN), .val (.int (1 : Int32)), .unset, .unset, .unset] [(.int (5 : Int32)), (.int (163 : Int32))]))
    refine Go.step (fun _ kt => XS.ishr X145.here hx rfl (hb hby at_29) rfl kt) ?_
    show Go p.tables e below _ (T145.setTop (mkF m 30 #[.val (.int p1), .val (.int (7 : Int32)), .val (.ref s_FORBIDDEN), .val (.int (1 : Int32)), .unset, .unset, .unset] [(.int ((163 : Int32) >>> ((5 : Int32) &&& 31)))]))
    have q146 : ((163 : Int32) >>> ((5 : Int32) &&& 31)) = (5 : Int32) := by decide
    rw [q146]
    show Go p.tables e below _ (T145.setTop (mkF m 30 #[.val (.int p1), .val (.int (7 : Int32)), .val (.ref s_FORBIDDEN), .val (.int (1 : Int32)), .unset, .unset, .unset] [(.int (5 : Int32))]))
    refine Go.step (fun _ kt => XS.istore X145.here hx rfl (hb hby at_30) rfl (l' := #[.val (.int p1), .val (.int (7 : Int32)), .val (.ref s_FORBIDDEN), .val (.int (1 : Int32)), .val (.int (5 : Int32)), .unset, .unset]) rfl kt) ?_
    show Go p.tables e below _ (T145.setTop (mkF m 32 #[.val (.int p1), .val (.int (7 : Int32)), .val (.ref s_FORBIDDEN), .val (.int (1 : Int32)), .val (.int (5 : Int32)), .unset, .unset] []))
    refine Go.step (fun _ kt => XS.iload X145.here hx rfl (hb hby at_32) rfl kt) ?_
    show Go p.tables e below _ (T145.setTop (mkF m 34 #[.val (.int p1), .val (.int (7 : Int32)), .val (.ref s_FORBIDDEN), .val (.int (1 : Int32)), .val (.int (5 : Int32)), .unset, .unset] [(.int (5 : Int32))]))
    refine Go.step (fun _ kt => XS.iconst X145.here hx rfl (hb hby at_34) kt) ?_
    show Go p.tables e below _ (T145.setTop (mkF m 35 #[.val (.int p1), .val (.int (7 : Int32)), .val (.ref s_FORBIDDEN), .val (.int (1 : Int32)), .val (.int (5 : Int32)), .unset, .unset] [(.int (5 : Int32)), (.int (5 : Int32))]))
    refine Go.step (fun _ kt => XS.icmpYes X145.here hx rfl (pc0 := 35) (pc' := 45) rfl (hb hby at_35) rfl (teq (by decide : (5 : Int32) = (5 : Int32))).1 (by decide) (by decide) kt) ?_
    show Go p.tables e below _ (T145.setTop (mkF m 45 #[.val (.int p1), .val (.int (7 : Int32)), .val (.ref s_FORBIDDEN), .val (.int (1 : Int32)), .val (.int (5 : Int32)), .unset, .unset] []))
    refine Go.step (fun _ kt => XS.iconst X145.here hx rfl (hb hby at_45) kt) ?_
    show Go p.tables e below _ (T145.setTop (mkF m 46 #[.val (.int p1), .val (.int (7 : Int32)), .val (.ref s_FORBIDDEN), .val (.int (1 : Int32)), .val (.int (5 : Int32)), .unset, .unset] [(.int (1 : Int32))]))
    refine Go.step (fun _ kt => XS.goto X145.here hx rfl (pc0 := 46) (pc' := 50) rfl (hb hby at_46) (by decide) (by decide) kt) ?_
    show Go p.tables e below _ (T145.setTop (mkF m 50 #[.val (.int p1), .val (.int (7 : Int32)), .val (.ref s_FORBIDDEN), .val (.int (1 : Int32)), .val (.int (5 : Int32)), .unset, .unset] [(.int (1 : Int32))]))
    refine Go.step (fun _ kt => XS.istore X145.here hx rfl (hb hby at_50) rfl (l' := #[.val (.int p1), .val (.int (7 : Int32)), .val (.ref s_FORBIDDEN), .val (.int (1 : Int32)), .val (.int (5 : Int32)), .val (.int (1 : Int32)), .unset]) rfl kt) ?_
    show Go p.tables e below _ (T145.setTop (mkF m 52 #[.val (.int p1), .val (.int (7 : Int32)), .val (.ref s_FORBIDDEN), .val (.int (1 : Int32)), .val (.int (5 : Int32)), .val (.int (1 : Int32)), .unset] []))
    refine Go.step (fun _ kt => XS.aloadN X145.here hx rfl (hb hby at_52) rfl rfl kt) ?_
    show Go p.tables e below _ (T145.setTop (mkF m 53 #[.val (.int p1), .val (.int (7 : Int32)), .val (.ref s_FORBIDDEN), .val (.int (1 : Int32)), .val (.int (5 : Int32)), .val (.int (1 : Int32)), .unset] [(.ref s_FORBIDDEN)]))
    obtain ⟨cq147, kq147, q147a, q147b, q147c⟩ := isOf hZ eh145 E_FORBIDDEN
    obtain ⟨_, _, ⟨T147, L147, k147, n147⟩, -, X147, ⟨Lc147, hQ147, l147, y147, z147⟩, st147⟩ := X145.virtualBack hx (y := (⟨"com/example/kenning/kenning/Status", "isError", "()Z"⟩ : MethodName)) (z := (⟨"com/example/kenning/kenning/Status", "isError", "()Z"⟩ : MethodName)) hown (mvT hZ (hw _ (List.mem_of_getElem? (i := 15) rfl))) (mvT hZ (hw _ (List.mem_of_getElem? (i := 16) rfl))) (notFace_of_selects (args := #[]) (mvT hZ (hw _ (List.mem_of_getElem? (i := 18) rfl)))) (mvT hZ (hw _ (List.mem_of_getElem? (i := 18) rfl))) (mvT hZ (hw _ (List.mem_of_getElem? (i := 17) rfl))) (by decide) (backOf (W := 0) (rm3 l Z a0 hw [] s_FORBIDDEN (163 : Int32) h0 n0 Z0 F_FORBIDDEN_code ) hZ (hw _ (List.mem_of_getElem? (i := 19) rfl)) (hw _ (List.mem_of_getElem? (i := 6) rfl)) (by decide) (by decide)) q147a q147c (g := (mkF m 53 #[.val (.int p1), .val (.int (7 : Int32)), .val (.ref s_FORBIDDEN), .val (.int (1 : Int32)), .val (.int (5 : Int32)), .val (.int (1 : Int32)), .unset] [(.ref s_FORBIDDEN)])) rfl (by rw [hml]; rfl) (Steps.refl _) (argsL := []) (rest := []) (lenOf pd_2 rfl) rfl (by show 2 * 0 + _ ≤ _; exact Nat.le_of_eq rfl) (hb hby at_53) (fun _ _ => ⟨rfl, eh145, (by decide : 0 + 0 ≤ _), (by decide : 0 + 0 ≤ _)⟩)
    dsimp only [Pt.U, Pt.locs, Pt.cells, Pt.slots] at X147 l147 y147 z147 st147 hQ147
    subst l147 y147 z147
    obtain ⟨rfl, N147q, eh147⟩ := hQ147
    have N147 := Fr.app N145 N147q
    refine Go.step (fun _ kt => st147.trans kt) ?_
    show Go p.tables e below _ (T147.setTop (mkF m 56 #[.val (.int p1), .val (.int (7 : Int32)), .val (.ref s_FORBIDDEN), .val (.int (1 : Int32)), .val (.int (5 : Int32)), .val (.int (1 : Int32)), .unset] [(.int (own_err (163 : Int32)))]))
    have q148 : (own_err (163 : Int32)) = (1 : Int32) := by decide
    rw [q148]
    show Go p.tables e below _ (T147.setTop (mkF m 56 #[.val (.int p1), .val (.int (7 : Int32)), .val (.ref s_FORBIDDEN), .val (.int (1 : Int32)), .val (.int (5 : Int32)), .val (.int (1 : Int32)), .unset] [(.int (1 : Int32))]))
    refine Go.step (fun _ kt => XS.istore X147.here hx rfl (hb hby at_56) rfl (l' := #[.val (.int p1), .val (.int (7 : Int32)), .val (.ref s_FORBIDDEN), .val (.int (1 : Int32)), .val (.int (5 : Int32)), .val (.int (1 : Int32)), .val (.int (1 : Int32))]) rfl kt) ?_
    show Go p.tables e below _ (T147.setTop (mkF m 58 #[.val (.int p1), .val (.int (7 : Int32)), .val (.ref s_FORBIDDEN), .val (.int (1 : Int32)), .val (.int (5 : Int32)), .val (.int (1 : Int32)), .val (.int (1 : Int32))] []))
    refine Go.step (fun _ kt => XS.iload X147.here hx rfl (hb hby at_58) rfl kt) ?_
    show Go p.tables e below _ (T147.setTop (mkF m 60 #[.val (.int p1), .val (.int (7 : Int32)), .val (.ref s_FORBIDDEN), .val (.int (1 : Int32)), .val (.int (5 : Int32)), .val (.int (1 : Int32)), .val (.int (1 : Int32))] [(.int (1 : Int32))]))
    refine Go.step (fun _ kt => XS.iloadN X147.here hx rfl (hb hby at_60) rfl kt) ?_
    show Go p.tables e below _ (T147.setTop (mkF m 61 #[.val (.int p1), .val (.int (7 : Int32)), .val (.ref s_FORBIDDEN), .val (.int (1 : Int32)), .val (.int (5 : Int32)), .val (.int (1 : Int32)), .val (.int (1 : Int32))] [(.int (1 : Int32)), (.int (1 : Int32))]))
    refine Go.step (fun _ kt => XS.icmpNo X147.here hx rfl (hb hby at_61) rfl (teq (by decide : (1 : Int32) = (1 : Int32))).2 kt) ?_
    show Go p.tables e below _ (T147.setTop (mkF m 64 #[.val (.int p1), .val (.int (7 : Int32)), .val (.ref s_FORBIDDEN), .val (.int (1 : Int32)), .val (.int (5 : Int32)), .val (.int (1 : Int32)), .val (.int (1 : Int32))] []))
    refine Go.step (fun _ kt => XS.iload X147.here hx rfl (hb hby at_64) rfl kt) ?_
    show Go p.tables e below _ (T147.setTop (mkF m 66 #[.val (.int p1), .val (.int (7 : Int32)), .val (.ref s_FORBIDDEN), .val (.int (1 : Int32)), .val (.int (5 : Int32)), .val (.int (1 : Int32)), .val (.int (1 : Int32))] [(.int (1 : Int32))]))
    refine Go.step (fun _ kt => XS.iload X147.here hx rfl (hb hby at_66) rfl kt) ?_
    show Go p.tables e below _ (T147.setTop (mkF m 68 #[.val (.int p1), .val (.int (7 : Int32)), .val (.ref s_FORBIDDEN), .val (.int (1 : Int32)), .val (.int (5 : Int32)), .val (.int (1 : Int32)), .val (.int (1 : Int32))] [(.int (1 : Int32)), (.int (1 : Int32))]))
    refine Go.step (fun _ kt => XS.icmpNo X147.here hx rfl (hb hby at_68) rfl (teq (by decide : (1 : Int32) = (1 : Int32))).2 kt) ?_
    show Go p.tables e below _ (T147.setTop (mkF m 71 #[.val (.int p1), .val (.int (7 : Int32)), .val (.ref s_FORBIDDEN), .val (.int (1 : Int32)), .val (.int (5 : Int32)), .val (.int (1 : Int32)), .val (.int (1 : Int32))] []))
    refine Go.step (fun _ kt => XS.iconst X147.here hx rfl (hb hby at_71) kt) ?_
    show Go p.tables e below _ (T147.setTop (mkF m 72 #[.val (.int p1), .val (.int (7 : Int32)), .val (.ref s_FORBIDDEN), .val (.int (1 : Int32)), .val (.int (5 : Int32)), .val (.int (1 : Int32)), .val (.int (1 : Int32))] [(.int (1 : Int32))]))
    refine Go.step (fun _ kt => XS.goto X147.here hx rfl (pc0 := 72) (pc' := 76) rfl (hb hby at_72) (by decide) (by decide) kt) ?_
    show Go p.tables e below _ (T147.setTop (mkF m 76 #[.val (.int p1), .val (.int (7 : Int32)), .val (.ref s_FORBIDDEN), .val (.int (1 : Int32)), .val (.int (5 : Int32)), .val (.int (1 : Int32)), .val (.int (1 : Int32))] [(.int (1 : Int32))]))
    obtain ⟨fs, hr, hrun, hended, hW, hsame⟩ := X147.leave (v := some (.int (1 : Int32))) (fun h => by rw [Bd.returns] at h; cases h)
    refine ⟨_, _, retN X147 hx (t := .boolean) Bd.returns (by simp) (hb hby at_76) hr, hrun, hended, _, _, rfl, ?_, ⟨_, rfl⟩, hW, hsame.mono (by decide) (by decide)⟩
    show Qrm0 Z p1 s_CREATED s_DELETED s_VALID s_CHANGED s_CONTENT s_BAD_REQUEST s_UNAUTHORIZED s_FORBIDDEN s_NOT_FOUND s_METHOD_NOT_ALLOWED s_REQUEST_TOO_LARGE s_UNPROCESSABLE_ENTITY s_INTERNAL_SERVER_ERROR s_NOT_IMPLEMENTED h0 n0 _ T147.heap _
    rw [eh147]
    exact ⟨rfl, N147⟩
  · rw [hk]
    show Go p.tables e below _ (s₁.setTop (mkF m 8 #[.val (.int p1), .val (.int (8 : Int32)), .unset, .unset, .unset, .unset, .unset] []))
    refine Go.step (fun _ kt => XS.iloadN X0.here hx rfl (hb hby at_8) rfl kt) ?_
    show Go p.tables e below _ (s₁.setTop (mkF m 9 #[.val (.int p1), .val (.int (8 : Int32)), .unset, .unset, .unset, .unset, .unset] [(.int (8 : Int32))]))
    obtain ⟨_, _, ⟨T149, L149, k149, n149⟩, -, X149, ⟨Lc149, hQ149, l149, y149, z149⟩, st149⟩ := Jvm.LawKit.callS X0 hx (y := (⟨"com/example/kenning/kenning/StatusIsErrorPinLaw", "pick", "(I)Lcom/example/kenning/kenning/Status;"⟩ : MethodName)) hown (mvT hZ (hw _ (List.mem_of_getElem? (i := 1) rfl))) (mvT hZ (hw _ (List.mem_of_getElem? (i := 2) rfl))) (mvT hZ (hw _ (List.mem_of_getElem? (i := 3) rfl))) (mvT hZ (hw _ (List.mem_of_getElem? (i := 4) rfl))) (by decide) (backOf (W := 0) (rm1 l Z a0 hw [] (8 : Int32) s_CREATED s_DELETED s_VALID s_CHANGED s_CONTENT s_BAD_REQUEST s_UNAUTHORIZED s_FORBIDDEN s_NOT_FOUND s_METHOD_NOT_ALLOWED s_REQUEST_TOO_LARGE s_UNPROCESSABLE_ENTITY s_INTERNAL_SERVER_ERROR s_NOT_IMPLEMENTED h0 n0 Z0 S_CREATED S_DELETED S_VALID S_CHANGED S_CONTENT S_BAD_REQUEST S_UNAUTHORIZED S_FORBIDDEN S_NOT_FOUND S_METHOD_NOT_ALLOWED S_REQUEST_TOO_LARGE S_UNPROCESSABLE_ENTITY S_INTERNAL_SERVER_ERROR S_NOT_IMPLEMENTED ) hZ (hw _ (List.mem_of_getElem? (i := 4) rfl)) (hw _ (List.mem_of_getElem? (i := 3) rfl)) (by decide) (by decide)) (g := (mkF m 9 #[.val (.int p1), .val (.int (8 : Int32)), .unset, .unset, .unset, .unset, .unset] [(.int (8 : Int32))])) rfl (by rw [hml]; rfl) (argsL := [(.int (8 : Int32))]) (rest := []) (lenOf pd_0 rfl) rfl (by show 2 * 0 + _ ≤ _; exact Nat.le_of_eq rfl) (hb hby at_9) (fun _ _ => ⟨rfl, e0, (by decide : 0 + 0 ≤ _), (by decide : 0 + 0 ≤ _)⟩)
    dsimp only [Pt.U, Pt.locs, Pt.cells, Pt.slots] at X149 l149 y149 z149 st149 hQ149
    subst l149 y149 z149
    obtain ⟨rfl, N149q, eh149⟩ := hQ149
    have N149 := Fr.app N0 N149q
    refine Go.step st149 ?_
    show Go p.tables e below _ (T149.setTop (mkF m 12 #[.val (.int p1), .val (.int (8 : Int32)), .unset, .unset, .unset, .unset, .unset] [(.ref (own_pick (8 : Int32) s_CREATED s_DELETED s_VALID s_CHANGED s_CONTENT s_BAD_REQUEST s_UNAUTHORIZED s_FORBIDDEN s_NOT_FOUND s_METHOD_NOT_ALLOWED s_REQUEST_TOO_LARGE s_UNPROCESSABLE_ENTITY s_INTERNAL_SERVER_ERROR s_NOT_IMPLEMENTED))]))
    have q150 : (own_pick (8 : Int32) s_CREATED s_DELETED s_VALID s_CHANGED s_CONTENT s_BAD_REQUEST s_UNAUTHORIZED s_FORBIDDEN s_NOT_FOUND s_METHOD_NOT_ALLOWED s_REQUEST_TOO_LARGE s_UNPROCESSABLE_ENTITY s_INTERNAL_SERVER_ERROR s_NOT_IMPLEMENTED) = s_NOT_FOUND := rfl
    rw [q150]
    show Go p.tables e below _ (T149.setTop (mkF m 12 #[.val (.int p1), .val (.int (8 : Int32)), .unset, .unset, .unset, .unset, .unset] [(.ref s_NOT_FOUND)]))
    refine Go.step (fun _ kt => XS.astoreN X149.here hx rfl (hb hby at_12) rfl rfl (l' := #[.val (.int p1), .val (.int (8 : Int32)), .val (.ref s_NOT_FOUND), .unset, .unset, .unset, .unset]) rfl kt) ?_
    show Go p.tables e below _ (T149.setTop (mkF m 13 #[.val (.int p1), .val (.int (8 : Int32)), .val (.ref s_NOT_FOUND), .unset, .unset, .unset, .unset] []))
    refine Go.step (fun _ kt => XS.iloadN X149.here hx rfl (hb hby at_13) rfl kt) ?_
    show Go p.tables e below _ (T149.setTop (mkF m 14 #[.val (.int p1), .val (.int (8 : Int32)), .val (.ref s_NOT_FOUND), .unset, .unset, .unset, .unset] [(.int (8 : Int32))]))
    refine Go.step (fun _ kt => XS.iconst X149.here hx rfl (hb hby at_14) kt) ?_
    show Go p.tables e below _ (T149.setTop (mkF m 15 #[.val (.int p1), .val (.int (8 : Int32)), .val (.ref s_NOT_FOUND), .unset, .unset, .unset, .unset] [(.int (5 : Int32)), (.int (8 : Int32))]))
    refine Go.step (fun _ kt => XS.icmpNo X149.here hx rfl (hb hby at_15) rfl (flt (by decide : ¬ ((8 : Int32) < (5 : Int32)))).1 kt) ?_
    show Go p.tables e below _ (T149.setTop (mkF m 18 #[.val (.int p1), .val (.int (8 : Int32)), .val (.ref s_NOT_FOUND), .unset, .unset, .unset, .unset] []))
    refine Go.step (fun _ kt => XS.iconst X149.here hx rfl (hb hby at_18) kt) ?_
    show Go p.tables e below _ (T149.setTop (mkF m 19 #[.val (.int p1), .val (.int (8 : Int32)), .val (.ref s_NOT_FOUND), .unset, .unset, .unset, .unset] [(.int (1 : Int32))]))
    refine Go.step (fun _ kt => XS.goto X149.here hx rfl (pc0 := 19) (pc' := 23) rfl (hb hby at_19) (by decide) (by decide) kt) ?_
    show Go p.tables e below _ (T149.setTop (mkF m 23 #[.val (.int p1), .val (.int (8 : Int32)), .val (.ref s_NOT_FOUND), .unset, .unset, .unset, .unset] [(.int (1 : Int32))]))
    refine Go.step (fun _ kt => XS.istoreN X149.here hx rfl (hb hby at_23) rfl (l' := #[.val (.int p1), .val (.int (8 : Int32)), .val (.ref s_NOT_FOUND), .val (.int (1 : Int32)), .unset, .unset, .unset]) rfl kt) ?_
    show Go p.tables e below _ (T149.setTop (mkF m 24 #[.val (.int p1), .val (.int (8 : Int32)), .val (.ref s_NOT_FOUND), .val (.int (1 : Int32)), .unset, .unset, .unset] []))
    refine Go.step (fun _ kt => XS.aloadN X149.here hx rfl (hb hby at_24) rfl rfl kt) ?_
    show Go p.tables e below _ (T149.setTop (mkF m 25 #[.val (.int p1), .val (.int (8 : Int32)), .val (.ref s_NOT_FOUND), .val (.int (1 : Int32)), .unset, .unset, .unset] [(.ref s_NOT_FOUND)]))
    obtain ⟨cq151, kq151, q151a, q151b, q151c⟩ := isOf hZ eh149 E_NOT_FOUND
    obtain ⟨_, _, ⟨T151, L151, k151, n151⟩, -, X151, ⟨Lc151, hQ151, l151, y151, z151⟩, st151⟩ := X149.virtualBack hx (y := (⟨"com/example/kenning/kenning/Status", "code", "()I"⟩ : MethodName)) (z := (⟨"com/example/kenning/kenning/Status", "code", "()I"⟩ : MethodName)) hown (mvT hZ (hw _ (List.mem_of_getElem? (i := 8) rfl))) (mvT hZ (hw _ (List.mem_of_getElem? (i := 9) rfl))) (notFace_of_selects (args := #[]) (mvT hZ (hw _ (List.mem_of_getElem? (i := 11) rfl)))) (mvT hZ (hw _ (List.mem_of_getElem? (i := 11) rfl))) (mvT hZ (hw _ (List.mem_of_getElem? (i := 10) rfl))) (by decide) (backOf (W := 0) (rm2 l Z a0 hw [] s_NOT_FOUND (164 : Int32) h0 n0 Z0 F_NOT_FOUND_code ) hZ (hw _ (List.mem_of_getElem? (i := 12) rfl)) (hw _ (List.mem_of_getElem? (i := 6) rfl)) (by decide) (by decide)) q151a q151c (g := (mkF m 25 #[.val (.int p1), .val (.int (8 : Int32)), .val (.ref s_NOT_FOUND), .val (.int (1 : Int32)), .unset, .unset, .unset] [(.ref s_NOT_FOUND)])) rfl (by rw [hml]; rfl) (Steps.refl _) (argsL := []) (rest := []) (lenOf pd_1 rfl) rfl (by show 2 * 0 + _ ≤ _; exact Nat.le_of_eq rfl) (hb hby at_25) (fun _ _ => ⟨rfl, eh149, (by decide : 0 + 0 ≤ _), (by decide : 0 + 0 ≤ _)⟩)
    dsimp only [Pt.U, Pt.locs, Pt.cells, Pt.slots] at X151 l151 y151 z151 st151 hQ151
    subst l151 y151 z151
    obtain ⟨rfl, N151q, eh151⟩ := hQ151
    have N151 := Fr.app N149 N151q
    refine Go.step (fun _ kt => st151.trans kt) ?_
    show Go p.tables e below _ (T151.setTop (mkF m 28 #[.val (.int p1), .val (.int (8 : Int32)), .val (.ref s_NOT_FOUND), .val (.int (1 : Int32)), .unset, .unset, .unset] [(.int (164 : Int32))]))
    refine Go.step (fun _ kt => XS.iconst X151.here hx rfl (hb hby at_28) kt) ?_
    show Go p.tables e below _ (T151.setTop (mkF m 29 #[.val (.int p1), .val (.int (8 : Int32)), .val (.ref s_NOT_FOUND), .val (.int (1 : Int32)), .unset, .unset, .unset] [(.int (5 : Int32)), (.int (164 : Int32))]))
    refine Go.step (fun _ kt => XS.ishr X151.here hx rfl (hb hby at_29) rfl kt) ?_
    show Go p.tables e below _ (T151.setTop (mkF m 30 #[.val (.int p1), .val (.int (8 : Int32)), .val (.ref s_NOT_FOUND), .val (.int (1 : Int32)), .unset, .unset, .unset] [(.int ((164 : Int32) >>> ((5 : Int32) &&& 31)))]))
    have q152 : ((164 : Int32) >>> ((5 : Int32) &&& 31)) = (5 : Int32) := by decide
    rw [q152]
    show Go p.tables e below _ (T151.setTop (mkF m 30 #[.val (.int p1), .val (.int (8 : Int32)), .val (.ref s_NOT_FOUND), .val (.int (1 : Int32)), .unset, .unset, .unset] [(.int (5 : Int32))]))
    refine Go.step (fun _ kt => XS.istore X151.here hx rfl (hb hby at_30) rfl (l' := #[.val (.int p1), .val (.int (8 : Int32)), .val (.ref s_NOT_FOUND), .val (.int (1 : Int32)), .val (.int (5 : Int32)), .unset, .unset]) rfl kt) ?_
    show Go p.tables e below _ (T151.setTop (mkF m 32 #[.val (.int p1), .val (.int (8 : Int32)), .val (.ref s_NOT_FOUND), .val (.int (1 : Int32)), .val (.int (5 : Int32)), .unset, .unset] []))
    refine Go.step (fun _ kt => XS.iload X151.here hx rfl (hb hby at_32) rfl kt) ?_
    show Go p.tables e below _ (T151.setTop (mkF m 34 #[.val (.int p1), .val (.int (8 : Int32)), .val (.ref s_NOT_FOUND), .val (.int (1 : Int32)), .val (.int (5 : Int32)), .unset, .unset] [(.int (5 : Int32))]))
    refine Go.step (fun _ kt => XS.iconst X151.here hx rfl (hb hby at_34) kt) ?_
    show Go p.tables e below _ (T151.setTop (mkF m 35 #[.val (.int p1), .val (.int (8 : Int32)), .val (.ref s_NOT_FOUND), .val (.int (1 : Int32)), .val (.int (5 : Int32)), .unset, .unset] [(.int (5 : Int32)), (.int (5 : Int32))]))
    refine Go.step (fun _ kt => XS.icmpYes X151.here hx rfl (pc0 := 35) (pc' := 45) rfl (hb hby at_35) rfl (teq (by decide : (5 : Int32) = (5 : Int32))).1 (by decide) (by decide) kt) ?_
    show Go p.tables e below _ (T151.setTop (mkF m 45 #[.val (.int p1), .val (.int (8 : Int32)), .val (.ref s_NOT_FOUND), .val (.int (1 : Int32)), .val (.int (5 : Int32)), .unset, .unset] []))
    refine Go.step (fun _ kt => XS.iconst X151.here hx rfl (hb hby at_45) kt) ?_
    show Go p.tables e below _ (T151.setTop (mkF m 46 #[.val (.int p1), .val (.int (8 : Int32)), .val (.ref s_NOT_FOUND), .val (.int (1 : Int32)), .val (.int (5 : Int32)), .unset, .unset] [(.int (1 : Int32))]))
    refine Go.step (fun _ kt => XS.goto X151.here hx rfl (pc0 := 46) (pc' := 50) rfl (hb hby at_46) (by decide) (by decide) kt) ?_
    show Go p.tables e below _ (T151.setTop (mkF m 50 #[.val (.int p1), .val (.int (8 : Int32)), .val (.ref s_NOT_FOUND), .val (.int (1 : Int32)), .val (.int (5 : Int32)), .unset, .unset] [(.int (1 : Int32))]))
    refine Go.step (fun _ kt => XS.istore X151.here hx rfl (hb hby at_50) rfl (l' := #[.val (.int p1), .val (.int (8 : Int32)), .val (.ref s_NOT_FOUND), .val (.int (1 : Int32)), .val (.int (5 : Int32)), .val (.int (1 : Int32)), .unset]) rfl kt) ?_
    show Go p.tables e below _ (T151.setTop (mkF m 52 #[.val (.int p1), .val (.int (8 : Int32)), .val (.ref s_NOT_FOUND), .val (.int (1 : Int32)), .val (.int (5 : Int32)), .val (.int (1 : Int32)), .unset] []))
    refine Go.step (fun _ kt => XS.aloadN X151.here hx rfl (hb hby at_52) rfl rfl kt) ?_
    show Go p.tables e below _ (T151.setTop (mkF m 53 #[.val (.int p1), .val (.int (8 : Int32)), .val (.ref s_NOT_FOUND), .val (.int (1 : Int32)), .val (.int (5 : Int32)), .val (.int (1 : Int32)), .unset] [(.ref s_NOT_FOUND)]))
    obtain ⟨cq153, kq153, q153a, q153b, q153c⟩ := isOf hZ eh151 E_NOT_FOUND
    obtain ⟨_, _, ⟨T153, L153, k153, n153⟩, -, X153, ⟨Lc153, hQ153, l153, y153, z153⟩, st153⟩ := X151.virtualBack hx (y := (⟨"com/example/kenning/kenning/Status", "isError", "()Z"⟩ : MethodName)) (z := (⟨"com/example/kenning/kenning/Status", "isError", "()Z"⟩ : MethodName)) hown (mvT hZ (hw _ (List.mem_of_getElem? (i := 15) rfl))) (mvT hZ (hw _ (List.mem_of_getElem? (i := 16) rfl))) (notFace_of_selects (args := #[]) (mvT hZ (hw _ (List.mem_of_getElem? (i := 18) rfl)))) (mvT hZ (hw _ (List.mem_of_getElem? (i := 18) rfl))) (mvT hZ (hw _ (List.mem_of_getElem? (i := 17) rfl))) (by decide) (backOf (W := 0) (rm3 l Z a0 hw [] s_NOT_FOUND (164 : Int32) h0 n0 Z0 F_NOT_FOUND_code ) hZ (hw _ (List.mem_of_getElem? (i := 19) rfl)) (hw _ (List.mem_of_getElem? (i := 6) rfl)) (by decide) (by decide)) q153a q153c (g := (mkF m 53 #[.val (.int p1), .val (.int (8 : Int32)), .val (.ref s_NOT_FOUND), .val (.int (1 : Int32)), .val (.int (5 : Int32)), .val (.int (1 : Int32)), .unset] [(.ref s_NOT_FOUND)])) rfl (by rw [hml]; rfl) (Steps.refl _) (argsL := []) (rest := []) (lenOf pd_2 rfl) rfl (by show 2 * 0 + _ ≤ _; exact Nat.le_of_eq rfl) (hb hby at_53) (fun _ _ => ⟨rfl, eh151, (by decide : 0 + 0 ≤ _), (by decide : 0 + 0 ≤ _)⟩)
    dsimp only [Pt.U, Pt.locs, Pt.cells, Pt.slots] at X153 l153 y153 z153 st153 hQ153
    subst l153 y153 z153
    obtain ⟨rfl, N153q, eh153⟩ := hQ153
    have N153 := Fr.app N151 N153q
    refine Go.step (fun _ kt => st153.trans kt) ?_
    show Go p.tables e below _ (T153.setTop (mkF m 56 #[.val (.int p1), .val (.int (8 : Int32)), .val (.ref s_NOT_FOUND), .val (.int (1 : Int32)), .val (.int (5 : Int32)), .val (.int (1 : Int32)), .unset] [(.int (own_err (164 : Int32)))]))
    have q154 : (own_err (164 : Int32)) = (1 : Int32) := by decide
    rw [q154]
    show Go p.tables e below _ (T153.setTop (mkF m 56 #[.val (.int p1), .val (.int (8 : Int32)), .val (.ref s_NOT_FOUND), .val (.int (1 : Int32)), .val (.int (5 : Int32)), .val (.int (1 : Int32)), .unset] [(.int (1 : Int32))]))
    refine Go.step (fun _ kt => XS.istore X153.here hx rfl (hb hby at_56) rfl (l' := #[.val (.int p1), .val (.int (8 : Int32)), .val (.ref s_NOT_FOUND), .val (.int (1 : Int32)), .val (.int (5 : Int32)), .val (.int (1 : Int32)), .val (.int (1 : Int32))]) rfl kt) ?_
    show Go p.tables e below _ (T153.setTop (mkF m 58 #[.val (.int p1), .val (.int (8 : Int32)), .val (.ref s_NOT_FOUND), .val (.int (1 : Int32)), .val (.int (5 : Int32)), .val (.int (1 : Int32)), .val (.int (1 : Int32))] []))
    refine Go.step (fun _ kt => XS.iload X153.here hx rfl (hb hby at_58) rfl kt) ?_
    show Go p.tables e below _ (T153.setTop (mkF m 60 #[.val (.int p1), .val (.int (8 : Int32)), .val (.ref s_NOT_FOUND), .val (.int (1 : Int32)), .val (.int (5 : Int32)), .val (.int (1 : Int32)), .val (.int (1 : Int32))] [(.int (1 : Int32))]))
    refine Go.step (fun _ kt => XS.iloadN X153.here hx rfl (hb hby at_60) rfl kt) ?_
    show Go p.tables e below _ (T153.setTop (mkF m 61 #[.val (.int p1), .val (.int (8 : Int32)), .val (.ref s_NOT_FOUND), .val (.int (1 : Int32)), .val (.int (5 : Int32)), .val (.int (1 : Int32)), .val (.int (1 : Int32))] [(.int (1 : Int32)), (.int (1 : Int32))]))
    refine Go.step (fun _ kt => XS.icmpNo X153.here hx rfl (hb hby at_61) rfl (teq (by decide : (1 : Int32) = (1 : Int32))).2 kt) ?_
    show Go p.tables e below _ (T153.setTop (mkF m 64 #[.val (.int p1), .val (.int (8 : Int32)), .val (.ref s_NOT_FOUND), .val (.int (1 : Int32)), .val (.int (5 : Int32)), .val (.int (1 : Int32)), .val (.int (1 : Int32))] []))
    refine Go.step (fun _ kt => XS.iload X153.here hx rfl (hb hby at_64) rfl kt) ?_
    show Go p.tables e below _ (T153.setTop (mkF m 66 #[.val (.int p1), .val (.int (8 : Int32)), .val (.ref s_NOT_FOUND), .val (.int (1 : Int32)), .val (.int (5 : Int32)), .val (.int (1 : Int32)), .val (.int (1 : Int32))] [(.int (1 : Int32))]))
    refine Go.step (fun _ kt => XS.iload X153.here hx rfl (hb hby at_66) rfl kt) ?_
    show Go p.tables e below _ (T153.setTop (mkF m 68 #[.val (.int p1), .val (.int (8 : Int32)), .val (.ref s_NOT_FOUND), .val (.int (1 : Int32)), .val (.int (5 : Int32)), .val (.int (1 : Int32)), .val (.int (1 : Int32))] [(.int (1 : Int32)), (.int (1 : Int32))]))
    refine Go.step (fun _ kt => XS.icmpNo X153.here hx rfl (hb hby at_68) rfl (teq (by decide : (1 : Int32) = (1 : Int32))).2 kt) ?_
    show Go p.tables e below _ (T153.setTop (mkF m 71 #[.val (.int p1), .val (.int (8 : Int32)), .val (.ref s_NOT_FOUND), .val (.int (1 : Int32)), .val (.int (5 : Int32)), .val (.int (1 : Int32)), .val (.int (1 : Int32))] []))
    refine Go.step (fun _ kt => XS.iconst X153.here hx rfl (hb hby at_71) kt) ?_
    show Go p.tables e below _ (T153.setTop (mkF m 72 #[.val (.int p1), .val (.int (8 : Int32)), .val (.ref s_NOT_FOUND), .val (.int (1 : Int32)), .val (.int (5 : Int32)), .val (.int (1 : Int32)), .val (.int (1 : Int32))] [(.int (1 : Int32))]))
    refine Go.step (fun _ kt => XS.goto X153.here hx rfl (pc0 := 72) (pc' := 76) rfl (hb hby at_72) (by decide) (by decide) kt) ?_
    show Go p.tables e below _ (T153.setTop (mkF m 76 #[.val (.int p1), .val (.int (8 : Int32)), .val (.ref s_NOT_FOUND), .val (.int (1 : Int32)), .val (.int (5 : Int32)), .val (.int (1 : Int32)), .val (.int (1 : Int32))] [(.int (1 : Int32))]))
    obtain ⟨fs, hr, hrun, hended, hW, hsame⟩ := X153.leave (v := some (.int (1 : Int32))) (fun h => by rw [Bd.returns] at h; cases h)
    refine ⟨_, _, retN X153 hx (t := .boolean) Bd.returns (by simp) (hb hby at_76) hr, hrun, hended, _, _, rfl, ?_, ⟨_, rfl⟩, hW, hsame.mono (by decide) (by decide)⟩
    show Qrm0 Z p1 s_CREATED s_DELETED s_VALID s_CHANGED s_CONTENT s_BAD_REQUEST s_UNAUTHORIZED s_FORBIDDEN s_NOT_FOUND s_METHOD_NOT_ALLOWED s_REQUEST_TOO_LARGE s_UNPROCESSABLE_ENTITY s_INTERNAL_SERVER_ERROR s_NOT_IMPLEMENTED h0 n0 _ T153.heap _
    rw [eh153]
    exact ⟨rfl, N153⟩
  · rw [hk]
    show Go p.tables e below _ (s₁.setTop (mkF m 8 #[.val (.int p1), .val (.int (9 : Int32)), .unset, .unset, .unset, .unset, .unset] []))
    refine Go.step (fun _ kt => XS.iloadN X0.here hx rfl (hb hby at_8) rfl kt) ?_
    show Go p.tables e below _ (s₁.setTop (mkF m 9 #[.val (.int p1), .val (.int (9 : Int32)), .unset, .unset, .unset, .unset, .unset] [(.int (9 : Int32))]))
    obtain ⟨_, _, ⟨T155, L155, k155, n155⟩, -, X155, ⟨Lc155, hQ155, l155, y155, z155⟩, st155⟩ := Jvm.LawKit.callS X0 hx (y := (⟨"com/example/kenning/kenning/StatusIsErrorPinLaw", "pick", "(I)Lcom/example/kenning/kenning/Status;"⟩ : MethodName)) hown (mvT hZ (hw _ (List.mem_of_getElem? (i := 1) rfl))) (mvT hZ (hw _ (List.mem_of_getElem? (i := 2) rfl))) (mvT hZ (hw _ (List.mem_of_getElem? (i := 3) rfl))) (mvT hZ (hw _ (List.mem_of_getElem? (i := 4) rfl))) (by decide) (backOf (W := 0) (rm1 l Z a0 hw [] (9 : Int32) s_CREATED s_DELETED s_VALID s_CHANGED s_CONTENT s_BAD_REQUEST s_UNAUTHORIZED s_FORBIDDEN s_NOT_FOUND s_METHOD_NOT_ALLOWED s_REQUEST_TOO_LARGE s_UNPROCESSABLE_ENTITY s_INTERNAL_SERVER_ERROR s_NOT_IMPLEMENTED h0 n0 Z0 S_CREATED S_DELETED S_VALID S_CHANGED S_CONTENT S_BAD_REQUEST S_UNAUTHORIZED S_FORBIDDEN S_NOT_FOUND S_METHOD_NOT_ALLOWED S_REQUEST_TOO_LARGE S_UNPROCESSABLE_ENTITY S_INTERNAL_SERVER_ERROR S_NOT_IMPLEMENTED ) hZ (hw _ (List.mem_of_getElem? (i := 4) rfl)) (hw _ (List.mem_of_getElem? (i := 3) rfl)) (by decide) (by decide)) (g := (mkF m 9 #[.val (.int p1), .val (.int (9 : Int32)), .unset, .unset, .unset, .unset, .unset] [(.int (9 : Int32))])) rfl (by rw [hml]; rfl) (argsL := [(.int (9 : Int32))]) (rest := []) (lenOf pd_0 rfl) rfl (by show 2 * 0 + _ ≤ _; exact Nat.le_of_eq rfl) (hb hby at_9) (fun _ _ => ⟨rfl, e0, (by decide : 0 + 0 ≤ _), (by decide : 0 + 0 ≤ _)⟩)
    dsimp only [Pt.U, Pt.locs, Pt.cells, Pt.slots] at X155 l155 y155 z155 st155 hQ155
    subst l155 y155 z155
    obtain ⟨rfl, N155q, eh155⟩ := hQ155
    have N155 := Fr.app N0 N155q
    refine Go.step st155 ?_
    show Go p.tables e below _ (T155.setTop (mkF m 12 #[.val (.int p1), .val (.int (9 : Int32)), .unset, .unset, .unset, .unset, .unset] [(.ref (own_pick (9 : Int32) s_CREATED s_DELETED s_VALID s_CHANGED s_CONTENT s_BAD_REQUEST s_UNAUTHORIZED s_FORBIDDEN s_NOT_FOUND s_METHOD_NOT_ALLOWED s_REQUEST_TOO_LARGE s_UNPROCESSABLE_ENTITY s_INTERNAL_SERVER_ERROR s_NOT_IMPLEMENTED))]))
    have q156 : (own_pick (9 : Int32) s_CREATED s_DELETED s_VALID s_CHANGED s_CONTENT s_BAD_REQUEST s_UNAUTHORIZED s_FORBIDDEN s_NOT_FOUND s_METHOD_NOT_ALLOWED s_REQUEST_TOO_LARGE s_UNPROCESSABLE_ENTITY s_INTERNAL_SERVER_ERROR s_NOT_IMPLEMENTED) = s_METHOD_NOT_ALLOWED := rfl
    rw [q156]
    show Go p.tables e below _ (T155.setTop (mkF m 12 #[.val (.int p1), .val (.int (9 : Int32)), .unset, .unset, .unset, .unset, .unset] [(.ref s_METHOD_NOT_ALLOWED)]))
    refine Go.step (fun _ kt => XS.astoreN X155.here hx rfl (hb hby at_12) rfl rfl (l' := #[.val (.int p1), .val (.int (9 : Int32)), .val (.ref s_METHOD_NOT_ALLOWED), .unset, .unset, .unset, .unset]) rfl kt) ?_
    show Go p.tables e below _ (T155.setTop (mkF m 13 #[.val (.int p1), .val (.int (9 : Int32)), .val (.ref s_METHOD_NOT_ALLOWED), .unset, .unset, .unset, .unset] []))
    refine Go.step (fun _ kt => XS.iloadN X155.here hx rfl (hb hby at_13) rfl kt) ?_
    show Go p.tables e below _ (T155.setTop (mkF m 14 #[.val (.int p1), .val (.int (9 : Int32)), .val (.ref s_METHOD_NOT_ALLOWED), .unset, .unset, .unset, .unset] [(.int (9 : Int32))]))
    refine Go.step (fun _ kt => XS.iconst X155.here hx rfl (hb hby at_14) kt) ?_
    show Go p.tables e below _ (T155.setTop (mkF m 15 #[.val (.int p1), .val (.int (9 : Int32)), .val (.ref s_METHOD_NOT_ALLOWED), .unset, .unset, .unset, .unset] [(.int (5 : Int32)), (.int (9 : Int32))]))
    refine Go.step (fun _ kt => XS.icmpNo X155.here hx rfl (hb hby at_15) rfl (flt (by decide : ¬ ((9 : Int32) < (5 : Int32)))).1 kt) ?_
    show Go p.tables e below _ (T155.setTop (mkF m 18 #[.val (.int p1), .val (.int (9 : Int32)), .val (.ref s_METHOD_NOT_ALLOWED), .unset, .unset, .unset, .unset] []))
    refine Go.step (fun _ kt => XS.iconst X155.here hx rfl (hb hby at_18) kt) ?_
    show Go p.tables e below _ (T155.setTop (mkF m 19 #[.val (.int p1), .val (.int (9 : Int32)), .val (.ref s_METHOD_NOT_ALLOWED), .unset, .unset, .unset, .unset] [(.int (1 : Int32))]))
    refine Go.step (fun _ kt => XS.goto X155.here hx rfl (pc0 := 19) (pc' := 23) rfl (hb hby at_19) (by decide) (by decide) kt) ?_
    show Go p.tables e below _ (T155.setTop (mkF m 23 #[.val (.int p1), .val (.int (9 : Int32)), .val (.ref s_METHOD_NOT_ALLOWED), .unset, .unset, .unset, .unset] [(.int (1 : Int32))]))
    refine Go.step (fun _ kt => XS.istoreN X155.here hx rfl (hb hby at_23) rfl (l' := #[.val (.int p1), .val (.int (9 : Int32)), .val (.ref s_METHOD_NOT_ALLOWED), .val (.int (1 : Int32)), .unset, .unset, .unset]) rfl kt) ?_
    show Go p.tables e below _ (T155.setTop (mkF m 24 #[.val (.int p1), .val (.int (9 : Int32)), .val (.ref s_METHOD_NOT_ALLOWED), .val (.int (1 : Int32)), .unset, .unset, .unset] []))
    refine Go.step (fun _ kt => XS.aloadN X155.here hx rfl (hb hby at_24) rfl rfl kt) ?_
    show Go p.tables e below _ (T155.setTop (mkF m 25 #[.val (.int p1), .val (.int (9 : Int32)), .val (.ref s_METHOD_NOT_ALLOWED), .val (.int (1 : Int32)), .unset, .unset, .unset] [(.ref s_METHOD_NOT_ALLOWED)]))
    obtain ⟨cq157, kq157, q157a, q157b, q157c⟩ := isOf hZ eh155 E_METHOD_NOT_ALLOWED
    obtain ⟨_, _, ⟨T157, L157, k157, n157⟩, -, X157, ⟨Lc157, hQ157, l157, y157, z157⟩, st157⟩ := X155.virtualBack hx (y := (⟨"com/example/kenning/kenning/Status", "code", "()I"⟩ : MethodName)) (z := (⟨"com/example/kenning/kenning/Status", "code", "()I"⟩ : MethodName)) hown (mvT hZ (hw _ (List.mem_of_getElem? (i := 8) rfl))) (mvT hZ (hw _ (List.mem_of_getElem? (i := 9) rfl))) (notFace_of_selects (args := #[]) (mvT hZ (hw _ (List.mem_of_getElem? (i := 11) rfl)))) (mvT hZ (hw _ (List.mem_of_getElem? (i := 11) rfl))) (mvT hZ (hw _ (List.mem_of_getElem? (i := 10) rfl))) (by decide) (backOf (W := 0) (rm2 l Z a0 hw [] s_METHOD_NOT_ALLOWED (165 : Int32) h0 n0 Z0 F_METHOD_NOT_ALLOWED_code ) hZ (hw _ (List.mem_of_getElem? (i := 12) rfl)) (hw _ (List.mem_of_getElem? (i := 6) rfl)) (by decide) (by decide)) q157a q157c (g := (mkF m 25 #[.val (.int p1), .val (.int (9 : Int32)), .val (.ref s_METHOD_NOT_ALLOWED), .val (.int (1 : Int32)), .unset, .unset, .unset] [(.ref s_METHOD_NOT_ALLOWED)])) rfl (by rw [hml]; rfl) (Steps.refl _) (argsL := []) (rest := []) (lenOf pd_1 rfl) rfl (by show 2 * 0 + _ ≤ _; exact Nat.le_of_eq rfl) (hb hby at_25) (fun _ _ => ⟨rfl, eh155, (by decide : 0 + 0 ≤ _), (by decide : 0 + 0 ≤ _)⟩)
    dsimp only [Pt.U, Pt.locs, Pt.cells, Pt.slots] at X157 l157 y157 z157 st157 hQ157
    subst l157 y157 z157
    obtain ⟨rfl, N157q, eh157⟩ := hQ157
    have N157 := Fr.app N155 N157q
    refine Go.step (fun _ kt => st157.trans kt) ?_
    show Go p.tables e below _ (T157.setTop (mkF m 28 #[.val (.int p1), .val (.int (9 : Int32)), .val (.ref s_METHOD_NOT_ALLOWED), .val (.int (1 : Int32)), .unset, .unset, .unset] [(.int (165 : Int32))]))
    refine Go.step (fun _ kt => XS.iconst X157.here hx rfl (hb hby at_28) kt) ?_
    show Go p.tables e below _ (T157.setTop (mkF m 29 #[.val (.int p1), .val (.int (9 : Int32)), .val (.ref s_METHOD_NOT_ALLOWED), .val (.int (1 : Int32)), .unset, .unset, .unset] [(.int (5 : Int32)), (.int (165 : Int32))]))
    refine Go.step (fun _ kt => XS.ishr X157.here hx rfl (hb hby at_29) rfl kt) ?_
    show Go p.tables e below _ (T157.setTop (mkF m 30 #[.val (.int p1), .val (.int (9 : Int32)), .val (.ref s_METHOD_NOT_ALLOWED), .val (.int (1 : Int32)), .unset, .unset, .unset] [(.int ((165 : Int32) >>> ((5 : Int32) &&& 31)))]))
    have q158 : ((165 : Int32) >>> ((5 : Int32) &&& 31)) = (5 : Int32) := by decide
    rw [q158]
    show Go p.tables e below _ (T157.setTop (mkF m 30 #[.val (.int p1), .val (.int (9 : Int32)), .val (.ref s_METHOD_NOT_ALLOWED), .val (.int (1 : Int32)), .unset, .unset, .unset] [(.int (5 : Int32))]))
    refine Go.step (fun _ kt => XS.istore X157.here hx rfl (hb hby at_30) rfl (l' := #[.val (.int p1), .val (.int (9 : Int32)), .val (.ref s_METHOD_NOT_ALLOWED), .val (.int (1 : Int32)), .val (.int (5 : Int32)), .unset, .unset]) rfl kt) ?_
    show Go p.tables e below _ (T157.setTop (mkF m 32 #[.val (.int p1), .val (.int (9 : Int32)), .val (.ref s_METHOD_NOT_ALLOWED), .val (.int (1 : Int32)), .val (.int (5 : Int32)), .unset, .unset] []))
    refine Go.step (fun _ kt => XS.iload X157.here hx rfl (hb hby at_32) rfl kt) ?_
    show Go p.tables e below _ (T157.setTop (mkF m 34 #[.val (.int p1), .val (.int (9 : Int32)), .val (.ref s_METHOD_NOT_ALLOWED), .val (.int (1 : Int32)), .val (.int (5 : Int32)), .unset, .unset] [(.int (5 : Int32))]))
    refine Go.step (fun _ kt => XS.iconst X157.here hx rfl (hb hby at_34) kt) ?_
    show Go p.tables e below _ (T157.setTop (mkF m 35 #[.val (.int p1), .val (.int (9 : Int32)), .val (.ref s_METHOD_NOT_ALLOWED), .val (.int (1 : Int32)), .val (.int (5 : Int32)), .unset, .unset] [(.int (5 : Int32)), (.int (5 : Int32))]))
    refine Go.step (fun _ kt => XS.icmpYes X157.here hx rfl (pc0 := 35) (pc' := 45) rfl (hb hby at_35) rfl (teq (by decide : (5 : Int32) = (5 : Int32))).1 (by decide) (by decide) kt) ?_
    show Go p.tables e below _ (T157.setTop (mkF m 45 #[.val (.int p1), .val (.int (9 : Int32)), .val (.ref s_METHOD_NOT_ALLOWED), .val (.int (1 : Int32)), .val (.int (5 : Int32)), .unset, .unset] []))
    refine Go.step (fun _ kt => XS.iconst X157.here hx rfl (hb hby at_45) kt) ?_
    show Go p.tables e below _ (T157.setTop (mkF m 46 #[.val (.int p1), .val (.int (9 : Int32)), .val (.ref s_METHOD_NOT_ALLOWED), .val (.int (1 : Int32)), .val (.int (5 : Int32)), .unset, .unset] [(.int (1 : Int32))]))
    refine Go.step (fun _ kt => XS.goto X157.here hx rfl (pc0 := 46) (pc' := 50) rfl (hb hby at_46) (by decide) (by decide) kt) ?_
    show Go p.tables e below _ (T157.setTop (mkF m 50 #[.val (.int p1), .val (.int (9 : Int32)), .val (.ref s_METHOD_NOT_ALLOWED), .val (.int (1 : Int32)), .val (.int (5 : Int32)), .unset, .unset] [(.int (1 : Int32))]))
    refine Go.step (fun _ kt => XS.istore X157.here hx rfl (hb hby at_50) rfl (l' := #[.val (.int p1), .val (.int (9 : Int32)), .val (.ref s_METHOD_NOT_ALLOWED), .val (.int (1 : Int32)), .val (.int (5 : Int32)), .val (.int (1 : Int32)), .unset]) rfl kt) ?_
    show Go p.tables e below _ (T157.setTop (mkF m 52 #[.val (.int p1), .val (.int (9 : Int32)), .val (.ref s_METHOD_NOT_ALLOWED), .val (.int (1 : Int32)), .val (.int (5 : Int32)), .val (.int (1 : Int32)), .unset] []))
    refine Go.step (fun _ kt => XS.aloadN X157.here hx rfl (hb hby at_52) rfl rfl kt) ?_
    show Go p.tables e below _ (T157.setTop (mkF m 53 #[.val (.int p1), .val (.int (9 : Int32)), .val (.ref s_METHOD_NOT_ALLOWED), .val (.int (1 : Int32)), .val (.int (5 : Int32)), .val (.int (1 : Int32)), .unset] [(.ref s_METHOD_NOT_ALLOWED)]))
    obtain ⟨cq159, kq159, q159a, q159b, q159c⟩ := isOf hZ eh157 E_METHOD_NOT_ALLOWED
    obtain ⟨_, _, ⟨T159, L159, k159, n159⟩, -, X159, ⟨Lc159, hQ159, l159, y159, z159⟩, st159⟩ := X157.virtualBack hx (y := (⟨"com/example/kenning/kenning/Status", "isError", "()Z"⟩ : MethodName)) (z := (⟨"com/example/kenning/kenning/Status", "isError", "()Z"⟩ : MethodName)) hown (mvT hZ (hw _ (List.mem_of_getElem? (i := 15) rfl))) (mvT hZ (hw _ (List.mem_of_getElem? (i := 16) rfl))) (notFace_of_selects (args := #[]) (mvT hZ (hw _ (List.mem_of_getElem? (i := 18) rfl)))) (mvT hZ (hw _ (List.mem_of_getElem? (i := 18) rfl))) (mvT hZ (hw _ (List.mem_of_getElem? (i := 17) rfl))) (by decide) (backOf (W := 0) (rm3 l Z a0 hw [] s_METHOD_NOT_ALLOWED (165 : Int32) h0 n0 Z0 F_METHOD_NOT_ALLOWED_code ) hZ (hw _ (List.mem_of_getElem? (i := 19) rfl)) (hw _ (List.mem_of_getElem? (i := 6) rfl)) (by decide) (by decide)) q159a q159c (g := (mkF m 53 #[.val (.int p1), .val (.int (9 : Int32)), .val (.ref s_METHOD_NOT_ALLOWED), .val (.int (1 : Int32)), .val (.int (5 : Int32)), .val (.int (1 : Int32)), .unset] [(.ref s_METHOD_NOT_ALLOWED)])) rfl (by rw [hml]; rfl) (Steps.refl _) (argsL := []) (rest := []) (lenOf pd_2 rfl) rfl (by show 2 * 0 + _ ≤ _; exact Nat.le_of_eq rfl) (hb hby at_53) (fun _ _ => ⟨rfl, eh157, (by decide : 0 + 0 ≤ _), (by decide : 0 + 0 ≤ _)⟩)
    dsimp only [Pt.U, Pt.locs, Pt.cells, Pt.slots] at X159 l159 y159 z159 st159 hQ159
    subst l159 y159 z159
    obtain ⟨rfl, N159q, eh159⟩ := hQ159
    have N159 := Fr.app N157 N159q
    refine Go.step (fun _ kt => st159.trans kt) ?_
    show Go p.tables e below _ (T159.setTop (mkF m 56 #[.val (.int p1), .val (.int (9 : Int32)), .val (.ref s_METHOD_NOT_ALLOWED), .val (.int (1 : Int32)), .val (.int (5 : Int32)), .val (.int (1 : Int32)), .unset] [(.int (own_err (165 : Int32)))]))
    have q160 : (own_err (165 : Int32)) = (1 : Int32) := by decide
    rw [q160]
    show Go p.tables e below _ (T159.setTop (mkF m 56 #[.val (.int p1), .val (.int (9 : Int32)), .val (.ref s_METHOD_NOT_ALLOWED), .val (.int (1 : Int32)), .val (.int (5 : Int32)), .val (.int (1 : Int32)), .unset] [(.int (1 : Int32))]))
    refine Go.step (fun _ kt => XS.istore X159.here hx rfl (hb hby at_56) rfl (l' := #[.val (.int p1), .val (.int (9 : Int32)), .val (.ref s_METHOD_NOT_ALLOWED), .val (.int (1 : Int32)), .val (.int (5 : Int32)), .val (.int (1 : Int32)), .val (.int (1 : Int32))]) rfl kt) ?_
    show Go p.tables e below _ (T159.setTop (mkF m 58 #[.val (.int p1), .val (.int (9 : Int32)), .val (.ref s_METHOD_NOT_ALLOWED), .val (.int (1 : Int32)), .val (.int (5 : Int32)), .val (.int (1 : Int32)), .val (.int (1 : Int32))] []))
    refine Go.step (fun _ kt => XS.iload X159.here hx rfl (hb hby at_58) rfl kt) ?_
    show Go p.tables e below _ (T159.setTop (mkF m 60 #[.val (.int p1), .val (.int (9 : Int32)), .val (.ref s_METHOD_NOT_ALLOWED), .val (.int (1 : Int32)), .val (.int (5 : Int32)), .val (.int (1 : Int32)), .val (.int (1 : Int32))] [(.int (1 : Int32))]))
    refine Go.step (fun _ kt => XS.iloadN X159.here hx rfl (hb hby at_60) rfl kt) ?_
    show Go p.tables e below _ (T159.setTop (mkF m 61 #[.val (.int p1), .val (.int (9 : Int32)), .val (.ref s_METHOD_NOT_ALLOWED), .val (.int (1 : Int32)), .val (.int (5 : Int32)), .val (.int (1 : Int32)), .val (.int (1 : Int32))] [(.int (1 : Int32)), (.int (1 : Int32))]))
    refine Go.step (fun _ kt => XS.icmpNo X159.here hx rfl (hb hby at_61) rfl (teq (by decide : (1 : Int32) = (1 : Int32))).2 kt) ?_
    show Go p.tables e below _ (T159.setTop (mkF m 64 #[.val (.int p1), .val (.int (9 : Int32)), .val (.ref s_METHOD_NOT_ALLOWED), .val (.int (1 : Int32)), .val (.int (5 : Int32)), .val (.int (1 : Int32)), .val (.int (1 : Int32))] []))
    refine Go.step (fun _ kt => XS.iload X159.here hx rfl (hb hby at_64) rfl kt) ?_
    show Go p.tables e below _ (T159.setTop (mkF m 66 #[.val (.int p1), .val (.int (9 : Int32)), .val (.ref s_METHOD_NOT_ALLOWED), .val (.int (1 : Int32)), .val (.int (5 : Int32)), .val (.int (1 : Int32)), .val (.int (1 : Int32))] [(.int (1 : Int32))]))
    refine Go.step (fun _ kt => XS.iload X159.here hx rfl (hb hby at_66) rfl kt) ?_
    show Go p.tables e below _ (T159.setTop (mkF m 68 #[.val (.int p1), .val (.int (9 : Int32)), .val (.ref s_METHOD_NOT_ALLOWED), .val (.int (1 : Int32)), .val (.int (5 : Int32)), .val (.int (1 : Int32)), .val (.int (1 : Int32))] [(.int (1 : Int32)), (.int (1 : Int32))]))
    refine Go.step (fun _ kt => XS.icmpNo X159.here hx rfl (hb hby at_68) rfl (teq (by decide : (1 : Int32) = (1 : Int32))).2 kt) ?_
    show Go p.tables e below _ (T159.setTop (mkF m 71 #[.val (.int p1), .val (.int (9 : Int32)), .val (.ref s_METHOD_NOT_ALLOWED), .val (.int (1 : Int32)), .val (.int (5 : Int32)), .val (.int (1 : Int32)), .val (.int (1 : Int32))] []))
    refine Go.step (fun _ kt => XS.iconst X159.here hx rfl (hb hby at_71) kt) ?_
    show Go p.tables e below _ (T159.setTop (mkF m 72 #[.val (.int p1), .val (.int (9 : Int32)), .val (.ref s_METHOD_NOT_ALLOWED), .val (.int (1 : Int32)), .val (.int (5 : Int32)), .val (.int (1 : Int32)), .val (.int (1 : Int32))] [(.int (1 : Int32))]))
    refine Go.step (fun _ kt => XS.goto X159.here hx rfl (pc0 := 72) (pc' := 76) rfl (hb hby at_72) (by decide) (by decide) kt) ?_
    show Go p.tables e below _ (T159.setTop (mkF m 76 #[.val (.int p1), .val (.int (9 : Int32)), .val (.ref s_METHOD_NOT_ALLOWED), .val (.int (1 : Int32)), .val (.int (5 : Int32)), .val (.int (1 : Int32)), .val (.int (1 : Int32))] [(.int (1 : Int32))]))
    obtain ⟨fs, hr, hrun, hended, hW, hsame⟩ := X159.leave (v := some (.int (1 : Int32))) (fun h => by rw [Bd.returns] at h; cases h)
    refine ⟨_, _, retN X159 hx (t := .boolean) Bd.returns (by simp) (hb hby at_76) hr, hrun, hended, _, _, rfl, ?_, ⟨_, rfl⟩, hW, hsame.mono (by decide) (by decide)⟩
    show Qrm0 Z p1 s_CREATED s_DELETED s_VALID s_CHANGED s_CONTENT s_BAD_REQUEST s_UNAUTHORIZED s_FORBIDDEN s_NOT_FOUND s_METHOD_NOT_ALLOWED s_REQUEST_TOO_LARGE s_UNPROCESSABLE_ENTITY s_INTERNAL_SERVER_ERROR s_NOT_IMPLEMENTED h0 n0 _ T159.heap _
    rw [eh159]
    exact ⟨rfl, N159⟩
  · rw [hk]
    show Go p.tables e below _ (s₁.setTop (mkF m 8 #[.val (.int p1), .val (.int (10 : Int32)), .unset, .unset, .unset, .unset, .unset] []))
    refine Go.step (fun _ kt => XS.iloadN X0.here hx rfl (hb hby at_8) rfl kt) ?_
    show Go p.tables e below _ (s₁.setTop (mkF m 9 #[.val (.int p1), .val (.int (10 : Int32)), .unset, .unset, .unset, .unset, .unset] [(.int (10 : Int32))]))
    obtain ⟨_, _, ⟨T161, L161, k161, n161⟩, -, X161, ⟨Lc161, hQ161, l161, y161, z161⟩, st161⟩ := Jvm.LawKit.callS X0 hx (y := (⟨"com/example/kenning/kenning/StatusIsErrorPinLaw", "pick", "(I)Lcom/example/kenning/kenning/Status;"⟩ : MethodName)) hown (mvT hZ (hw _ (List.mem_of_getElem? (i := 1) rfl))) (mvT hZ (hw _ (List.mem_of_getElem? (i := 2) rfl))) (mvT hZ (hw _ (List.mem_of_getElem? (i := 3) rfl))) (mvT hZ (hw _ (List.mem_of_getElem? (i := 4) rfl))) (by decide) (backOf (W := 0) (rm1 l Z a0 hw [] (10 : Int32) s_CREATED s_DELETED s_VALID s_CHANGED s_CONTENT s_BAD_REQUEST s_UNAUTHORIZED s_FORBIDDEN s_NOT_FOUND s_METHOD_NOT_ALLOWED s_REQUEST_TOO_LARGE s_UNPROCESSABLE_ENTITY s_INTERNAL_SERVER_ERROR s_NOT_IMPLEMENTED h0 n0 Z0 S_CREATED S_DELETED S_VALID S_CHANGED S_CONTENT S_BAD_REQUEST S_UNAUTHORIZED S_FORBIDDEN S_NOT_FOUND S_METHOD_NOT_ALLOWED S_REQUEST_TOO_LARGE S_UNPROCESSABLE_ENTITY S_INTERNAL_SERVER_ERROR S_NOT_IMPLEMENTED ) hZ (hw _ (List.mem_of_getElem? (i := 4) rfl)) (hw _ (List.mem_of_getElem? (i := 3) rfl)) (by decide) (by decide)) (g := (mkF m 9 #[.val (.int p1), .val (.int (10 : Int32)), .unset, .unset, .unset, .unset, .unset] [(.int (10 : Int32))])) rfl (by rw [hml]; rfl) (argsL := [(.int (10 : Int32))]) (rest := []) (lenOf pd_0 rfl) rfl (by show 2 * 0 + _ ≤ _; exact Nat.le_of_eq rfl) (hb hby at_9) (fun _ _ => ⟨rfl, e0, (by decide : 0 + 0 ≤ _), (by decide : 0 + 0 ≤ _)⟩)
    dsimp only [Pt.U, Pt.locs, Pt.cells, Pt.slots] at X161 l161 y161 z161 st161 hQ161
    subst l161 y161 z161
    obtain ⟨rfl, N161q, eh161⟩ := hQ161
    have N161 := Fr.app N0 N161q
    refine Go.step st161 ?_
    show Go p.tables e below _ (T161.setTop (mkF m 12 #[.val (.int p1), .val (.int (10 : Int32)), .unset, .unset, .unset, .unset, .unset] [(.ref (own_pick (10 : Int32) s_CREATED s_DELETED s_VALID s_CHANGED s_CONTENT s_BAD_REQUEST s_UNAUTHORIZED s_FORBIDDEN s_NOT_FOUND s_METHOD_NOT_ALLOWED s_REQUEST_TOO_LARGE s_UNPROCESSABLE_ENTITY s_INTERNAL_SERVER_ERROR s_NOT_IMPLEMENTED))]))
    have q162 : (own_pick (10 : Int32) s_CREATED s_DELETED s_VALID s_CHANGED s_CONTENT s_BAD_REQUEST s_UNAUTHORIZED s_FORBIDDEN s_NOT_FOUND s_METHOD_NOT_ALLOWED s_REQUEST_TOO_LARGE s_UNPROCESSABLE_ENTITY s_INTERNAL_SERVER_ERROR s_NOT_IMPLEMENTED) = s_REQUEST_TOO_LARGE := rfl
    rw [q162]
    show Go p.tables e below _ (T161.setTop (mkF m 12 #[.val (.int p1), .val (.int (10 : Int32)), .unset, .unset, .unset, .unset, .unset] [(.ref s_REQUEST_TOO_LARGE)]))
    refine Go.step (fun _ kt => XS.astoreN X161.here hx rfl (hb hby at_12) rfl rfl (l' := #[.val (.int p1), .val (.int (10 : Int32)), .val (.ref s_REQUEST_TOO_LARGE), .unset, .unset, .unset, .unset]) rfl kt) ?_
    show Go p.tables e below _ (T161.setTop (mkF m 13 #[.val (.int p1), .val (.int (10 : Int32)), .val (.ref s_REQUEST_TOO_LARGE), .unset, .unset, .unset, .unset] []))
    refine Go.step (fun _ kt => XS.iloadN X161.here hx rfl (hb hby at_13) rfl kt) ?_
    show Go p.tables e below _ (T161.setTop (mkF m 14 #[.val (.int p1), .val (.int (10 : Int32)), .val (.ref s_REQUEST_TOO_LARGE), .unset, .unset, .unset, .unset] [(.int (10 : Int32))]))
    refine Go.step (fun _ kt => XS.iconst X161.here hx rfl (hb hby at_14) kt) ?_
    show Go p.tables e below _ (T161.setTop (mkF m 15 #[.val (.int p1), .val (.int (10 : Int32)), .val (.ref s_REQUEST_TOO_LARGE), .unset, .unset, .unset, .unset] [(.int (5 : Int32)), (.int (10 : Int32))]))
    refine Go.step (fun _ kt => XS.icmpNo X161.here hx rfl (hb hby at_15) rfl (flt (by decide : ¬ ((10 : Int32) < (5 : Int32)))).1 kt) ?_
    show Go p.tables e below _ (T161.setTop (mkF m 18 #[.val (.int p1), .val (.int (10 : Int32)), .val (.ref s_REQUEST_TOO_LARGE), .unset, .unset, .unset, .unset] []))
    refine Go.step (fun _ kt => XS.iconst X161.here hx rfl (hb hby at_18) kt) ?_
    show Go p.tables e below _ (T161.setTop (mkF m 19 #[.val (.int p1), .val (.int (10 : Int32)), .val (.ref s_REQUEST_TOO_LARGE), .unset, .unset, .unset, .unset] [(.int (1 : Int32))]))
    refine Go.step (fun _ kt => XS.goto X161.here hx rfl (pc0 := 19) (pc' := 23) rfl (hb hby at_19) (by decide) (by decide) kt) ?_
    show Go p.tables e below _ (T161.setTop (mkF m 23 #[.val (.int p1), .val (.int (10 : Int32)), .val (.ref s_REQUEST_TOO_LARGE), .unset, .unset, .unset, .unset] [(.int (1 : Int32))]))
    refine Go.step (fun _ kt => XS.istoreN X161.here hx rfl (hb hby at_23) rfl (l' := #[.val (.int p1), .val (.int (10 : Int32)), .val (.ref s_REQUEST_TOO_LARGE), .val (.int (1 : Int32)), .unset, .unset, .unset]) rfl kt) ?_
    show Go p.tables e below _ (T161.setTop (mkF m 24 #[.val (.int p1), .val (.int (10 : Int32)), .val (.ref s_REQUEST_TOO_LARGE), .val (.int (1 : Int32)), .unset, .unset, .unset] []))
    refine Go.step (fun _ kt => XS.aloadN X161.here hx rfl (hb hby at_24) rfl rfl kt) ?_
    show Go p.tables e below _ (T161.setTop (mkF m 25 #[.val (.int p1), .val (.int (10 : Int32)), .val (.ref s_REQUEST_TOO_LARGE), .val (.int (1 : Int32)), .unset, .unset, .unset] [(.ref s_REQUEST_TOO_LARGE)]))
    obtain ⟨cq163, kq163, q163a, q163b, q163c⟩ := isOf hZ eh161 E_REQUEST_TOO_LARGE
    obtain ⟨_, _, ⟨T163, L163, k163, n163⟩, -, X163, ⟨Lc163, hQ163, l163, y163, z163⟩, st163⟩ := X161.virtualBack hx (y := (⟨"com/example/kenning/kenning/Status", "code", "()I"⟩ : MethodName)) (z := (⟨"com/example/kenning/kenning/Status", "code", "()I"⟩ : MethodName)) hown (mvT hZ (hw _ (List.mem_of_getElem? (i := 8) rfl))) (mvT hZ (hw _ (List.mem_of_getElem? (i := 9) rfl))) (notFace_of_selects (args := #[]) (mvT hZ (hw _ (List.mem_of_getElem? (i := 11) rfl)))) (mvT hZ (hw _ (List.mem_of_getElem? (i := 11) rfl))) (mvT hZ (hw _ (List.mem_of_getElem? (i := 10) rfl))) (by decide) (backOf (W := 0) (rm2 l Z a0 hw [] s_REQUEST_TOO_LARGE (173 : Int32) h0 n0 Z0 F_REQUEST_TOO_LARGE_code ) hZ (hw _ (List.mem_of_getElem? (i := 12) rfl)) (hw _ (List.mem_of_getElem? (i := 6) rfl)) (by decide) (by decide)) q163a q163c (g := (mkF m 25 #[.val (.int p1), .val (.int (10 : Int32)), .val (.ref s_REQUEST_TOO_LARGE), .val (.int (1 : Int32)), .unset, .unset, .unset] [(.ref s_REQUEST_TOO_LARGE)])) rfl (by rw [hml]; rfl) (Steps.refl _) (argsL := []) (rest := []) (lenOf pd_1 rfl) rfl (by show 2 * 0 + _ ≤ _; exact Nat.le_of_eq rfl) (hb hby at_25) (fun _ _ => ⟨rfl, eh161, (by decide : 0 + 0 ≤ _), (by decide : 0 + 0 ≤ _)⟩)
    dsimp only [Pt.U, Pt.locs, Pt.cells, Pt.slots] at X163 l163 y163 z163 st163 hQ163
    subst l163 y163 z163
    obtain ⟨rfl, N163q, eh163⟩ := hQ163
    have N163 := Fr.app N161 N163q
    refine Go.step (fun _ kt => st163.trans kt) ?_
    show Go p.tables e below _ (T163.setTop (mkF m 28 #[.val (.int p1), .val (.int (10 : Int32)), .val (.ref s_REQUEST_TOO_LARGE), .val (.int (1 : Int32)), .unset, .unset, .unset] [(.int (173 : Int32))]))
    refine Go.step (fun _ kt => XS.iconst X163.here hx rfl (hb hby at_28) kt) ?_
    show Go p.tables e below _ (T163.setTop (mkF m 29 #[.val (.int p1), .val (.int (10 : Int32)), .val (.ref s_REQUEST_TOO_LARGE), .val (.int (1 : Int32)), .unset, .unset, .unset] [(.int (5 : Int32)), (.int (173 : Int32))]))
    refine Go.step (fun _ kt => XS.ishr X163.here hx rfl (hb hby at_29) rfl kt) ?_
    show Go p.tables e below _ (T163.setTop (mkF m 30 #[.val (.int p1), .val (.int (10 : Int32)), .val (.ref s_REQUEST_TOO_LARGE), .val (.int (1 : Int32)), .unset, .unset, .unset] [(.int ((173 : Int32) >>> ((5 : Int32) &&& 31)))]))
    have q164 : ((173 : Int32) >>> ((5 : Int32) &&& 31)) = (5 : Int32) := by decide
    rw [q164]
    show Go p.tables e below _ (T163.setTop (mkF m 30 #[.val (.int p1), .val (.int (10 : Int32)), .val (.ref s_REQUEST_TOO_LARGE), .val (.int (1 : Int32)), .unset, .unset, .unset] [(.int (5 : Int32))]))
    refine Go.step (fun _ kt => XS.istore X163.here hx rfl (hb hby at_30) rfl (l' := #[.val (.int p1), .val (.int (10 : Int32)), .val (.ref s_REQUEST_TOO_LARGE), .val (.int (1 : Int32)), .val (.int (5 : Int32)), .unset, .unset]) rfl kt) ?_
    show Go p.tables e below _ (T163.setTop (mkF m 32 #[.val (.int p1), .val (.int (10 : Int32)), .val (.ref s_REQUEST_TOO_LARGE), .val (.int (1 : Int32)), .val (.int (5 : Int32)), .unset, .unset] []))
    refine Go.step (fun _ kt => XS.iload X163.here hx rfl (hb hby at_32) rfl kt) ?_
    show Go p.tables e below _ (T163.setTop (mkF m 34 #[.val (.int p1), .val (.int (10 : Int32)), .val (.ref s_REQUEST_TOO_LARGE), .val (.int (1 : Int32)), .val (.int (5 : Int32)), .unset, .unset] [(.int (5 : Int32))]))
    refine Go.step (fun _ kt => XS.iconst X163.here hx rfl (hb hby at_34) kt) ?_
    show Go p.tables e below _ (T163.setTop (mkF m 35 #[.val (.int p1), .val (.int (10 : Int32)), .val (.ref s_REQUEST_TOO_LARGE), .val (.int (1 : Int32)), .val (.int (5 : Int32)), .unset, .unset] [(.int (5 : Int32)), (.int (5 : Int32))]))
    refine Go.step (fun _ kt => XS.icmpYes X163.here hx rfl (pc0 := 35) (pc' := 45) rfl (hb hby at_35) rfl (teq (by decide : (5 : Int32) = (5 : Int32))).1 (by decide) (by decide) kt) ?_
    show Go p.tables e below _ (T163.setTop (mkF m 45 #[.val (.int p1), .val (.int (10 : Int32)), .val (.ref s_REQUEST_TOO_LARGE), .val (.int (1 : Int32)), .val (.int (5 : Int32)), .unset, .unset] []))
    refine Go.step (fun _ kt => XS.iconst X163.here hx rfl (hb hby at_45) kt) ?_
    show Go p.tables e below _ (T163.setTop (mkF m 46 #[.val (.int p1), .val (.int (10 : Int32)), .val (.ref s_REQUEST_TOO_LARGE), .val (.int (1 : Int32)), .val (.int (5 : Int32)), .unset, .unset] [(.int (1 : Int32))]))
    refine Go.step (fun _ kt => XS.goto X163.here hx rfl (pc0 := 46) (pc' := 50) rfl (hb hby at_46) (by decide) (by decide) kt) ?_
    show Go p.tables e below _ (T163.setTop (mkF m 50 #[.val (.int p1), .val (.int (10 : Int32)), .val (.ref s_REQUEST_TOO_LARGE), .val (.int (1 : Int32)), .val (.int (5 : Int32)), .unset, .unset] [(.int (1 : Int32))]))
    refine Go.step (fun _ kt => XS.istore X163.here hx rfl (hb hby at_50) rfl (l' := #[.val (.int p1), .val (.int (10 : Int32)), .val (.ref s_REQUEST_TOO_LARGE), .val (.int (1 : Int32)), .val (.int (5 : Int32)), .val (.int (1 : Int32)), .unset]) rfl kt) ?_
    show Go p.tables e below _ (T163.setTop (mkF m 52 #[.val (.int p1), .val (.int (10 : Int32)), .val (.ref s_REQUEST_TOO_LARGE), .val (.int (1 : Int32)), .val (.int (5 : Int32)), .val (.int (1 : Int32)), .unset] []))
    refine Go.step (fun _ kt => XS.aloadN X163.here hx rfl (hb hby at_52) rfl rfl kt) ?_
    show Go p.tables e below _ (T163.setTop (mkF m 53 #[.val (.int p1), .val (.int (10 : Int32)), .val (.ref s_REQUEST_TOO_LARGE), .val (.int (1 : Int32)), .val (.int (5 : Int32)), .val (.int (1 : Int32)), .unset] [(.ref s_REQUEST_TOO_LARGE)]))
    obtain ⟨cq165, kq165, q165a, q165b, q165c⟩ := isOf hZ eh163 E_REQUEST_TOO_LARGE
    obtain ⟨_, _, ⟨T165, L165, k165, n165⟩, -, X165, ⟨Lc165, hQ165, l165, y165, z165⟩, st165⟩ := X163.virtualBack hx (y := (⟨"com/example/kenning/kenning/Status", "isError", "()Z"⟩ : MethodName)) (z := (⟨"com/example/kenning/kenning/Status", "isError", "()Z"⟩ : MethodName)) hown (mvT hZ (hw _ (List.mem_of_getElem? (i := 15) rfl))) (mvT hZ (hw _ (List.mem_of_getElem? (i := 16) rfl))) (notFace_of_selects (args := #[]) (mvT hZ (hw _ (List.mem_of_getElem? (i := 18) rfl)))) (mvT hZ (hw _ (List.mem_of_getElem? (i := 18) rfl))) (mvT hZ (hw _ (List.mem_of_getElem? (i := 17) rfl))) (by decide) (backOf (W := 0) (rm3 l Z a0 hw [] s_REQUEST_TOO_LARGE (173 : Int32) h0 n0 Z0 F_REQUEST_TOO_LARGE_code ) hZ (hw _ (List.mem_of_getElem? (i := 19) rfl)) (hw _ (List.mem_of_getElem? (i := 6) rfl)) (by decide) (by decide)) q165a q165c (g := (mkF m 53 #[.val (.int p1), .val (.int (10 : Int32)), .val (.ref s_REQUEST_TOO_LARGE), .val (.int (1 : Int32)), .val (.int (5 : Int32)), .val (.int (1 : Int32)), .unset] [(.ref s_REQUEST_TOO_LARGE)])) rfl (by rw [hml]; rfl) (Steps.refl _) (argsL := []) (rest := []) (lenOf pd_2 rfl) rfl (by show 2 * 0 + _ ≤ _; exact Nat.le_of_eq rfl) (hb hby at_53) (fun _ _ => ⟨rfl, eh163, (by decide : 0 + 0 ≤ _), (by decide : 0 + 0 ≤ _)⟩)
    dsimp only [Pt.U, Pt.locs, Pt.cells, Pt.slots] at X165 l165 y165 z165 st165 hQ165
    subst l165 y165 z165
    obtain ⟨rfl, N165q, eh165⟩ := hQ165
    have N165 := Fr.app N163 N165q
    refine Go.step (fun _ kt => st165.trans kt) ?_
    show Go p.tables e below _ (T165.setTop (mkF m 56 #[.val (.int p1), .val (.int (10 : Int32)), .val (.ref s_REQUEST_TOO_LARGE), .val (.int (1 : Int32)), .val (.int (5 : Int32)), .val (.int (1 : Int32)), .unset] [(.int (own_err (173 : Int32)))]))
    have q166 : (own_err (173 : Int32)) = (1 : Int32) := by decide
    rw [q166]
    show Go p.tables e below _ (T165.setTop (mkF m 56 #[.val (.int p1), .val (.int (10 : Int32)), .val (.ref s_REQUEST_TOO_LARGE), .val (.int (1 : Int32)), .val (.int (5 : Int32)), .val (.int (1 : Int32)), .unset] [(.int (1 : Int32))]))
    refine Go.step (fun _ kt => XS.istore X165.here hx rfl (hb hby at_56) rfl (l' := #[.val (.int p1), .val (.int (10 : Int32)), .val (.ref s_REQUEST_TOO_LARGE), .val (.int (1 : Int32)), .val (.int (5 : Int32)), .val (.int (1 : Int32)), .val (.int (1 : Int32))]) rfl kt) ?_
    show Go p.tables e below _ (T165.setTop (mkF m 58 #[.val (.int p1), .val (.int (10 : Int32)), .val (.ref s_REQUEST_TOO_LARGE), .val (.int (1 : Int32)), .val (.int (5 : Int32)), .val (.int (1 : Int32)), .val (.int (1 : Int32))] []))
    refine Go.step (fun _ kt => XS.iload X165.here hx rfl (hb hby at_58) rfl kt) ?_
    show Go p.tables e below _ (T165.setTop (mkF m 60 #[.val (.int p1), .val (.int (10 : Int32)), .val (.ref s_REQUEST_TOO_LARGE), .val (.int (1 : Int32)), .val (.int (5 : Int32)), .val (.int (1 : Int32)), .val (.int (1 : Int32))] [(.int (1 : Int32))]))
    refine Go.step (fun _ kt => XS.iloadN X165.here hx rfl (hb hby at_60) rfl kt) ?_
    show Go p.tables e below _ (T165.setTop (mkF m 61 #[.val (.int p1), .val (.int (10 : Int32)), .val (.ref s_REQUEST_TOO_LARGE), .val (.int (1 : Int32)), .val (.int (5 : Int32)), .val (.int (1 : Int32)), .val (.int (1 : Int32))] [(.int (1 : Int32)), (.int (1 : Int32))]))
    refine Go.step (fun _ kt => XS.icmpNo X165.here hx rfl (hb hby at_61) rfl (teq (by decide : (1 : Int32) = (1 : Int32))).2 kt) ?_
    show Go p.tables e below _ (T165.setTop (mkF m 64 #[.val (.int p1), .val (.int (10 : Int32)), .val (.ref s_REQUEST_TOO_LARGE), .val (.int (1 : Int32)), .val (.int (5 : Int32)), .val (.int (1 : Int32)), .val (.int (1 : Int32))] []))
    refine Go.step (fun _ kt => XS.iload X165.here hx rfl (hb hby at_64) rfl kt) ?_
    show Go p.tables e below _ (T165.setTop (mkF m 66 #[.val (.int p1), .val (.int (10 : Int32)), .val (.ref s_REQUEST_TOO_LARGE), .val (.int (1 : Int32)), .val (.int (5 : Int32)), .val (.int (1 : Int32)), .val (.int (1 : Int32))] [(.int (1 : Int32))]))
    refine Go.step (fun _ kt => XS.iload X165.here hx rfl (hb hby at_66) rfl kt) ?_
    show Go p.tables e below _ (T165.setTop (mkF m 68 #[.val (.int p1), .val (.int (10 : Int32)), .val (.ref s_REQUEST_TOO_LARGE), .val (.int (1 : Int32)), .val (.int (5 : Int32)), .val (.int (1 : Int32)), .val (.int (1 : Int32))] [(.int (1 : Int32)), (.int (1 : Int32))]))
    refine Go.step (fun _ kt => XS.icmpNo X165.here hx rfl (hb hby at_68) rfl (teq (by decide : (1 : Int32) = (1 : Int32))).2 kt) ?_
    show Go p.tables e below _ (T165.setTop (mkF m 71 #[.val (.int p1), .val (.int (10 : Int32)), .val (.ref s_REQUEST_TOO_LARGE), .val (.int (1 : Int32)), .val (.int (5 : Int32)), .val (.int (1 : Int32)), .val (.int (1 : Int32))] []))
    refine Go.step (fun _ kt => XS.iconst X165.here hx rfl (hb hby at_71) kt) ?_
    show Go p.tables e below _ (T165.setTop (mkF m 72 #[.val (.int p1), .val (.int (10 : Int32)), .val (.ref s_REQUEST_TOO_LARGE), .val (.int (1 : Int32)), .val (.int (5 : Int32)), .val (.int (1 : Int32)), .val (.int (1 : Int32))] [(.int (1 : Int32))]))
    refine Go.step (fun _ kt => XS.goto X165.here hx rfl (pc0 := 72) (pc' := 76) rfl (hb hby at_72) (by decide) (by decide) kt) ?_
    show Go p.tables e below _ (T165.setTop (mkF m 76 #[.val (.int p1), .val (.int (10 : Int32)), .val (.ref s_REQUEST_TOO_LARGE), .val (.int (1 : Int32)), .val (.int (5 : Int32)), .val (.int (1 : Int32)), .val (.int (1 : Int32))] [(.int (1 : Int32))]))
    obtain ⟨fs, hr, hrun, hended, hW, hsame⟩ := X165.leave (v := some (.int (1 : Int32))) (fun h => by rw [Bd.returns] at h; cases h)
    refine ⟨_, _, retN X165 hx (t := .boolean) Bd.returns (by simp) (hb hby at_76) hr, hrun, hended, _, _, rfl, ?_, ⟨_, rfl⟩, hW, hsame.mono (by decide) (by decide)⟩
    show Qrm0 Z p1 s_CREATED s_DELETED s_VALID s_CHANGED s_CONTENT s_BAD_REQUEST s_UNAUTHORIZED s_FORBIDDEN s_NOT_FOUND s_METHOD_NOT_ALLOWED s_REQUEST_TOO_LARGE s_UNPROCESSABLE_ENTITY s_INTERNAL_SERVER_ERROR s_NOT_IMPLEMENTED h0 n0 _ T165.heap _
    rw [eh165]
    exact ⟨rfl, N165⟩
  · rw [hk]
    show Go p.tables e below _ (s₁.setTop (mkF m 8 #[.val (.int p1), .val (.int (11 : Int32)), .unset, .unset, .unset, .unset, .unset] []))
    refine Go.step (fun _ kt => XS.iloadN X0.here hx rfl (hb hby at_8) rfl kt) ?_
    show Go p.tables e below _ (s₁.setTop (mkF m 9 #[.val (.int p1), .val (.int (11 : Int32)), .unset, .unset, .unset, .unset, .unset] [(.int (11 : Int32))]))
    obtain ⟨_, _, ⟨T167, L167, k167, n167⟩, -, X167, ⟨Lc167, hQ167, l167, y167, z167⟩, st167⟩ := Jvm.LawKit.callS X0 hx (y := (⟨"com/example/kenning/kenning/StatusIsErrorPinLaw", "pick", "(I)Lcom/example/kenning/kenning/Status;"⟩ : MethodName)) hown (mvT hZ (hw _ (List.mem_of_getElem? (i := 1) rfl))) (mvT hZ (hw _ (List.mem_of_getElem? (i := 2) rfl))) (mvT hZ (hw _ (List.mem_of_getElem? (i := 3) rfl))) (mvT hZ (hw _ (List.mem_of_getElem? (i := 4) rfl))) (by decide) (backOf (W := 0) (rm1 l Z a0 hw [] (11 : Int32) s_CREATED s_DELETED s_VALID s_CHANGED s_CONTENT s_BAD_REQUEST s_UNAUTHORIZED s_FORBIDDEN s_NOT_FOUND s_METHOD_NOT_ALLOWED s_REQUEST_TOO_LARGE s_UNPROCESSABLE_ENTITY s_INTERNAL_SERVER_ERROR s_NOT_IMPLEMENTED h0 n0 Z0 S_CREATED S_DELETED S_VALID S_CHANGED S_CONTENT S_BAD_REQUEST S_UNAUTHORIZED S_FORBIDDEN S_NOT_FOUND S_METHOD_NOT_ALLOWED S_REQUEST_TOO_LARGE S_UNPROCESSABLE_ENTITY S_INTERNAL_SERVER_ERROR S_NOT_IMPLEMENTED ) hZ (hw _ (List.mem_of_getElem? (i := 4) rfl)) (hw _ (List.mem_of_getElem? (i := 3) rfl)) (by decide) (by decide)) (g := (mkF m 9 #[.val (.int p1), .val (.int (11 : Int32)), .unset, .unset, .unset, .unset, .unset] [(.int (11 : Int32))])) rfl (by rw [hml]; rfl) (argsL := [(.int (11 : Int32))]) (rest := []) (lenOf pd_0 rfl) rfl (by show 2 * 0 + _ ≤ _; exact Nat.le_of_eq rfl) (hb hby at_9) (fun _ _ => ⟨rfl, e0, (by decide : 0 + 0 ≤ _), (by decide : 0 + 0 ≤ _)⟩)
    dsimp only [Pt.U, Pt.locs, Pt.cells, Pt.slots] at X167 l167 y167 z167 st167 hQ167
    subst l167 y167 z167
    obtain ⟨rfl, N167q, eh167⟩ := hQ167
    have N167 := Fr.app N0 N167q
    refine Go.step st167 ?_
    show Go p.tables e below _ (T167.setTop (mkF m 12 #[.val (.int p1), .val (.int (11 : Int32)), .unset, .unset, .unset, .unset, .unset] [(.ref (own_pick (11 : Int32) s_CREATED s_DELETED s_VALID s_CHANGED s_CONTENT s_BAD_REQUEST s_UNAUTHORIZED s_FORBIDDEN s_NOT_FOUND s_METHOD_NOT_ALLOWED s_REQUEST_TOO_LARGE s_UNPROCESSABLE_ENTITY s_INTERNAL_SERVER_ERROR s_NOT_IMPLEMENTED))]))
    have q168 : (own_pick (11 : Int32) s_CREATED s_DELETED s_VALID s_CHANGED s_CONTENT s_BAD_REQUEST s_UNAUTHORIZED s_FORBIDDEN s_NOT_FOUND s_METHOD_NOT_ALLOWED s_REQUEST_TOO_LARGE s_UNPROCESSABLE_ENTITY s_INTERNAL_SERVER_ERROR s_NOT_IMPLEMENTED) = s_UNPROCESSABLE_ENTITY := rfl
    rw [q168]
    show Go p.tables e below _ (T167.setTop (mkF m 12 #[.val (.int p1), .val (.int (11 : Int32)), .unset, .unset, .unset, .unset, .unset] [(.ref s_UNPROCESSABLE_ENTITY)]))
    refine Go.step (fun _ kt => XS.astoreN X167.here hx rfl (hb hby at_12) rfl rfl (l' := #[.val (.int p1), .val (.int (11 : Int32)), .val (.ref s_UNPROCESSABLE_ENTITY), .unset, .unset, .unset, .unset]) rfl kt) ?_
    show Go p.tables e below _ (T167.setTop (mkF m 13 #[.val (.int p1), .val (.int (11 : Int32)), .val (.ref s_UNPROCESSABLE_ENTITY), .unset, .unset, .unset, .unset] []))
    refine Go.step (fun _ kt => XS.iloadN X167.here hx rfl (hb hby at_13) rfl kt) ?_
    show Go p.tables e below _ (T167.setTop (mkF m 14 #[.val (.int p1), .val (.int (11 : Int32)), .val (.ref s_UNPROCESSABLE_ENTITY), .unset, .unset, .unset, .unset] [(.int (11 : Int32))]))
    refine Go.step (fun _ kt => XS.iconst X167.here hx rfl (hb hby at_14) kt) ?_
    show Go p.tables e below _ (T167.setTop (mkF m 15 #[.val (.int p1), .val (.int (11 : Int32)), .val (.ref s_UNPROCESSABLE_ENTITY), .unset, .unset, .unset, .unset] [(.int (5 : Int32)), (.int (11 : Int32))]))
    refine Go.step (fun _ kt => XS.icmpNo X167.here hx rfl (hb hby at_15) rfl (flt (by decide : ¬ ((11 : Int32) < (5 : Int32)))).1 kt) ?_
    show Go p.tables e below _ (T167.setTop (mkF m 18 #[.val (.int p1), .val (.int (11 : Int32)), .val (.ref s_UNPROCESSABLE_ENTITY), .unset, .unset, .unset, .unset] []))
    refine Go.step (fun _ kt => XS.iconst X167.here hx rfl (hb hby at_18) kt) ?_
    show Go p.tables e below _ (T167.setTop (mkF m 19 #[.val (.int p1), .val (.int (11 : Int32)), .val (.ref s_UNPROCESSABLE_ENTITY), .unset, .unset, .unset, .unset] [(.int (1 : Int32))]))
    refine Go.step (fun _ kt => XS.goto X167.here hx rfl (pc0 := 19) (pc' := 23) rfl (hb hby at_19) (by decide) (by decide) kt) ?_
    show Go p.tables e below _ (T167.setTop (mkF m 23 #[.val (.int p1), .val (.int (11 : Int32)), .val (.ref s_UNPROCESSABLE_ENTITY), .unset, .unset, .unset, .unset] [(.int (1 : Int32))]))
    refine Go.step (fun _ kt => XS.istoreN X167.here hx rfl (hb hby at_23) rfl (l' := #[.val (.int p1), .val (.int (11 : Int32)), .val (.ref s_UNPROCESSABLE_ENTITY), .val (.int (1 : Int32)), .unset, .unset, .unset]) rfl kt) ?_
    show Go p.tables e below _ (T167.setTop (mkF m 24 #[.val (.int p1), .val (.int (11 : Int32)), .val (.ref s_UNPROCESSABLE_ENTITY), .val (.int (1 : Int32)), .unset, .unset, .unset] []))
    refine Go.step (fun _ kt => XS.aloadN X167.here hx rfl (hb hby at_24) rfl rfl kt) ?_
    show Go p.tables e below _ (T167.setTop (mkF m 25 #[.val (.int p1), .val (.int (11 : Int32)), .val (.ref s_UNPROCESSABLE_ENTITY), .val (.int (1 : Int32)), .unset, .unset, .unset] [(.ref s_UNPROCESSABLE_ENTITY)]))
    obtain ⟨cq169, kq169, q169a, q169b, q169c⟩ := isOf hZ eh167 E_UNPROCESSABLE_ENTITY
    obtain ⟨_, _, ⟨T169, L169, k169, n169⟩, -, X169, ⟨Lc169, hQ169, l169, y169, z169⟩, st169⟩ := X167.virtualBack hx (y := (⟨"com/example/kenning/kenning/Status", "code", "()I"⟩ : MethodName)) (z := (⟨"com/example/kenning/kenning/Status", "code", "()I"⟩ : MethodName)) hown (mvT hZ (hw _ (List.mem_of_getElem? (i := 8) rfl))) (mvT hZ (hw _ (List.mem_of_getElem? (i := 9) rfl))) (notFace_of_selects (args := #[]) (mvT hZ (hw _ (List.mem_of_getElem? (i := 11) rfl)))) (mvT hZ (hw _ (List.mem_of_getElem? (i := 11) rfl))) (mvT hZ (hw _ (List.mem_of_getElem? (i := 10) rfl))) (by decide) (backOf (W := 0) (rm2 l Z a0 hw [] s_UNPROCESSABLE_ENTITY (182 : Int32) h0 n0 Z0 F_UNPROCESSABLE_ENTITY_code ) hZ (hw _ (List.mem_of_getElem? (i := 12) rfl)) (hw _ (List.mem_of_getElem? (i := 6) rfl)) (by decide) (by decide)) q169a q169c (g := (mkF m 25 #[.val (.int p1), .val (.int (11 : Int32)), .val (.ref s_UNPROCESSABLE_ENTITY), .val (.int (1 : Int32)), .unset, .unset, .unset] [(.ref s_UNPROCESSABLE_ENTITY)])) rfl (by rw [hml]; rfl) (Steps.refl _) (argsL := []) (rest := []) (lenOf pd_1 rfl) rfl (by show 2 * 0 + _ ≤ _; exact Nat.le_of_eq rfl) (hb hby at_25) (fun _ _ => ⟨rfl, eh167, (by decide : 0 + 0 ≤ _), (by decide : 0 + 0 ≤ _)⟩)
    dsimp only [Pt.U, Pt.locs, Pt.cells, Pt.slots] at X169 l169 y169 z169 st169 hQ169
    subst l169 y169 z169
    obtain ⟨rfl, N169q, eh169⟩ := hQ169
    have N169 := Fr.app N167 N169q
    refine Go.step (fun _ kt => st169.trans kt) ?_
    show Go p.tables e below _ (T169.setTop (mkF m 28 #[.val (.int p1), .val (.int (11 : Int32)), .val (.ref s_UNPROCESSABLE_ENTITY), .val (.int (1 : Int32)), .unset, .unset, .unset] [(.int (182 : Int32))]))
    refine Go.step (fun _ kt => XS.iconst X169.here hx rfl (hb hby at_28) kt) ?_
    show Go p.tables e below _ (T169.setTop (mkF m 29 #[.val (.int p1), .val (.int (11 : Int32)), .val (.ref s_UNPROCESSABLE_ENTITY), .val (.int (1 : Int32)), .unset, .unset, .unset] [(.int (5 : Int32)), (.int (182 : Int32))]))
    refine Go.step (fun _ kt => XS.ishr X169.here hx rfl (hb hby at_29) rfl kt) ?_
    show Go p.tables e below _ (T169.setTop (mkF m 30 #[.val (.int p1), .val (.int (11 : Int32)), .val (.ref s_UNPROCESSABLE_ENTITY), .val (.int (1 : Int32)), .unset, .unset, .unset] [(.int ((182 : Int32) >>> ((5 : Int32) &&& 31)))]))
    have q170 : ((182 : Int32) >>> ((5 : Int32) &&& 31)) = (5 : Int32) := by decide
    rw [q170]
    show Go p.tables e below _ (T169.setTop (mkF m 30 #[.val (.int p1), .val (.int (11 : Int32)), .val (.ref s_UNPROCESSABLE_ENTITY), .val (.int (1 : Int32)), .unset, .unset, .unset] [(.int (5 : Int32))]))
    refine Go.step (fun _ kt => XS.istore X169.here hx rfl (hb hby at_30) rfl (l' := #[.val (.int p1), .val (.int (11 : Int32)), .val (.ref s_UNPROCESSABLE_ENTITY), .val (.int (1 : Int32)), .val (.int (5 : Int32)), .unset, .unset]) rfl kt) ?_
    show Go p.tables e below _ (T169.setTop (mkF m 32 #[.val (.int p1), .val (.int (11 : Int32)), .val (.ref s_UNPROCESSABLE_ENTITY), .val (.int (1 : Int32)), .val (.int (5 : Int32)), .unset, .unset] []))
    refine Go.step (fun _ kt => XS.iload X169.here hx rfl (hb hby at_32) rfl kt) ?_
    show Go p.tables e below _ (T169.setTop (mkF m 34 #[.val (.int p1), .val (.int (11 : Int32)), .val (.ref s_UNPROCESSABLE_ENTITY), .val (.int (1 : Int32)), .val (.int (5 : Int32)), .unset, .unset] [(.int (5 : Int32))]))
    refine Go.step (fun _ kt => XS.iconst X169.here hx rfl (hb hby at_34) kt) ?_
    show Go p.tables e below _ (T169.setTop (mkF m 35 #[.val (.int p1), .val (.int (11 : Int32)), .val (.ref s_UNPROCESSABLE_ENTITY), .val (.int (1 : Int32)), .val (.int (5 : Int32)), .unset, .unset] [(.int (5 : Int32)), (.int (5 : Int32))]))
    refine Go.step (fun _ kt => XS.icmpYes X169.here hx rfl (pc0 := 35) (pc' := 45) rfl (hb hby at_35) rfl (teq (by decide : (5 : Int32) = (5 : Int32))).1 (by decide) (by decide) kt) ?_
    show Go p.tables e below _ (T169.setTop (mkF m 45 #[.val (.int p1), .val (.int (11 : Int32)), .val (.ref s_UNPROCESSABLE_ENTITY), .val (.int (1 : Int32)), .val (.int (5 : Int32)), .unset, .unset] []))
    refine Go.step (fun _ kt => XS.iconst X169.here hx rfl (hb hby at_45) kt) ?_
    show Go p.tables e below _ (T169.setTop (mkF m 46 #[.val (.int p1), .val (.int (11 : Int32)), .val (.ref s_UNPROCESSABLE_ENTITY), .val (.int (1 : Int32)), .val (.int (5 : Int32)), .unset, .unset] [(.int (1 : Int32))]))
    refine Go.step (fun _ kt => XS.goto X169.here hx rfl (pc0 := 46) (pc' := 50) rfl (hb hby at_46) (by decide) (by decide) kt) ?_
    show Go p.tables e below _ (T169.setTop (mkF m 50 #[.val (.int p1), .val (.int (11 : Int32)), .val (.ref s_UNPROCESSABLE_ENTITY), .val (.int (1 : Int32)), .val (.int (5 : Int32)), .unset, .unset] [(.int (1 : Int32))]))
    refine Go.step (fun _ kt => XS.istore X169.here hx rfl (hb hby at_50) rfl (l' := #[.val (.int p1), .val (.int (11 : Int32)), .val (.ref s_UNPROCESSABLE_ENTITY), .val (.int (1 : Int32)), .val (.int (5 : Int32)), .val (.int (1 : Int32)), .unset]) rfl kt) ?_
    show Go p.tables e below _ (T169.setTop (mkF m 52 #[.val (.int p1), .val (.int (11 : Int32)), .val (.ref s_UNPROCESSABLE_ENTITY), .val (.int (1 : Int32)), .val (.int (5 : Int32)), .val (.int (1 : Int32)), .unset] []))
    refine Go.step (fun _ kt => XS.aloadN X169.here hx rfl (hb hby at_52) rfl rfl kt) ?_
    show Go p.tables e below _ (T169.setTop (mkF m 53 #[.val (.int p1), .val (.int (11 : Int32)), .val (.ref s_UNPROCESSABLE_ENTITY), .val (.int (1 : Int32)), .val (.int (5 : Int32)), .val (.int (1 : Int32)), .unset] [(.ref s_UNPROCESSABLE_ENTITY)]))
    obtain ⟨cq171, kq171, q171a, q171b, q171c⟩ := isOf hZ eh169 E_UNPROCESSABLE_ENTITY
    obtain ⟨_, _, ⟨T171, L171, k171, n171⟩, -, X171, ⟨Lc171, hQ171, l171, y171, z171⟩, st171⟩ := X169.virtualBack hx (y := (⟨"com/example/kenning/kenning/Status", "isError", "()Z"⟩ : MethodName)) (z := (⟨"com/example/kenning/kenning/Status", "isError", "()Z"⟩ : MethodName)) hown (mvT hZ (hw _ (List.mem_of_getElem? (i := 15) rfl))) (mvT hZ (hw _ (List.mem_of_getElem? (i := 16) rfl))) (notFace_of_selects (args := #[]) (mvT hZ (hw _ (List.mem_of_getElem? (i := 18) rfl)))) (mvT hZ (hw _ (List.mem_of_getElem? (i := 18) rfl))) (mvT hZ (hw _ (List.mem_of_getElem? (i := 17) rfl))) (by decide) (backOf (W := 0) (rm3 l Z a0 hw [] s_UNPROCESSABLE_ENTITY (182 : Int32) h0 n0 Z0 F_UNPROCESSABLE_ENTITY_code ) hZ (hw _ (List.mem_of_getElem? (i := 19) rfl)) (hw _ (List.mem_of_getElem? (i := 6) rfl)) (by decide) (by decide)) q171a q171c (g := (mkF m 53 #[.val (.int p1), .val (.int (11 : Int32)), .val (.ref s_UNPROCESSABLE_ENTITY), .val (.int (1 : Int32)), .val (.int (5 : Int32)), .val (.int (1 : Int32)), .unset] [(.ref s_UNPROCESSABLE_ENTITY)])) rfl (by rw [hml]; rfl) (Steps.refl _) (argsL := []) (rest := []) (lenOf pd_2 rfl) rfl (by show 2 * 0 + _ ≤ _; exact Nat.le_of_eq rfl) (hb hby at_53) (fun _ _ => ⟨rfl, eh169, (by decide : 0 + 0 ≤ _), (by decide : 0 + 0 ≤ _)⟩)
    dsimp only [Pt.U, Pt.locs, Pt.cells, Pt.slots] at X171 l171 y171 z171 st171 hQ171
    subst l171 y171 z171
    obtain ⟨rfl, N171q, eh171⟩ := hQ171
    have N171 := Fr.app N169 N171q
    refine Go.step (fun _ kt => st171.trans kt) ?_
    show Go p.tables e below _ (T171.setTop (mkF m 56 #[.val (.int p1), .val (.int (11 : Int32)), .val (.ref s_UNPROCESSABLE_ENTITY), .val (.int (1 : Int32)), .val (.int (5 : Int32)), .val (.int (1 : Int32)), .unset] [(.int (own_err (182 : Int32)))]))
    have q172 : (own_err (182 : Int32)) = (1 : Int32) := by decide
    rw [q172]
    show Go p.tables e below _ (T171.setTop (mkF m 56 #[.val (.int p1), .val (.int (11 : Int32)), .val (.ref s_UNPROCESSABLE_ENTITY), .val (.int (1 : Int32)), .val (.int (5 : Int32)), .val (.int (1 : Int32)), .unset] [(.int (1 : Int32))]))
    refine Go.step (fun _ kt => XS.istore X171.here hx rfl (hb hby at_56) rfl (l' := #[.val (.int p1), .val (.int (11 : Int32)), .val (.ref s_UNPROCESSABLE_ENTITY), .val (.int (1 : Int32)), .val (.int (5 : Int32)), .val (.int (1 : Int32)), .val (.int (1 : Int32))]) rfl kt) ?_
    show Go p.tables e below _ (T171.setTop (mkF m 58 #[.val (.int p1), .val (.int (11 : Int32)), .val (.ref s_UNPROCESSABLE_ENTITY), .val (.int (1 : Int32)), .val (.int (5 : Int32)), .val (.int (1 : Int32)), .val (.int (1 : Int32))] []))
    refine Go.step (fun _ kt => XS.iload X171.here hx rfl (hb hby at_58) rfl kt) ?_
    show Go p.tables e below _ (T171.setTop (mkF m 60 #[.val (.int p1), .val (.int (11 : Int32)), .val (.ref s_UNPROCESSABLE_ENTITY), .val (.int (1 : Int32)), .val (.int (5 : Int32)), .val (.int (1 : Int32)), .val (.int (1 : Int32))] [(.int (1 : Int32))]))
    refine Go.step (fun _ kt => XS.iloadN X171.here hx rfl (hb hby at_60) rfl kt) ?_
    show Go p.tables e below _ (T171.setTop (mkF m 61 #[.val (.int p1), .val (.int (11 : Int32)), .val (.ref s_UNPROCESSABLE_ENTITY), .val (.int (1 : Int32)), .val (.int (5 : Int32)), .val (.int (1 : Int32)), .val (.int (1 : Int32))] [(.int (1 : Int32)), (.int (1 : Int32))]))
    refine Go.step (fun _ kt => XS.icmpNo X171.here hx rfl (hb hby at_61) rfl (teq (by decide : (1 : Int32) = (1 : Int32))).2 kt) ?_
    show Go p.tables e below _ (T171.setTop (mkF m 64 #[.val (.int p1), .val (.int (11 : Int32)), .val (.ref s_UNPROCESSABLE_ENTITY), .val (.int (1 : Int32)), .val (.int (5 : Int32)), .val (.int (1 : Int32)), .val (.int (1 : Int32))] []))
    refine Go.step (fun _ kt => XS.iload X171.here hx rfl (hb hby at_64) rfl kt) ?_
    show Go p.tables e below _ (T171.setTop (mkF m 66 #[.val (.int p1), .val (.int (11 : Int32)), .val (.ref s_UNPROCESSABLE_ENTITY), .val (.int (1 : Int32)), .val (.int (5 : Int32)), .val (.int (1 : Int32)), .val (.int (1 : Int32))] [(.int (1 : Int32))]))
    refine Go.step (fun _ kt => XS.iload X171.here hx rfl (hb hby at_66) rfl kt) ?_
    show Go p.tables e below _ (T171.setTop (mkF m 68 #[.val (.int p1), .val (.int (11 : Int32)), .val (.ref s_UNPROCESSABLE_ENTITY), .val (.int (1 : Int32)), .val (.int (5 : Int32)), .val (.int (1 : Int32)), .val (.int (1 : Int32))] [(.int (1 : Int32)), (.int (1 : Int32))]))
    refine Go.step (fun _ kt => XS.icmpNo X171.here hx rfl (hb hby at_68) rfl (teq (by decide : (1 : Int32) = (1 : Int32))).2 kt) ?_
    show Go p.tables e below _ (T171.setTop (mkF m 71 #[.val (.int p1), .val (.int (11 : Int32)), .val (.ref s_UNPROCESSABLE_ENTITY), .val (.int (1 : Int32)), .val (.int (5 : Int32)), .val (.int (1 : Int32)), .val (.int (1 : Int32))] []))
    refine Go.step (fun _ kt => XS.iconst X171.here hx rfl (hb hby at_71) kt) ?_
    show Go p.tables e below _ (T171.setTop (mkF m 72 #[.val (.int p1), .val (.int (11 : Int32)), .val (.ref s_UNPROCESSABLE_ENTITY), .val (.int (1 : Int32)), .val (.int (5 : Int32)), .val (.int (1 : Int32)), .val (.int (1 : Int32))] [(.int (1 : Int32))]))
    refine Go.step (fun _ kt => XS.goto X171.here hx rfl (pc0 := 72) (pc' := 76) rfl (hb hby at_72) (by decide) (by decide) kt) ?_
    show Go p.tables e below _ (T171.setTop (mkF m 76 #[.val (.int p1), .val (.int (11 : Int32)), .val (.ref s_UNPROCESSABLE_ENTITY), .val (.int (1 : Int32)), .val (.int (5 : Int32)), .val (.int (1 : Int32)), .val (.int (1 : Int32))] [(.int (1 : Int32))]))
    obtain ⟨fs, hr, hrun, hended, hW, hsame⟩ := X171.leave (v := some (.int (1 : Int32))) (fun h => by rw [Bd.returns] at h; cases h)
    refine ⟨_, _, retN X171 hx (t := .boolean) Bd.returns (by simp) (hb hby at_76) hr, hrun, hended, _, _, rfl, ?_, ⟨_, rfl⟩, hW, hsame.mono (by decide) (by decide)⟩
    show Qrm0 Z p1 s_CREATED s_DELETED s_VALID s_CHANGED s_CONTENT s_BAD_REQUEST s_UNAUTHORIZED s_FORBIDDEN s_NOT_FOUND s_METHOD_NOT_ALLOWED s_REQUEST_TOO_LARGE s_UNPROCESSABLE_ENTITY s_INTERNAL_SERVER_ERROR s_NOT_IMPLEMENTED h0 n0 _ T171.heap _
    rw [eh171]
    exact ⟨rfl, N171⟩
  · rw [hk]
    show Go p.tables e below _ (s₁.setTop (mkF m 8 #[.val (.int p1), .val (.int (12 : Int32)), .unset, .unset, .unset, .unset, .unset] []))
    refine Go.step (fun _ kt => XS.iloadN X0.here hx rfl (hb hby at_8) rfl kt) ?_
    show Go p.tables e below _ (s₁.setTop (mkF m 9 #[.val (.int p1), .val (.int (12 : Int32)), .unset, .unset, .unset, .unset, .unset] [(.int (12 : Int32))]))
    obtain ⟨_, _, ⟨T173, L173, k173, n173⟩, -, X173, ⟨Lc173, hQ173, l173, y173, z173⟩, st173⟩ := Jvm.LawKit.callS X0 hx (y := (⟨"com/example/kenning/kenning/StatusIsErrorPinLaw", "pick", "(I)Lcom/example/kenning/kenning/Status;"⟩ : MethodName)) hown (mvT hZ (hw _ (List.mem_of_getElem? (i := 1) rfl))) (mvT hZ (hw _ (List.mem_of_getElem? (i := 2) rfl))) (mvT hZ (hw _ (List.mem_of_getElem? (i := 3) rfl))) (mvT hZ (hw _ (List.mem_of_getElem? (i := 4) rfl))) (by decide) (backOf (W := 0) (rm1 l Z a0 hw [] (12 : Int32) s_CREATED s_DELETED s_VALID s_CHANGED s_CONTENT s_BAD_REQUEST s_UNAUTHORIZED s_FORBIDDEN s_NOT_FOUND s_METHOD_NOT_ALLOWED s_REQUEST_TOO_LARGE s_UNPROCESSABLE_ENTITY s_INTERNAL_SERVER_ERROR s_NOT_IMPLEMENTED h0 n0 Z0 S_CREATED S_DELETED S_VALID S_CHANGED S_CONTENT S_BAD_REQUEST S_UNAUTHORIZED S_FORBIDDEN S_NOT_FOUND S_METHOD_NOT_ALLOWED S_REQUEST_TOO_LARGE S_UNPROCESSABLE_ENTITY S_INTERNAL_SERVER_ERROR S_NOT_IMPLEMENTED ) hZ (hw _ (List.mem_of_getElem? (i := 4) rfl)) (hw _ (List.mem_of_getElem? (i := 3) rfl)) (by decide) (by decide)) (g := (mkF m 9 #[.val (.int p1), .val (.int (12 : Int32)), .unset, .unset, .unset, .unset, .unset] [(.int (12 : Int32))])) rfl (by rw [hml]; rfl) (argsL := [(.int (12 : Int32))]) (rest := []) (lenOf pd_0 rfl) rfl (by show 2 * 0 + _ ≤ _; exact Nat.le_of_eq rfl) (hb hby at_9) (fun _ _ => ⟨rfl, e0, (by decide : 0 + 0 ≤ _), (by decide : 0 + 0 ≤ _)⟩)
    dsimp only [Pt.U, Pt.locs, Pt.cells, Pt.slots] at X173 l173 y173 z173 st173 hQ173
    subst l173 y173 z173
    obtain ⟨rfl, N173q, eh173⟩ := hQ173
    have N173 := Fr.app N0 N173q
    refine Go.step st173 ?_
    show Go p.tables e below _ (T173.setTop (mkF m 12 #[.val (.int p1), .val (.int (12 : Int32)), .unset, .unset, .unset, .unset, .unset] [(.ref (own_pick (12 : Int32) s_CREATED s_DELETED s_VALID s_CHANGED s_CONTENT s_BAD_REQUEST s_UNAUTHORIZED s_FORBIDDEN s_NOT_FOUND s_METHOD_NOT_ALLOWED s_REQUEST_TOO_LARGE s_UNPROCESSABLE_ENTITY s_INTERNAL_SERVER_ERROR s_NOT_IMPLEMENTED))]))
    have q174 : (own_pick (12 : Int32) s_CREATED s_DELETED s_VALID s_CHANGED s_CONTENT s_BAD_REQUEST s_UNAUTHORIZED s_FORBIDDEN s_NOT_FOUND s_METHOD_NOT_ALLOWED s_REQUEST_TOO_LARGE s_UNPROCESSABLE_ENTITY s_INTERNAL_SERVER_ERROR s_NOT_IMPLEMENTED) = s_INTERNAL_SERVER_ERROR := rfl
    rw [q174]
    show Go p.tables e below _ (T173.setTop (mkF m 12 #[.val (.int p1), .val (.int (12 : Int32)), .unset, .unset, .unset, .unset, .unset] [(.ref s_INTERNAL_SERVER_ERROR)]))
    refine Go.step (fun _ kt => XS.astoreN X173.here hx rfl (hb hby at_12) rfl rfl (l' := #[.val (.int p1), .val (.int (12 : Int32)), .val (.ref s_INTERNAL_SERVER_ERROR), .unset, .unset, .unset, .unset]) rfl kt) ?_
    show Go p.tables e below _ (T173.setTop (mkF m 13 #[.val (.int p1), .val (.int (12 : Int32)), .val (.ref s_INTERNAL_SERVER_ERROR), .unset, .unset, .unset, .unset] []))
    refine Go.step (fun _ kt => XS.iloadN X173.here hx rfl (hb hby at_13) rfl kt) ?_
    show Go p.tables e below _ (T173.setTop (mkF m 14 #[.val (.int p1), .val (.int (12 : Int32)), .val (.ref s_INTERNAL_SERVER_ERROR), .unset, .unset, .unset, .unset] [(.int (12 : Int32))]))
    refine Go.step (fun _ kt => XS.iconst X173.here hx rfl (hb hby at_14) kt) ?_
    show Go p.tables e below _ (T173.setTop (mkF m 15 #[.val (.int p1), .val (.int (12 : Int32)), .val (.ref s_INTERNAL_SERVER_ERROR), .unset, .unset, .unset, .unset] [(.int (5 : Int32)), (.int (12 : Int32))]))
    refine Go.step (fun _ kt => XS.icmpNo X173.here hx rfl (hb hby at_15) rfl (flt (by decide : ¬ ((12 : Int32) < (5 : Int32)))).1 kt) ?_
    show Go p.tables e below _ (T173.setTop (mkF m 18 #[.val (.int p1), .val (.int (12 : Int32)), .val (.ref s_INTERNAL_SERVER_ERROR), .unset, .unset, .unset, .unset] []))
    refine Go.step (fun _ kt => XS.iconst X173.here hx rfl (hb hby at_18) kt) ?_
    show Go p.tables e below _ (T173.setTop (mkF m 19 #[.val (.int p1), .val (.int (12 : Int32)), .val (.ref s_INTERNAL_SERVER_ERROR), .unset, .unset, .unset, .unset] [(.int (1 : Int32))]))
    refine Go.step (fun _ kt => XS.goto X173.here hx rfl (pc0 := 19) (pc' := 23) rfl (hb hby at_19) (by decide) (by decide) kt) ?_
    show Go p.tables e below _ (T173.setTop (mkF m 23 #[.val (.int p1), .val (.int (12 : Int32)), .val (.ref s_INTERNAL_SERVER_ERROR), .unset, .unset, .unset, .unset] [(.int (1 : Int32))]))
    refine Go.step (fun _ kt => XS.istoreN X173.here hx rfl (hb hby at_23) rfl (l' := #[.val (.int p1), .val (.int (12 : Int32)), .val (.ref s_INTERNAL_SERVER_ERROR), .val (.int (1 : Int32)), .unset, .unset, .unset]) rfl kt) ?_
    show Go p.tables e below _ (T173.setTop (mkF m 24 #[.val (.int p1), .val (.int (12 : Int32)), .val (.ref s_INTERNAL_SERVER_ERROR), .val (.int (1 : Int32)), .unset, .unset, .unset] []))
    refine Go.step (fun _ kt => XS.aloadN X173.here hx rfl (hb hby at_24) rfl rfl kt) ?_
    show Go p.tables e below _ (T173.setTop (mkF m 25 #[.val (.int p1), .val (.int (12 : Int32)), .val (.ref s_INTERNAL_SERVER_ERROR), .val (.int (1 : Int32)), .unset, .unset, .unset] [(.ref s_INTERNAL_SERVER_ERROR)]))
    obtain ⟨cq175, kq175, q175a, q175b, q175c⟩ := isOf hZ eh173 E_INTERNAL_SERVER_ERROR
    obtain ⟨_, _, ⟨T175, L175, k175, n175⟩, -, X175, ⟨Lc175, hQ175, l175, y175, z175⟩, st175⟩ := X173.virtualBack hx (y := (⟨"com/example/kenning/kenning/Status", "code", "()I"⟩ : MethodName)) (z := (⟨"com/example/kenning/kenning/Status", "code", "()I"⟩ : MethodName)) hown (mvT hZ (hw _ (List.mem_of_getElem? (i := 8) rfl))) (mvT hZ (hw _ (List.mem_of_getElem? (i := 9) rfl))) (notFace_of_selects (args := #[]) (mvT hZ (hw _ (List.mem_of_getElem? (i := 11) rfl)))) (mvT hZ (hw _ (List.mem_of_getElem? (i := 11) rfl))) (mvT hZ (hw _ (List.mem_of_getElem? (i := 10) rfl))) (by decide) (backOf (W := 0) (rm2 l Z a0 hw [] s_INTERNAL_SERVER_ERROR (192 : Int32) h0 n0 Z0 F_INTERNAL_SERVER_ERROR_code ) hZ (hw _ (List.mem_of_getElem? (i := 12) rfl)) (hw _ (List.mem_of_getElem? (i := 6) rfl)) (by decide) (by decide)) q175a q175c (g := (mkF m 25 #[.val (.int p1), .val (.int (12 : Int32)), .val (.ref s_INTERNAL_SERVER_ERROR), .val (.int (1 : Int32)), .unset, .unset, .unset] [(.ref s_INTERNAL_SERVER_ERROR)])) rfl (by rw [hml]; rfl) (Steps.refl _) (argsL := []) (rest := []) (lenOf pd_1 rfl) rfl (by show 2 * 0 + _ ≤ _; exact Nat.le_of_eq rfl) (hb hby at_25) (fun _ _ => ⟨rfl, eh173, (by decide : 0 + 0 ≤ _), (by decide : 0 + 0 ≤ _)⟩)
    dsimp only [Pt.U, Pt.locs, Pt.cells, Pt.slots] at X175 l175 y175 z175 st175 hQ175
    subst l175 y175 z175
    obtain ⟨rfl, N175q, eh175⟩ := hQ175
    have N175 := Fr.app N173 N175q
    refine Go.step (fun _ kt => st175.trans kt) ?_
    show Go p.tables e below _ (T175.setTop (mkF m 28 #[.val (.int p1), .val (.int (12 : Int32)), .val (.ref s_INTERNAL_SERVER_ERROR), .val (.int (1 : Int32)), .unset, .unset, .unset] [(.int (192 : Int32))]))
    refine Go.step (fun _ kt => XS.iconst X175.here hx rfl (hb hby at_28) kt) ?_
    show Go p.tables e below _ (T175.setTop (mkF m 29 #[.val (.int p1), .val (.int (12 : Int32)), .val (.ref s_INTERNAL_SERVER_ERROR), .val (.int (1 : Int32)), .unset, .unset, .unset] [(.int (5 : Int32)), (.int (192 : Int32))]))
    refine Go.step (fun _ kt => XS.ishr X175.here hx rfl (hb hby at_29) rfl kt) ?_
    show Go p.tables e below _ (T175.setTop (mkF m 30 #[.val (.int p1), .val (.int (12 : Int32)), .val (.ref s_INTERNAL_SERVER_ERROR), .val (.int (1 : Int32)), .unset, .unset, .unset] [(.int ((192 : Int32) >>> ((5 : Int32) &&& 31)))]))
    have q176 : ((192 : Int32) >>> ((5 : Int32) &&& 31)) = (6 : Int32) := by decide
    rw [q176]
    show Go p.tables e below _ (T175.setTop (mkF m 30 #[.val (.int p1), .val (.int (12 : Int32)), .val (.ref s_INTERNAL_SERVER_ERROR), .val (.int (1 : Int32)), .unset, .unset, .unset] [(.int (6 : Int32))]))
    refine Go.step (fun _ kt => XS.istore X175.here hx rfl (hb hby at_30) rfl (l' := #[.val (.int p1), .val (.int (12 : Int32)), .val (.ref s_INTERNAL_SERVER_ERROR), .val (.int (1 : Int32)), .val (.int (6 : Int32)), .unset, .unset]) rfl kt) ?_
    show Go p.tables e below _ (T175.setTop (mkF m 32 #[.val (.int p1), .val (.int (12 : Int32)), .val (.ref s_INTERNAL_SERVER_ERROR), .val (.int (1 : Int32)), .val (.int (6 : Int32)), .unset, .unset] []))
    refine Go.step (fun _ kt => XS.iload X175.here hx rfl (hb hby at_32) rfl kt) ?_
    show Go p.tables e below _ (T175.setTop (mkF m 34 #[.val (.int p1), .val (.int (12 : Int32)), .val (.ref s_INTERNAL_SERVER_ERROR), .val (.int (1 : Int32)), .val (.int (6 : Int32)), .unset, .unset] [(.int (6 : Int32))]))
    refine Go.step (fun _ kt => XS.iconst X175.here hx rfl (hb hby at_34) kt) ?_
    show Go p.tables e below _ (T175.setTop (mkF m 35 #[.val (.int p1), .val (.int (12 : Int32)), .val (.ref s_INTERNAL_SERVER_ERROR), .val (.int (1 : Int32)), .val (.int (6 : Int32)), .unset, .unset] [(.int (5 : Int32)), (.int (6 : Int32))]))
    refine Go.step (fun _ kt => XS.icmpNo X175.here hx rfl (hb hby at_35) rfl (feq (by decide : ¬ ((6 : Int32) = (5 : Int32)))).1 kt) ?_
    show Go p.tables e below _ (T175.setTop (mkF m 38 #[.val (.int p1), .val (.int (12 : Int32)), .val (.ref s_INTERNAL_SERVER_ERROR), .val (.int (1 : Int32)), .val (.int (6 : Int32)), .unset, .unset] []))
    refine Go.step (fun _ kt => XS.iload X175.here hx rfl (hb hby at_38) rfl kt) ?_
    show Go p.tables e below _ (T175.setTop (mkF m 40 #[.val (.int p1), .val (.int (12 : Int32)), .val (.ref s_INTERNAL_SERVER_ERROR), .val (.int (1 : Int32)), .val (.int (6 : Int32)), .unset, .unset] [(.int (6 : Int32))]))
    refine Go.step (fun _ kt => XS.bipush X175.here hx rfl (hb hby at_40) kt) ?_
    show Go p.tables e below _ (T175.setTop (mkF m 42 #[.val (.int p1), .val (.int (12 : Int32)), .val (.ref s_INTERNAL_SERVER_ERROR), .val (.int (1 : Int32)), .val (.int (6 : Int32)), .unset, .unset] [(.int (6 : Int32)), (.int (6 : Int32))]))
    refine Go.step (fun _ kt => XS.icmpNo X175.here hx rfl (hb hby at_42) rfl (teq (by decide : (6 : Int32) = (6 : Int32))).2 kt) ?_
    show Go p.tables e below _ (T175.setTop (mkF m 45 #[.val (.int p1), .val (.int (12 : Int32)), .val (.ref s_INTERNAL_SERVER_ERROR), .val (.int (1 : Int32)), .val (.int (6 : Int32)), .unset, .unset] []))
    refine Go.step (fun _ kt => XS.iconst X175.here hx rfl (hb hby at_45) kt) ?_
    show Go p.tables e below _ (T175.setTop (mkF m 46 #[.val (.int p1), .val (.int (12 : Int32)), .val (.ref s_INTERNAL_SERVER_ERROR), .val (.int (1 : Int32)), .val (.int (6 : Int32)), .unset, .unset] [(.int (1 : Int32))]))
    refine Go.step (fun _ kt => XS.goto X175.here hx rfl (pc0 := 46) (pc' := 50) rfl (hb hby at_46) (by decide) (by decide) kt) ?_
    show Go p.tables e below _ (T175.setTop (mkF m 50 #[.val (.int p1), .val (.int (12 : Int32)), .val (.ref s_INTERNAL_SERVER_ERROR), .val (.int (1 : Int32)), .val (.int (6 : Int32)), .unset, .unset] [(.int (1 : Int32))]))
    refine Go.step (fun _ kt => XS.istore X175.here hx rfl (hb hby at_50) rfl (l' := #[.val (.int p1), .val (.int (12 : Int32)), .val (.ref s_INTERNAL_SERVER_ERROR), .val (.int (1 : Int32)), .val (.int (6 : Int32)), .val (.int (1 : Int32)), .unset]) rfl kt) ?_
    show Go p.tables e below _ (T175.setTop (mkF m 52 #[.val (.int p1), .val (.int (12 : Int32)), .val (.ref s_INTERNAL_SERVER_ERROR), .val (.int (1 : Int32)), .val (.int (6 : Int32)), .val (.int (1 : Int32)), .unset] []))
    refine Go.step (fun _ kt => XS.aloadN X175.here hx rfl (hb hby at_52) rfl rfl kt) ?_
    show Go p.tables e below _ (T175.setTop (mkF m 53 #[.val (.int p1), .val (.int (12 : Int32)), .val (.ref s_INTERNAL_SERVER_ERROR), .val (.int (1 : Int32)), .val (.int (6 : Int32)), .val (.int (1 : Int32)), .unset] [(.ref s_INTERNAL_SERVER_ERROR)]))
    obtain ⟨cq177, kq177, q177a, q177b, q177c⟩ := isOf hZ eh175 E_INTERNAL_SERVER_ERROR
    obtain ⟨_, _, ⟨T177, L177, k177, n177⟩, -, X177, ⟨Lc177, hQ177, l177, y177, z177⟩, st177⟩ := X175.virtualBack hx (y := (⟨"com/example/kenning/kenning/Status", "isError", "()Z"⟩ : MethodName)) (z := (⟨"com/example/kenning/kenning/Status", "isError", "()Z"⟩ : MethodName)) hown (mvT hZ (hw _ (List.mem_of_getElem? (i := 15) rfl))) (mvT hZ (hw _ (List.mem_of_getElem? (i := 16) rfl))) (notFace_of_selects (args := #[]) (mvT hZ (hw _ (List.mem_of_getElem? (i := 18) rfl)))) (mvT hZ (hw _ (List.mem_of_getElem? (i := 18) rfl))) (mvT hZ (hw _ (List.mem_of_getElem? (i := 17) rfl))) (by decide) (backOf (W := 0) (rm3 l Z a0 hw [] s_INTERNAL_SERVER_ERROR (192 : Int32) h0 n0 Z0 F_INTERNAL_SERVER_ERROR_code ) hZ (hw _ (List.mem_of_getElem? (i := 19) rfl)) (hw _ (List.mem_of_getElem? (i := 6) rfl)) (by decide) (by decide)) q177a q177c (g := (mkF m 53 #[.val (.int p1), .val (.int (12 : Int32)), .val (.ref s_INTERNAL_SERVER_ERROR), .val (.int (1 : Int32)), .val (.int (6 : Int32)), .val (.int (1 : Int32)), .unset] [(.ref s_INTERNAL_SERVER_ERROR)])) rfl (by rw [hml]; rfl) (Steps.refl _) (argsL := []) (rest := []) (lenOf pd_2 rfl) rfl (by show 2 * 0 + _ ≤ _; exact Nat.le_of_eq rfl) (hb hby at_53) (fun _ _ => ⟨rfl, eh175, (by decide : 0 + 0 ≤ _), (by decide : 0 + 0 ≤ _)⟩)
    dsimp only [Pt.U, Pt.locs, Pt.cells, Pt.slots] at X177 l177 y177 z177 st177 hQ177
    subst l177 y177 z177
    obtain ⟨rfl, N177q, eh177⟩ := hQ177
    have N177 := Fr.app N175 N177q
    refine Go.step (fun _ kt => st177.trans kt) ?_
    show Go p.tables e below _ (T177.setTop (mkF m 56 #[.val (.int p1), .val (.int (12 : Int32)), .val (.ref s_INTERNAL_SERVER_ERROR), .val (.int (1 : Int32)), .val (.int (6 : Int32)), .val (.int (1 : Int32)), .unset] [(.int (own_err (192 : Int32)))]))
    have q178 : (own_err (192 : Int32)) = (1 : Int32) := by decide
    rw [q178]
    show Go p.tables e below _ (T177.setTop (mkF m 56 #[.val (.int p1), .val (.int (12 : Int32)), .val (.ref s_INTERNAL_SERVER_ERROR), .val (.int (1 : Int32)), .val (.int (6 : Int32)), .val (.int (1 : Int32)), .unset] [(.int (1 : Int32))]))
    refine Go.step (fun _ kt => XS.istore X177.here hx rfl (hb hby at_56) rfl (l' := #[.val (.int p1), .val (.int (12 : Int32)), .val (.ref s_INTERNAL_SERVER_ERROR), .val (.int (1 : Int32)), .val (.int (6 : Int32)), .val (.int (1 : Int32)), .val (.int (1 : Int32))]) rfl kt) ?_
    show Go p.tables e below _ (T177.setTop (mkF m 58 #[.val (.int p1), .val (.int (12 : Int32)), .val (.ref s_INTERNAL_SERVER_ERROR), .val (.int (1 : Int32)), .val (.int (6 : Int32)), .val (.int (1 : Int32)), .val (.int (1 : Int32))] []))
    refine Go.step (fun _ kt => XS.iload X177.here hx rfl (hb hby at_58) rfl kt) ?_
    show Go p.tables e below _ (T177.setTop (mkF m 60 #[.val (.int p1), .val (.int (12 : Int32)), .val (.ref s_INTERNAL_SERVER_ERROR), .val (.int (1 : Int32)), .val (.int (6 : Int32)), .val (.int (1 : Int32)), .val (.int (1 : Int32))] [(.int (1 : Int32))]))
    refine Go.step (fun _ kt => XS.iloadN X177.here hx rfl (hb hby at_60) rfl kt) ?_
    show Go p.tables e below _ (T177.setTop (mkF m 61 #[.val (.int p1), .val (.int (12 : Int32)), .val (.ref s_INTERNAL_SERVER_ERROR), .val (.int (1 : Int32)), .val (.int (6 : Int32)), .val (.int (1 : Int32)), .val (.int (1 : Int32))] [(.int (1 : Int32)), (.int (1 : Int32))]))
    refine Go.step (fun _ kt => XS.icmpNo X177.here hx rfl (hb hby at_61) rfl (teq (by decide : (1 : Int32) = (1 : Int32))).2 kt) ?_
    show Go p.tables e below _ (T177.setTop (mkF m 64 #[.val (.int p1), .val (.int (12 : Int32)), .val (.ref s_INTERNAL_SERVER_ERROR), .val (.int (1 : Int32)), .val (.int (6 : Int32)), .val (.int (1 : Int32)), .val (.int (1 : Int32))] []))
    refine Go.step (fun _ kt => XS.iload X177.here hx rfl (hb hby at_64) rfl kt) ?_
    show Go p.tables e below _ (T177.setTop (mkF m 66 #[.val (.int p1), .val (.int (12 : Int32)), .val (.ref s_INTERNAL_SERVER_ERROR), .val (.int (1 : Int32)), .val (.int (6 : Int32)), .val (.int (1 : Int32)), .val (.int (1 : Int32))] [(.int (1 : Int32))]))
    refine Go.step (fun _ kt => XS.iload X177.here hx rfl (hb hby at_66) rfl kt) ?_
    show Go p.tables e below _ (T177.setTop (mkF m 68 #[.val (.int p1), .val (.int (12 : Int32)), .val (.ref s_INTERNAL_SERVER_ERROR), .val (.int (1 : Int32)), .val (.int (6 : Int32)), .val (.int (1 : Int32)), .val (.int (1 : Int32))] [(.int (1 : Int32)), (.int (1 : Int32))]))
    refine Go.step (fun _ kt => XS.icmpNo X177.here hx rfl (hb hby at_68) rfl (teq (by decide : (1 : Int32) = (1 : Int32))).2 kt) ?_
    show Go p.tables e below _ (T177.setTop (mkF m 71 #[.val (.int p1), .val (.int (12 : Int32)), .val (.ref s_INTERNAL_SERVER_ERROR), .val (.int (1 : Int32)), .val (.int (6 : Int32)), .val (.int (1 : Int32)), .val (.int (1 : Int32))] []))
    refine Go.step (fun _ kt => XS.iconst X177.here hx rfl (hb hby at_71) kt) ?_
    show Go p.tables e below _ (T177.setTop (mkF m 72 #[.val (.int p1), .val (.int (12 : Int32)), .val (.ref s_INTERNAL_SERVER_ERROR), .val (.int (1 : Int32)), .val (.int (6 : Int32)), .val (.int (1 : Int32)), .val (.int (1 : Int32))] [(.int (1 : Int32))]))
    refine Go.step (fun _ kt => XS.goto X177.here hx rfl (pc0 := 72) (pc' := 76) rfl (hb hby at_72) (by decide) (by decide) kt) ?_
    show Go p.tables e below _ (T177.setTop (mkF m 76 #[.val (.int p1), .val (.int (12 : Int32)), .val (.ref s_INTERNAL_SERVER_ERROR), .val (.int (1 : Int32)), .val (.int (6 : Int32)), .val (.int (1 : Int32)), .val (.int (1 : Int32))] [(.int (1 : Int32))]))
    obtain ⟨fs, hr, hrun, hended, hW, hsame⟩ := X177.leave (v := some (.int (1 : Int32))) (fun h => by rw [Bd.returns] at h; cases h)
    refine ⟨_, _, retN X177 hx (t := .boolean) Bd.returns (by simp) (hb hby at_76) hr, hrun, hended, _, _, rfl, ?_, ⟨_, rfl⟩, hW, hsame.mono (by decide) (by decide)⟩
    show Qrm0 Z p1 s_CREATED s_DELETED s_VALID s_CHANGED s_CONTENT s_BAD_REQUEST s_UNAUTHORIZED s_FORBIDDEN s_NOT_FOUND s_METHOD_NOT_ALLOWED s_REQUEST_TOO_LARGE s_UNPROCESSABLE_ENTITY s_INTERNAL_SERVER_ERROR s_NOT_IMPLEMENTED h0 n0 _ T177.heap _
    rw [eh177]
    exact ⟨rfl, N177⟩
  · rw [hk]
    show Go p.tables e below _ (s₁.setTop (mkF m 8 #[.val (.int p1), .val (.int (13 : Int32)), .unset, .unset, .unset, .unset, .unset] []))
    refine Go.step (fun _ kt => XS.iloadN X0.here hx rfl (hb hby at_8) rfl kt) ?_
    show Go p.tables e below _ (s₁.setTop (mkF m 9 #[.val (.int p1), .val (.int (13 : Int32)), .unset, .unset, .unset, .unset, .unset] [(.int (13 : Int32))]))
    obtain ⟨_, _, ⟨T179, L179, k179, n179⟩, -, X179, ⟨Lc179, hQ179, l179, y179, z179⟩, st179⟩ := Jvm.LawKit.callS X0 hx (y := (⟨"com/example/kenning/kenning/StatusIsErrorPinLaw", "pick", "(I)Lcom/example/kenning/kenning/Status;"⟩ : MethodName)) hown (mvT hZ (hw _ (List.mem_of_getElem? (i := 1) rfl))) (mvT hZ (hw _ (List.mem_of_getElem? (i := 2) rfl))) (mvT hZ (hw _ (List.mem_of_getElem? (i := 3) rfl))) (mvT hZ (hw _ (List.mem_of_getElem? (i := 4) rfl))) (by decide) (backOf (W := 0) (rm1 l Z a0 hw [] (13 : Int32) s_CREATED s_DELETED s_VALID s_CHANGED s_CONTENT s_BAD_REQUEST s_UNAUTHORIZED s_FORBIDDEN s_NOT_FOUND s_METHOD_NOT_ALLOWED s_REQUEST_TOO_LARGE s_UNPROCESSABLE_ENTITY s_INTERNAL_SERVER_ERROR s_NOT_IMPLEMENTED h0 n0 Z0 S_CREATED S_DELETED S_VALID S_CHANGED S_CONTENT S_BAD_REQUEST S_UNAUTHORIZED S_FORBIDDEN S_NOT_FOUND S_METHOD_NOT_ALLOWED S_REQUEST_TOO_LARGE S_UNPROCESSABLE_ENTITY S_INTERNAL_SERVER_ERROR S_NOT_IMPLEMENTED ) hZ (hw _ (List.mem_of_getElem? (i := 4) rfl)) (hw _ (List.mem_of_getElem? (i := 3) rfl)) (by decide) (by decide)) (g := (mkF m 9 #[.val (.int p1), .val (.int (13 : Int32)), .unset, .unset, .unset, .unset, .unset] [(.int (13 : Int32))])) rfl (by rw [hml]; rfl) (argsL := [(.int (13 : Int32))]) (rest := []) (lenOf pd_0 rfl) rfl (by show 2 * 0 + _ ≤ _; exact Nat.le_of_eq rfl) (hb hby at_9) (fun _ _ => ⟨rfl, e0, (by decide : 0 + 0 ≤ _), (by decide : 0 + 0 ≤ _)⟩)
    dsimp only [Pt.U, Pt.locs, Pt.cells, Pt.slots] at X179 l179 y179 z179 st179 hQ179
    subst l179 y179 z179
    obtain ⟨rfl, N179q, eh179⟩ := hQ179
    have N179 := Fr.app N0 N179q
    refine Go.step st179 ?_
    show Go p.tables e below _ (T179.setTop (mkF m 12 #[.val (.int p1), .val (.int (13 : Int32)), .unset, .unset, .unset, .unset, .unset] [(.ref (own_pick (13 : Int32) s_CREATED s_DELETED s_VALID s_CHANGED s_CONTENT s_BAD_REQUEST s_UNAUTHORIZED s_FORBIDDEN s_NOT_FOUND s_METHOD_NOT_ALLOWED s_REQUEST_TOO_LARGE s_UNPROCESSABLE_ENTITY s_INTERNAL_SERVER_ERROR s_NOT_IMPLEMENTED))]))
    have q180 : (own_pick (13 : Int32) s_CREATED s_DELETED s_VALID s_CHANGED s_CONTENT s_BAD_REQUEST s_UNAUTHORIZED s_FORBIDDEN s_NOT_FOUND s_METHOD_NOT_ALLOWED s_REQUEST_TOO_LARGE s_UNPROCESSABLE_ENTITY s_INTERNAL_SERVER_ERROR s_NOT_IMPLEMENTED) = s_NOT_IMPLEMENTED := rfl
    rw [q180]
    show Go p.tables e below _ (T179.setTop (mkF m 12 #[.val (.int p1), .val (.int (13 : Int32)), .unset, .unset, .unset, .unset, .unset] [(.ref s_NOT_IMPLEMENTED)]))
    refine Go.step (fun _ kt => XS.astoreN X179.here hx rfl (hb hby at_12) rfl rfl (l' := #[.val (.int p1), .val (.int (13 : Int32)), .val (.ref s_NOT_IMPLEMENTED), .unset, .unset, .unset, .unset]) rfl kt) ?_
    show Go p.tables e below _ (T179.setTop (mkF m 13 #[.val (.int p1), .val (.int (13 : Int32)), .val (.ref s_NOT_IMPLEMENTED), .unset, .unset, .unset, .unset] []))
    refine Go.step (fun _ kt => XS.iloadN X179.here hx rfl (hb hby at_13) rfl kt) ?_
    show Go p.tables e below _ (T179.setTop (mkF m 14 #[.val (.int p1), .val (.int (13 : Int32)), .val (.ref s_NOT_IMPLEMENTED), .unset, .unset, .unset, .unset] [(.int (13 : Int32))]))
    refine Go.step (fun _ kt => XS.iconst X179.here hx rfl (hb hby at_14) kt) ?_
    show Go p.tables e below _ (T179.setTop (mkF m 15 #[.val (.int p1), .val (.int (13 : Int32)), .val (.ref s_NOT_IMPLEMENTED), .unset, .unset, .unset, .unset] [(.int (5 : Int32)), (.int (13 : Int32))]))
    refine Go.step (fun _ kt => XS.icmpNo X179.here hx rfl (hb hby at_15) rfl (flt (by decide : ¬ ((13 : Int32) < (5 : Int32)))).1 kt) ?_
    show Go p.tables e below _ (T179.setTop (mkF m 18 #[.val (.int p1), .val (.int (13 : Int32)), .val (.ref s_NOT_IMPLEMENTED), .unset, .unset, .unset, .unset] []))
    refine Go.step (fun _ kt => XS.iconst X179.here hx rfl (hb hby at_18) kt) ?_
    show Go p.tables e below _ (T179.setTop (mkF m 19 #[.val (.int p1), .val (.int (13 : Int32)), .val (.ref s_NOT_IMPLEMENTED), .unset, .unset, .unset, .unset] [(.int (1 : Int32))]))
    refine Go.step (fun _ kt => XS.goto X179.here hx rfl (pc0 := 19) (pc' := 23) rfl (hb hby at_19) (by decide) (by decide) kt) ?_
    show Go p.tables e below _ (T179.setTop (mkF m 23 #[.val (.int p1), .val (.int (13 : Int32)), .val (.ref s_NOT_IMPLEMENTED), .unset, .unset, .unset, .unset] [(.int (1 : Int32))]))
    refine Go.step (fun _ kt => XS.istoreN X179.here hx rfl (hb hby at_23) rfl (l' := #[.val (.int p1), .val (.int (13 : Int32)), .val (.ref s_NOT_IMPLEMENTED), .val (.int (1 : Int32)), .unset, .unset, .unset]) rfl kt) ?_
    show Go p.tables e below _ (T179.setTop (mkF m 24 #[.val (.int p1), .val (.int (13 : Int32)), .val (.ref s_NOT_IMPLEMENTED), .val (.int (1 : Int32)), .unset, .unset, .unset] []))
    refine Go.step (fun _ kt => XS.aloadN X179.here hx rfl (hb hby at_24) rfl rfl kt) ?_
    show Go p.tables e below _ (T179.setTop (mkF m 25 #[.val (.int p1), .val (.int (13 : Int32)), .val (.ref s_NOT_IMPLEMENTED), .val (.int (1 : Int32)), .unset, .unset, .unset] [(.ref s_NOT_IMPLEMENTED)]))
    obtain ⟨cq181, kq181, q181a, q181b, q181c⟩ := isOf hZ eh179 E_NOT_IMPLEMENTED
    obtain ⟨_, _, ⟨T181, L181, k181, n181⟩, -, X181, ⟨Lc181, hQ181, l181, y181, z181⟩, st181⟩ := X179.virtualBack hx (y := (⟨"com/example/kenning/kenning/Status", "code", "()I"⟩ : MethodName)) (z := (⟨"com/example/kenning/kenning/Status", "code", "()I"⟩ : MethodName)) hown (mvT hZ (hw _ (List.mem_of_getElem? (i := 8) rfl))) (mvT hZ (hw _ (List.mem_of_getElem? (i := 9) rfl))) (notFace_of_selects (args := #[]) (mvT hZ (hw _ (List.mem_of_getElem? (i := 11) rfl)))) (mvT hZ (hw _ (List.mem_of_getElem? (i := 11) rfl))) (mvT hZ (hw _ (List.mem_of_getElem? (i := 10) rfl))) (by decide) (backOf (W := 0) (rm2 l Z a0 hw [] s_NOT_IMPLEMENTED (193 : Int32) h0 n0 Z0 F_NOT_IMPLEMENTED_code ) hZ (hw _ (List.mem_of_getElem? (i := 12) rfl)) (hw _ (List.mem_of_getElem? (i := 6) rfl)) (by decide) (by decide)) q181a q181c (g := (mkF m 25 #[.val (.int p1), .val (.int (13 : Int32)), .val (.ref s_NOT_IMPLEMENTED), .val (.int (1 : Int32)), .unset, .unset, .unset] [(.ref s_NOT_IMPLEMENTED)])) rfl (by rw [hml]; rfl) (Steps.refl _) (argsL := []) (rest := []) (lenOf pd_1 rfl) rfl (by show 2 * 0 + _ ≤ _; exact Nat.le_of_eq rfl) (hb hby at_25) (fun _ _ => ⟨rfl, eh179, (by decide : 0 + 0 ≤ _), (by decide : 0 + 0 ≤ _)⟩)
    dsimp only [Pt.U, Pt.locs, Pt.cells, Pt.slots] at X181 l181 y181 z181 st181 hQ181
    subst l181 y181 z181
    obtain ⟨rfl, N181q, eh181⟩ := hQ181
    have N181 := Fr.app N179 N181q
    refine Go.step (fun _ kt => st181.trans kt) ?_
    show Go p.tables e below _ (T181.setTop (mkF m 28 #[.val (.int p1), .val (.int (13 : Int32)), .val (.ref s_NOT_IMPLEMENTED), .val (.int (1 : Int32)), .unset, .unset, .unset] [(.int (193 : Int32))]))
    refine Go.step (fun _ kt => XS.iconst X181.here hx rfl (hb hby at_28) kt) ?_
    show Go p.tables e below _ (T181.setTop (mkF m 29 #[.val (.int p1), .val (.int (13 : Int32)), .val (.ref s_NOT_IMPLEMENTED), .val (.int (1 : Int32)), .unset, .unset, .unset] [(.int (5 : Int32)), (.int (193 : Int32))]))
    refine Go.step (fun _ kt => XS.ishr X181.here hx rfl (hb hby at_29) rfl kt) ?_
    show Go p.tables e below _ (T181.setTop (mkF m 30 #[.val (.int p1), .val (.int (13 : Int32)), .val (.ref s_NOT_IMPLEMENTED), .val (.int (1 : Int32)), .unset, .unset, .unset] [(.int ((193 : Int32) >>> ((5 : Int32) &&& 31)))]))
    have q182 : ((193 : Int32) >>> ((5 : Int32) &&& 31)) = (6 : Int32) := by decide
    rw [q182]
    show Go p.tables e below _ (T181.setTop (mkF m 30 #[.val (.int p1), .val (.int (13 : Int32)), .val (.ref s_NOT_IMPLEMENTED), .val (.int (1 : Int32)), .unset, .unset, .unset] [(.int (6 : Int32))]))
    refine Go.step (fun _ kt => XS.istore X181.here hx rfl (hb hby at_30) rfl (l' := #[.val (.int p1), .val (.int (13 : Int32)), .val (.ref s_NOT_IMPLEMENTED), .val (.int (1 : Int32)), .val (.int (6 : Int32)), .unset, .unset]) rfl kt) ?_
    show Go p.tables e below _ (T181.setTop (mkF m 32 #[.val (.int p1), .val (.int (13 : Int32)), .val (.ref s_NOT_IMPLEMENTED), .val (.int (1 : Int32)), .val (.int (6 : Int32)), .unset, .unset] []))
    refine Go.step (fun _ kt => XS.iload X181.here hx rfl (hb hby at_32) rfl kt) ?_
    show Go p.tables e below _ (T181.setTop (mkF m 34 #[.val (.int p1), .val (.int (13 : Int32)), .val (.ref s_NOT_IMPLEMENTED), .val (.int (1 : Int32)), .val (.int (6 : Int32)), .unset, .unset] [(.int (6 : Int32))]))
    refine Go.step (fun _ kt => XS.iconst X181.here hx rfl (hb hby at_34) kt) ?_
    show Go p.tables e below _ (T181.setTop (mkF m 35 #[.val (.int p1), .val (.int (13 : Int32)), .val (.ref s_NOT_IMPLEMENTED), .val (.int (1 : Int32)), .val (.int (6 : Int32)), .unset, .unset] [(.int (5 : Int32)), (.int (6 : Int32))]))
    refine Go.step (fun _ kt => XS.icmpNo X181.here hx rfl (hb hby at_35) rfl (feq (by decide : ¬ ((6 : Int32) = (5 : Int32)))).1 kt) ?_
    show Go p.tables e below _ (T181.setTop (mkF m 38 #[.val (.int p1), .val (.int (13 : Int32)), .val (.ref s_NOT_IMPLEMENTED), .val (.int (1 : Int32)), .val (.int (6 : Int32)), .unset, .unset] []))
    refine Go.step (fun _ kt => XS.iload X181.here hx rfl (hb hby at_38) rfl kt) ?_
    show Go p.tables e below _ (T181.setTop (mkF m 40 #[.val (.int p1), .val (.int (13 : Int32)), .val (.ref s_NOT_IMPLEMENTED), .val (.int (1 : Int32)), .val (.int (6 : Int32)), .unset, .unset] [(.int (6 : Int32))]))
    refine Go.step (fun _ kt => XS.bipush X181.here hx rfl (hb hby at_40) kt) ?_
    show Go p.tables e below _ (T181.setTop (mkF m 42 #[.val (.int p1), .val (.int (13 : Int32)), .val (.ref s_NOT_IMPLEMENTED), .val (.int (1 : Int32)), .val (.int (6 : Int32)), .unset, .unset] [(.int (6 : Int32)), (.int (6 : Int32))]))
    refine Go.step (fun _ kt => XS.icmpNo X181.here hx rfl (hb hby at_42) rfl (teq (by decide : (6 : Int32) = (6 : Int32))).2 kt) ?_
    show Go p.tables e below _ (T181.setTop (mkF m 45 #[.val (.int p1), .val (.int (13 : Int32)), .val (.ref s_NOT_IMPLEMENTED), .val (.int (1 : Int32)), .val (.int (6 : Int32)), .unset, .unset] []))
    refine Go.step (fun _ kt => XS.iconst X181.here hx rfl (hb hby at_45) kt) ?_
    show Go p.tables e below _ (T181.setTop (mkF m 46 #[.val (.int p1), .val (.int (13 : Int32)), .val (.ref s_NOT_IMPLEMENTED), .val (.int (1 : Int32)), .val (.int (6 : Int32)), .unset, .unset] [(.int (1 : Int32))]))
    refine Go.step (fun _ kt => XS.goto X181.here hx rfl (pc0 := 46) (pc' := 50) rfl (hb hby at_46) (by decide) (by decide) kt) ?_
    show Go p.tables e below _ (T181.setTop (mkF m 50 #[.val (.int p1), .val (.int (13 : Int32)), .val (.ref s_NOT_IMPLEMENTED), .val (.int (1 : Int32)), .val (.int (6 : Int32)), .unset, .unset] [(.int (1 : Int32))]))
    refine Go.step (fun _ kt => XS.istore X181.here hx rfl (hb hby at_50) rfl (l' := #[.val (.int p1), .val (.int (13 : Int32)), .val (.ref s_NOT_IMPLEMENTED), .val (.int (1 : Int32)), .val (.int (6 : Int32)), .val (.int (1 : Int32)), .unset]) rfl kt) ?_
    show Go p.tables e below _ (T181.setTop (mkF m 52 #[.val (.int p1), .val (.int (13 : Int32)), .val (.ref s_NOT_IMPLEMENTED), .val (.int (1 : Int32)), .val (.int (6 : Int32)), .val (.int (1 : Int32)), .unset] []))
    refine Go.step (fun _ kt => XS.aloadN X181.here hx rfl (hb hby at_52) rfl rfl kt) ?_
    show Go p.tables e below _ (T181.setTop (mkF m 53 #[.val (.int p1), .val (.int (13 : Int32)), .val (.ref s_NOT_IMPLEMENTED), .val (.int (1 : Int32)), .val (.int (6 : Int32)), .val (.int (1 : Int32)), .unset] [(.ref s_NOT_IMPLEMENTED)]))
    obtain ⟨cq183, kq183, q183a, q183b, q183c⟩ := isOf hZ eh181 E_NOT_IMPLEMENTED
    obtain ⟨_, _, ⟨T183, L183, k183, n183⟩, -, X183, ⟨Lc183, hQ183, l183, y183, z183⟩, st183⟩ := X181.virtualBack hx (y := (⟨"com/example/kenning/kenning/Status", "isError", "()Z"⟩ : MethodName)) (z := (⟨"com/example/kenning/kenning/Status", "isError", "()Z"⟩ : MethodName)) hown (mvT hZ (hw _ (List.mem_of_getElem? (i := 15) rfl))) (mvT hZ (hw _ (List.mem_of_getElem? (i := 16) rfl))) (notFace_of_selects (args := #[]) (mvT hZ (hw _ (List.mem_of_getElem? (i := 18) rfl)))) (mvT hZ (hw _ (List.mem_of_getElem? (i := 18) rfl))) (mvT hZ (hw _ (List.mem_of_getElem? (i := 17) rfl))) (by decide) (backOf (W := 0) (rm3 l Z a0 hw [] s_NOT_IMPLEMENTED (193 : Int32) h0 n0 Z0 F_NOT_IMPLEMENTED_code ) hZ (hw _ (List.mem_of_getElem? (i := 19) rfl)) (hw _ (List.mem_of_getElem? (i := 6) rfl)) (by decide) (by decide)) q183a q183c (g := (mkF m 53 #[.val (.int p1), .val (.int (13 : Int32)), .val (.ref s_NOT_IMPLEMENTED), .val (.int (1 : Int32)), .val (.int (6 : Int32)), .val (.int (1 : Int32)), .unset] [(.ref s_NOT_IMPLEMENTED)])) rfl (by rw [hml]; rfl) (Steps.refl _) (argsL := []) (rest := []) (lenOf pd_2 rfl) rfl (by show 2 * 0 + _ ≤ _; exact Nat.le_of_eq rfl) (hb hby at_53) (fun _ _ => ⟨rfl, eh181, (by decide : 0 + 0 ≤ _), (by decide : 0 + 0 ≤ _)⟩)
    dsimp only [Pt.U, Pt.locs, Pt.cells, Pt.slots] at X183 l183 y183 z183 st183 hQ183
    subst l183 y183 z183
    obtain ⟨rfl, N183q, eh183⟩ := hQ183
    have N183 := Fr.app N181 N183q
    refine Go.step (fun _ kt => st183.trans kt) ?_
    show Go p.tables e below _ (T183.setTop (mkF m 56 #[.val (.int p1), .val (.int (13 : Int32)), .val (.ref s_NOT_IMPLEMENTED), .val (.int (1 : Int32)), .val (.int (6 : Int32)), .val (.int (1 : Int32)), .unset] [(.int (own_err (193 : Int32)))]))
    have q184 : (own_err (193 : Int32)) = (1 : Int32) := by decide
    rw [q184]
    show Go p.tables e below _ (T183.setTop (mkF m 56 #[.val (.int p1), .val (.int (13 : Int32)), .val (.ref s_NOT_IMPLEMENTED), .val (.int (1 : Int32)), .val (.int (6 : Int32)), .val (.int (1 : Int32)), .unset] [(.int (1 : Int32))]))
    refine Go.step (fun _ kt => XS.istore X183.here hx rfl (hb hby at_56) rfl (l' := #[.val (.int p1), .val (.int (13 : Int32)), .val (.ref s_NOT_IMPLEMENTED), .val (.int (1 : Int32)), .val (.int (6 : Int32)), .val (.int (1 : Int32)), .val (.int (1 : Int32))]) rfl kt) ?_
    show Go p.tables e below _ (T183.setTop (mkF m 58 #[.val (.int p1), .val (.int (13 : Int32)), .val (.ref s_NOT_IMPLEMENTED), .val (.int (1 : Int32)), .val (.int (6 : Int32)), .val (.int (1 : Int32)), .val (.int (1 : Int32))] []))
    refine Go.step (fun _ kt => XS.iload X183.here hx rfl (hb hby at_58) rfl kt) ?_
    show Go p.tables e below _ (T183.setTop (mkF m 60 #[.val (.int p1), .val (.int (13 : Int32)), .val (.ref s_NOT_IMPLEMENTED), .val (.int (1 : Int32)), .val (.int (6 : Int32)), .val (.int (1 : Int32)), .val (.int (1 : Int32))] [(.int (1 : Int32))]))
    refine Go.step (fun _ kt => XS.iloadN X183.here hx rfl (hb hby at_60) rfl kt) ?_
    show Go p.tables e below _ (T183.setTop (mkF m 61 #[.val (.int p1), .val (.int (13 : Int32)), .val (.ref s_NOT_IMPLEMENTED), .val (.int (1 : Int32)), .val (.int (6 : Int32)), .val (.int (1 : Int32)), .val (.int (1 : Int32))] [(.int (1 : Int32)), (.int (1 : Int32))]))
    refine Go.step (fun _ kt => XS.icmpNo X183.here hx rfl (hb hby at_61) rfl (teq (by decide : (1 : Int32) = (1 : Int32))).2 kt) ?_
    show Go p.tables e below _ (T183.setTop (mkF m 64 #[.val (.int p1), .val (.int (13 : Int32)), .val (.ref s_NOT_IMPLEMENTED), .val (.int (1 : Int32)), .val (.int (6 : Int32)), .val (.int (1 : Int32)), .val (.int (1 : Int32))] []))
    refine Go.step (fun _ kt => XS.iload X183.here hx rfl (hb hby at_64) rfl kt) ?_
    show Go p.tables e below _ (T183.setTop (mkF m 66 #[.val (.int p1), .val (.int (13 : Int32)), .val (.ref s_NOT_IMPLEMENTED), .val (.int (1 : Int32)), .val (.int (6 : Int32)), .val (.int (1 : Int32)), .val (.int (1 : Int32))] [(.int (1 : Int32))]))
    refine Go.step (fun _ kt => XS.iload X183.here hx rfl (hb hby at_66) rfl kt) ?_
    show Go p.tables e below _ (T183.setTop (mkF m 68 #[.val (.int p1), .val (.int (13 : Int32)), .val (.ref s_NOT_IMPLEMENTED), .val (.int (1 : Int32)), .val (.int (6 : Int32)), .val (.int (1 : Int32)), .val (.int (1 : Int32))] [(.int (1 : Int32)), (.int (1 : Int32))]))
    refine Go.step (fun _ kt => XS.icmpNo X183.here hx rfl (hb hby at_68) rfl (teq (by decide : (1 : Int32) = (1 : Int32))).2 kt) ?_
    show Go p.tables e below _ (T183.setTop (mkF m 71 #[.val (.int p1), .val (.int (13 : Int32)), .val (.ref s_NOT_IMPLEMENTED), .val (.int (1 : Int32)), .val (.int (6 : Int32)), .val (.int (1 : Int32)), .val (.int (1 : Int32))] []))
    refine Go.step (fun _ kt => XS.iconst X183.here hx rfl (hb hby at_71) kt) ?_
    show Go p.tables e below _ (T183.setTop (mkF m 72 #[.val (.int p1), .val (.int (13 : Int32)), .val (.ref s_NOT_IMPLEMENTED), .val (.int (1 : Int32)), .val (.int (6 : Int32)), .val (.int (1 : Int32)), .val (.int (1 : Int32))] [(.int (1 : Int32))]))
    refine Go.step (fun _ kt => XS.goto X183.here hx rfl (pc0 := 72) (pc' := 76) rfl (hb hby at_72) (by decide) (by decide) kt) ?_
    show Go p.tables e below _ (T183.setTop (mkF m 76 #[.val (.int p1), .val (.int (13 : Int32)), .val (.ref s_NOT_IMPLEMENTED), .val (.int (1 : Int32)), .val (.int (6 : Int32)), .val (.int (1 : Int32)), .val (.int (1 : Int32))] [(.int (1 : Int32))]))
    obtain ⟨fs, hr, hrun, hended, hW, hsame⟩ := X183.leave (v := some (.int (1 : Int32))) (fun h => by rw [Bd.returns] at h; cases h)
    refine ⟨_, _, retN X183 hx (t := .boolean) Bd.returns (by simp) (hb hby at_76) hr, hrun, hended, _, _, rfl, ?_, ⟨_, rfl⟩, hW, hsame.mono (by decide) (by decide)⟩
    show Qrm0 Z p1 s_CREATED s_DELETED s_VALID s_CHANGED s_CONTENT s_BAD_REQUEST s_UNAUTHORIZED s_FORBIDDEN s_NOT_FOUND s_METHOD_NOT_ALLOWED s_REQUEST_TOO_LARGE s_UNPROCESSABLE_ENTITY s_INTERNAL_SERVER_ERROR s_NOT_IMPLEMENTED h0 n0 _ T183.heap _
    rw [eh183]
    exact ⟨rfl, N183⟩
set_option maxRecDepth 65536 in
set_option maxHeartbeats 40000000 in
theorem comes_1 {Post : Tables → Env → Array Value → State → Outcome → State → Prop} (hpost : ∀ tb e args s v u, (limb_1_1.after args s (.returned v) u = true ∧ limb_1_2.after args s (.returned v) u = true ∧ True) → FrameEnd s (.returned v) u (Jvm.fieldLocs frame_1_writes args s ++ Jvm.arrayLocs frame_1_arrays args s ++ Jvm.staticLocs frame_1_statics s) 0 0 → Post tb e args s (.returned v) u) :
    ArmFor flags0 classFile x code maxLocals ret World_1 tables_1 room_1 Calls_1 rest_1 Pre_1 Post := by
  intro l hfl _ _ p e ha hc hk s m args below hf hA hF happ hP
  obtain ⟨hcalls, hrest, hpre⟩ := hP
  obtain ⟨-, -, -, hnamed, -, -, -, hat⟩ := (Spec.applies_iff hf).mp happ
  obtain ⟨hg, hn⟩ := and_e (Cond.before_iff.mp (show (Jvm.Cond.and given_1 narrow_1).before args s = true from hpre))
  obtain ⟨hcount, hg1⟩ := and_e hg
  have ga0 := hg1
  obtain ⟨w0, rfl⟩ : ∃ w0 : Value, args = #[w0] := by
    have hs : args.size = 1 := by simpa [Cond.value, given_1] using hcount
    obtain ⟨L⟩ := args
    match L, hs with
    | [w0], _ => exact ⟨w0, rfl⟩
  have hw := fun d (hd : d ∈ tables_1) => atoms_spec (ws := Jvm.Cond.code x code maxLocals ret :: tables_1) hat d (List.mem_cons_of_mem _ hd)
  have hfit : Fit s := fun {y c} hc i hi => by
    obtain ⟨ha, rfl⟩ := Array.getElem?_eq_some_iff.mp hc
    have q := List.all_eq_true.mp ((Array.all_eq_true_iff_forall_mem.mp hF) _ (Array.getElem_mem ha)) i (List.mem_range.mpr hi)
    simpa [Array.getElem?_eq_getElem hi] using q
  obtain ⟨i0, ei0⟩ := is_v ga0
  obtain rfl : w0 = (.int i0) := Option.some.inj ei0
  obtain ⟨nq0, hn1⟩ := and_e hn
  obtain ⟨nq1, hn2⟩ := and_e hn1
  obtain ⟨nq2, hn3⟩ := and_e hn2
  obtain ⟨nq3, hn4⟩ := and_e hn3
  obtain ⟨nq4, hn5⟩ := and_e hn4
  obtain ⟨nq5, hn6⟩ := and_e hn5
  obtain ⟨nq6, hn7⟩ := and_e hn6
  obtain ⟨nq7, hn8⟩ := and_e hn7
  obtain ⟨nq8, hn9⟩ := and_e hn8
  obtain ⟨nq9, hn10⟩ := and_e hn9
  obtain ⟨nq10, hn11⟩ := and_e hn10
  obtain ⟨nq11, hn12⟩ := and_e hn11
  obtain ⟨nq12, hn13⟩ := and_e hn12
  obtain ⟨nq13, hn14⟩ := and_e hn13
  obtain ⟨nq14, hn15⟩ := and_e hn14
  obtain ⟨nq15, hn16⟩ := and_e hn15
  obtain ⟨nq16, hn17⟩ := and_e hn16
  obtain ⟨nq17, hn18⟩ := and_e hn17
  obtain ⟨nq18, hn19⟩ := and_e hn18
  obtain ⟨nq19, hn20⟩ := and_e hn19
  obtain ⟨nq20, hn21⟩ := and_e hn20
  obtain ⟨nq21, hn22⟩ := and_e hn21
  obtain ⟨nq22, hn23⟩ := and_e hn22
  obtain ⟨nq23, hn24⟩ := and_e hn23
  obtain ⟨nq24, hn25⟩ := and_e hn24
  obtain ⟨nq25, hn26⟩ := and_e hn25
  obtain ⟨nq26, hn27⟩ := and_e hn26
  have nq27 := hn27
  obtain ⟨s_CREATED, ev_CREATED⟩ := exa_v nq0
  have S_CREATED : Sta s s.heap "com/example/kenning/kenning/Status" "CREATED" "Lcom/example/kenning/kenning/Status;" (.ref s_CREATED) := Sta.start ev_CREATED (Or.inr ⟨(hw _ (List.mem_of_getElem? (i := 6) rfl)), (hw _ (List.mem_of_getElem? (i := 7) rfl))⟩)
  have E_CREATED : Exa s s.heap s_CREATED "com/example/kenning/kenning/Status" := Exa.start ev_CREATED nq0
  have F_CREATED_code : Fld s s.heap s_CREATED "com/example/kenning/kenning/Status" "code" "I" (.int (129 : Int32)) := Fld.start ((fld_at ev_CREATED).symm.trans (own_eqI nq1))
  obtain ⟨s_CHANGED, ev_CHANGED⟩ := exa_v nq2
  have S_CHANGED : Sta s s.heap "com/example/kenning/kenning/Status" "CHANGED" "Lcom/example/kenning/kenning/Status;" (.ref s_CHANGED) := Sta.start ev_CHANGED (Or.inr ⟨(hw _ (List.mem_of_getElem? (i := 6) rfl)), (hw _ (List.mem_of_getElem? (i := 21) rfl))⟩)
  have E_CHANGED : Exa s s.heap s_CHANGED "com/example/kenning/kenning/Status" := Exa.start ev_CHANGED nq2
  have F_CHANGED_code : Fld s s.heap s_CHANGED "com/example/kenning/kenning/Status" "code" "I" (.int (132 : Int32)) := Fld.start ((fld_at ev_CHANGED).symm.trans (own_eqI nq3))
  obtain ⟨s_INTERNAL_SERVER_ERROR, ev_INTERNAL_SERVER_ERROR⟩ := exa_v nq4
  have S_INTERNAL_SERVER_ERROR : Sta s s.heap "com/example/kenning/kenning/Status" "INTERNAL_SERVER_ERROR" "Lcom/example/kenning/kenning/Status;" (.ref s_INTERNAL_SERVER_ERROR) := Sta.start ev_INTERNAL_SERVER_ERROR (Or.inr ⟨(hw _ (List.mem_of_getElem? (i := 6) rfl)), (hw _ (List.mem_of_getElem? (i := 23) rfl))⟩)
  have E_INTERNAL_SERVER_ERROR : Exa s s.heap s_INTERNAL_SERVER_ERROR "com/example/kenning/kenning/Status" := Exa.start ev_INTERNAL_SERVER_ERROR nq4
  have F_INTERNAL_SERVER_ERROR_code : Fld s s.heap s_INTERNAL_SERVER_ERROR "com/example/kenning/kenning/Status" "code" "I" (.int (192 : Int32)) := Fld.start ((fld_at ev_INTERNAL_SERVER_ERROR).symm.trans (own_eqI nq5))
  obtain ⟨s_NOT_IMPLEMENTED, ev_NOT_IMPLEMENTED⟩ := exa_v nq6
  have S_NOT_IMPLEMENTED : Sta s s.heap "com/example/kenning/kenning/Status" "NOT_IMPLEMENTED" "Lcom/example/kenning/kenning/Status;" (.ref s_NOT_IMPLEMENTED) := Sta.start ev_NOT_IMPLEMENTED (Or.inr ⟨(hw _ (List.mem_of_getElem? (i := 6) rfl)), (hw _ (List.mem_of_getElem? (i := 25) rfl))⟩)
  have E_NOT_IMPLEMENTED : Exa s s.heap s_NOT_IMPLEMENTED "com/example/kenning/kenning/Status" := Exa.start ev_NOT_IMPLEMENTED nq6
  have F_NOT_IMPLEMENTED_code : Fld s s.heap s_NOT_IMPLEMENTED "com/example/kenning/kenning/Status" "code" "I" (.int (193 : Int32)) := Fld.start ((fld_at ev_NOT_IMPLEMENTED).symm.trans (own_eqI nq7))
  obtain ⟨s_CONTENT, ev_CONTENT⟩ := exa_v nq8
  have S_CONTENT : Sta s s.heap "com/example/kenning/kenning/Status" "CONTENT" "Lcom/example/kenning/kenning/Status;" (.ref s_CONTENT) := Sta.start ev_CONTENT (Or.inr ⟨(hw _ (List.mem_of_getElem? (i := 6) rfl)), (hw _ (List.mem_of_getElem? (i := 27) rfl))⟩)
  have E_CONTENT : Exa s s.heap s_CONTENT "com/example/kenning/kenning/Status" := Exa.start ev_CONTENT nq8
  have F_CONTENT_code : Fld s s.heap s_CONTENT "com/example/kenning/kenning/Status" "code" "I" (.int (133 : Int32)) := Fld.start ((fld_at ev_CONTENT).symm.trans (own_eqI nq9))
  obtain ⟨s_FORBIDDEN, ev_FORBIDDEN⟩ := exa_v nq10
  have S_FORBIDDEN : Sta s s.heap "com/example/kenning/kenning/Status" "FORBIDDEN" "Lcom/example/kenning/kenning/Status;" (.ref s_FORBIDDEN) := Sta.start ev_FORBIDDEN (Or.inr ⟨(hw _ (List.mem_of_getElem? (i := 6) rfl)), (hw _ (List.mem_of_getElem? (i := 29) rfl))⟩)
  have E_FORBIDDEN : Exa s s.heap s_FORBIDDEN "com/example/kenning/kenning/Status" := Exa.start ev_FORBIDDEN nq10
  have F_FORBIDDEN_code : Fld s s.heap s_FORBIDDEN "com/example/kenning/kenning/Status" "code" "I" (.int (163 : Int32)) := Fld.start ((fld_at ev_FORBIDDEN).symm.trans (own_eqI nq11))
  obtain ⟨s_VALID, ev_VALID⟩ := exa_v nq12
  have S_VALID : Sta s s.heap "com/example/kenning/kenning/Status" "VALID" "Lcom/example/kenning/kenning/Status;" (.ref s_VALID) := Sta.start ev_VALID (Or.inr ⟨(hw _ (List.mem_of_getElem? (i := 6) rfl)), (hw _ (List.mem_of_getElem? (i := 31) rfl))⟩)
  have E_VALID : Exa s s.heap s_VALID "com/example/kenning/kenning/Status" := Exa.start ev_VALID nq12
  have F_VALID_code : Fld s s.heap s_VALID "com/example/kenning/kenning/Status" "code" "I" (.int (131 : Int32)) := Fld.start ((fld_at ev_VALID).symm.trans (own_eqI nq13))
  obtain ⟨s_UNPROCESSABLE_ENTITY, ev_UNPROCESSABLE_ENTITY⟩ := exa_v nq14
  have S_UNPROCESSABLE_ENTITY : Sta s s.heap "com/example/kenning/kenning/Status" "UNPROCESSABLE_ENTITY" "Lcom/example/kenning/kenning/Status;" (.ref s_UNPROCESSABLE_ENTITY) := Sta.start ev_UNPROCESSABLE_ENTITY (Or.inr ⟨(hw _ (List.mem_of_getElem? (i := 6) rfl)), (hw _ (List.mem_of_getElem? (i := 33) rfl))⟩)
  have E_UNPROCESSABLE_ENTITY : Exa s s.heap s_UNPROCESSABLE_ENTITY "com/example/kenning/kenning/Status" := Exa.start ev_UNPROCESSABLE_ENTITY nq14
  have F_UNPROCESSABLE_ENTITY_code : Fld s s.heap s_UNPROCESSABLE_ENTITY "com/example/kenning/kenning/Status" "code" "I" (.int (182 : Int32)) := Fld.start ((fld_at ev_UNPROCESSABLE_ENTITY).symm.trans (own_eqI nq15))
  obtain ⟨s_REQUEST_TOO_LARGE, ev_REQUEST_TOO_LARGE⟩ := exa_v nq16
  have S_REQUEST_TOO_LARGE : Sta s s.heap "com/example/kenning/kenning/Status" "REQUEST_TOO_LARGE" "Lcom/example/kenning/kenning/Status;" (.ref s_REQUEST_TOO_LARGE) := Sta.start ev_REQUEST_TOO_LARGE (Or.inr ⟨(hw _ (List.mem_of_getElem? (i := 6) rfl)), (hw _ (List.mem_of_getElem? (i := 35) rfl))⟩)
  have E_REQUEST_TOO_LARGE : Exa s s.heap s_REQUEST_TOO_LARGE "com/example/kenning/kenning/Status" := Exa.start ev_REQUEST_TOO_LARGE nq16
  have F_REQUEST_TOO_LARGE_code : Fld s s.heap s_REQUEST_TOO_LARGE "com/example/kenning/kenning/Status" "code" "I" (.int (173 : Int32)) := Fld.start ((fld_at ev_REQUEST_TOO_LARGE).symm.trans (own_eqI nq17))
  obtain ⟨s_NOT_FOUND, ev_NOT_FOUND⟩ := exa_v nq18
  have S_NOT_FOUND : Sta s s.heap "com/example/kenning/kenning/Status" "NOT_FOUND" "Lcom/example/kenning/kenning/Status;" (.ref s_NOT_FOUND) := Sta.start ev_NOT_FOUND (Or.inr ⟨(hw _ (List.mem_of_getElem? (i := 6) rfl)), (hw _ (List.mem_of_getElem? (i := 37) rfl))⟩)
  have E_NOT_FOUND : Exa s s.heap s_NOT_FOUND "com/example/kenning/kenning/Status" := Exa.start ev_NOT_FOUND nq18
  have F_NOT_FOUND_code : Fld s s.heap s_NOT_FOUND "com/example/kenning/kenning/Status" "code" "I" (.int (164 : Int32)) := Fld.start ((fld_at ev_NOT_FOUND).symm.trans (own_eqI nq19))
  obtain ⟨s_DELETED, ev_DELETED⟩ := exa_v nq20
  have S_DELETED : Sta s s.heap "com/example/kenning/kenning/Status" "DELETED" "Lcom/example/kenning/kenning/Status;" (.ref s_DELETED) := Sta.start ev_DELETED (Or.inr ⟨(hw _ (List.mem_of_getElem? (i := 6) rfl)), (hw _ (List.mem_of_getElem? (i := 39) rfl))⟩)
  have E_DELETED : Exa s s.heap s_DELETED "com/example/kenning/kenning/Status" := Exa.start ev_DELETED nq20
  have F_DELETED_code : Fld s s.heap s_DELETED "com/example/kenning/kenning/Status" "code" "I" (.int (130 : Int32)) := Fld.start ((fld_at ev_DELETED).symm.trans (own_eqI nq21))
  obtain ⟨s_METHOD_NOT_ALLOWED, ev_METHOD_NOT_ALLOWED⟩ := exa_v nq22
  have S_METHOD_NOT_ALLOWED : Sta s s.heap "com/example/kenning/kenning/Status" "METHOD_NOT_ALLOWED" "Lcom/example/kenning/kenning/Status;" (.ref s_METHOD_NOT_ALLOWED) := Sta.start ev_METHOD_NOT_ALLOWED (Or.inr ⟨(hw _ (List.mem_of_getElem? (i := 6) rfl)), (hw _ (List.mem_of_getElem? (i := 41) rfl))⟩)
  have E_METHOD_NOT_ALLOWED : Exa s s.heap s_METHOD_NOT_ALLOWED "com/example/kenning/kenning/Status" := Exa.start ev_METHOD_NOT_ALLOWED nq22
  have F_METHOD_NOT_ALLOWED_code : Fld s s.heap s_METHOD_NOT_ALLOWED "com/example/kenning/kenning/Status" "code" "I" (.int (165 : Int32)) := Fld.start ((fld_at ev_METHOD_NOT_ALLOWED).symm.trans (own_eqI nq23))
  obtain ⟨s_BAD_REQUEST, ev_BAD_REQUEST⟩ := exa_v nq24
  have S_BAD_REQUEST : Sta s s.heap "com/example/kenning/kenning/Status" "BAD_REQUEST" "Lcom/example/kenning/kenning/Status;" (.ref s_BAD_REQUEST) := Sta.start ev_BAD_REQUEST (Or.inr ⟨(hw _ (List.mem_of_getElem? (i := 6) rfl)), (hw _ (List.mem_of_getElem? (i := 43) rfl))⟩)
  have E_BAD_REQUEST : Exa s s.heap s_BAD_REQUEST "com/example/kenning/kenning/Status" := Exa.start ev_BAD_REQUEST nq24
  have F_BAD_REQUEST_code : Fld s s.heap s_BAD_REQUEST "com/example/kenning/kenning/Status" "code" "I" (.int (160 : Int32)) := Fld.start ((fld_at ev_BAD_REQUEST).symm.trans (own_eqI nq25))
  obtain ⟨s_UNAUTHORIZED, ev_UNAUTHORIZED⟩ := exa_v nq26
  have S_UNAUTHORIZED : Sta s s.heap "com/example/kenning/kenning/Status" "UNAUTHORIZED" "Lcom/example/kenning/kenning/Status;" (.ref s_UNAUTHORIZED) := Sta.start ev_UNAUTHORIZED (Or.inr ⟨(hw _ (List.mem_of_getElem? (i := 6) rfl)), (hw _ (List.mem_of_getElem? (i := 45) rfl))⟩)
  have E_UNAUTHORIZED : Exa s s.heap s_UNAUTHORIZED "com/example/kenning/kenning/Status" := Exa.start ev_UNAUTHORIZED nq26
  have F_UNAUTHORIZED_code : Fld s s.heap s_UNAUTHORIZED "com/example/kenning/kenning/Status" "code" "I" (.int (161 : Int32)) := Fld.start ((fld_at ev_UNAUTHORIZED).symm.trans (own_eqI nq27))
  obtain ⟨n, o, h1, h2, h3, _, L, rfl, ⟨rfl, N⟩, hq⟩ := rm0 l s _ hw tables_1 i0 s_CREATED s_DELETED s_VALID s_CHANGED s_CONTENT s_BAD_REQUEST s_UNAUTHORIZED s_FORBIDDEN s_NOT_FOUND s_METHOD_NOT_ALLOWED s_REQUEST_TOO_LARGE s_UNPROCESSABLE_ENTITY s_INTERNAL_SERVER_ERROR s_NOT_IMPLEMENTED s.heap s.heap.size (Nat.le_refl _) S_CREATED E_CREATED F_CREATED_code S_DELETED E_DELETED F_DELETED_code S_VALID E_VALID F_VALID_code S_CHANGED E_CHANGED F_CHANGED_code S_CONTENT E_CONTENT F_CONTENT_code S_BAD_REQUEST E_BAD_REQUEST F_BAD_REQUEST_code S_UNAUTHORIZED E_UNAUTHORIZED F_UNAUTHORIZED_code S_FORBIDDEN E_FORBIDDEN F_FORBIDDEN_code S_NOT_FOUND E_NOT_FOUND F_NOT_FOUND_code S_METHOD_NOT_ALLOWED E_METHOD_NOT_ALLOWED F_METHOD_NOT_ALLOWED_code S_REQUEST_TOO_LARGE E_REQUEST_TOO_LARGE F_REQUEST_TOO_LARGE_code S_UNPROCESSABLE_ENTITY E_UNPROCESSABLE_ENTITY F_UNPROCESSABLE_ENTITY_code S_INTERNAL_SERVER_ERROR E_INTERNAL_SERVER_ERROR F_INTERNAL_SERVER_ERROR_code S_NOT_IMPLEMENTED E_NOT_IMPLEMENTED F_NOT_IMPLEMENTED_code p e ha hc hk s m _ below hf ((Spec.applies_iff_loose hf).mp happ).1 ⟨rfl, State.Warmed39.refl s, rfl⟩ trivial
  refine ⟨n, _, h1, h2, h3, hpost _ _ _ _ _ _ ⟨Cond.after_iff.mpr rfl, Cond.after_iff.mpr (eq_i res_at (Term.int_eval (1)) rfl), trivial⟩ ⟨hq.1, hq.2.1, (hq.2.2.sift fun y hy => Or.inr (N y hy)).mono (by decide) (by decide)⟩⟩
theorem main_1_1 : Claimed_1_1 := comes_1 fun _ _ _ _ _ _ h hF => ⟨h.1, hF⟩
theorem main_1_2 : Claimed_1_2 := comes_1 fun _ _ _ _ _ _ h hF => ⟨h.2.1, hF⟩
end Jvm.Pilot.@@N@@
namespace Jvm.Pilot.@@N@@
open Jvm Jvm.ClassFile Sem Op Lib Jvm.Free Jvm.Stand Jvm.Pilot.@@N@@.Jvm.D
/-! MADE BY PROGRAM (witnessworld.py) out of the Statement's table words and the real class files: 12 classes; the members and pool entries that the words name. The judged class is class 1, her method 2. -/
namespace start1
open Jvm.ClassFile
def u (s : String) : CpInfo := .utf8 (stringToUtf16 s)
/-- a pool by its gaps: so many unusable entries, then the entry; so many at the end -/
def gap : Nat → List CpInfo → List CpInfo
  | 0, r => r
  | n + 1, r => .unusable :: gap n r
def poolList (es : List (Nat × CpInfo)) (last : Nat) : List CpInfo := es.foldr (fun e r => gap e.1 (e.2 :: r)) (gap last [])
def pool (es : List (Nat × CpInfo)) (last : Nat) : Array CpInfo := ⟨poolList es last⟩
def fileOf (pool : Array CpInfo) (this : Nat) (attrs : Array Attribute := #[]) (ms : Array MethodInfo := #[]) (fl : Nat := 33) (sup : Nat := 0) (ifs : Array Nat := #[]) (fds : Array FieldInfo := #[]) : ClassFile where
  minorVersion := 0
  majorVersion := 65
  constantPool := pool
  accessFlags := fl
  thisClass := this
  superClass := sup
  interfaces := ifs
  fields := fds
  methods := ms
  attributes := attrs
def plain (name : String) (sup : Option ClassId) : Class where
  name := name
  kind := .ordinary
  loader := none
  accessFlags := 33
  super := sup
  interfaces := #[]
  cf := none
  fields := #[]
  methods := #[]
  instanceTypes := #[]
  staticTypes := #[]
  resolved := #[]
  callSites := []
  init := .initialized
  statics := none
  mirror := none

def pool0 : Array CpInfo := pool [(5, u "<init>"), (0, u "()V"), (1, .class_ 10), (1, u "java/lang/Object")] 113

def k0m0 : Method := { name := "<init>", desc := "()V", sig := { parameters := [], returnType := none }, accessFlags := 1, code := none }
/-- java/lang/Object -/
def k0 : Class := { plain "java/lang/Object" none with
  accessFlags := 33
  interfaces := #[]
  cf := some (fileOf pool0 8 #[] #[{ accessFlags := 1, nameIndex := 5, descriptorIndex := 6, attributes := #[] }] 33 0 #[] #[])
  fields := #[]
  methods := #[k0m0]
  instanceTypes := #[]
  staticTypes := #[]
  resolved := Array.replicate 124 none
  statics := none }

def pool1 : Array CpInfo := pool [(2, .class_ 4), (1, u "java/lang/Object"), (0, u "<init>"), (0, u "()V"), (0, .fieldref 8 9), (0, .class_ 10), (0, .nameAndType 11 12), (0, u "com/example/kenning/kenning/Status"), (0, u "CREATED"), (0, u "Lcom/example/kenning/kenning/Status;"), (0, .fieldref 8 14), (0, .nameAndType 15 12), (0, u "DELETED"), (0, .fieldref 8 17), (0, .nameAndType 18 12), (0, u "VALID"), (0, .fieldref 8 20), (0, .nameAndType 21 12), (0, u "CHANGED"), (0, .fieldref 8 23), (0, .nameAndType 24 12), (0, u "CONTENT"), (0, .fieldref 8 26), (0, .nameAndType 27 12), (0, u "BAD_REQUEST"), (0, .fieldref 8 29), (0, .nameAndType 30 12), (0, u "UNAUTHORIZED"), (0, .fieldref 8 32), (0, .nameAndType 33 12), (0, u "FORBIDDEN"), (0, .fieldref 8 35), (0, .nameAndType 36 12), (0, u "NOT_FOUND"), (0, .fieldref 8 38), (0, .nameAndType 39 12), (0, u "METHOD_NOT_ALLOWED"), (0, .fieldref 8 41), (0, .nameAndType 42 12), (0, u "REQUEST_TOO_LARGE"), (0, .fieldref 8 44), (0, .nameAndType 45 12), (0, u "UNPROCESSABLE_ENTITY"), (0, .fieldref 8 47), (0, .nameAndType 48 12), (0, u "INTERNAL_SERVER_ERROR"), (0, .fieldref 8 50), (0, .nameAndType 51 12), (0, u "NOT_IMPLEMENTED"), (0, .integer 2147483647), (0, .methodref 54 55), (0, .class_ 56), (0, .nameAndType 57 58), (0, u "com/example/kenning/kenning/StatusIsErrorPinLaw"), (0, u "pick"), (0, u "(I)Lcom/example/kenning/kenning/Status;"), (0, .methodref 8 60), (0, .nameAndType 61 62), (0, u "code"), (0, u "()I"), (0, .methodref 8 64), (0, .nameAndType 65 66), (0, u "isError"), (0, u "()Z"), (3, u "law"), (0, u "(I)Z")] 2

def k1m0 : Method := { name := "<init>", desc := "()V", sig := { parameters := [], returnType := none }, accessFlags := 1, code := none }
def k1c1 : Code := { maxStack := 2, maxLocals := 1, code := method_2_code, exceptionTable := #[], attributes := #[] }
def k1m1 : Method := { name := "pick", desc := "(I)Lcom/example/kenning/kenning/Status;", sig := { parameters := [.int], returnType := some (.object "com/example/kenning/kenning/Status") }, accessFlags := 10, code := some k1c1 }
def k1c2 : Code := { maxStack := 2, maxLocals := 7, code := code, exceptionTable := #[], attributes := #[] }
def k1m2 : Method := { name := "law", desc := "(I)Z", sig := { parameters := [.int], returnType := some .boolean }, accessFlags := 9, code := some k1c2 }
/-- com/example/kenning/kenning/StatusIsErrorPinLaw -/
def k1 : Class := { plain "com/example/kenning/kenning/StatusIsErrorPinLaw" (some 0) with
  accessFlags := 49
  interfaces := #[]
  cf := some (fileOf pool1 54 #[] #[{ accessFlags := 1, nameIndex := 5, descriptorIndex := 6, attributes := #[] }, { accessFlags := 10, nameIndex := 57, descriptorIndex := 58, attributes := #[] }, { accessFlags := 9, nameIndex := 70, descriptorIndex := 71, attributes := #[] }] 49 2 #[] #[])
  fields := #[]
  methods := #[k1m0, k1m1, k1m2]
  instanceTypes := #[]
  staticTypes := #[]
  resolved := Array.replicate 74 none
  statics := none }

def pool2 : Array CpInfo := pool [(1, .class_ 2), (0, u "java/lang/constant/Constable"), (0, .class_ 4), (0, u "java/lang/Object")] 6

/-- java/lang/constant/Constable -/
def k2 : Class := { plain "java/lang/constant/Constable" (some 0) with
  accessFlags := 1537
  interfaces := #[]
  cf := some (fileOf pool2 1 #[] #[] 1537 3 #[] #[])
  fields := #[]
  methods := #[]
  instanceTypes := #[]
  staticTypes := #[]
  resolved := Array.replicate 11 none
  statics := none }

def pool3 : Array CpInfo := pool [(1, .class_ 2), (0, u "java/lang/Comparable"), (0, .class_ 4), (0, u "java/lang/Object")] 7

/-- java/lang/Comparable -/
def k3 : Class := { plain "java/lang/Comparable" (some 0) with
  accessFlags := 1537
  interfaces := #[]
  cf := some (fileOf pool3 1 #[] #[] 1537 3 #[] #[])
  fields := #[]
  methods := #[]
  instanceTypes := #[]
  staticTypes := #[]
  resolved := Array.replicate 12 none
  statics := none }

def pool4 : Array CpInfo := pool [(1, .class_ 2), (0, u "java/io/Serializable"), (0, .class_ 4), (0, u "java/lang/Object")] 2

/-- java/io/Serializable -/
def k4 : Class := { plain "java/io/Serializable" (some 0) with
  accessFlags := 1537
  interfaces := #[]
  cf := some (fileOf pool4 1 #[] #[] 1537 3 #[] #[])
  fields := #[]
  methods := #[]
  instanceTypes := #[]
  staticTypes := #[]
  resolved := Array.replicate 7 none
  statics := none }

def pool5 : Array CpInfo := pool [(2, .class_ 4), (1, u "java/lang/Enum"), (0, u "name"), (0, u "Ljava/lang/String;"), (2, u "ordinal"), (0, u "I"), (1, .class_ 14), (1, u "java/lang/Object"), (4, u "hash"), (86, .class_ 108), (1, u "java/lang/Enum$EnumDesc"), (2, .class_ 112), (0, u "java/lang/constant/Constable"), (0, .class_ 114), (0, u "java/lang/Comparable"), (0, .class_ 116), (0, u "java/io/Serializable")] 87

/-- java/lang/Enum -/
def k5 : Class := { plain "java/lang/Enum" (some 0) with
  accessFlags := 1057
  interfaces := #[2, 3, 4]
  cf := some (fileOf pool5 2 #[.nestMembers #[106]] #[] 1057 12 #[111, 113, 115] #[{ accessFlags := 18, nameIndex := 5, descriptorIndex := 6, attributes := #[] }, { accessFlags := 18, nameIndex := 9, descriptorIndex := 10, attributes := #[] }, { accessFlags := 2, nameIndex := 19, descriptorIndex := 10, attributes := #[] }])
  fields := #[{ name := "name", type := (.object "java/lang/String"), accessFlags := 18, slot := 0, constantValue := 0 }, { name := "ordinal", type := .int, accessFlags := 18, slot := 1, constantValue := 0 }, { name := "hash", type := .int, accessFlags := 2, slot := 2, constantValue := 0 }]
  methods := #[]
  instanceTypes := #[(.object "java/lang/String"), .int, .int]
  staticTypes := #[]
  resolved := Array.replicate 204 none
  statics := none }

def pool6 : Array CpInfo := pool [(1, .class_ 2), (0, u "com/example/kenning/kenning/Status"), (2, u "CREATED"), (0, u "Lcom/example/kenning/kenning/Status;"), (2, u "DELETED"), (2, u "VALID"), (2, u "CHANGED"), (2, u "CONTENT"), (2, u "BAD_REQUEST"), (2, u "UNAUTHORIZED"), (2, u "FORBIDDEN"), (2, u "NOT_FOUND"), (2, u "METHOD_NOT_ALLOWED"), (2, u "REQUEST_TOO_LARGE"), (2, u "UNPROCESSABLE_ENTITY"), (2, u "INTERNAL_SERVER_ERROR"), (2, u "NOT_IMPLEMENTED"), (2, u "$VALUES"), (0, u "[Lcom/example/kenning/kenning/Status;"), (6, .class_ 58), (1, u "java/lang/Enum"), (6, .fieldref 1 66), (0, .nameAndType 67 68), (0, u "code"), (0, u "I"), (2, u "text"), (0, u "Ljava/lang/String;"), (77, u "FIRST_ERROR_CODE"), (8, u "()I"), (2, u "isError"), (0, u "()Z")] 8

def k6c0 : Code := { maxStack := 1, maxLocals := 1, code := prog_13_method_4_code, exceptionTable := #[], attributes := #[] }
def k6m0 : Method := { name := "code", desc := "()I", sig := { parameters := [], returnType := some .int }, accessFlags := 1, code := some k6c0 }
def k6c1 : Code := { maxStack := 2, maxLocals := 1, code := prog_13_method_7_code, exceptionTable := #[], attributes := #[] }
def k6m1 : Method := { name := "isError", desc := "()Z", sig := { parameters := [], returnType := some .boolean }, accessFlags := 1, code := some k6c1 }
/-- com/example/kenning/kenning/Status -/
def k6 : Class := { plain "com/example/kenning/kenning/Status" (some 5) with
  accessFlags := 16433
  interfaces := #[]
  cf := some (fileOf pool6 1 #[] #[{ accessFlags := 1, nameIndex := 67, descriptorIndex := 159, attributes := #[] }, { accessFlags := 1, nameIndex := 162, descriptorIndex := 163, attributes := #[] }] 16433 56 #[] #[{ accessFlags := 16409, nameIndex := 5, descriptorIndex := 6, attributes := #[] }, { accessFlags := 16409, nameIndex := 9, descriptorIndex := 6, attributes := #[] }, { accessFlags := 16409, nameIndex := 12, descriptorIndex := 6, attributes := #[] }, { accessFlags := 16409, nameIndex := 15, descriptorIndex := 6, attributes := #[] }, { accessFlags := 16409, nameIndex := 18, descriptorIndex := 6, attributes := #[] }, { accessFlags := 16409, nameIndex := 21, descriptorIndex := 6, attributes := #[] }, { accessFlags := 16409, nameIndex := 24, descriptorIndex := 6, attributes := #[] }, { accessFlags := 16409, nameIndex := 27, descriptorIndex := 6, attributes := #[] }, { accessFlags := 16409, nameIndex := 30, descriptorIndex := 6, attributes := #[] }, { accessFlags := 16409, nameIndex := 33, descriptorIndex := 6, attributes := #[] }, { accessFlags := 16409, nameIndex := 36, descriptorIndex := 6, attributes := #[] }, { accessFlags := 16409, nameIndex := 39, descriptorIndex := 6, attributes := #[] }, { accessFlags := 16409, nameIndex := 42, descriptorIndex := 6, attributes := #[] }, { accessFlags := 16409, nameIndex := 45, descriptorIndex := 6, attributes := #[] }, { accessFlags := 26, nameIndex := 150, descriptorIndex := 68, attributes := #[] }, { accessFlags := 18, nameIndex := 67, descriptorIndex := 68, attributes := #[] }, { accessFlags := 18, nameIndex := 71, descriptorIndex := 72, attributes := #[] }, { accessFlags := 4122, nameIndex := 48, descriptorIndex := 49, attributes := #[] }])
  fields := #[{ name := "CREATED", type := (.object "com/example/kenning/kenning/Status"), accessFlags := 16409, slot := 0, constantValue := 0 }, { name := "DELETED", type := (.object "com/example/kenning/kenning/Status"), accessFlags := 16409, slot := 1, constantValue := 0 }, { name := "VALID", type := (.object "com/example/kenning/kenning/Status"), accessFlags := 16409, slot := 2, constantValue := 0 }, { name := "CHANGED", type := (.object "com/example/kenning/kenning/Status"), accessFlags := 16409, slot := 3, constantValue := 0 }, { name := "CONTENT", type := (.object "com/example/kenning/kenning/Status"), accessFlags := 16409, slot := 4, constantValue := 0 }, { name := "BAD_REQUEST", type := (.object "com/example/kenning/kenning/Status"), accessFlags := 16409, slot := 5, constantValue := 0 }, { name := "UNAUTHORIZED", type := (.object "com/example/kenning/kenning/Status"), accessFlags := 16409, slot := 6, constantValue := 0 }, { name := "FORBIDDEN", type := (.object "com/example/kenning/kenning/Status"), accessFlags := 16409, slot := 7, constantValue := 0 }, { name := "NOT_FOUND", type := (.object "com/example/kenning/kenning/Status"), accessFlags := 16409, slot := 8, constantValue := 0 }, { name := "METHOD_NOT_ALLOWED", type := (.object "com/example/kenning/kenning/Status"), accessFlags := 16409, slot := 9, constantValue := 0 }, { name := "REQUEST_TOO_LARGE", type := (.object "com/example/kenning/kenning/Status"), accessFlags := 16409, slot := 10, constantValue := 0 }, { name := "UNPROCESSABLE_ENTITY", type := (.object "com/example/kenning/kenning/Status"), accessFlags := 16409, slot := 11, constantValue := 0 }, { name := "INTERNAL_SERVER_ERROR", type := (.object "com/example/kenning/kenning/Status"), accessFlags := 16409, slot := 12, constantValue := 0 }, { name := "NOT_IMPLEMENTED", type := (.object "com/example/kenning/kenning/Status"), accessFlags := 16409, slot := 13, constantValue := 0 }, { name := "FIRST_ERROR_CODE", type := .int, accessFlags := 26, slot := 14, constantValue := 0 }, { name := "code", type := .int, accessFlags := 18, slot := 3, constantValue := 0 }, { name := "text", type := (.object "java/lang/String"), accessFlags := 18, slot := 4, constantValue := 0 }, { name := "$VALUES", type := (.array (.object "com/example/kenning/kenning/Status")), accessFlags := 4122, slot := 15, constantValue := 0 }]
  methods := #[k6m0, k6m1]
  instanceTypes := #[(.object "java/lang/String"), .int, .int, .int, (.object "java/lang/String")]
  staticTypes := #[(.object "com/example/kenning/kenning/Status"), (.object "com/example/kenning/kenning/Status"), (.object "com/example/kenning/kenning/Status"), (.object "com/example/kenning/kenning/Status"), (.object "com/example/kenning/kenning/Status"), (.object "com/example/kenning/kenning/Status"), (.object "com/example/kenning/kenning/Status"), (.object "com/example/kenning/kenning/Status"), (.object "com/example/kenning/kenning/Status"), (.object "com/example/kenning/kenning/Status"), (.object "com/example/kenning/kenning/Status"), (.object "com/example/kenning/kenning/Status"), (.object "com/example/kenning/kenning/Status"), (.object "com/example/kenning/kenning/Status"), .int, (.array (.object "com/example/kenning/kenning/Status"))]
  resolved := Array.replicate 172 none
  statics := some 0 }

def pool7 : Array CpInfo := pool [(1, u "java/lang/Cloneable"), (0, .class_ 1), (0, u "java/lang/Object"), (0, .class_ 3)] 3

/-- java/lang/Cloneable -/
def k7 : Class := { plain "java/lang/Cloneable" (some 0) with
  accessFlags := 1537
  interfaces := #[]
  cf := some (fileOf pool7 2 #[] #[] 1537 4 #[] #[])
  fields := #[]
  methods := #[]
  instanceTypes := #[]
  staticTypes := #[]
  resolved := Array.replicate 8 none
  statics := none }

/-- the primitive byte -/
def k8 : Class := { plain "byte" none with kind := .primitive 'B', accessFlags := 0x411 }
/-- [B -/
def k9 : Class := { plain "[B" (some 0) with kind := .array 8 .byte, interfaces := #[7, 4], accessFlags := 1041 }

/-- the primitive int -/
def k10 : Class := { plain "int" none with kind := .primitive 'I', accessFlags := 0x411 }
/-- [I -/
def k11 : Class := { plain "[I" (some 0) with kind := .array 10 .int, interfaces := #[7, 4], accessFlags := 1041 }

def heap : Heap := #[{ cls := 6, slots := #[.ref 1, .ref 2, .ref 3, .ref 4, .ref 5, .ref 6, .ref 7, .ref 8, .ref 9, .ref 10, .ref 11, .ref 12, .ref 13, .ref 14, .int 0, .null], vm := .statics 6 },
  { cls := 6, slots := #[.null, .int 0, .int 0, .int 129, .null], vm := .none },
  { cls := 6, slots := #[.null, .int 0, .int 0, .int 130, .null], vm := .none },
  { cls := 6, slots := #[.null, .int 0, .int 0, .int 131, .null], vm := .none },
  { cls := 6, slots := #[.null, .int 0, .int 0, .int 132, .null], vm := .none },
  { cls := 6, slots := #[.null, .int 0, .int 0, .int 133, .null], vm := .none },
  { cls := 6, slots := #[.null, .int 0, .int 0, .int 160, .null], vm := .none },
  { cls := 6, slots := #[.null, .int 0, .int 0, .int 161, .null], vm := .none },
  { cls := 6, slots := #[.null, .int 0, .int 0, .int 163, .null], vm := .none },
  { cls := 6, slots := #[.null, .int 0, .int 0, .int 164, .null], vm := .none },
  { cls := 6, slots := #[.null, .int 0, .int 0, .int 165, .null], vm := .none },
  { cls := 6, slots := #[.null, .int 0, .int 0, .int 173, .null], vm := .none },
  { cls := 6, slots := #[.null, .int 0, .int 0, .int 182, .null], vm := .none },
  { cls := 6, slots := #[.null, .int 0, .int 0, .int 192, .null], vm := .none },
  { cls := 6, slots := #[.null, .int 0, .int 0, .int 193, .null], vm := .none }]
def classes : Array Class := #[k0, k1, k2, k3, k4, k5, k6, k7, k8, k9, k10, k11]
def interned : List (Array UInt16 × Addr) := []
def slotsUsed : Nat := 86
def theMethod : MethodId := ⟨1, 2⟩
def args0 : Array Value := #[.int 5]
def aboutOver (below : List Frame) : State where
  vm := { classes := classes, interned := interned.toArray }
  heap := heap
  slotsUsed := slotsUsed
  threads := #[{ frames := .invoking theMethod args0 :: below }]
def below0 : List Frame := [.native { method := ⟨0, 0⟩, args := #[] }]
def about1 : State := aboutOver below0
def p0 : Program := .bare "" "" ""
def e0 : Env := launch0.env 0 0 0
theorem w_frames : about1.frames = Frame.invoking theMethod args0 :: below0 := rfl
set_option maxRecDepth 65536 in
theorem w_args : argsFit about1.vm theMethod args0 = true := by decide +kernel
set_option maxRecDepth 65536 in
theorem w_heap : heapFits about1 = true := by decide +kernel
set_option maxRecDepth 65536 in
theorem w_runnable : about1.curStatus? = some .runnable := by decide +kernel
set_option maxRecDepth 65536 in
theorem w_alone : about1.alone = true := by decide +kernel
set_option maxRecDepth 65536 in
theorem w_named : about1.methodNamed? x = some theMethod := by decide +kernel
set_option maxRecDepth 65536 in
theorem w_hears : about1.hears theMethod below0 = true := by decide +kernel
set_option maxRecDepth 65536 in
theorem w_ripe : about1.ripe theMethod args0 below0 = true := by decide +kernel
theorem w_running : about1.status = .running := rfl
set_option maxRecDepth 65536 in
theorem w_room : about1.hasRoom e0.platform room_1 = true :=
  launch0.hasRoom_least _ room_1 (by decide +kernel) (by decide +kernel) (by decide +kernel) (by decide +kernel) (by decide +kernel) (by decide +kernel)
theorem allAtoms_all (ts : List Jvm.Cond) (a : Array Jvm.Value) (st : Jvm.State) : (allAtoms ts).before a st = ts.all (fun c => c.before a st) := by
  induction ts with
  | nil => rfl
  | cons c t ih =>
    show (Jvm.Cond.and c (allAtoms t)).before a st = _
    rw [Jvm.Cond.before_and, ih, List.all_cons]
def words1 : List Jvm.Cond := Jvm.Cond.code x code maxLocals ret :: tables_1
/-- a 'code' word, met by the world's own term for the bytes: nothing is compared byte by byte -/
theorem code_word {y : MethodName} {bytes : ByteArray} {mx : Nat} {rt : Option FieldType} {a : Array Value} {s : State} {m : MethodId} {meth : Method} {c : Code} (h1 : s.methodNamed? y = some m) (h2 : s.vm.method? m = some meth) (h3 : meth.code = some c) (h4 : c.code = bytes)
    (h5 : (c.maxLocals == mx && c.exceptionTable.isEmpty && decide (c.maxStack ≤ mostOperands) && decide (meth.sig.returnType = rt) && !meth.locks && decide (parseMethodDescriptor y.desc = some meth.sig)) = true) : (Jvm.Cond.code y bytes mx rt).before a s = true := by
  simp only [Bool.and_eq_true, beq_iff_eq, Bool.not_eq_true', decide_eq_true_eq] at h5
  obtain ⟨⟨⟨⟨⟨g1, g2⟩, g3⟩, g4⟩, g5⟩, g6⟩ := h5
  simp [Cond.before, Cond.holds, Cond.value, h1, h2, h3, h4, g1, g2, g3, g4, g5, g6]
def isCode : Jvm.Cond → Bool
  | .code _ _ _ _ => true
  | _ => false
theorem all_split {L : List Jvm.Cond} {P : Jvm.Cond → Bool} (h1 : L.all (fun c => isCode c || P c) = true) (h2 : ∀ c ∈ L.filter isCode, P c = true) : L.all P = true := by
  refine List.all_eq_true.mpr fun c hc => ?_
  have h := List.all_eq_true.mp h1 c hc
  rcases Bool.eq_false_or_eq_true (isCode c) with hi | hi
  · exact h2 c (List.mem_filter.mpr ⟨hc, hi⟩)
  · simpa [hi] using h
set_option maxRecDepth 65536 in
theorem w_c0 : (Jvm.Cond.code x code maxLocals ret).before args0 about1 = true := code_word (m := ⟨1, 2⟩) (meth := k1m2) (c := k1c2) (by decide +kernel) rfl rfl rfl (by decide +kernel)
set_option maxRecDepth 65536 in
theorem w_c1 : (Jvm.Cond.code ({ cls := "com/example/kenning/kenning/StatusIsErrorPinLaw", name := "pick", desc := "(I)Lcom/example/kenning/kenning/Status;" } : Jvm.MethodName) method_2_code (1 : Nat) (Option.some (Jvm.ClassFile.FieldType.object "com/example/kenning/kenning/Status"))).before args0 about1 = true := code_word (m := ⟨1, 1⟩) (meth := k1m1) (c := k1c1) (by decide +kernel) rfl rfl rfl (by decide +kernel)
set_option maxRecDepth 65536 in
theorem w_c2 : (Jvm.Cond.code ({ cls := "com/example/kenning/kenning/Status", name := "code", desc := "()I" } : Jvm.MethodName) prog_13_method_4_code (1 : Nat) (Option.some Jvm.ClassFile.FieldType.int)).before args0 about1 = true := code_word (m := ⟨6, 0⟩) (meth := k6m0) (c := k6c0) (by decide +kernel) rfl rfl rfl (by decide +kernel)
set_option maxRecDepth 65536 in
theorem w_c3 : (Jvm.Cond.code ({ cls := "com/example/kenning/kenning/Status", name := "isError", desc := "()Z" } : Jvm.MethodName) prog_13_method_7_code (1 : Nat) (Option.some Jvm.ClassFile.FieldType.boolean)).before args0 about1 = true := code_word (m := ⟨6, 1⟩) (meth := k6m1) (c := k6c1) (by decide +kernel) rfl rfl rfl (by decide +kernel)
def codes1 : List Jvm.Cond := [Jvm.Cond.code x code maxLocals ret, Jvm.Cond.code ({ cls := "com/example/kenning/kenning/StatusIsErrorPinLaw", name := "pick", desc := "(I)Lcom/example/kenning/kenning/Status;" } : Jvm.MethodName) method_2_code (1 : Nat) (Option.some (Jvm.ClassFile.FieldType.object "com/example/kenning/kenning/Status")), Jvm.Cond.code ({ cls := "com/example/kenning/kenning/Status", name := "code", desc := "()I" } : Jvm.MethodName) prog_13_method_4_code (1 : Nat) (Option.some Jvm.ClassFile.FieldType.int), Jvm.Cond.code ({ cls := "com/example/kenning/kenning/Status", name := "isError", desc := "()Z" } : Jvm.MethodName) prog_13_method_7_code (1 : Nat) (Option.some Jvm.ClassFile.FieldType.boolean)]
set_option maxRecDepth 65536 in
theorem codes_eq : words1.filter isCode = codes1 := rfl
theorem w_codes : ∀ c ∈ words1.filter isCode, c.before args0 about1 = true := by
  rw [codes_eq]
  intro c hc
  simp only [codes1, List.mem_cons, List.not_mem_nil, or_false] at hc
  rcases hc with rfl | rfl | rfl | rfl
  · exact w_c0
  · exact w_c1
  · exact w_c2
  · exact w_c3
set_option maxRecDepth 65536 in
theorem w_t1 : (words1.take 24).all (fun c => isCode c || c.before args0 about1) = true := by decide +kernel
set_option maxRecDepth 65536 in
theorem w_t2 : (words1.drop 24).all (fun c => isCode c || c.before args0 about1) = true := by decide +kernel
theorem w_tables : (allAtoms (Jvm.Cond.code x code maxLocals ret :: tables_1)).before args0 about1 = true := by
  rw [allAtoms_all]
  show words1.all (fun c => c.before args0 about1) = true
  refine all_split ?_ w_codes
  rw [← List.take_append_drop 24 words1, List.all_append, w_t1, w_t2]
  rfl
set_option maxRecDepth 65536 in
theorem w_case : (Jvm.Cond.and given_1 narrow_1).before args0 about1 = true := by decide +kernel
theorem w_applies : (headSpec (Jvm.Cond.code x code maxLocals ret :: tables_1) room_1).applies x e0.platform about1 = true :=
  (Spec.applies_iff w_frames).mpr ⟨w_running, w_runnable, w_alone, w_named, w_hears, w_ripe, w_room, w_tables⟩
theorem atStart : AtStart classFile x code maxLocals ret World_1 tables_1 room_1 Calls_1 rest_1 Pre_1 launch0 p0 e0 about1 theMethod args0 below0 :=
  ⟨lists_1, trivial, launch0.admits_env _ _ _, launch0.least_env, fairChoices_fair.cas, fairChoices_fair.clock, w_frames, w_args, w_heap, w_applies, trivial, trivial, w_case⟩
end start1
theorem witness_1 : WitnessClaimed_1 := ⟨start1.p0, start1.e0, start1.about1, start1.theMethod, start1.args0, start1.below0, start1.atStart⟩
end Jvm.Pilot.@@N@@
