import JvmDerived
import JvmDerived.Pilot.@@N@@Statement
import JvmDerived.Pilot.@@N@@Code
set_option linter.unusedVariables false
set_option linter.unusedSimpArgs false
namespace Jvm.RoadKit
open Sem ClassFile Op Lib Jvm.Stand Jvm.Free Jvm.LawKit
section New
variable {p : Program} {l : Launch} {e : Env} {R : Room} {s : State} {m : MethodId} {args : Array Value} {below : List Frame} {meth : Method} {c : Code} {T : State} {locs : List Loc} {cells slots : Nat}
theorem retI (X : Stand p l e R s m args below meth c T locs cells slots) (hx : p.tables.exec = Jvm.exec) {pc : Nat} {Ls : Array Slot} {z : Int32} {rest : List Value} (hret : meth.sig.returnType = some .int) (hd : decode c.code pc = .ok (.ireturn, 1)) {fs : List Frame}
    (hl : ∀ (f : JFrame) (acts : List Action), f.method = m → f.locked = none → f.entered = [] → (doReturn e (T.setTop f) acts (some (.int z))).1 = T.setFrames fs) : Steps p.tables e below (T.setTop (mkF m pc Ls (.int z :: rest))) (T.setFrames fs) := by
  have hm' : T.vm.method? m = some meth := X.method'
  have hn : narrow .int (.int z) = .int z := rfl
  show Steps p.tables e below (T.setTop { method := m, pc := pc, locals := Ls, stack := _ :: rest, locked := none }) _
  jvm_step X.here [X.here.top, hx, hd, hm', hret, hn]
  first | (intro acts; rw [hl _ acts rfl rfl rfl]) | rw [hl _ _ rfl rfl rfl]
  exact Steps.refl _
end New
/-- the run from S ends, with Post of its end -/
def Go (tb : Tables) (e : Env) (below : List Frame) (Post : Outcome → State → Prop) (S : State) : Prop := ∃ s₂ o, Steps tb e below S s₂ ∧ s₂.status = .running ∧ Ended s₂ below o ∧ Post o s₂
theorem Go.step {tb : Tables} {e : Env} {below : List Frame} {Post : Outcome → State → Prop} {S S' : State} (h : ∀ t, Steps tb e below S' t → Steps tb e below S t) (g : Go tb e below Post S') : Go tb e below Post S := by
  obtain ⟨s₂, o, a, b⟩ := g
  exact ⟨s₂, o, h _ a, b⟩
theorem at_of {c : Cell} {vs : List Value} {d v : Value} {j : Int32} (H : Has c vs d) (hin : ¬ (j < 0 ∨ c.slots.size ≤ j.toNatClampNeg)) (e : vs.getD j.toNatClampNeg d = v) : c.slots[j.toNatClampNeg]? = some v := by
  have q : j.toNatClampNeg < c.slots.size := Nat.lt_of_not_le (fun h => hin (Or.inr h))
  rw [H _ q, e]
end Jvm.RoadKit
namespace Jvm.Pilot.@@N@@
open Jvm Jvm.ClassFile Sem Op Lib Jvm.Free Jvm.Stand Jvm.LawKit Jvm.RoadKit Bundle Jvm.Pilot.@@N@@.Jvm.D
/-- invokespecial of a constructor whose entry has been resolved ('methodRef') -/
theorem own_initRef {tb : Tables} [Ours tb] {e : Env} {below : List Frame} {s U : State} {mm : MethodId} {cc : Code} (h : At U mm cc below) (hexec : tb.exec = Jvm.exec) (hW : s.WarmedH U.vm)
    {own : String} (hown : s.vm.findClass own = some mm.cls) {idx : Nat} {t : MethodName} (ht1 : t.name = "<init>")
    (hnot : t.cls ≠ "java/lang/invoke/MethodHandle" ∧ t.cls ≠ "java/lang/invoke/VarHandle") {args : Array Value} {bytes : ByteArray} {maxL : Nat}
    (href : (Jvm.Cond.methodRef own idx t).before args s = true) (hinst : (Jvm.Cond.instanceMethod t).before args s = true) (hcode : (Jvm.Cond.code t bytes maxL none).before args s = true)
    {f : JFrame} (hf : f.method = mm) {a : Addr} {argsL rest : List Value} (hlen : ∀ sig, parseMethodDescriptor t.desc = some sig → argsL.length = sig.parameters.length) (hstack : f.stack = argsL.reverse ++ .ref a :: rest) (hd : decode cc.code f.pc = .ok (.invokespecial idx, 3)) :
    ∃ tm, s.methodNamed? t = some tm ∧
      ∀ target, (∀ acts, Steps tb e below (doInvoke e (U.setTop { f with stack := rest }) acts tm (.ref a :: argsL).toArray).1 target) → Steps tb e below (U.setTop f) target := by
  subst hf
  obtain ⟨obj, methO, hnO, hmO, hstO, habO⟩ := Cond.instanceMethod_spec hinst
  obtain ⟨methO', cO, hmO', hcO, hbO, hlO, -, hlockO, -, hsigO⟩ := Cond.code_spec hnO hcode
  cases hmO.symm.trans hmO'
  obtain ⟨kO, hkO, hnameO⟩ := className_of_methodNamed hnO
  obtain ⟨hnameMO, hdescO⟩ := name_of_methodNamed hnO hmO
  have hal := hW.alike
  have href' : (Jvm.Cond.methodRef own idx t).before args (s.setVm U.vm) = true := Cond.methodRef_warmed hW hnO hnot href
  have hown' : (s.setVm U.vm).vm.findClass own = some f.method.cls := (hal.findClass _ _).trans hown
  obtain ⟨m', c', hfound', hready, hfind, hnamed⟩ := Cond.methodRef_named e (s := s.setVm U.vm) hown' href'
  have hn' : (s.setVm U.vm).methodNamed? t = some obj := by rw [State.methodNamed?_setVm hal]; exact hnO
  cases (State.methodFound?_of_named hn' hnot).symm.trans hfound'
  have hc' : c' = obj.cls := Option.some.inj (hfind.symm.trans (findClass_of_methodNamed hn'))
  subst hc'
  obtain ⟨kO₂, hkO₂, heO₂⟩ := hal.2.2 _ _ hkO
  have hmO₂ : U.vm.method? obj = some methO := by rw [hal.method?]; exact hmO
  have hfound : lookupSpecial U.vm obj.cls "<init>" methO.desc = .method obj := by
    rw [hal.lookupSpecial, hdescO, ← ht1]; exact lookupSpecial_of_named hnO hmO hstO
  refine ⟨obj, hnO, fun target hrest => ?_⟩
  jvm_step h [hexec, hd, invokespecial.wp_init (e := e) (s := U) (k := kO₂) (meth := methO) (m := obj) (a := a) (args := argsL) (rest := rest) (f := f)
      h.top hnamed hready hkO₂ hmO₂ (by rw [hnameMO]; exact ht1) hstO habO hfound (hlen _ hsigO) hstack]
  exact hrest
theorem own_mvR {Z s : State} {a0 args : Array Value} {own : String} {idx : Nat} {y : MethodName} (hZ : Z.Warmed39 s.vm) (w : (Jvm.Cond.methodRef own idx y).before a0 Z = true) (wi : (Jvm.Cond.instanceMethod y).before a0 Z = true) (hy : y.cls ≠ "java/lang/invoke/MethodHandle" ∧ y.cls ≠ "java/lang/invoke/VarHandle") : (Jvm.Cond.methodRef own idx y).before args s = true := by
  obtain ⟨obj, methO, hnO, -⟩ := Cond.instanceMethod_spec wi
  have q := Cond.methodRef_warmed39 hZ hnO hy w
  simp only [Cond.before, Cond.holds, Cond.value] at q ⊢
  exact q
theorem own_selp {s : State} {args : Array Value} {y : MethodName} {n : Nat} (wi : (Jvm.Cond.instantiable y.cls n).before args s = true) (wp : (Jvm.Cond.privateMethod y).before args s = true) (wm : (Jvm.Cond.instanceMethod y).before args s = true) (hy : y.cls ≠ "java/lang/invoke/MethodHandle" ∧ y.cls ≠ "java/lang/invoke/VarHandle") : (Jvm.Cond.selects y.cls y y).before args s = true := by
  obtain ⟨c, k, hc, hk, -, hni, -⟩ := Cond.instantiable_spec wi
  exact selects_self_of_private hc hk (Bool.or_eq_false_iff.mp hni).1 (Cond.privateMethod_at (args := args) wp) wm hy
section Ref
variable {p : Program} {l : Launch} {e : Env} {R : Room} {s : State} {m : MethodId} {args : Array Value} {below : List Frame} {meth : Method} {c : Code} {T : State} {locs : List Loc} {cells slots : Nat} {Z : State} {a0 : Array Value}
theorem specialBackRef (X : Stand p l e R s m args below meth c T locs cells slots) (hexec : p.tables.exec = Jvm.exec) (hZ : Z.Warmed39 s.vm) {own : String} {index : Nat} {y : MethodName} (hy1 : y.name = "<init>")
    (hown : s.vm.findClass own = some m.cls) (hlink : (Jvm.Cond.methodRef own index y).before a0 Z = true) (hinst : ∀ {args : Array Value}, (Jvm.Cond.instanceMethod y).before args s = true)
    {bytes : ByteArray} {maxL : Nat} (hcode : (Jvm.Cond.code y bytes maxL none).before args s = true)
    (hy : y.cls ≠ "java/lang/invoke/MethodHandle" ∧ y.cls ≠ "java/lang/invoke/VarHandle")
    {W : Nat} {Pre : Pt → Array Value → Prop} {Post : Pt → Array Value → Option Value → Pt → Prop} (hK : Back l R p e below s args y 3 W Pre Post)
    {g : JFrame} (hg : g.method = m) (hsize : g.locals.size = c.maxLocals) {a : Addr} {argsL rest : List Value}
    (hlen : ∀ sig, parseMethodDescriptor y.desc = some sig → argsL.length = sig.parameters.length) (hstack : g.stack = argsL.reverse ++ .ref a :: rest) (hW : 2 * g.monitorRoom + (rest.map fun v => v.category).sum ≤ W)
    (hdg : decode c.code g.pc = .ok (.invokespecial index, 3)) (hpre : ∀ vm₁, s.WarmedH vm₁ → Pre ⟨T.setVm vm₁, locs, cells, slots⟩ (.ref a :: argsL).toArray)
    (wi : (Jvm.Cond.instanceMethod y).before a0 Z = true) :
    ∃ (v : Option Value) (vm₁ : Vm) (B : Pt), s.WarmedH vm₁ ∧ Stand p l e R s m args below meth c B.U B.locs B.cells B.slots ∧ Post ⟨T.setVm vm₁, locs, cells, slots⟩ (.ref a :: argsL).toArray v B ∧
      Steps p.tables e below (T.setTop g) (B.U.setTop { g with pc := g.pc + 3, stack := v.toList ++ rest }) := by
  obtain ⟨mk, hnamed, hstep₁⟩ := own_initRef (e := e) X.here hexec X.warmed hown hy1 hy (own_mvR (args := args) hZ hlink wi hy) hinst hcode (f := g) hg hlen hstack hdg
  have X₁ : Stand p l e R s m args below meth c (T.setVm T.vm) locs cells slots := X
  obtain ⟨v, B, X', hpost, hsteps⟩ := hK m meth c ⟨T.setVm T.vm, locs, cells, slots⟩ { g with stack := rest } (.invokespecial index) mk (.ref a :: argsL).toArray X₁ hg hsize hdg hW (X₁.named hnamed) (hpre T.vm X.warmed)
  exact ⟨v, T.vm, B, X.warmed, X', hpost, (hstep₁ _ fun acts => by rw [doInvoke_state]; exact Steps.refl _).trans hsteps⟩
end Ref
theorem own_wS {Z : State} {a0 : Array Value} (hw : ∀ d ∈ tables_1, d.before a0 Z = true) : ∀ a ∈ Bundle.stringAtoms, a.before a0 Z = true := fun d hd => by
  simp only [Bundle.stringAtoms, List.mem_cons, List.not_mem_nil, or_false] at hd
  rcases hd with rfl | rfl | rfl | rfl | rfl | rfl | rfl
  · exact hw _ (List.mem_of_getElem? (i := 28) rfl)
  · exact hw _ (List.mem_of_getElem? (i := 29) rfl)
  · exact hw _ (List.mem_of_getElem? (i := 30) rfl)
  · exact hw _ (List.mem_of_getElem? (i := 31) rfl)
  · exact hw _ (List.mem_of_getElem? (i := 32) rfl)
  · exact hw _ (List.mem_of_getElem? (i := 33) rfl)
  · exact hw _ (List.mem_of_getElem? (i := 34) rfl)
def own_maxL (x y : Int64) : Int64 := if lcmpW x y < 0 then y else x
def own_work (p : Int32) : Int64 := if p = 0 then 400 else 20
/-- what 'allows' answers -/
def own_bnd (al ra ow : Int64) : Int64 := if (0 : Int32) < lcmpW ra 0 then (if (0 : Int32) < lcmpW ow (((9223372036854775807 : Int64) - al) / ra) then 9223372036854775807 else al + ra * ow) else al + ra * ow
def own_allows (al ra ow q : Int64) : Int32 := if (0 : Int32) < lcmpW q (own_bnd al ra ow) then 0 else 1
theorem d1_0 : decode jdk_29_method_66_code 0 = .ok (.lload_n 0, 1) := by decide +kernel
theorem d1_1 : decode jdk_29_method_66_code 1 = .ok (.lload_n 2, 1) := by decide +kernel
theorem d1_2 : decode jdk_29_method_66_code 2 = .ok (.lcmp, 1) := by decide +kernel
theorem d1_3 : decode jdk_29_method_66_code 3 = .ok (.ifCond .lt 7, 3) := by decide +kernel
theorem d1_6 : decode jdk_29_method_66_code 6 = .ok (.lload_n 0, 1) := by decide +kernel
theorem d1_7 : decode jdk_29_method_66_code 7 = .ok (.goto 4, 3) := by decide +kernel
theorem d1_10 : decode jdk_29_method_66_code 10 = .ok (.lload_n 2, 1) := by decide +kernel
theorem d1_11 : decode jdk_29_method_66_code 11 = .ok (.lreturn, 1) := by decide +kernel
theorem ef_rm1 (m : MethodId) (q1 : Int64) (q2 : Int64) : entryFrame m #[(.long q1), (.long q2)] 4 = mkF m 0 #[.val (.long q1), .second, .val (.long q2), .second] [] := by first | (simp [entryFrame, mkF, argsToLocals, Value.category]; done) | rfl
def Qrm1 (Z : State) (q1 : Int64) (q2 : Int64) (h0 : Heap) (n0 : Nat) (v : Option Value) (h : Heap) (L : List Loc) : Prop := v = some (.long (own_maxL q1 q2)) ∧ Fr n0 L ∧ h = h0
set_option maxRecDepth 65536 in
set_option maxHeartbeats 40000000 in
theorem rm1 (l : Launch) (Z : State) (a0 : Array Value) (hw : ∀ d ∈ tables_1, d.before a0 Z = true) (ws : List Jvm.Cond) (q1 : Int64) (q2 : Int64) (h0 : Heap) (n0 : Nat) (Z0 : n0 ≤ h0.size) :
    MetFree l (⟨"java/lang/Math", "max", "(JJ)J"⟩ : MethodName) (head1 (Jvm.Cond.code (⟨"java/lang/Math", "max", "(JJ)J"⟩ : MethodName) jdk_29_method_66_code 4 (some .long) :: ws) ({ frames := 0, cells := 0, slots := 0, locals := 0 } : Room)) (fun a U => a = #[(.long q1), (.long q2)] ∧ Z.Warmed39 U.vm ∧ U.heap = h0) (fun _ _ _ _ _ => True) (fun _ U o U' => ∃ v L, o = .returned v ∧ Qrm1 Z q1 q2 h0 n0 v U'.heap L ∧ FrameEnd U o U' L ({ frames := 0, cells := 0, slots := 0, locals := 0 } : Room).cells ({ frames := 0, cells := 0, slots := 0, locals := 0 } : Room).slots) := by
  refine MetFree.of_bodySF (Jvm.Free.JP.mathPlain rfl (by decide +kernel)) hisR ?_
  intro p e s m args below meth c s₁ Bd hml0 hP hK
  obtain ⟨rfl, hZ, hh⟩ := hP
  have hx := Bd.exec
  have hby := Bd.bytes
  have hml : c.maxLocals = 4 := hml0
  have hown : s.vm.findClass "java/lang/Math" = some m.cls := findClass_of_methodNamed Bd.named
  have hnm := (name_of_methodNamed Bd.named Bd.method).1
  have X0 : Stand p l e ({ frames := 0, cells := 0, slots := 0, locals := 0 } : Room) s m #[(.long q1), (.long q2)] below meth c s₁ [] 0 0 := Stand.of_body Bd
  have e0 : s₁.heap = h0 := by rw [← hh, Bd.state]; rfl
  have N0 := Fr.nil n0
  show Go p.tables e below (fun o U' => ∃ v L, o = .returned v ∧ Qrm1 Z q1 q2 h0 n0 v U'.heap L ∧ FrameEnd s o U' L ({ frames := 0, cells := 0, slots := 0, locals := 0 } : Room).cells ({ frames := 0, cells := 0, slots := 0, locals := 0 } : Room).slots) _
  refine Go.step (fun t kt => castTop (ef_rm1 m q1 q2) kt) ?_
  show Go p.tables e below _ (s₁.setTop (mkF m 0 #[.val (.long q1), .second, .val (.long q2), .second] []))
  refine Go.step (fun _ kt => XS.lloadN X0.here hx rfl (hb hby d1_0) rfl kt) ?_
  show Go p.tables e below _ (s₁.setTop (mkF m 1 #[.val (.long q1), .second, .val (.long q2), .second] [(.long q1)]))
  refine Go.step (fun _ kt => XS.lloadN X0.here hx rfl (hb hby d1_1) rfl kt) ?_
  show Go p.tables e below _ (s₁.setTop (mkF m 2 #[.val (.long q1), .second, .val (.long q2), .second] [(.long q2), (.long q1)]))
  refine Go.step (fun _ kt => XS.lcmp X0.here hx rfl (hb hby d1_2) rfl kt) ?_
  show Go p.tables e below _ (s₁.setTop (mkF m 3 #[.val (.long q1), .second, .val (.long q2), .second] [(.int (lcmpW q1 q2))]))
  by_cases hc3_101 : (lcmpW q1 q2) < (0 : Int32)
  · refine Go.step (fun _ kt => XS.ifYes X0.here hx rfl (pc0 := 3) (pc' := 10) rfl (hb hby d1_3) rfl ((if0 _ _).trans (tlt hc3_101).1) (by decide) (by decide) kt) ?_
    show Go p.tables e below _ (s₁.setTop (mkF m 10 #[.val (.long q1), .second, .val (.long q2), .second] []))
    refine Go.step (fun _ kt => XS.lloadN X0.here hx rfl (hb hby d1_10) rfl kt) ?_
    show Go p.tables e below _ (s₁.setTop (mkF m 11 #[.val (.long q1), .second, .val (.long q2), .second] [(.long q2)]))
    obtain ⟨fs, hr, hrun, hended, hW, hsame⟩ := X0.leave (v := some (.long q2)) (fun h => by rw [Bd.returns] at h; cases h)
    refine ⟨_, _, retOut X0 hx Bd.returns rfl (Or.inr (Or.inl ⟨rfl, rfl, _, rfl⟩)) (hb hby d1_11) hr, hrun, hended, _, _, rfl, ?_, ⟨_, rfl⟩, hW, hsame.mono (by decide) (by decide)⟩
    show Qrm1 Z q1 q2 h0 n0 _ s₁.heap _
    rw [e0]
    refine ⟨?_, N0, rfl⟩
    have q : own_maxL q1 q2 = q2 := by simp only [own_maxL]; simp [hc3_101]
    rw [q]
  · refine Go.step (fun _ kt => XS.ifNo X0.here hx rfl (hb hby d1_3) rfl ((if0 _ _).trans (flt hc3_101).1) kt) ?_
    show Go p.tables e below _ (s₁.setTop (mkF m 6 #[.val (.long q1), .second, .val (.long q2), .second] []))
    refine Go.step (fun _ kt => XS.lloadN X0.here hx rfl (hb hby d1_6) rfl kt) ?_
    show Go p.tables e below _ (s₁.setTop (mkF m 7 #[.val (.long q1), .second, .val (.long q2), .second] [(.long q1)]))
    refine Go.step (fun _ kt => XS.goto X0.here hx rfl (pc0 := 7) (pc' := 11) rfl (hb hby d1_7) (by decide) (by decide) kt) ?_
    show Go p.tables e below _ (s₁.setTop (mkF m 11 #[.val (.long q1), .second, .val (.long q2), .second] [(.long q1)]))
    obtain ⟨fs, hr, hrun, hended, hW, hsame⟩ := X0.leave (v := some (.long q1)) (fun h => by rw [Bd.returns] at h; cases h)
    refine ⟨_, _, retOut X0 hx Bd.returns rfl (Or.inr (Or.inl ⟨rfl, rfl, _, rfl⟩)) (hb hby d1_11) hr, hrun, hended, _, _, rfl, ?_, ⟨_, rfl⟩, hW, hsame.mono (by decide) (by decide)⟩
    show Qrm1 Z q1 q2 h0 n0 _ s₁.heap _
    rw [e0]
    refine ⟨?_, N0, rfl⟩
    have q : own_maxL q1 q2 = q1 := by simp only [own_maxL]; simp [hc3_101]
    rw [q]
theorem pn_0 : plainName "com/example/ottawa/ottawa/ParseBounds$Holding" = true := by first | (simp [plainName, overriddenIn]; done) | decide +kernel
theorem d4_0 : decode prog_37_method_1_code 0 = .ok (.aload_n 0, 1) := by decide +kernel
theorem d4_1 : decode prog_37_method_1_code 1 = .ok (.aload_n 1, 1) := by decide +kernel
theorem d4_2 : decode prog_37_method_1_code 2 = .ok (.putfield 1, 3) := by decide +kernel
theorem d4_5 : decode prog_37_method_1_code 5 = .ok (.aload_n 0, 1) := by decide +kernel
theorem d4_6 : decode prog_37_method_1_code 6 = .ok (.invokespecial 7, 3) := by decide +kernel
theorem d4_9 : decode prog_37_method_1_code 9 = .ok (.aload_n 0, 1) := by decide +kernel
theorem d4_10 : decode prog_37_method_1_code 10 = .ok (.aload_n 2, 1) := by decide +kernel
theorem d4_11 : decode prog_37_method_1_code 11 = .ok (.putfield 13, 3) := by decide +kernel
theorem d4_14 : decode prog_37_method_1_code 14 = .ok (.aload_n 0, 1) := by decide +kernel
theorem d4_15 : decode prog_37_method_1_code 15 = .ok (.aload_n 3, 1) := by decide +kernel
theorem d4_16 : decode prog_37_method_1_code 16 = .ok (.putfield 17, 3) := by decide +kernel
theorem d4_19 : decode prog_37_method_1_code 19 = .ok (.aload_n 0, 1) := by decide +kernel
theorem d4_20 : decode prog_37_method_1_code 20 = .ok (.aload 4, 2) := by decide +kernel
theorem d4_22 : decode prog_37_method_1_code 22 = .ok (.putfield 20, 3) := by decide +kernel
theorem d4_25 : decode prog_37_method_1_code 25 = .ok (.aload_n 0, 1) := by decide +kernel
theorem d4_26 : decode prog_37_method_1_code 26 = .ok (.aload 5, 2) := by decide +kernel
theorem d4_28 : decode prog_37_method_1_code 28 = .ok (.putfield 24, 3) := by decide +kernel
theorem d4_31 : decode prog_37_method_1_code 31 = .ok (.aload_n 0, 1) := by decide +kernel
theorem d4_32 : decode prog_37_method_1_code 32 = .ok (.lload 6, 2) := by decide +kernel
theorem d4_34 : decode prog_37_method_1_code 34 = .ok (.putfield 27, 3) := by decide +kernel
theorem d4_37 : decode prog_37_method_1_code 37 = .ok (.aload_n 0, 1) := by decide +kernel
theorem d4_38 : decode prog_37_method_1_code 38 = .ok (.lload 8, 2) := by decide +kernel
theorem d4_40 : decode prog_37_method_1_code 40 = .ok (.putfield 31, 3) := by decide +kernel
theorem d4_43 : decode prog_37_method_1_code 43 = .ok (.return_, 1) := by decide +kernel
theorem ef_rm4 (m : MethodId) (a1 : Addr) (a2 : Addr) (a3 : Addr) (a4 : Addr) (q1 : Int64) (q2 : Int64) (u0 : Value) (u1 : Value) (u2 : Value) (u3 : Value) (u4 : Value) (u5 : Value) (u6 : Value) : entryFrame m #[(.ref a1), (.ref a2), .null, .null, (.ref a3), (.ref a4), (.long q1), (.long q2)] 10 = mkF m 0 #[.val (.ref a1), .val (.ref a2), .val .null, .val .null, .val (.ref a3), .val (.ref a4), .val (.long q1), .second, .val (.long q2), .second] [] := by first | (simp [entryFrame, mkF, argsToLocals, Value.category]; done) | rfl
def Qrm4 (Z : State) (a1 : Addr) (a2 : Addr) (a3 : Addr) (a4 : Addr) (q1 : Int64) (q2 : Int64) (u0 : Value) (u1 : Value) (u2 : Value) (u3 : Value) (u4 : Value) (u5 : Value) (u6 : Value) (h0 : Heap) (n0 : Nat) (v : Option Value) (h : Heap) (L : List Loc) : Prop := v = none ∧ Fr n0 L ∧ Keep h0 h [a1]
set_option maxRecDepth 65536 in
set_option maxHeartbeats 40000000 in
theorem rm4 (l : Launch) (Z : State) (a0 : Array Value) (hw : ∀ d ∈ tables_1, d.before a0 Z = true) (ws : List Jvm.Cond) (a1 : Addr) (a2 : Addr) (a3 : Addr) (a4 : Addr) (q1 : Int64) (q2 : Int64) (u0 : Value) (u1 : Value) (u2 : Value) (u3 : Value) (u4 : Value) (u5 : Value) (u6 : Value) (h0 : Heap) (n0 : Nat) (Z0 : n0 ≤ h0.size) (E1 : Exa Z h0 a1 "com/example/ottawa/ottawa/ParseBounds$Holding") (F0 : Fld Z h0 a1 "com/example/ottawa/ottawa/ParseBounds$Holding" "this$0" "Lcom/example/ottawa/ottawa/ParseBounds;" u0) (F1 : Fld Z h0 a1 "com/example/ottawa/ottawa/ParseBounds$Holding" "entries" "Lcom/example/ottawa/ottawa/ParseBounds$Limit;" u1) (F2 : Fld Z h0 a1 "com/example/ottawa/ottawa/ParseBounds$Holding" "characters" "Lcom/example/ottawa/ottawa/ParseBounds$Limit;" u2) (F3 : Fld Z h0 a1 "com/example/ottawa/ottawa/ParseBounds$Holding" "holder" "Ljava/lang/String;" u3) (F4 : Fld Z h0 a1 "com/example/ottawa/ottawa/ParseBounds$Holding" "held" "Ljava/lang/String;" u4) (F5 : Fld Z h0 a1 "com/example/ottawa/ottawa/ParseBounds$Holding" "entryBytes" "J" u5) (F6 : Fld Z h0 a1 "com/example/ottawa/ottawa/ParseBounds$Holding" "characterBytes" "J" u6) (g_a1 : n0 ≤ a1) :
    MetFree l (⟨"com/example/ottawa/ottawa/ParseBounds$Holding", "<init>", "(Lcom/example/ottawa/ottawa/ParseBounds;Lcom/example/ottawa/ottawa/ParseBounds$Limit;Lcom/example/ottawa/ottawa/ParseBounds$Limit;Ljava/lang/String;Ljava/lang/String;JJ)V"⟩ : MethodName) (head1 (Jvm.Cond.code (⟨"com/example/ottawa/ottawa/ParseBounds$Holding", "<init>", "(Lcom/example/ottawa/ottawa/ParseBounds;Lcom/example/ottawa/ottawa/ParseBounds$Limit;Lcom/example/ottawa/ottawa/ParseBounds$Limit;Ljava/lang/String;Ljava/lang/String;JJ)V"⟩ : MethodName) prog_37_method_1_code 10 none :: ws) ({ frames := 1, cells := 0, slots := 0, locals := 12 } : Room)) (fun a U => a = #[(.ref a1), (.ref a2), .null, .null, (.ref a3), (.ref a4), (.long q1), (.long q2)] ∧ Z.Warmed39 U.vm ∧ U.heap = h0) (fun _ _ _ _ _ => True) (fun _ U o U' => ∃ v L, o = .returned v ∧ Qrm4 Z a1 a2 a3 a4 q1 q2 u0 u1 u2 u3 u4 u5 u6 h0 n0 v U'.heap L ∧ FrameEnd U o U' L ({ frames := 1, cells := 0, slots := 0, locals := 12 } : Room).cells ({ frames := 1, cells := 0, slots := 0, locals := 12 } : Room).slots) := by
  refine MetFree.of_bodySF (plainFor_of_name pn_0) hisR ?_
  intro p e s m args below meth c s₁ Bd hml0 hP hK
  obtain ⟨rfl, hZ, hh⟩ := hP
  have hx := Bd.exec
  have hby := Bd.bytes
  have hml : c.maxLocals = 10 := hml0
  have hown : s.vm.findClass "com/example/ottawa/ottawa/ParseBounds$Holding" = some m.cls := findClass_of_methodNamed Bd.named
  have hnm := (name_of_methodNamed Bd.named Bd.method).1
  have X0 : Stand p l e ({ frames := 1, cells := 0, slots := 0, locals := 12 } : Room) s m #[(.ref a1), (.ref a2), .null, .null, (.ref a3), (.ref a4), (.long q1), (.long q2)] below meth c s₁ [] 0 0 := Stand.of_body Bd
  have e0 : s₁.heap = h0 := by rw [← hh, Bd.state]; rfl
  have N0 := Fr.nil n0
  show Go p.tables e below (fun o U' => ∃ v L, o = .returned v ∧ Qrm4 Z a1 a2 a3 a4 q1 q2 u0 u1 u2 u3 u4 u5 u6 h0 n0 v U'.heap L ∧ FrameEnd s o U' L ({ frames := 1, cells := 0, slots := 0, locals := 12 } : Room).cells ({ frames := 1, cells := 0, slots := 0, locals := 12 } : Room).slots) _
  refine Go.step (fun t kt => castTop (ef_rm4 m a1 a2 a3 a4 q1 q2 u0 u1 u2 u3 u4 u5 u6) kt) ?_
  show Go p.tables e below _ (s₁.setTop (mkF m 0 #[.val (.ref a1), .val (.ref a2), .val .null, .val .null, .val (.ref a3), .val (.ref a4), .val (.long q1), .second, .val (.long q2), .second] []))
  have K101 : Keep h0 h0 [a1] := (Keep.refl h0 [a1])
  refine Go.step (fun _ kt => XS.aloadN X0.here hx rfl (hb hby d4_0) rfl rfl kt) ?_
  show Go p.tables e below _ (s₁.setTop (mkF m 1 #[.val (.ref a1), .val (.ref a2), .val .null, .val .null, .val (.ref a3), .val (.ref a4), .val (.long q1), .second, .val (.long q2), .second] [(.ref a1)]))
  refine Go.step (fun _ kt => XS.aloadN X0.here hx rfl (hb hby d4_1) rfl rfl kt) ?_
  show Go p.tables e below _ (s₁.setTop (mkF m 2 #[.val (.ref a1), .val (.ref a2), .val .null, .val .null, .val (.ref a3), .val (.ref a4), .val (.long q1), .second, .val (.long q2), .second] [(.ref a2), (.ref a1)]))
  obtain ⟨T102, h102, X102, e102, W102, st102⟩ := putF X0 hx hZ hown (host := "") (Or.inl (hw _ (List.mem_of_getElem? (i := 41) rfl))) Via.refl e0 F0 E1 (Or.inr ⟨(hw _ (List.mem_of_getElem? (i := 42) rfl)), rfl, hnm⟩) (hw _ (List.mem_of_getElem? (i := 25) rfl)) (ty := (.object "com/example/ottawa/ottawa/ParseBounds")) (by decide) rfl rfl (g := (mkF m 2 #[.val (.ref a1), .val (.ref a2), .val .null, .val .null, .val (.ref a3), .val (.ref a4), .val (.long q1), .second, .val (.long q2), .second] [(.ref a2), (.ref a1)])) rfl rfl (hb hby d4_2)
  refine Go.step st102 ?_
  have N102 := Fr.snoc X102 N0 g_a1
  have F103 : Exa Z h102 a1 "com/example/ottawa/ottawa/ParseBounds$Holding" := (E1.wr W102)
  have F104 : Fld Z h102 a1 "com/example/ottawa/ottawa/ParseBounds$Holding" "entries" "Lcom/example/ottawa/ottawa/ParseBounds$Limit;" u1 := (F1.other W102 (Or.inr (slot_ne (Or.inr (hw _ (List.mem_of_getElem? (i := 45) rfl))) (Or.inr (hw _ (List.mem_of_getElem? (i := 42) rfl))) (by decide) (t := (.object "com/example/ottawa/ottawa/ParseBounds$Limit")) (t' := (.object "com/example/ottawa/ottawa/ParseBounds")) (by decide) (by decide))))
  have F105 : Fld Z h102 a1 "com/example/ottawa/ottawa/ParseBounds$Holding" "characters" "Lcom/example/ottawa/ottawa/ParseBounds$Limit;" u2 := (F2.other W102 (Or.inr (slot_ne (Or.inr (hw _ (List.mem_of_getElem? (i := 47) rfl))) (Or.inr (hw _ (List.mem_of_getElem? (i := 42) rfl))) (by decide) (t := (.object "com/example/ottawa/ottawa/ParseBounds$Limit")) (t' := (.object "com/example/ottawa/ottawa/ParseBounds")) (by decide) (by decide))))
  have F106 : Fld Z h102 a1 "com/example/ottawa/ottawa/ParseBounds$Holding" "holder" "Ljava/lang/String;" u3 := (F3.other W102 (Or.inr (slot_ne (Or.inr (hw _ (List.mem_of_getElem? (i := 49) rfl))) (Or.inr (hw _ (List.mem_of_getElem? (i := 42) rfl))) (by decide) (t := (.object "java/lang/String")) (t' := (.object "com/example/ottawa/ottawa/ParseBounds")) (by decide) (by decide))))
  have F107 : Fld Z h102 a1 "com/example/ottawa/ottawa/ParseBounds$Holding" "held" "Ljava/lang/String;" u4 := (F4.other W102 (Or.inr (slot_ne (Or.inr (hw _ (List.mem_of_getElem? (i := 51) rfl))) (Or.inr (hw _ (List.mem_of_getElem? (i := 42) rfl))) (by decide) (t := (.object "java/lang/String")) (t' := (.object "com/example/ottawa/ottawa/ParseBounds")) (by decide) (by decide))))
  have F108 : Fld Z h102 a1 "com/example/ottawa/ottawa/ParseBounds$Holding" "entryBytes" "J" u5 := (F5.other W102 (Or.inr (slot_ne (Or.inr (hw _ (List.mem_of_getElem? (i := 53) rfl))) (Or.inr (hw _ (List.mem_of_getElem? (i := 42) rfl))) (by decide) (t := .long) (t' := (.object "com/example/ottawa/ottawa/ParseBounds")) (by decide) (by decide))))
  have F109 : Fld Z h102 a1 "com/example/ottawa/ottawa/ParseBounds$Holding" "characterBytes" "J" u6 := (F6.other W102 (Or.inr (slot_ne (Or.inr (hw _ (List.mem_of_getElem? (i := 55) rfl))) (Or.inr (hw _ (List.mem_of_getElem? (i := 42) rfl))) (by decide) (t := .long) (t' := (.object "com/example/ottawa/ottawa/ParseBounds")) (by decide) (by decide))))
  have Z110 : n0 ≤ h102.size := (Nat.le_trans Z0 (Nat.le_of_eq W102.size.symm))
  have K111 : Keep h0 h102 [a1] := (K101.wr W102 (Or.inl (List.mem_of_getElem? (i := 0) rfl)))
  show Go p.tables e below _ (T102.setTop (mkF m 5 #[.val (.ref a1), .val (.ref a2), .val .null, .val .null, .val (.ref a3), .val (.ref a4), .val (.long q1), .second, .val (.long q2), .second] []))
  refine Go.step (fun _ kt => XS.aloadN X102.here hx rfl (hb hby d4_5) rfl rfl kt) ?_
  show Go p.tables e below _ (T102.setTop (mkF m 6 #[.val (.ref a1), .val (.ref a2), .val .null, .val .null, .val (.ref a3), .val (.ref a4), .val (.long q1), .second, .val (.long q2), .second] [(.ref a1)]))
  obtain ⟨T112, X112, e112, st112⟩ := initO X102 hx hZ hown (hw _ (List.mem_of_getElem? (i := 43) rfl)) (hw _ (List.mem_of_getElem? (i := 14) rfl)) (hw _ (List.mem_of_getElem? (i := 15) rfl)) e102 (g := (mkF m 6 #[.val (.ref a1), .val (.ref a2), .val .null, .val .null, .val (.ref a3), .val (.ref a4), .val (.long q1), .second, .val (.long q2), .second] [(.ref a1)])) rfl (by rw [hml]; rfl) rfl (hb hby d4_6) (by decide) (W := 0) (by show 2 * 0 + _ ≤ _; exact Nat.le_of_eq rfl) (by decide)
  refine Go.step st112 ?_
  show Go p.tables e below _ (T112.setTop (mkF m 9 #[.val (.ref a1), .val (.ref a2), .val .null, .val .null, .val (.ref a3), .val (.ref a4), .val (.long q1), .second, .val (.long q2), .second] []))
  refine Go.step (fun _ kt => XS.aloadN X112.here hx rfl (hb hby d4_9) rfl rfl kt) ?_
  show Go p.tables e below _ (T112.setTop (mkF m 10 #[.val (.ref a1), .val (.ref a2), .val .null, .val .null, .val (.ref a3), .val (.ref a4), .val (.long q1), .second, .val (.long q2), .second] [(.ref a1)]))
  refine Go.step (fun _ kt => XS.aloadN X112.here hx rfl (hb hby d4_10) rfl rfl kt) ?_
  show Go p.tables e below _ (T112.setTop (mkF m 11 #[.val (.ref a1), .val (.ref a2), .val .null, .val .null, .val (.ref a3), .val (.ref a4), .val (.long q1), .second, .val (.long q2), .second] [.null, (.ref a1)]))
  obtain ⟨T113, h113, X113, e113, W113, st113⟩ := putF X112 hx hZ hown (host := "") (Or.inl (hw _ (List.mem_of_getElem? (i := 44) rfl))) Via.refl e112 F104 F103 (Or.inr ⟨(hw _ (List.mem_of_getElem? (i := 45) rfl)), rfl, hnm⟩) (hw _ (List.mem_of_getElem? (i := 25) rfl)) (ty := (.object "com/example/ottawa/ottawa/ParseBounds$Limit")) (by decide) rfl rfl (g := (mkF m 11 #[.val (.ref a1), .val (.ref a2), .val .null, .val .null, .val (.ref a3), .val (.ref a4), .val (.long q1), .second, .val (.long q2), .second] [.null, (.ref a1)])) rfl rfl (hb hby d4_11)
  refine Go.step st113 ?_
  have N113 := Fr.snoc X113 N102 g_a1
  have F114 : Exa Z h113 a1 "com/example/ottawa/ottawa/ParseBounds$Holding" := (F103.wr W113)
  have F115 : Fld Z h113 a1 "com/example/ottawa/ottawa/ParseBounds$Holding" "characters" "Lcom/example/ottawa/ottawa/ParseBounds$Limit;" u2 := (F105.other W113 (Or.inr (slot_ne (Or.inr (hw _ (List.mem_of_getElem? (i := 47) rfl))) (Or.inr (hw _ (List.mem_of_getElem? (i := 45) rfl))) (by decide) (t := (.object "com/example/ottawa/ottawa/ParseBounds$Limit")) (t' := (.object "com/example/ottawa/ottawa/ParseBounds$Limit")) (by decide) (by decide))))
  have F116 : Fld Z h113 a1 "com/example/ottawa/ottawa/ParseBounds$Holding" "holder" "Ljava/lang/String;" u3 := (F106.other W113 (Or.inr (slot_ne (Or.inr (hw _ (List.mem_of_getElem? (i := 49) rfl))) (Or.inr (hw _ (List.mem_of_getElem? (i := 45) rfl))) (by decide) (t := (.object "java/lang/String")) (t' := (.object "com/example/ottawa/ottawa/ParseBounds$Limit")) (by decide) (by decide))))
  have F117 : Fld Z h113 a1 "com/example/ottawa/ottawa/ParseBounds$Holding" "held" "Ljava/lang/String;" u4 := (F107.other W113 (Or.inr (slot_ne (Or.inr (hw _ (List.mem_of_getElem? (i := 51) rfl))) (Or.inr (hw _ (List.mem_of_getElem? (i := 45) rfl))) (by decide) (t := (.object "java/lang/String")) (t' := (.object "com/example/ottawa/ottawa/ParseBounds$Limit")) (by decide) (by decide))))
  have F118 : Fld Z h113 a1 "com/example/ottawa/ottawa/ParseBounds$Holding" "entryBytes" "J" u5 := (F108.other W113 (Or.inr (slot_ne (Or.inr (hw _ (List.mem_of_getElem? (i := 53) rfl))) (Or.inr (hw _ (List.mem_of_getElem? (i := 45) rfl))) (by decide) (t := .long) (t' := (.object "com/example/ottawa/ottawa/ParseBounds$Limit")) (by decide) (by decide))))
  have F119 : Fld Z h113 a1 "com/example/ottawa/ottawa/ParseBounds$Holding" "characterBytes" "J" u6 := (F109.other W113 (Or.inr (slot_ne (Or.inr (hw _ (List.mem_of_getElem? (i := 55) rfl))) (Or.inr (hw _ (List.mem_of_getElem? (i := 45) rfl))) (by decide) (t := .long) (t' := (.object "com/example/ottawa/ottawa/ParseBounds$Limit")) (by decide) (by decide))))
  have Z120 : n0 ≤ h113.size := (Nat.le_trans Z110 (Nat.le_of_eq W113.size.symm))
  have K121 : Keep h0 h113 [a1] := (K111.wr W113 (Or.inl (List.mem_of_getElem? (i := 0) rfl)))
  show Go p.tables e below _ (T113.setTop (mkF m 14 #[.val (.ref a1), .val (.ref a2), .val .null, .val .null, .val (.ref a3), .val (.ref a4), .val (.long q1), .second, .val (.long q2), .second] []))
  refine Go.step (fun _ kt => XS.aloadN X113.here hx rfl (hb hby d4_14) rfl rfl kt) ?_
  show Go p.tables e below _ (T113.setTop (mkF m 15 #[.val (.ref a1), .val (.ref a2), .val .null, .val .null, .val (.ref a3), .val (.ref a4), .val (.long q1), .second, .val (.long q2), .second] [(.ref a1)]))
  refine Go.step (fun _ kt => XS.aloadN X113.here hx rfl (hb hby d4_15) rfl rfl kt) ?_
  show Go p.tables e below _ (T113.setTop (mkF m 16 #[.val (.ref a1), .val (.ref a2), .val .null, .val .null, .val (.ref a3), .val (.ref a4), .val (.long q1), .second, .val (.long q2), .second] [.null, (.ref a1)]))
  obtain ⟨T122, h122, X122, e122, W122, st122⟩ := putF X113 hx hZ hown (host := "") (Or.inl (hw _ (List.mem_of_getElem? (i := 46) rfl))) Via.refl e113 F115 F114 (Or.inr ⟨(hw _ (List.mem_of_getElem? (i := 47) rfl)), rfl, hnm⟩) (hw _ (List.mem_of_getElem? (i := 25) rfl)) (ty := (.object "com/example/ottawa/ottawa/ParseBounds$Limit")) (by decide) rfl rfl (g := (mkF m 16 #[.val (.ref a1), .val (.ref a2), .val .null, .val .null, .val (.ref a3), .val (.ref a4), .val (.long q1), .second, .val (.long q2), .second] [.null, (.ref a1)])) rfl rfl (hb hby d4_16)
  refine Go.step st122 ?_
  have N122 := Fr.snoc X122 N113 g_a1
  have F123 : Exa Z h122 a1 "com/example/ottawa/ottawa/ParseBounds$Holding" := (F114.wr W122)
  have F124 : Fld Z h122 a1 "com/example/ottawa/ottawa/ParseBounds$Holding" "holder" "Ljava/lang/String;" u3 := (F116.other W122 (Or.inr (slot_ne (Or.inr (hw _ (List.mem_of_getElem? (i := 49) rfl))) (Or.inr (hw _ (List.mem_of_getElem? (i := 47) rfl))) (by decide) (t := (.object "java/lang/String")) (t' := (.object "com/example/ottawa/ottawa/ParseBounds$Limit")) (by decide) (by decide))))
  have F125 : Fld Z h122 a1 "com/example/ottawa/ottawa/ParseBounds$Holding" "held" "Ljava/lang/String;" u4 := (F117.other W122 (Or.inr (slot_ne (Or.inr (hw _ (List.mem_of_getElem? (i := 51) rfl))) (Or.inr (hw _ (List.mem_of_getElem? (i := 47) rfl))) (by decide) (t := (.object "java/lang/String")) (t' := (.object "com/example/ottawa/ottawa/ParseBounds$Limit")) (by decide) (by decide))))
  have F126 : Fld Z h122 a1 "com/example/ottawa/ottawa/ParseBounds$Holding" "entryBytes" "J" u5 := (F118.other W122 (Or.inr (slot_ne (Or.inr (hw _ (List.mem_of_getElem? (i := 53) rfl))) (Or.inr (hw _ (List.mem_of_getElem? (i := 47) rfl))) (by decide) (t := .long) (t' := (.object "com/example/ottawa/ottawa/ParseBounds$Limit")) (by decide) (by decide))))
  have F127 : Fld Z h122 a1 "com/example/ottawa/ottawa/ParseBounds$Holding" "characterBytes" "J" u6 := (F119.other W122 (Or.inr (slot_ne (Or.inr (hw _ (List.mem_of_getElem? (i := 55) rfl))) (Or.inr (hw _ (List.mem_of_getElem? (i := 47) rfl))) (by decide) (t := .long) (t' := (.object "com/example/ottawa/ottawa/ParseBounds$Limit")) (by decide) (by decide))))
  have Z128 : n0 ≤ h122.size := (Nat.le_trans Z120 (Nat.le_of_eq W122.size.symm))
  have K129 : Keep h0 h122 [a1] := (K121.wr W122 (Or.inl (List.mem_of_getElem? (i := 0) rfl)))
  show Go p.tables e below _ (T122.setTop (mkF m 19 #[.val (.ref a1), .val (.ref a2), .val .null, .val .null, .val (.ref a3), .val (.ref a4), .val (.long q1), .second, .val (.long q2), .second] []))
  refine Go.step (fun _ kt => XS.aloadN X122.here hx rfl (hb hby d4_19) rfl rfl kt) ?_
  show Go p.tables e below _ (T122.setTop (mkF m 20 #[.val (.ref a1), .val (.ref a2), .val .null, .val .null, .val (.ref a3), .val (.ref a4), .val (.long q1), .second, .val (.long q2), .second] [(.ref a1)]))
  refine Go.step (fun _ kt => XS.aload X122.here hx rfl (hb hby d4_20) rfl rfl kt) ?_
  show Go p.tables e below _ (T122.setTop (mkF m 22 #[.val (.ref a1), .val (.ref a2), .val .null, .val .null, .val (.ref a3), .val (.ref a4), .val (.long q1), .second, .val (.long q2), .second] [(.ref a3), (.ref a1)]))
  obtain ⟨T130, h130, X130, e130, W130, st130⟩ := putF X122 hx hZ hown (host := "") (Or.inl (hw _ (List.mem_of_getElem? (i := 48) rfl))) Via.refl e122 F124 F123 (Or.inr ⟨(hw _ (List.mem_of_getElem? (i := 49) rfl)), rfl, hnm⟩) (hw _ (List.mem_of_getElem? (i := 25) rfl)) (ty := (.object "java/lang/String")) (by decide) rfl rfl (g := (mkF m 22 #[.val (.ref a1), .val (.ref a2), .val .null, .val .null, .val (.ref a3), .val (.ref a4), .val (.long q1), .second, .val (.long q2), .second] [(.ref a3), (.ref a1)])) rfl rfl (hb hby d4_22)
  refine Go.step st130 ?_
  have N130 := Fr.snoc X130 N122 g_a1
  have F131 : Exa Z h130 a1 "com/example/ottawa/ottawa/ParseBounds$Holding" := (F123.wr W130)
  have F132 : Fld Z h130 a1 "com/example/ottawa/ottawa/ParseBounds$Holding" "held" "Ljava/lang/String;" u4 := (F125.other W130 (Or.inr (slot_ne (Or.inr (hw _ (List.mem_of_getElem? (i := 51) rfl))) (Or.inr (hw _ (List.mem_of_getElem? (i := 49) rfl))) (by decide) (t := (.object "java/lang/String")) (t' := (.object "java/lang/String")) (by decide) (by decide))))
  have F133 : Fld Z h130 a1 "com/example/ottawa/ottawa/ParseBounds$Holding" "entryBytes" "J" u5 := (F126.other W130 (Or.inr (slot_ne (Or.inr (hw _ (List.mem_of_getElem? (i := 53) rfl))) (Or.inr (hw _ (List.mem_of_getElem? (i := 49) rfl))) (by decide) (t := .long) (t' := (.object "java/lang/String")) (by decide) (by decide))))
  have F134 : Fld Z h130 a1 "com/example/ottawa/ottawa/ParseBounds$Holding" "characterBytes" "J" u6 := (F127.other W130 (Or.inr (slot_ne (Or.inr (hw _ (List.mem_of_getElem? (i := 55) rfl))) (Or.inr (hw _ (List.mem_of_getElem? (i := 49) rfl))) (by decide) (t := .long) (t' := (.object "java/lang/String")) (by decide) (by decide))))
  have Z135 : n0 ≤ h130.size := (Nat.le_trans Z128 (Nat.le_of_eq W130.size.symm))
  have K136 : Keep h0 h130 [a1] := (K129.wr W130 (Or.inl (List.mem_of_getElem? (i := 0) rfl)))
  show Go p.tables e below _ (T130.setTop (mkF m 25 #[.val (.ref a1), .val (.ref a2), .val .null, .val .null, .val (.ref a3), .val (.ref a4), .val (.long q1), .second, .val (.long q2), .second] []))
  refine Go.step (fun _ kt => XS.aloadN X130.here hx rfl (hb hby d4_25) rfl rfl kt) ?_
  show Go p.tables e below _ (T130.setTop (mkF m 26 #[.val (.ref a1), .val (.ref a2), .val .null, .val .null, .val (.ref a3), .val (.ref a4), .val (.long q1), .second, .val (.long q2), .second] [(.ref a1)]))
  refine Go.step (fun _ kt => XS.aload X130.here hx rfl (hb hby d4_26) rfl rfl kt) ?_
  show Go p.tables e below _ (T130.setTop (mkF m 28 #[.val (.ref a1), .val (.ref a2), .val .null, .val .null, .val (.ref a3), .val (.ref a4), .val (.long q1), .second, .val (.long q2), .second] [(.ref a4), (.ref a1)]))
  obtain ⟨T137, h137, X137, e137, W137, st137⟩ := putF X130 hx hZ hown (host := "") (Or.inl (hw _ (List.mem_of_getElem? (i := 50) rfl))) Via.refl e130 F132 F131 (Or.inr ⟨(hw _ (List.mem_of_getElem? (i := 51) rfl)), rfl, hnm⟩) (hw _ (List.mem_of_getElem? (i := 25) rfl)) (ty := (.object "java/lang/String")) (by decide) rfl rfl (g := (mkF m 28 #[.val (.ref a1), .val (.ref a2), .val .null, .val .null, .val (.ref a3), .val (.ref a4), .val (.long q1), .second, .val (.long q2), .second] [(.ref a4), (.ref a1)])) rfl rfl (hb hby d4_28)
  refine Go.step st137 ?_
  have N137 := Fr.snoc X137 N130 g_a1
  have F138 : Exa Z h137 a1 "com/example/ottawa/ottawa/ParseBounds$Holding" := (F131.wr W137)
  have F139 : Fld Z h137 a1 "com/example/ottawa/ottawa/ParseBounds$Holding" "entryBytes" "J" u5 := (F133.other W137 (Or.inr (slot_ne (Or.inr (hw _ (List.mem_of_getElem? (i := 53) rfl))) (Or.inr (hw _ (List.mem_of_getElem? (i := 51) rfl))) (by decide) (t := .long) (t' := (.object "java/lang/String")) (by decide) (by decide))))
  have F140 : Fld Z h137 a1 "com/example/ottawa/ottawa/ParseBounds$Holding" "characterBytes" "J" u6 := (F134.other W137 (Or.inr (slot_ne (Or.inr (hw _ (List.mem_of_getElem? (i := 55) rfl))) (Or.inr (hw _ (List.mem_of_getElem? (i := 51) rfl))) (by decide) (t := .long) (t' := (.object "java/lang/String")) (by decide) (by decide))))
  have Z141 : n0 ≤ h137.size := (Nat.le_trans Z135 (Nat.le_of_eq W137.size.symm))
  have K142 : Keep h0 h137 [a1] := (K136.wr W137 (Or.inl (List.mem_of_getElem? (i := 0) rfl)))
  show Go p.tables e below _ (T137.setTop (mkF m 31 #[.val (.ref a1), .val (.ref a2), .val .null, .val .null, .val (.ref a3), .val (.ref a4), .val (.long q1), .second, .val (.long q2), .second] []))
  refine Go.step (fun _ kt => XS.aloadN X137.here hx rfl (hb hby d4_31) rfl rfl kt) ?_
  show Go p.tables e below _ (T137.setTop (mkF m 32 #[.val (.ref a1), .val (.ref a2), .val .null, .val .null, .val (.ref a3), .val (.ref a4), .val (.long q1), .second, .val (.long q2), .second] [(.ref a1)]))
  refine Go.step (fun _ kt => XS.lload X137.here hx rfl (hb hby d4_32) rfl kt) ?_
  show Go p.tables e below _ (T137.setTop (mkF m 34 #[.val (.ref a1), .val (.ref a2), .val .null, .val .null, .val (.ref a3), .val (.ref a4), .val (.long q1), .second, .val (.long q2), .second] [(.long q1), (.ref a1)]))
  obtain ⟨T143, h143, X143, e143, W143, st143⟩ := putF X137 hx hZ hown (host := "") (Or.inl (hw _ (List.mem_of_getElem? (i := 52) rfl))) Via.refl e137 F139 F138 (Or.inr ⟨(hw _ (List.mem_of_getElem? (i := 53) rfl)), rfl, hnm⟩) (hw _ (List.mem_of_getElem? (i := 25) rfl)) (ty := .long) (by decide) rfl rfl (g := (mkF m 34 #[.val (.ref a1), .val (.ref a2), .val .null, .val .null, .val (.ref a3), .val (.ref a4), .val (.long q1), .second, .val (.long q2), .second] [(.long q1), (.ref a1)])) rfl rfl (hb hby d4_34)
  refine Go.step st143 ?_
  have N143 := Fr.snoc X143 N137 g_a1
  have F144 : Exa Z h143 a1 "com/example/ottawa/ottawa/ParseBounds$Holding" := (F138.wr W143)
  have F145 : Fld Z h143 a1 "com/example/ottawa/ottawa/ParseBounds$Holding" "characterBytes" "J" u6 := (F140.other W143 (Or.inr (slot_ne (Or.inr (hw _ (List.mem_of_getElem? (i := 55) rfl))) (Or.inr (hw _ (List.mem_of_getElem? (i := 53) rfl))) (by decide) (t := .long) (t' := .long) (by decide) (by decide))))
  have Z146 : n0 ≤ h143.size := (Nat.le_trans Z141 (Nat.le_of_eq W143.size.symm))
  have K147 : Keep h0 h143 [a1] := (K142.wr W143 (Or.inl (List.mem_of_getElem? (i := 0) rfl)))
  show Go p.tables e below _ (T143.setTop (mkF m 37 #[.val (.ref a1), .val (.ref a2), .val .null, .val .null, .val (.ref a3), .val (.ref a4), .val (.long q1), .second, .val (.long q2), .second] []))
  refine Go.step (fun _ kt => XS.aloadN X143.here hx rfl (hb hby d4_37) rfl rfl kt) ?_
  show Go p.tables e below _ (T143.setTop (mkF m 38 #[.val (.ref a1), .val (.ref a2), .val .null, .val .null, .val (.ref a3), .val (.ref a4), .val (.long q1), .second, .val (.long q2), .second] [(.ref a1)]))
  refine Go.step (fun _ kt => XS.lload X143.here hx rfl (hb hby d4_38) rfl kt) ?_
  show Go p.tables e below _ (T143.setTop (mkF m 40 #[.val (.ref a1), .val (.ref a2), .val .null, .val .null, .val (.ref a3), .val (.ref a4), .val (.long q1), .second, .val (.long q2), .second] [(.long q2), (.ref a1)]))
  obtain ⟨T148, h148, X148, e148, W148, st148⟩ := putF X143 hx hZ hown (host := "") (Or.inl (hw _ (List.mem_of_getElem? (i := 54) rfl))) Via.refl e143 F145 F144 (Or.inr ⟨(hw _ (List.mem_of_getElem? (i := 55) rfl)), rfl, hnm⟩) (hw _ (List.mem_of_getElem? (i := 25) rfl)) (ty := .long) (by decide) rfl rfl (g := (mkF m 40 #[.val (.ref a1), .val (.ref a2), .val .null, .val .null, .val (.ref a3), .val (.ref a4), .val (.long q1), .second, .val (.long q2), .second] [(.long q2), (.ref a1)])) rfl rfl (hb hby d4_40)
  refine Go.step st148 ?_
  have N148 := Fr.snoc X148 N143 g_a1
  have F149 : Exa Z h148 a1 "com/example/ottawa/ottawa/ParseBounds$Holding" := (F144.wr W148)
  have Z150 : n0 ≤ h148.size := (Nat.le_trans Z146 (Nat.le_of_eq W148.size.symm))
  have K151 : Keep h0 h148 [a1] := (K147.wr W148 (Or.inl (List.mem_of_getElem? (i := 0) rfl)))
  show Go p.tables e below _ (T148.setTop (mkF m 43 #[.val (.ref a1), .val (.ref a2), .val .null, .val .null, .val (.ref a3), .val (.ref a4), .val (.long q1), .second, .val (.long q2), .second] []))
  obtain ⟨fs, hr, hrun, hended, hW, hsame⟩ := X148.leave (v := none) (fun _ => rfl)
  refine ⟨_, _, X148.returnOut hx Bd.returns (hb hby d4_43) hr, hrun, hended, _, _, rfl, ?_, ⟨_, rfl⟩, hW, hsame.mono (by decide) (by decide)⟩
  show Qrm4 Z a1 a2 a3 a4 q1 q2 u0 u1 u2 u3 u4 u5 u6 h0 n0 _ T148.heap _
  rw [e148]
  refine ⟨?_, N148, K151⟩
  rfl
theorem pd_0 : parseMethodDescriptor "(Lcom/example/ottawa/ottawa/ParseBounds;Lcom/example/ottawa/ottawa/ParseBounds$Limit;Lcom/example/ottawa/ottawa/ParseBounds$Limit;Ljava/lang/String;Ljava/lang/String;JJ)V" = some ⟨[(.object "com/example/ottawa/ottawa/ParseBounds"), (.object "com/example/ottawa/ottawa/ParseBounds$Limit"), (.object "com/example/ottawa/ottawa/ParseBounds$Limit"), (.object "java/lang/String"), (.object "java/lang/String"), .long, .long], none⟩ := by decide +kernel
theorem pn_1 : plainName "com/example/ottawa/ottawa/ParseBounds" = true := by first | (simp [plainName, overriddenIn]; done) | decide +kernel
theorem d2_0 : decode prog_36_method_1_code 0 = .ok (.aload_n 0, 1) := by decide +kernel
theorem d2_1 : decode prog_36_method_1_code 1 = .ok (.invokespecial 3, 3) := by decide +kernel
theorem d2_4 : decode prog_36_method_1_code 4 = .ok (.aload_n 0, 1) := by decide +kernel
theorem d2_5 : decode prog_36_method_1_code 5 = .ok (.lload_n 1, 1) := by decide +kernel
theorem d2_6 : decode prog_36_method_1_code 6 = .ok (.putfield 9, 3) := by decide +kernel
theorem d2_9 : decode prog_36_method_1_code 9 = .ok (.aload_n 0, 1) := by decide +kernel
theorem d2_10 : decode prog_36_method_1_code 10 = .ok (.lload_n 3, 1) := by decide +kernel
theorem d2_11 : decode prog_36_method_1_code 11 = .ok (.putfield 13, 3) := by decide +kernel
theorem d2_14 : decode prog_36_method_1_code 14 = .ok (.aload_n 0, 1) := by decide +kernel
theorem d2_15 : decode prog_36_method_1_code 15 = .ok (.aload 5, 2) := by decide +kernel
theorem d2_17 : decode prog_36_method_1_code 17 = .ok (.putfield 16, 3) := by decide +kernel
theorem d2_20 : decode prog_36_method_1_code 20 = .ok (.aload_n 0, 1) := by decide +kernel
theorem d2_21 : decode prog_36_method_1_code 21 = .ok (.aload 6, 2) := by decide +kernel
theorem d2_23 : decode prog_36_method_1_code 23 = .ok (.putfield 20, 3) := by decide +kernel
theorem d2_26 : decode prog_36_method_1_code 26 = .ok (.aload_n 0, 1) := by decide +kernel
theorem d2_27 : decode prog_36_method_1_code 27 = .ok (.new 23, 3) := by decide +kernel
theorem d2_30 : decode prog_36_method_1_code 30 = .ok (.dup, 1) := by decide +kernel
theorem d2_31 : decode prog_36_method_1_code 31 = .ok (.aload_n 0, 1) := by decide +kernel
theorem d2_32 : decode prog_36_method_1_code 32 = .ok (.aload 7, 2) := by decide +kernel
theorem d2_34 : decode prog_36_method_1_code 34 = .ok (.aload 8, 2) := by decide +kernel
theorem d2_36 : decode prog_36_method_1_code 36 = .ok (.ldc 25, 2) := by decide +kernel
theorem d2_38 : decode prog_36_method_1_code 38 = .ok (.ldc 27, 2) := by decide +kernel
theorem d2_40 : decode prog_36_method_1_code 40 = .ok (.ldc2_w 29, 3) := by decide +kernel
theorem d2_43 : decode prog_36_method_1_code 43 = .ok (.ldc2_w 31, 3) := by decide +kernel
theorem d2_46 : decode prog_36_method_1_code 46 = .ok (.invokespecial 33, 3) := by decide +kernel
theorem d2_49 : decode prog_36_method_1_code 49 = .ok (.putfield 36, 3) := by decide +kernel
theorem d2_52 : decode prog_36_method_1_code 52 = .ok (.aload_n 0, 1) := by decide +kernel
theorem d2_53 : decode prog_36_method_1_code 53 = .ok (.new 23, 3) := by decide +kernel
theorem d2_56 : decode prog_36_method_1_code 56 = .ok (.dup, 1) := by decide +kernel
theorem d2_57 : decode prog_36_method_1_code 57 = .ok (.aload_n 0, 1) := by decide +kernel
theorem d2_58 : decode prog_36_method_1_code 58 = .ok (.aload 9, 2) := by decide +kernel
theorem d2_60 : decode prog_36_method_1_code 60 = .ok (.aload 10, 2) := by decide +kernel
theorem d2_62 : decode prog_36_method_1_code 62 = .ok (.ldc 40, 2) := by decide +kernel
theorem d2_64 : decode prog_36_method_1_code 64 = .ok (.ldc 42, 2) := by decide +kernel
theorem d2_66 : decode prog_36_method_1_code 66 = .ok (.ldc2_w 44, 3) := by decide +kernel
theorem d2_69 : decode prog_36_method_1_code 69 = .ok (.ldc2_w 46, 3) := by decide +kernel
theorem d2_72 : decode prog_36_method_1_code 72 = .ok (.invokespecial 33, 3) := by decide +kernel
theorem d2_75 : decode prog_36_method_1_code 75 = .ok (.putfield 48, 3) := by decide +kernel
theorem d2_78 : decode prog_36_method_1_code 78 = .ok (.return_, 1) := by decide +kernel
theorem ef_rm2 (m : MethodId) (a1 : Addr) (q1 : Int64) (q2 : Int64) (al : Int64) (ra : Int64) (ow : Int64) (ex : Int64) (wk : Int64) (u0 : Value) (u1 : Value) (u2 : Value) (u3 : Value) : entryFrame m #[(.ref a1), (.long q1), (.long q2), .null, .null, .null, .null, .null, .null] 11 = mkF m 0 #[.val (.ref a1), .val (.long q1), .second, .val (.long q2), .second, .val .null, .val .null, .val .null, .val .null, .val .null, .val .null] [] := by first | (simp [entryFrame, mkF, argsToLocals, Value.category]; done) | rfl
def Qrm2 (Z : State) (a1 : Addr) (q1 : Int64) (q2 : Int64) (al : Int64) (ra : Int64) (ow : Int64) (ex : Int64) (wk : Int64) (u0 : Value) (u1 : Value) (u2 : Value) (u3 : Value) (h0 : Heap) (n0 : Nat) (v : Option Value) (h : Heap) (L : List Loc) : Prop := v = none ∧ Fr n0 L ∧ Keep h0 h [a1] ∧ Exa Z h a1 "com/example/ottawa/ottawa/ParseBounds" ∧ Fld Z h a1 "com/example/ottawa/ottawa/ParseBounds" "allowance" "J" (.long q1) ∧ Fld Z h a1 "com/example/ottawa/ottawa/ParseBounds" "ratio" "J" (.long q2) ∧ Fld Z h a1 "com/example/ottawa/ottawa/ParseBounds" "ownCharacters" "J" (.long ow) ∧ Fld Z h a1 "com/example/ottawa/ottawa/ParseBounds" "expanded" "J" (.long ex) ∧ Fld Z h a1 "com/example/ottawa/ottawa/ParseBounds" "rereadingWork" "J" (.long wk)
set_option maxRecDepth 65536 in
set_option maxHeartbeats 40000000 in
theorem rm2 (l : Launch) (Z : State) (a0 : Array Value) (hw : ∀ d ∈ tables_1, d.before a0 Z = true) (ws : List Jvm.Cond) (a1 : Addr) (q1 : Int64) (q2 : Int64) (al : Int64) (ra : Int64) (ow : Int64) (ex : Int64) (wk : Int64) (u0 : Value) (u1 : Value) (u2 : Value) (u3 : Value) (h0 : Heap) (n0 : Nat) (Z0 : n0 ≤ h0.size) (E1 : Exa Z h0 a1 "com/example/ottawa/ottawa/ParseBounds") (Fa : Fld Z h0 a1 "com/example/ottawa/ottawa/ParseBounds" "allowance" "J" (.long al)) (Fr_ : Fld Z h0 a1 "com/example/ottawa/ottawa/ParseBounds" "ratio" "J" (.long ra)) (Fo : Fld Z h0 a1 "com/example/ottawa/ottawa/ParseBounds" "ownCharacters" "J" (.long ow)) (Fx : Fld Z h0 a1 "com/example/ottawa/ottawa/ParseBounds" "expanded" "J" (.long ex)) (Fk : Fld Z h0 a1 "com/example/ottawa/ottawa/ParseBounds" "rereadingWork" "J" (.long wk)) (Fu0 : Fld Z h0 a1 "com/example/ottawa/ottawa/ParseBounds" "textLimit" "Lcom/example/ottawa/ottawa/ParseBounds$Limit;" u0) (Fu1 : Fld Z h0 a1 "com/example/ottawa/ottawa/ParseBounds" "heapLimit" "Lcom/example/ottawa/ottawa/ParseBounds$Limit;" u1) (Fu2 : Fld Z h0 a1 "com/example/ottawa/ottawa/ParseBounds" "startTag" "Lcom/example/ottawa/ottawa/ParseBounds$Holding;" u2) (Fu3 : Fld Z h0 a1 "com/example/ottawa/ottawa/ParseBounds" "dtd" "Lcom/example/ottawa/ottawa/ParseBounds$Holding;" u3) (g_a1 : n0 ≤ a1) :
    MetFree l (⟨"com/example/ottawa/ottawa/ParseBounds", "<init>", "(JJLcom/example/ottawa/ottawa/ParseBounds$Limit;Lcom/example/ottawa/ottawa/ParseBounds$Limit;Lcom/example/ottawa/ottawa/ParseBounds$Limit;Lcom/example/ottawa/ottawa/ParseBounds$Limit;Lcom/example/ottawa/ottawa/ParseBounds$Limit;Lcom/example/ottawa/ottawa/ParseBounds$Limit;)V"⟩ : MethodName) (head1 (Jvm.Cond.code (⟨"com/example/ottawa/ottawa/ParseBounds", "<init>", "(JJLcom/example/ottawa/ottawa/ParseBounds$Limit;Lcom/example/ottawa/ottawa/ParseBounds$Limit;Lcom/example/ottawa/ottawa/ParseBounds$Limit;Lcom/example/ottawa/ottawa/ParseBounds$Limit;Lcom/example/ottawa/ottawa/ParseBounds$Limit;Lcom/example/ottawa/ottawa/ParseBounds$Limit;)V"⟩ : MethodName) prog_36_method_1_code 11 none :: ws) ({ frames := 2, cells := 10, slots := 430, locals := 35 } : Room)) (fun a U => a = #[(.ref a1), (.long q1), (.long q2), .null, .null, .null, .null, .null, .null] ∧ Z.Warmed39 U.vm ∧ U.heap = h0) (fun _ _ _ _ _ => True) (fun _ U o U' => ∃ v L, o = .returned v ∧ Qrm2 Z a1 q1 q2 al ra ow ex wk u0 u1 u2 u3 h0 n0 v U'.heap L ∧ ReturnedEndW U o U' L ({ frames := 2, cells := 10, slots := 430, locals := 35 } : Room).cells ({ frames := 2, cells := 10, slots := 430, locals := 35 } : Room).slots) := by
  refine MetFree.of_bodySF (plainFor_of_name pn_1) hisR ?_
  intro p e s m args below meth c s₁ Bd hml0 hP hK
  obtain ⟨rfl, hZ, hh⟩ := hP
  have hx := Bd.exec
  have hby := Bd.bytes
  have hml : c.maxLocals = 11 := hml0
  have hown : s.vm.findClass "com/example/ottawa/ottawa/ParseBounds" = some m.cls := findClass_of_methodNamed Bd.named
  have hnm := (name_of_methodNamed Bd.named Bd.method).1
  have X0 : Stand p l e ({ frames := 2, cells := 10, slots := 430, locals := 35 } : Room) (s.setVm s.vm) m #[(.ref a1), (.long q1), (.long q2), .null, .null, .null, .null, .null, .null] below meth c s₁ [] 0 0 := Stand.of_body Bd
  have e0 : s₁.heap = h0 := by rw [← hh, Bd.state]; rfl
  have N0 := Fr.nil n0
  have hS0 : s.Since s.vm s.heap.size := (State.WarmedH.refl s).since _
  have hk0 : s.heap.size ≤ h0.size := Nat.le_of_eq (congrArg Array.size hh)
  show Go p.tables e below (fun o U' => ∃ v L, o = .returned v ∧ Qrm2 Z a1 q1 q2 al ra ow ex wk u0 u1 u2 u3 h0 n0 v U'.heap L ∧ ReturnedEndW s o U' L ({ frames := 2, cells := 10, slots := 430, locals := 35 } : Room).cells ({ frames := 2, cells := 10, slots := 430, locals := 35 } : Room).slots) _
  refine Go.step (fun t kt => castTop (ef_rm2 m a1 q1 q2 al ra ow ex wk u0 u1 u2 u3) kt) ?_
  show Go p.tables e below _ (s₁.setTop (mkF m 0 #[.val (.ref a1), .val (.long q1), .second, .val (.long q2), .second, .val .null, .val .null, .val .null, .val .null, .val .null, .val .null] []))
  have K101 : Keep h0 h0 [a1] := (Keep.refl h0 [a1])
  refine Go.step (fun _ kt => XS.aloadN X0.here hx rfl (hb hby d2_0) rfl rfl kt) ?_
  show Go p.tables e below _ (s₁.setTop (mkF m 1 #[.val (.ref a1), .val (.long q1), .second, .val (.long q2), .second, .val .null, .val .null, .val .null, .val .null, .val .null, .val .null] [(.ref a1)]))
  obtain ⟨T102, X102, e102, st102⟩ := initO X0 hx hZ hown (hw _ (List.mem_of_getElem? (i := 13) rfl)) (hw _ (List.mem_of_getElem? (i := 14) rfl)) (hw _ (List.mem_of_getElem? (i := 15) rfl)) e0 (g := (mkF m 1 #[.val (.ref a1), .val (.long q1), .second, .val (.long q2), .second, .val .null, .val .null, .val .null, .val .null, .val .null, .val .null] [(.ref a1)])) rfl (by rw [hml]; rfl) rfl (hb hby d2_1) (by decide) (W := 0) (by show 2 * 0 + _ ≤ _; exact Nat.le_of_eq rfl) (by decide)
  refine Go.step st102 ?_
  show Go p.tables e below _ (T102.setTop (mkF m 4 #[.val (.ref a1), .val (.long q1), .second, .val (.long q2), .second, .val .null, .val .null, .val .null, .val .null, .val .null, .val .null] []))
  refine Go.step (fun _ kt => XS.aloadN X102.here hx rfl (hb hby d2_4) rfl rfl kt) ?_
  show Go p.tables e below _ (T102.setTop (mkF m 5 #[.val (.ref a1), .val (.long q1), .second, .val (.long q2), .second, .val .null, .val .null, .val .null, .val .null, .val .null, .val .null] [(.ref a1)]))
  refine Go.step (fun _ kt => XS.lloadN X102.here hx rfl (hb hby d2_5) rfl kt) ?_
  show Go p.tables e below _ (T102.setTop (mkF m 6 #[.val (.ref a1), .val (.long q1), .second, .val (.long q2), .second, .val .null, .val .null, .val .null, .val .null, .val .null, .val .null] [(.long q1), (.ref a1)]))
  obtain ⟨T103, h103, X103, e103, W103, st103⟩ := putF X102 hx hZ hown (host := "") (Or.inl (hw _ (List.mem_of_getElem? (i := 16) rfl))) Via.refl e102 Fa E1 (Or.inr ⟨(hw _ (List.mem_of_getElem? (i := 17) rfl)), rfl, hnm⟩) (hw _ (List.mem_of_getElem? (i := 8) rfl)) (ty := .long) (by decide) rfl rfl (g := (mkF m 6 #[.val (.ref a1), .val (.long q1), .second, .val (.long q2), .second, .val .null, .val .null, .val .null, .val .null, .val .null, .val .null] [(.long q1), (.ref a1)])) rfl rfl (hb hby d2_6)
  refine Go.step st103 ?_
  have N103 := Fr.snoc X103 N0 g_a1
  have F104 : Exa Z h103 a1 "com/example/ottawa/ottawa/ParseBounds" := (E1.wr W103)
  have F105 : Fld Z h103 a1 "com/example/ottawa/ottawa/ParseBounds" "allowance" "J" (.long q1) := (Fa.same W103)
  have F106 : Fld Z h103 a1 "com/example/ottawa/ottawa/ParseBounds" "ratio" "J" (.long ra) := (Fr_.other W103 (Or.inr (slot_ne (Or.inr (hw _ (List.mem_of_getElem? (i := 19) rfl))) (Or.inr (hw _ (List.mem_of_getElem? (i := 17) rfl))) (by decide) (t := .long) (t' := .long) (by decide) (by decide))))
  have F107 : Fld Z h103 a1 "com/example/ottawa/ottawa/ParseBounds" "ownCharacters" "J" (.long ow) := (Fo.other W103 (Or.inr (slot_ne (Or.inl (hw _ (List.mem_of_getElem? (i := 70) rfl))) (Or.inr (hw _ (List.mem_of_getElem? (i := 17) rfl))) (by decide) (t := .long) (t' := .long) (by decide) (by decide))))
  have F108 : Fld Z h103 a1 "com/example/ottawa/ottawa/ParseBounds" "expanded" "J" (.long ex) := (Fx.other W103 (Or.inr (slot_ne (Or.inl (hw _ (List.mem_of_getElem? (i := 77) rfl))) (Or.inr (hw _ (List.mem_of_getElem? (i := 17) rfl))) (by decide) (t := .long) (t' := .long) (by decide) (by decide))))
  have F109 : Fld Z h103 a1 "com/example/ottawa/ottawa/ParseBounds" "rereadingWork" "J" (.long wk) := (Fk.other W103 (Or.inr (slot_ne (Or.inl (hw _ (List.mem_of_getElem? (i := 79) rfl))) (Or.inr (hw _ (List.mem_of_getElem? (i := 17) rfl))) (by decide) (t := .long) (t' := .long) (by decide) (by decide))))
  have F110 : Fld Z h103 a1 "com/example/ottawa/ottawa/ParseBounds" "textLimit" "Lcom/example/ottawa/ottawa/ParseBounds$Limit;" u0 := (Fu0.other W103 (Or.inr (slot_ne (Or.inr (hw _ (List.mem_of_getElem? (i := 21) rfl))) (Or.inr (hw _ (List.mem_of_getElem? (i := 17) rfl))) (by decide) (t := (.object "com/example/ottawa/ottawa/ParseBounds$Limit")) (t' := .long) (by decide) (by decide))))
  have F111 : Fld Z h103 a1 "com/example/ottawa/ottawa/ParseBounds" "heapLimit" "Lcom/example/ottawa/ottawa/ParseBounds$Limit;" u1 := (Fu1.other W103 (Or.inr (slot_ne (Or.inr (hw _ (List.mem_of_getElem? (i := 23) rfl))) (Or.inr (hw _ (List.mem_of_getElem? (i := 17) rfl))) (by decide) (t := (.object "com/example/ottawa/ottawa/ParseBounds$Limit")) (t' := .long) (by decide) (by decide))))
  have F112 : Fld Z h103 a1 "com/example/ottawa/ottawa/ParseBounds" "startTag" "Lcom/example/ottawa/ottawa/ParseBounds$Holding;" u2 := (Fu2.other W103 (Or.inr (slot_ne (Or.inr (hw _ (List.mem_of_getElem? (i := 57) rfl))) (Or.inr (hw _ (List.mem_of_getElem? (i := 17) rfl))) (by decide) (t := (.object "com/example/ottawa/ottawa/ParseBounds$Holding")) (t' := .long) (by decide) (by decide))))
  have F113 : Fld Z h103 a1 "com/example/ottawa/ottawa/ParseBounds" "dtd" "Lcom/example/ottawa/ottawa/ParseBounds$Holding;" u3 := (Fu3.other W103 (Or.inr (slot_ne (Or.inr (hw _ (List.mem_of_getElem? (i := 63) rfl))) (Or.inr (hw _ (List.mem_of_getElem? (i := 17) rfl))) (by decide) (t := (.object "com/example/ottawa/ottawa/ParseBounds$Holding")) (t' := .long) (by decide) (by decide))))
  have Z114 : n0 ≤ h103.size := (Nat.le_trans Z0 (Nat.le_of_eq W103.size.symm))
  have hk115 : _ ≤ h103.size := (Nat.le_trans hk0 (Nat.le_of_eq W103.size.symm))
  have K116 : Keep h0 h103 [a1] := (K101.wr W103 (Or.inl (List.mem_of_getElem? (i := 0) rfl)))
  show Go p.tables e below _ (T103.setTop (mkF m 9 #[.val (.ref a1), .val (.long q1), .second, .val (.long q2), .second, .val .null, .val .null, .val .null, .val .null, .val .null, .val .null] []))
  refine Go.step (fun _ kt => XS.aloadN X103.here hx rfl (hb hby d2_9) rfl rfl kt) ?_
  show Go p.tables e below _ (T103.setTop (mkF m 10 #[.val (.ref a1), .val (.long q1), .second, .val (.long q2), .second, .val .null, .val .null, .val .null, .val .null, .val .null, .val .null] [(.ref a1)]))
  refine Go.step (fun _ kt => XS.lloadN X103.here hx rfl (hb hby d2_10) rfl kt) ?_
  show Go p.tables e below _ (T103.setTop (mkF m 11 #[.val (.ref a1), .val (.long q1), .second, .val (.long q2), .second, .val .null, .val .null, .val .null, .val .null, .val .null, .val .null] [(.long q2), (.ref a1)]))
  obtain ⟨T117, h117, X117, e117, W117, st117⟩ := putF X103 hx hZ hown (host := "") (Or.inl (hw _ (List.mem_of_getElem? (i := 18) rfl))) Via.refl e103 F106 F104 (Or.inr ⟨(hw _ (List.mem_of_getElem? (i := 19) rfl)), rfl, hnm⟩) (hw _ (List.mem_of_getElem? (i := 8) rfl)) (ty := .long) (by decide) rfl rfl (g := (mkF m 11 #[.val (.ref a1), .val (.long q1), .second, .val (.long q2), .second, .val .null, .val .null, .val .null, .val .null, .val .null, .val .null] [(.long q2), (.ref a1)])) rfl rfl (hb hby d2_11)
  refine Go.step st117 ?_
  have N117 := Fr.snoc X117 N103 g_a1
  have F118 : Exa Z h117 a1 "com/example/ottawa/ottawa/ParseBounds" := (F104.wr W117)
  have F119 : Fld Z h117 a1 "com/example/ottawa/ottawa/ParseBounds" "allowance" "J" (.long q1) := (F105.other W117 (Or.inr (slot_ne (Or.inr (hw _ (List.mem_of_getElem? (i := 17) rfl))) (Or.inr (hw _ (List.mem_of_getElem? (i := 19) rfl))) (by decide) (t := .long) (t' := .long) (by decide) (by decide))))
  have F120 : Fld Z h117 a1 "com/example/ottawa/ottawa/ParseBounds" "ratio" "J" (.long q2) := (F106.same W117)
  have F121 : Fld Z h117 a1 "com/example/ottawa/ottawa/ParseBounds" "ownCharacters" "J" (.long ow) := (F107.other W117 (Or.inr (slot_ne (Or.inl (hw _ (List.mem_of_getElem? (i := 70) rfl))) (Or.inr (hw _ (List.mem_of_getElem? (i := 19) rfl))) (by decide) (t := .long) (t' := .long) (by decide) (by decide))))
  have F122 : Fld Z h117 a1 "com/example/ottawa/ottawa/ParseBounds" "expanded" "J" (.long ex) := (F108.other W117 (Or.inr (slot_ne (Or.inl (hw _ (List.mem_of_getElem? (i := 77) rfl))) (Or.inr (hw _ (List.mem_of_getElem? (i := 19) rfl))) (by decide) (t := .long) (t' := .long) (by decide) (by decide))))
  have F123 : Fld Z h117 a1 "com/example/ottawa/ottawa/ParseBounds" "rereadingWork" "J" (.long wk) := (F109.other W117 (Or.inr (slot_ne (Or.inl (hw _ (List.mem_of_getElem? (i := 79) rfl))) (Or.inr (hw _ (List.mem_of_getElem? (i := 19) rfl))) (by decide) (t := .long) (t' := .long) (by decide) (by decide))))
  have F124 : Fld Z h117 a1 "com/example/ottawa/ottawa/ParseBounds" "textLimit" "Lcom/example/ottawa/ottawa/ParseBounds$Limit;" u0 := (F110.other W117 (Or.inr (slot_ne (Or.inr (hw _ (List.mem_of_getElem? (i := 21) rfl))) (Or.inr (hw _ (List.mem_of_getElem? (i := 19) rfl))) (by decide) (t := (.object "com/example/ottawa/ottawa/ParseBounds$Limit")) (t' := .long) (by decide) (by decide))))
  have F125 : Fld Z h117 a1 "com/example/ottawa/ottawa/ParseBounds" "heapLimit" "Lcom/example/ottawa/ottawa/ParseBounds$Limit;" u1 := (F111.other W117 (Or.inr (slot_ne (Or.inr (hw _ (List.mem_of_getElem? (i := 23) rfl))) (Or.inr (hw _ (List.mem_of_getElem? (i := 19) rfl))) (by decide) (t := (.object "com/example/ottawa/ottawa/ParseBounds$Limit")) (t' := .long) (by decide) (by decide))))
  have F126 : Fld Z h117 a1 "com/example/ottawa/ottawa/ParseBounds" "startTag" "Lcom/example/ottawa/ottawa/ParseBounds$Holding;" u2 := (F112.other W117 (Or.inr (slot_ne (Or.inr (hw _ (List.mem_of_getElem? (i := 57) rfl))) (Or.inr (hw _ (List.mem_of_getElem? (i := 19) rfl))) (by decide) (t := (.object "com/example/ottawa/ottawa/ParseBounds$Holding")) (t' := .long) (by decide) (by decide))))
  have F127 : Fld Z h117 a1 "com/example/ottawa/ottawa/ParseBounds" "dtd" "Lcom/example/ottawa/ottawa/ParseBounds$Holding;" u3 := (F113.other W117 (Or.inr (slot_ne (Or.inr (hw _ (List.mem_of_getElem? (i := 63) rfl))) (Or.inr (hw _ (List.mem_of_getElem? (i := 19) rfl))) (by decide) (t := (.object "com/example/ottawa/ottawa/ParseBounds$Holding")) (t' := .long) (by decide) (by decide))))
  have Z128 : n0 ≤ h117.size := (Nat.le_trans Z114 (Nat.le_of_eq W117.size.symm))
  have hk129 : _ ≤ h117.size := (Nat.le_trans hk115 (Nat.le_of_eq W117.size.symm))
  have K130 : Keep h0 h117 [a1] := (K116.wr W117 (Or.inl (List.mem_of_getElem? (i := 0) rfl)))
  show Go p.tables e below _ (T117.setTop (mkF m 14 #[.val (.ref a1), .val (.long q1), .second, .val (.long q2), .second, .val .null, .val .null, .val .null, .val .null, .val .null, .val .null] []))
  refine Go.step (fun _ kt => XS.aloadN X117.here hx rfl (hb hby d2_14) rfl rfl kt) ?_
  show Go p.tables e below _ (T117.setTop (mkF m 15 #[.val (.ref a1), .val (.long q1), .second, .val (.long q2), .second, .val .null, .val .null, .val .null, .val .null, .val .null, .val .null] [(.ref a1)]))
  refine Go.step (fun _ kt => XS.aload X117.here hx rfl (hb hby d2_15) rfl rfl kt) ?_
  show Go p.tables e below _ (T117.setTop (mkF m 17 #[.val (.ref a1), .val (.long q1), .second, .val (.long q2), .second, .val .null, .val .null, .val .null, .val .null, .val .null, .val .null] [.null, (.ref a1)]))
  obtain ⟨T131, h131, X131, e131, W131, st131⟩ := putF X117 hx hZ hown (host := "") (Or.inl (hw _ (List.mem_of_getElem? (i := 20) rfl))) Via.refl e117 F124 F118 (Or.inr ⟨(hw _ (List.mem_of_getElem? (i := 21) rfl)), rfl, hnm⟩) (hw _ (List.mem_of_getElem? (i := 8) rfl)) (ty := (.object "com/example/ottawa/ottawa/ParseBounds$Limit")) (by decide) rfl rfl (g := (mkF m 17 #[.val (.ref a1), .val (.long q1), .second, .val (.long q2), .second, .val .null, .val .null, .val .null, .val .null, .val .null, .val .null] [.null, (.ref a1)])) rfl rfl (hb hby d2_17)
  refine Go.step st131 ?_
  have N131 := Fr.snoc X131 N117 g_a1
  have F132 : Exa Z h131 a1 "com/example/ottawa/ottawa/ParseBounds" := (F118.wr W131)
  have F133 : Fld Z h131 a1 "com/example/ottawa/ottawa/ParseBounds" "allowance" "J" (.long q1) := (F119.other W131 (Or.inr (slot_ne (Or.inr (hw _ (List.mem_of_getElem? (i := 17) rfl))) (Or.inr (hw _ (List.mem_of_getElem? (i := 21) rfl))) (by decide) (t := .long) (t' := (.object "com/example/ottawa/ottawa/ParseBounds$Limit")) (by decide) (by decide))))
  have F134 : Fld Z h131 a1 "com/example/ottawa/ottawa/ParseBounds" "ratio" "J" (.long q2) := (F120.other W131 (Or.inr (slot_ne (Or.inr (hw _ (List.mem_of_getElem? (i := 19) rfl))) (Or.inr (hw _ (List.mem_of_getElem? (i := 21) rfl))) (by decide) (t := .long) (t' := (.object "com/example/ottawa/ottawa/ParseBounds$Limit")) (by decide) (by decide))))
  have F135 : Fld Z h131 a1 "com/example/ottawa/ottawa/ParseBounds" "ownCharacters" "J" (.long ow) := (F121.other W131 (Or.inr (slot_ne (Or.inl (hw _ (List.mem_of_getElem? (i := 70) rfl))) (Or.inr (hw _ (List.mem_of_getElem? (i := 21) rfl))) (by decide) (t := .long) (t' := (.object "com/example/ottawa/ottawa/ParseBounds$Limit")) (by decide) (by decide))))
  have F136 : Fld Z h131 a1 "com/example/ottawa/ottawa/ParseBounds" "expanded" "J" (.long ex) := (F122.other W131 (Or.inr (slot_ne (Or.inl (hw _ (List.mem_of_getElem? (i := 77) rfl))) (Or.inr (hw _ (List.mem_of_getElem? (i := 21) rfl))) (by decide) (t := .long) (t' := (.object "com/example/ottawa/ottawa/ParseBounds$Limit")) (by decide) (by decide))))
  have F137 : Fld Z h131 a1 "com/example/ottawa/ottawa/ParseBounds" "rereadingWork" "J" (.long wk) := (F123.other W131 (Or.inr (slot_ne (Or.inl (hw _ (List.mem_of_getElem? (i := 79) rfl))) (Or.inr (hw _ (List.mem_of_getElem? (i := 21) rfl))) (by decide) (t := .long) (t' := (.object "com/example/ottawa/ottawa/ParseBounds$Limit")) (by decide) (by decide))))
  have F138 : Fld Z h131 a1 "com/example/ottawa/ottawa/ParseBounds" "heapLimit" "Lcom/example/ottawa/ottawa/ParseBounds$Limit;" u1 := (F125.other W131 (Or.inr (slot_ne (Or.inr (hw _ (List.mem_of_getElem? (i := 23) rfl))) (Or.inr (hw _ (List.mem_of_getElem? (i := 21) rfl))) (by decide) (t := (.object "com/example/ottawa/ottawa/ParseBounds$Limit")) (t' := (.object "com/example/ottawa/ottawa/ParseBounds$Limit")) (by decide) (by decide))))
  have F139 : Fld Z h131 a1 "com/example/ottawa/ottawa/ParseBounds" "startTag" "Lcom/example/ottawa/ottawa/ParseBounds$Holding;" u2 := (F126.other W131 (Or.inr (slot_ne (Or.inr (hw _ (List.mem_of_getElem? (i := 57) rfl))) (Or.inr (hw _ (List.mem_of_getElem? (i := 21) rfl))) (by decide) (t := (.object "com/example/ottawa/ottawa/ParseBounds$Holding")) (t' := (.object "com/example/ottawa/ottawa/ParseBounds$Limit")) (by decide) (by decide))))
  have F140 : Fld Z h131 a1 "com/example/ottawa/ottawa/ParseBounds" "dtd" "Lcom/example/ottawa/ottawa/ParseBounds$Holding;" u3 := (F127.other W131 (Or.inr (slot_ne (Or.inr (hw _ (List.mem_of_getElem? (i := 63) rfl))) (Or.inr (hw _ (List.mem_of_getElem? (i := 21) rfl))) (by decide) (t := (.object "com/example/ottawa/ottawa/ParseBounds$Holding")) (t' := (.object "com/example/ottawa/ottawa/ParseBounds$Limit")) (by decide) (by decide))))
  have Z141 : n0 ≤ h131.size := (Nat.le_trans Z128 (Nat.le_of_eq W131.size.symm))
  have hk142 : _ ≤ h131.size := (Nat.le_trans hk129 (Nat.le_of_eq W131.size.symm))
  have K143 : Keep h0 h131 [a1] := (K130.wr W131 (Or.inl (List.mem_of_getElem? (i := 0) rfl)))
  show Go p.tables e below _ (T131.setTop (mkF m 20 #[.val (.ref a1), .val (.long q1), .second, .val (.long q2), .second, .val .null, .val .null, .val .null, .val .null, .val .null, .val .null] []))
  refine Go.step (fun _ kt => XS.aloadN X131.here hx rfl (hb hby d2_20) rfl rfl kt) ?_
  show Go p.tables e below _ (T131.setTop (mkF m 21 #[.val (.ref a1), .val (.long q1), .second, .val (.long q2), .second, .val .null, .val .null, .val .null, .val .null, .val .null, .val .null] [(.ref a1)]))
  refine Go.step (fun _ kt => XS.aload X131.here hx rfl (hb hby d2_21) rfl rfl kt) ?_
  show Go p.tables e below _ (T131.setTop (mkF m 23 #[.val (.ref a1), .val (.long q1), .second, .val (.long q2), .second, .val .null, .val .null, .val .null, .val .null, .val .null, .val .null] [.null, (.ref a1)]))
  obtain ⟨T144, h144, X144, e144, W144, st144⟩ := putF X131 hx hZ hown (host := "") (Or.inl (hw _ (List.mem_of_getElem? (i := 22) rfl))) Via.refl e131 F138 F132 (Or.inr ⟨(hw _ (List.mem_of_getElem? (i := 23) rfl)), rfl, hnm⟩) (hw _ (List.mem_of_getElem? (i := 8) rfl)) (ty := (.object "com/example/ottawa/ottawa/ParseBounds$Limit")) (by decide) rfl rfl (g := (mkF m 23 #[.val (.ref a1), .val (.long q1), .second, .val (.long q2), .second, .val .null, .val .null, .val .null, .val .null, .val .null, .val .null] [.null, (.ref a1)])) rfl rfl (hb hby d2_23)
  refine Go.step st144 ?_
  have N144 := Fr.snoc X144 N131 g_a1
  have F145 : Exa Z h144 a1 "com/example/ottawa/ottawa/ParseBounds" := (F132.wr W144)
  have F146 : Fld Z h144 a1 "com/example/ottawa/ottawa/ParseBounds" "allowance" "J" (.long q1) := (F133.other W144 (Or.inr (slot_ne (Or.inr (hw _ (List.mem_of_getElem? (i := 17) rfl))) (Or.inr (hw _ (List.mem_of_getElem? (i := 23) rfl))) (by decide) (t := .long) (t' := (.object "com/example/ottawa/ottawa/ParseBounds$Limit")) (by decide) (by decide))))
  have F147 : Fld Z h144 a1 "com/example/ottawa/ottawa/ParseBounds" "ratio" "J" (.long q2) := (F134.other W144 (Or.inr (slot_ne (Or.inr (hw _ (List.mem_of_getElem? (i := 19) rfl))) (Or.inr (hw _ (List.mem_of_getElem? (i := 23) rfl))) (by decide) (t := .long) (t' := (.object "com/example/ottawa/ottawa/ParseBounds$Limit")) (by decide) (by decide))))
  have F148 : Fld Z h144 a1 "com/example/ottawa/ottawa/ParseBounds" "ownCharacters" "J" (.long ow) := (F135.other W144 (Or.inr (slot_ne (Or.inl (hw _ (List.mem_of_getElem? (i := 70) rfl))) (Or.inr (hw _ (List.mem_of_getElem? (i := 23) rfl))) (by decide) (t := .long) (t' := (.object "com/example/ottawa/ottawa/ParseBounds$Limit")) (by decide) (by decide))))
  have F149 : Fld Z h144 a1 "com/example/ottawa/ottawa/ParseBounds" "expanded" "J" (.long ex) := (F136.other W144 (Or.inr (slot_ne (Or.inl (hw _ (List.mem_of_getElem? (i := 77) rfl))) (Or.inr (hw _ (List.mem_of_getElem? (i := 23) rfl))) (by decide) (t := .long) (t' := (.object "com/example/ottawa/ottawa/ParseBounds$Limit")) (by decide) (by decide))))
  have F150 : Fld Z h144 a1 "com/example/ottawa/ottawa/ParseBounds" "rereadingWork" "J" (.long wk) := (F137.other W144 (Or.inr (slot_ne (Or.inl (hw _ (List.mem_of_getElem? (i := 79) rfl))) (Or.inr (hw _ (List.mem_of_getElem? (i := 23) rfl))) (by decide) (t := .long) (t' := (.object "com/example/ottawa/ottawa/ParseBounds$Limit")) (by decide) (by decide))))
  have F151 : Fld Z h144 a1 "com/example/ottawa/ottawa/ParseBounds" "startTag" "Lcom/example/ottawa/ottawa/ParseBounds$Holding;" u2 := (F139.other W144 (Or.inr (slot_ne (Or.inr (hw _ (List.mem_of_getElem? (i := 57) rfl))) (Or.inr (hw _ (List.mem_of_getElem? (i := 23) rfl))) (by decide) (t := (.object "com/example/ottawa/ottawa/ParseBounds$Holding")) (t' := (.object "com/example/ottawa/ottawa/ParseBounds$Limit")) (by decide) (by decide))))
  have F152 : Fld Z h144 a1 "com/example/ottawa/ottawa/ParseBounds" "dtd" "Lcom/example/ottawa/ottawa/ParseBounds$Holding;" u3 := (F140.other W144 (Or.inr (slot_ne (Or.inr (hw _ (List.mem_of_getElem? (i := 63) rfl))) (Or.inr (hw _ (List.mem_of_getElem? (i := 23) rfl))) (by decide) (t := (.object "com/example/ottawa/ottawa/ParseBounds$Holding")) (t' := (.object "com/example/ottawa/ottawa/ParseBounds$Limit")) (by decide) (by decide))))
  have Z153 : n0 ≤ h144.size := (Nat.le_trans Z141 (Nat.le_of_eq W144.size.symm))
  have hk154 : _ ≤ h144.size := (Nat.le_trans hk142 (Nat.le_of_eq W144.size.symm))
  have K155 : Keep h0 h144 [a1] := (K143.wr W144 (Or.inl (List.mem_of_getElem? (i := 0) rfl)))
  show Go p.tables e below _ (T144.setTop (mkF m 26 #[.val (.ref a1), .val (.long q1), .second, .val (.long q2), .second, .val .null, .val .null, .val .null, .val .null, .val .null, .val .null] []))
  refine Go.step (fun _ kt => XS.aloadN X144.here hx rfl (hb hby d2_26) rfl rfl kt) ?_
  show Go p.tables e below _ (T144.setTop (mkF m 27 #[.val (.ref a1), .val (.long q1), .second, .val (.long q2), .second, .val .null, .val .null, .val .null, .val .null, .val .null, .val .null] [(.ref a1)]))
  obtain ⟨T156, h156, X156, e156, E156, A156, D156, -, st156⟩ := newO X144 hx hZ hown (hw _ (List.mem_of_getElem? (i := 24) rfl)) (hw _ (List.mem_of_getElem? (i := 25) rfl)) (hw _ (List.mem_of_getElem? (i := 26) rfl)) e144 (g := (mkF m 27 #[.val (.ref a1), .val (.long q1), .second, .val (.long q2), .second, .val .null, .val .null, .val .null, .val .null, .val .null, .val .null] [(.ref a1)])) rfl (hb hby d2_27) (by decide) (by decide)
  obtain ⟨b156, g156⟩ : ∃ z, z = h144.size := ⟨_, rfl⟩
  rw [← g156] at A156 D156 st156
  refine Go.step st156 ?_
  have ne_a1_b156 : a1 ≠ b156 := Nat.ne_of_lt (Nat.lt_of_lt_of_le F145.lt (Nat.le_of_eq g156.symm))
  have g_b156 : n0 ≤ b156 := Nat.le_trans Z153 (Nat.le_of_eq g156.symm)
  have sz_b156 : h0.size ≤ b156 := Nat.le_trans K155.1 (Nat.le_of_eq g156.symm)
  have F157 : Exa Z h156 a1 "com/example/ottawa/ottawa/ParseBounds" := (F145.ext E156)
  have F158 : Fld Z h156 a1 "com/example/ottawa/ottawa/ParseBounds" "allowance" "J" (.long q1) := (F146.ext E156)
  have F159 : Fld Z h156 a1 "com/example/ottawa/ottawa/ParseBounds" "ratio" "J" (.long q2) := (F147.ext E156)
  have F160 : Fld Z h156 a1 "com/example/ottawa/ottawa/ParseBounds" "ownCharacters" "J" (.long ow) := (F148.ext E156)
  have F161 : Fld Z h156 a1 "com/example/ottawa/ottawa/ParseBounds" "expanded" "J" (.long ex) := (F149.ext E156)
  have F162 : Fld Z h156 a1 "com/example/ottawa/ottawa/ParseBounds" "rereadingWork" "J" (.long wk) := (F150.ext E156)
  have F163 : Fld Z h156 a1 "com/example/ottawa/ottawa/ParseBounds" "startTag" "Lcom/example/ottawa/ottawa/ParseBounds$Holding;" u2 := (F151.ext E156)
  have F164 : Fld Z h156 a1 "com/example/ottawa/ottawa/ParseBounds" "dtd" "Lcom/example/ottawa/ottawa/ParseBounds$Holding;" u3 := (F152.ext E156)
  have Z165 : n0 ≤ h156.size := (Nat.le_trans Z153 E156.1)
  have hk166 : _ ≤ h156.size := (Nat.le_trans hk154 E156.1)
  have K167 : Keep h0 h156 [a1] := (K155.ext E156)
  have F168 : Fld Z h156 b156 "com/example/ottawa/ottawa/ParseBounds$Holding" "this$0" "Lcom/example/ottawa/ottawa/ParseBounds;" .null := D156 (Or.inr (hw _ (List.mem_of_getElem? (i := 42) rfl))) (ty := (.object "com/example/ottawa/ottawa/ParseBounds")) (by decide)
  have F169 : Fld Z h156 b156 "com/example/ottawa/ottawa/ParseBounds$Holding" "entries" "Lcom/example/ottawa/ottawa/ParseBounds$Limit;" .null := D156 (Or.inr (hw _ (List.mem_of_getElem? (i := 45) rfl))) (ty := (.object "com/example/ottawa/ottawa/ParseBounds$Limit")) (by decide)
  have F170 : Fld Z h156 b156 "com/example/ottawa/ottawa/ParseBounds$Holding" "characters" "Lcom/example/ottawa/ottawa/ParseBounds$Limit;" .null := D156 (Or.inr (hw _ (List.mem_of_getElem? (i := 47) rfl))) (ty := (.object "com/example/ottawa/ottawa/ParseBounds$Limit")) (by decide)
  have F171 : Fld Z h156 b156 "com/example/ottawa/ottawa/ParseBounds$Holding" "holder" "Ljava/lang/String;" .null := D156 (Or.inr (hw _ (List.mem_of_getElem? (i := 49) rfl))) (ty := (.object "java/lang/String")) (by decide)
  have F172 : Fld Z h156 b156 "com/example/ottawa/ottawa/ParseBounds$Holding" "held" "Ljava/lang/String;" .null := D156 (Or.inr (hw _ (List.mem_of_getElem? (i := 51) rfl))) (ty := (.object "java/lang/String")) (by decide)
  have F173 : Fld Z h156 b156 "com/example/ottawa/ottawa/ParseBounds$Holding" "entryBytes" "J" (.long (0 : Int64)) := D156 (Or.inr (hw _ (List.mem_of_getElem? (i := 53) rfl))) (ty := .long) (by decide)
  have F174 : Fld Z h156 b156 "com/example/ottawa/ottawa/ParseBounds$Holding" "characterBytes" "J" (.long (0 : Int64)) := D156 (Or.inr (hw _ (List.mem_of_getElem? (i := 55) rfl))) (ty := .long) (by decide)
  show Go p.tables e below _ (T156.setTop (mkF m 30 #[.val (.ref a1), .val (.long q1), .second, .val (.long q2), .second, .val .null, .val .null, .val .null, .val .null, .val .null, .val .null] [(.ref b156), (.ref a1)]))
  refine Go.step (fun _ kt => XS.dup X156.here hx rfl (hb hby d2_30) rfl rfl kt) ?_
  show Go p.tables e below _ (T156.setTop (mkF m 31 #[.val (.ref a1), .val (.long q1), .second, .val (.long q2), .second, .val .null, .val .null, .val .null, .val .null, .val .null, .val .null] [(.ref b156), (.ref b156), (.ref a1)]))
  refine Go.step (fun _ kt => XS.aloadN X156.here hx rfl (hb hby d2_31) rfl rfl kt) ?_
  show Go p.tables e below _ (T156.setTop (mkF m 32 #[.val (.ref a1), .val (.long q1), .second, .val (.long q2), .second, .val .null, .val .null, .val .null, .val .null, .val .null, .val .null] [(.ref a1), (.ref b156), (.ref b156), (.ref a1)]))
  refine Go.step (fun _ kt => XS.aload X156.here hx rfl (hb hby d2_32) rfl rfl kt) ?_
  show Go p.tables e below _ (T156.setTop (mkF m 34 #[.val (.ref a1), .val (.long q1), .second, .val (.long q2), .second, .val .null, .val .null, .val .null, .val .null, .val .null, .val .null] [.null, (.ref a1), (.ref b156), (.ref b156), (.ref a1)]))
  refine Go.step (fun _ kt => XS.aload X156.here hx rfl (hb hby d2_34) rfl rfl kt) ?_
  show Go p.tables e below _ (T156.setTop (mkF m 36 #[.val (.ref a1), .val (.long q1), .second, .val (.long q2), .second, .val .null, .val .null, .val .null, .val .null, .val .null, .val .null] [.null, .null, (.ref a1), (.ref b156), (.ref b156), (.ref a1)]))
  obtain ⟨b175, T175, h175, k175, X175, e175, E175, hS175, hk175, hZ, hown, st175⟩ := ldcS (s := s) X156 hx hZ hown (hw _ (List.mem_of_getElem? (i := 27) rfl)) (own_wS hw) e156 hS0 hk166 (g := (mkF m 36 #[.val (.ref a1), .val (.long q1), .second, .val (.long q2), .second, .val .null, .val .null, .val .null, .val .null, .val .null, .val .null] [.null, .null, (.ref a1), (.ref b156), (.ref b156), (.ref a1)])) rfl (hb hby d2_36) (n := 44) (by decide) (by decide) (by decide) (by decide)
  refine Go.step st175 ?_
  have F176 : Exa Z h175 a1 "com/example/ottawa/ottawa/ParseBounds" := (F157.ext E175)
  have F177 : Fld Z h175 a1 "com/example/ottawa/ottawa/ParseBounds" "allowance" "J" (.long q1) := (F158.ext E175)
  have F178 : Fld Z h175 a1 "com/example/ottawa/ottawa/ParseBounds" "ratio" "J" (.long q2) := (F159.ext E175)
  have F179 : Fld Z h175 a1 "com/example/ottawa/ottawa/ParseBounds" "ownCharacters" "J" (.long ow) := (F160.ext E175)
  have F180 : Fld Z h175 a1 "com/example/ottawa/ottawa/ParseBounds" "expanded" "J" (.long ex) := (F161.ext E175)
  have F181 : Fld Z h175 a1 "com/example/ottawa/ottawa/ParseBounds" "rereadingWork" "J" (.long wk) := (F162.ext E175)
  have F182 : Fld Z h175 a1 "com/example/ottawa/ottawa/ParseBounds" "startTag" "Lcom/example/ottawa/ottawa/ParseBounds$Holding;" u2 := (F163.ext E175)
  have F183 : Fld Z h175 a1 "com/example/ottawa/ottawa/ParseBounds" "dtd" "Lcom/example/ottawa/ottawa/ParseBounds$Holding;" u3 := (F164.ext E175)
  have F184 : Exa Z h175 b156 "com/example/ottawa/ottawa/ParseBounds$Holding" := (A156.ext E175)
  have F185 : Fld Z h175 b156 "com/example/ottawa/ottawa/ParseBounds$Holding" "this$0" "Lcom/example/ottawa/ottawa/ParseBounds;" .null := (F168.ext E175)
  have F186 : Fld Z h175 b156 "com/example/ottawa/ottawa/ParseBounds$Holding" "entries" "Lcom/example/ottawa/ottawa/ParseBounds$Limit;" .null := (F169.ext E175)
  have F187 : Fld Z h175 b156 "com/example/ottawa/ottawa/ParseBounds$Holding" "characters" "Lcom/example/ottawa/ottawa/ParseBounds$Limit;" .null := (F170.ext E175)
  have F188 : Fld Z h175 b156 "com/example/ottawa/ottawa/ParseBounds$Holding" "holder" "Ljava/lang/String;" .null := (F171.ext E175)
  have F189 : Fld Z h175 b156 "com/example/ottawa/ottawa/ParseBounds$Holding" "held" "Ljava/lang/String;" .null := (F172.ext E175)
  have F190 : Fld Z h175 b156 "com/example/ottawa/ottawa/ParseBounds$Holding" "entryBytes" "J" (.long (0 : Int64)) := (F173.ext E175)
  have F191 : Fld Z h175 b156 "com/example/ottawa/ottawa/ParseBounds$Holding" "characterBytes" "J" (.long (0 : Int64)) := (F174.ext E175)
  have Z192 : n0 ≤ h175.size := (Nat.le_trans Z165 E175.1)
  have hk193 : _ ≤ h175.size := (Nat.le_trans hk166 E175.1)
  have K194 : Keep h0 h175 [a1] := (K167.ext E175)
  show Go p.tables e below _ (T175.setTop (mkF m 38 #[.val (.ref a1), .val (.long q1), .second, .val (.long q2), .second, .val .null, .val .null, .val .null, .val .null, .val .null, .val .null] [(.ref b175), .null, .null, (.ref a1), (.ref b156), (.ref b156), (.ref a1)]))
  obtain ⟨b195, T195, h195, k195, X195, e195, E195, hS195, hk195, hZ, hown, st195⟩ := ldcS (s := s) X175 hx hZ hown (hw _ (List.mem_of_getElem? (i := 35) rfl)) (own_wS hw) e175 hS175 hk175 (g := (mkF m 38 #[.val (.ref a1), .val (.long q1), .second, .val (.long q2), .second, .val .null, .val .null, .val .null, .val .null, .val .null, .val .null] [(.ref b175), .null, .null, (.ref a1), (.ref b156), (.ref b156), (.ref a1)])) rfl (hb hby d2_38) (n := 192) (by decide) (by decide) (by decide) (by decide)
  refine Go.step st195 ?_
  have F196 : Exa Z h195 a1 "com/example/ottawa/ottawa/ParseBounds" := (F176.ext E195)
  have F197 : Fld Z h195 a1 "com/example/ottawa/ottawa/ParseBounds" "allowance" "J" (.long q1) := (F177.ext E195)
  have F198 : Fld Z h195 a1 "com/example/ottawa/ottawa/ParseBounds" "ratio" "J" (.long q2) := (F178.ext E195)
  have F199 : Fld Z h195 a1 "com/example/ottawa/ottawa/ParseBounds" "ownCharacters" "J" (.long ow) := (F179.ext E195)
  have F200 : Fld Z h195 a1 "com/example/ottawa/ottawa/ParseBounds" "expanded" "J" (.long ex) := (F180.ext E195)
  have F201 : Fld Z h195 a1 "com/example/ottawa/ottawa/ParseBounds" "rereadingWork" "J" (.long wk) := (F181.ext E195)
  have F202 : Fld Z h195 a1 "com/example/ottawa/ottawa/ParseBounds" "startTag" "Lcom/example/ottawa/ottawa/ParseBounds$Holding;" u2 := (F182.ext E195)
  have F203 : Fld Z h195 a1 "com/example/ottawa/ottawa/ParseBounds" "dtd" "Lcom/example/ottawa/ottawa/ParseBounds$Holding;" u3 := (F183.ext E195)
  have F204 : Exa Z h195 b156 "com/example/ottawa/ottawa/ParseBounds$Holding" := (F184.ext E195)
  have F205 : Fld Z h195 b156 "com/example/ottawa/ottawa/ParseBounds$Holding" "this$0" "Lcom/example/ottawa/ottawa/ParseBounds;" .null := (F185.ext E195)
  have F206 : Fld Z h195 b156 "com/example/ottawa/ottawa/ParseBounds$Holding" "entries" "Lcom/example/ottawa/ottawa/ParseBounds$Limit;" .null := (F186.ext E195)
  have F207 : Fld Z h195 b156 "com/example/ottawa/ottawa/ParseBounds$Holding" "characters" "Lcom/example/ottawa/ottawa/ParseBounds$Limit;" .null := (F187.ext E195)
  have F208 : Fld Z h195 b156 "com/example/ottawa/ottawa/ParseBounds$Holding" "holder" "Ljava/lang/String;" .null := (F188.ext E195)
  have F209 : Fld Z h195 b156 "com/example/ottawa/ottawa/ParseBounds$Holding" "held" "Ljava/lang/String;" .null := (F189.ext E195)
  have F210 : Fld Z h195 b156 "com/example/ottawa/ottawa/ParseBounds$Holding" "entryBytes" "J" (.long (0 : Int64)) := (F190.ext E195)
  have F211 : Fld Z h195 b156 "com/example/ottawa/ottawa/ParseBounds$Holding" "characterBytes" "J" (.long (0 : Int64)) := (F191.ext E195)
  have Z212 : n0 ≤ h195.size := (Nat.le_trans Z192 E195.1)
  have hk213 : _ ≤ h195.size := (Nat.le_trans hk175 E195.1)
  have K214 : Keep h0 h195 [a1] := (K194.ext E195)
  show Go p.tables e below _ (T195.setTop (mkF m 40 #[.val (.ref a1), .val (.long q1), .second, .val (.long q2), .second, .val .null, .val .null, .val .null, .val .null, .val .null, .val .null] [(.ref b195), (.ref b175), .null, .null, (.ref a1), (.ref b156), (.ref b156), (.ref a1)]))
  refine Go.step (X195.ldc2Long hx hown (mvT hZ (hw _ (List.mem_of_getElem? (i := 36) rfl))) (g := (mkF m 40 #[.val (.ref a1), .val (.long q1), .second, .val (.long q2), .second, .val .null, .val .null, .val .null, .val .null, .val .null, .val .null] [(.ref b195), (.ref b175), .null, .null, (.ref a1), (.ref b156), (.ref b156), (.ref a1)])) rfl (hb hby d2_40)) ?_
  show Go p.tables e below _ (T195.setTop (mkF m 43 #[.val (.ref a1), .val (.long q1), .second, .val (.long q2), .second, .val .null, .val .null, .val .null, .val .null, .val .null, .val .null] [(.long (60 : Int64)), (.ref b195), (.ref b175), .null, .null, (.ref a1), (.ref b156), (.ref b156), (.ref a1)]))
  refine Go.step (X195.ldc2Long hx hown (mvT hZ (hw _ (List.mem_of_getElem? (i := 37) rfl))) (g := (mkF m 43 #[.val (.ref a1), .val (.long q1), .second, .val (.long q2), .second, .val .null, .val .null, .val .null, .val .null, .val .null, .val .null] [(.long (60 : Int64)), (.ref b195), (.ref b175), .null, .null, (.ref a1), (.ref b156), (.ref b156), (.ref a1)])) rfl (hb hby d2_43)) ?_
  show Go p.tables e below _ (T195.setTop (mkF m 46 #[.val (.ref a1), .val (.long q1), .second, .val (.long q2), .second, .val .null, .val .null, .val .null, .val .null, .val .null, .val .null] [(.long (6 : Int64)), (.long (60 : Int64)), (.ref b195), (.ref b175), .null, .null, (.ref a1), (.ref b156), (.ref b156), (.ref a1)]))
  obtain ⟨_, _, ⟨T215, L215, k215, n215⟩, -, X215, ⟨Lc215, hQ215, l215, y215, z215⟩, st215⟩ := specialBackRef X195 hx hZ (y := (⟨"com/example/ottawa/ottawa/ParseBounds$Holding", "<init>", "(Lcom/example/ottawa/ottawa/ParseBounds;Lcom/example/ottawa/ottawa/ParseBounds$Limit;Lcom/example/ottawa/ottawa/ParseBounds$Limit;Ljava/lang/String;Ljava/lang/String;JJ)V"⟩ : MethodName)) rfl hown (hw _ (List.mem_of_getElem? (i := 38) rfl)) (mvT hZ (hw _ (List.mem_of_getElem? (i := 39) rfl))) (mvT hZ (hw _ (List.mem_of_getElem? (i := 40) rfl))) (by decide) (backOf (W := 2) (rm4 l Z a0 hw [] b156 a1 b175 b195 (60 : Int64) (6 : Int64) .null .null .null .null .null (.long (0 : Int64)) (.long (0 : Int64)) h195 n0 Z212 F204 F205 F206 F207 F208 F209 F210 F211 g_b156) hZ (hw _ (List.mem_of_getElem? (i := 40) rfl)) (hw _ (List.mem_of_getElem? (i := 26) rfl)) (by decide) (by decide)) (g := (mkF m 46 #[.val (.ref a1), .val (.long q1), .second, .val (.long q2), .second, .val .null, .val .null, .val .null, .val .null, .val .null, .val .null] [(.long (6 : Int64)), (.long (60 : Int64)), (.ref b195), (.ref b175), .null, .null, (.ref a1), (.ref b156), (.ref b156), (.ref a1)])) rfl (by rw [hml]; rfl) (a := b156) (argsL := [(.ref a1), .null, .null, (.ref b175), (.ref b195), (.long (60 : Int64)), (.long (6 : Int64))]) (rest := [(.ref b156), (.ref a1)]) (lenOf pd_0 rfl) rfl (by show 2 * 0 + _ ≤ _; exact Nat.le_of_eq rfl) (hb hby d2_46) (fun _ _ => ⟨rfl, e195, (by decide : 5 + 0 ≤ _), (by decide : 257 + 0 ≤ _)⟩) (hw _ (List.mem_of_getElem? (i := 39) rfl))
  dsimp only [Pt.U, Pt.locs, Pt.cells, Pt.slots] at X215 l215 y215 z215 st215 hQ215
  subst l215 y215 z215
  obtain ⟨rfl, N215q, Kq215⟩ := hQ215
  have F216 : Exa Z T215.heap a1 "com/example/ottawa/ottawa/ParseBounds" := (F196.keep Kq215)
  have F217 : Fld Z T215.heap a1 "com/example/ottawa/ottawa/ParseBounds" "allowance" "J" (.long q1) := (F197.keep Kq215 (fun q => ne_a1_b156 (List.mem_singleton.mp q)))
  have F218 : Fld Z T215.heap a1 "com/example/ottawa/ottawa/ParseBounds" "ratio" "J" (.long q2) := (F198.keep Kq215 (fun q => ne_a1_b156 (List.mem_singleton.mp q)))
  have F219 : Fld Z T215.heap a1 "com/example/ottawa/ottawa/ParseBounds" "ownCharacters" "J" (.long ow) := (F199.keep Kq215 (fun q => ne_a1_b156 (List.mem_singleton.mp q)))
  have F220 : Fld Z T215.heap a1 "com/example/ottawa/ottawa/ParseBounds" "expanded" "J" (.long ex) := (F200.keep Kq215 (fun q => ne_a1_b156 (List.mem_singleton.mp q)))
  have F221 : Fld Z T215.heap a1 "com/example/ottawa/ottawa/ParseBounds" "rereadingWork" "J" (.long wk) := (F201.keep Kq215 (fun q => ne_a1_b156 (List.mem_singleton.mp q)))
  have F222 : Fld Z T215.heap a1 "com/example/ottawa/ottawa/ParseBounds" "startTag" "Lcom/example/ottawa/ottawa/ParseBounds$Holding;" u2 := (F202.keep Kq215 (fun q => ne_a1_b156 (List.mem_singleton.mp q)))
  have F223 : Fld Z T215.heap a1 "com/example/ottawa/ottawa/ParseBounds" "dtd" "Lcom/example/ottawa/ottawa/ParseBounds$Holding;" u3 := (F203.keep Kq215 (fun q => ne_a1_b156 (List.mem_singleton.mp q)))
  have F224 : Exa Z T215.heap b156 "com/example/ottawa/ottawa/ParseBounds$Holding" := (F204.keep Kq215)
  have Z225 : n0 ≤ T215.heap.size := (Nat.le_trans Z212 Kq215.1)
  have hk226 : _ ≤ T215.heap.size := (Nat.le_trans hk195 Kq215.1)
  have K227 : Keep h0 T215.heap [a1] := (K214.trans Kq215 (by intro x hx; cases List.mem_singleton.mp hx; exact (Or.inr sz_b156)))
  have N215 := Fr.app N144 N215q
  refine Go.step (fun _ kt => st215.trans kt) ?_
  show Go p.tables e below _ (T215.setTop (mkF m 49 #[.val (.ref a1), .val (.long q1), .second, .val (.long q2), .second, .val .null, .val .null, .val .null, .val .null, .val .null, .val .null] [(.ref b156), (.ref a1)]))
  obtain ⟨T228, h228, X228, e228, W228, st228⟩ := putF X215 hx hZ hown (host := "") (Or.inl (hw _ (List.mem_of_getElem? (i := 56) rfl))) Via.refl rfl F222 F216 (Or.inr ⟨(hw _ (List.mem_of_getElem? (i := 57) rfl)), rfl, hnm⟩) (hw _ (List.mem_of_getElem? (i := 8) rfl)) (ty := (.object "com/example/ottawa/ottawa/ParseBounds$Holding")) (by decide) rfl rfl (g := (mkF m 49 #[.val (.ref a1), .val (.long q1), .second, .val (.long q2), .second, .val .null, .val .null, .val .null, .val .null, .val .null, .val .null] [(.ref b156), (.ref a1)])) rfl rfl (hb hby d2_49)
  refine Go.step st228 ?_
  have N228 := Fr.snoc X228 N215 g_a1
  have F229 : Exa Z h228 a1 "com/example/ottawa/ottawa/ParseBounds" := (F216.wr W228)
  have F230 : Fld Z h228 a1 "com/example/ottawa/ottawa/ParseBounds" "allowance" "J" (.long q1) := (F217.other W228 (Or.inr (slot_ne (Or.inr (hw _ (List.mem_of_getElem? (i := 17) rfl))) (Or.inr (hw _ (List.mem_of_getElem? (i := 57) rfl))) (by decide) (t := .long) (t' := (.object "com/example/ottawa/ottawa/ParseBounds$Holding")) (by decide) (by decide))))
  have F231 : Fld Z h228 a1 "com/example/ottawa/ottawa/ParseBounds" "ratio" "J" (.long q2) := (F218.other W228 (Or.inr (slot_ne (Or.inr (hw _ (List.mem_of_getElem? (i := 19) rfl))) (Or.inr (hw _ (List.mem_of_getElem? (i := 57) rfl))) (by decide) (t := .long) (t' := (.object "com/example/ottawa/ottawa/ParseBounds$Holding")) (by decide) (by decide))))
  have F232 : Fld Z h228 a1 "com/example/ottawa/ottawa/ParseBounds" "ownCharacters" "J" (.long ow) := (F219.other W228 (Or.inr (slot_ne (Or.inl (hw _ (List.mem_of_getElem? (i := 70) rfl))) (Or.inr (hw _ (List.mem_of_getElem? (i := 57) rfl))) (by decide) (t := .long) (t' := (.object "com/example/ottawa/ottawa/ParseBounds$Holding")) (by decide) (by decide))))
  have F233 : Fld Z h228 a1 "com/example/ottawa/ottawa/ParseBounds" "expanded" "J" (.long ex) := (F220.other W228 (Or.inr (slot_ne (Or.inl (hw _ (List.mem_of_getElem? (i := 77) rfl))) (Or.inr (hw _ (List.mem_of_getElem? (i := 57) rfl))) (by decide) (t := .long) (t' := (.object "com/example/ottawa/ottawa/ParseBounds$Holding")) (by decide) (by decide))))
  have F234 : Fld Z h228 a1 "com/example/ottawa/ottawa/ParseBounds" "rereadingWork" "J" (.long wk) := (F221.other W228 (Or.inr (slot_ne (Or.inl (hw _ (List.mem_of_getElem? (i := 79) rfl))) (Or.inr (hw _ (List.mem_of_getElem? (i := 57) rfl))) (by decide) (t := .long) (t' := (.object "com/example/ottawa/ottawa/ParseBounds$Holding")) (by decide) (by decide))))
  have F235 : Fld Z h228 a1 "com/example/ottawa/ottawa/ParseBounds" "dtd" "Lcom/example/ottawa/ottawa/ParseBounds$Holding;" u3 := (F223.other W228 (Or.inr (slot_ne (Or.inr (hw _ (List.mem_of_getElem? (i := 63) rfl))) (Or.inr (hw _ (List.mem_of_getElem? (i := 57) rfl))) (by decide) (t := (.object "com/example/ottawa/ottawa/ParseBounds$Holding")) (t' := (.object "com/example/ottawa/ottawa/ParseBounds$Holding")) (by decide) (by decide))))
  have F236 : Exa Z h228 b156 "com/example/ottawa/ottawa/ParseBounds$Holding" := (F224.wr W228)
  have Z237 : n0 ≤ h228.size := (Nat.le_trans Z225 (Nat.le_of_eq W228.size.symm))
  have hk238 : _ ≤ h228.size := (Nat.le_trans hk226 (Nat.le_of_eq W228.size.symm))
  have K239 : Keep h0 h228 [a1] := (K227.wr W228 (Or.inl (List.mem_of_getElem? (i := 0) rfl)))
  show Go p.tables e below _ (T228.setTop (mkF m 52 #[.val (.ref a1), .val (.long q1), .second, .val (.long q2), .second, .val .null, .val .null, .val .null, .val .null, .val .null, .val .null] []))
  refine Go.step (fun _ kt => XS.aloadN X228.here hx rfl (hb hby d2_52) rfl rfl kt) ?_
  show Go p.tables e below _ (T228.setTop (mkF m 53 #[.val (.ref a1), .val (.long q1), .second, .val (.long q2), .second, .val .null, .val .null, .val .null, .val .null, .val .null, .val .null] [(.ref a1)]))
  obtain ⟨T240, h240, X240, e240, E240, A240, D240, -, st240⟩ := newO X228 hx hZ hown (hw _ (List.mem_of_getElem? (i := 24) rfl)) (hw _ (List.mem_of_getElem? (i := 25) rfl)) (hw _ (List.mem_of_getElem? (i := 26) rfl)) e228 (g := (mkF m 53 #[.val (.ref a1), .val (.long q1), .second, .val (.long q2), .second, .val .null, .val .null, .val .null, .val .null, .val .null, .val .null] [(.ref a1)])) rfl (hb hby d2_53) (by decide) (by decide)
  obtain ⟨b240, g240⟩ : ∃ z, z = h228.size := ⟨_, rfl⟩
  rw [← g240] at A240 D240 st240
  refine Go.step st240 ?_
  have ne_a1_b240 : a1 ≠ b240 := Nat.ne_of_lt (Nat.lt_of_lt_of_le F229.lt (Nat.le_of_eq g240.symm))
  have ne_b156_b240 : b156 ≠ b240 := Nat.ne_of_lt (Nat.lt_of_lt_of_le F236.lt (Nat.le_of_eq g240.symm))
  have g_b240 : n0 ≤ b240 := Nat.le_trans Z237 (Nat.le_of_eq g240.symm)
  have sz_b240 : h0.size ≤ b240 := Nat.le_trans K239.1 (Nat.le_of_eq g240.symm)
  have F241 : Exa Z h240 a1 "com/example/ottawa/ottawa/ParseBounds" := (F229.ext E240)
  have F242 : Fld Z h240 a1 "com/example/ottawa/ottawa/ParseBounds" "allowance" "J" (.long q1) := (F230.ext E240)
  have F243 : Fld Z h240 a1 "com/example/ottawa/ottawa/ParseBounds" "ratio" "J" (.long q2) := (F231.ext E240)
  have F244 : Fld Z h240 a1 "com/example/ottawa/ottawa/ParseBounds" "ownCharacters" "J" (.long ow) := (F232.ext E240)
  have F245 : Fld Z h240 a1 "com/example/ottawa/ottawa/ParseBounds" "expanded" "J" (.long ex) := (F233.ext E240)
  have F246 : Fld Z h240 a1 "com/example/ottawa/ottawa/ParseBounds" "rereadingWork" "J" (.long wk) := (F234.ext E240)
  have F247 : Fld Z h240 a1 "com/example/ottawa/ottawa/ParseBounds" "dtd" "Lcom/example/ottawa/ottawa/ParseBounds$Holding;" u3 := (F235.ext E240)
  have F248 : Exa Z h240 b156 "com/example/ottawa/ottawa/ParseBounds$Holding" := (F236.ext E240)
  have Z249 : n0 ≤ h240.size := (Nat.le_trans Z237 E240.1)
  have hk250 : _ ≤ h240.size := (Nat.le_trans hk238 E240.1)
  have K251 : Keep h0 h240 [a1] := (K239.ext E240)
  have F252 : Fld Z h240 b240 "com/example/ottawa/ottawa/ParseBounds$Holding" "this$0" "Lcom/example/ottawa/ottawa/ParseBounds;" .null := D240 (Or.inr (hw _ (List.mem_of_getElem? (i := 42) rfl))) (ty := (.object "com/example/ottawa/ottawa/ParseBounds")) (by decide)
  have F253 : Fld Z h240 b240 "com/example/ottawa/ottawa/ParseBounds$Holding" "entries" "Lcom/example/ottawa/ottawa/ParseBounds$Limit;" .null := D240 (Or.inr (hw _ (List.mem_of_getElem? (i := 45) rfl))) (ty := (.object "com/example/ottawa/ottawa/ParseBounds$Limit")) (by decide)
  have F254 : Fld Z h240 b240 "com/example/ottawa/ottawa/ParseBounds$Holding" "characters" "Lcom/example/ottawa/ottawa/ParseBounds$Limit;" .null := D240 (Or.inr (hw _ (List.mem_of_getElem? (i := 47) rfl))) (ty := (.object "com/example/ottawa/ottawa/ParseBounds$Limit")) (by decide)
  have F255 : Fld Z h240 b240 "com/example/ottawa/ottawa/ParseBounds$Holding" "holder" "Ljava/lang/String;" .null := D240 (Or.inr (hw _ (List.mem_of_getElem? (i := 49) rfl))) (ty := (.object "java/lang/String")) (by decide)
  have F256 : Fld Z h240 b240 "com/example/ottawa/ottawa/ParseBounds$Holding" "held" "Ljava/lang/String;" .null := D240 (Or.inr (hw _ (List.mem_of_getElem? (i := 51) rfl))) (ty := (.object "java/lang/String")) (by decide)
  have F257 : Fld Z h240 b240 "com/example/ottawa/ottawa/ParseBounds$Holding" "entryBytes" "J" (.long (0 : Int64)) := D240 (Or.inr (hw _ (List.mem_of_getElem? (i := 53) rfl))) (ty := .long) (by decide)
  have F258 : Fld Z h240 b240 "com/example/ottawa/ottawa/ParseBounds$Holding" "characterBytes" "J" (.long (0 : Int64)) := D240 (Or.inr (hw _ (List.mem_of_getElem? (i := 55) rfl))) (ty := .long) (by decide)
  show Go p.tables e below _ (T240.setTop (mkF m 56 #[.val (.ref a1), .val (.long q1), .second, .val (.long q2), .second, .val .null, .val .null, .val .null, .val .null, .val .null, .val .null] [(.ref b240), (.ref a1)]))
  refine Go.step (fun _ kt => XS.dup X240.here hx rfl (hb hby d2_56) rfl rfl kt) ?_
  show Go p.tables e below _ (T240.setTop (mkF m 57 #[.val (.ref a1), .val (.long q1), .second, .val (.long q2), .second, .val .null, .val .null, .val .null, .val .null, .val .null, .val .null] [(.ref b240), (.ref b240), (.ref a1)]))
  refine Go.step (fun _ kt => XS.aloadN X240.here hx rfl (hb hby d2_57) rfl rfl kt) ?_
  show Go p.tables e below _ (T240.setTop (mkF m 58 #[.val (.ref a1), .val (.long q1), .second, .val (.long q2), .second, .val .null, .val .null, .val .null, .val .null, .val .null, .val .null] [(.ref a1), (.ref b240), (.ref b240), (.ref a1)]))
  refine Go.step (fun _ kt => XS.aload X240.here hx rfl (hb hby d2_58) rfl rfl kt) ?_
  show Go p.tables e below _ (T240.setTop (mkF m 60 #[.val (.ref a1), .val (.long q1), .second, .val (.long q2), .second, .val .null, .val .null, .val .null, .val .null, .val .null, .val .null] [.null, (.ref a1), (.ref b240), (.ref b240), (.ref a1)]))
  refine Go.step (fun _ kt => XS.aload X240.here hx rfl (hb hby d2_60) rfl rfl kt) ?_
  show Go p.tables e below _ (T240.setTop (mkF m 62 #[.val (.ref a1), .val (.long q1), .second, .val (.long q2), .second, .val .null, .val .null, .val .null, .val .null, .val .null, .val .null] [.null, .null, (.ref a1), (.ref b240), (.ref b240), (.ref a1)]))
  obtain ⟨b259, T259, h259, k259, X259, e259, E259, hS259, hk259, hZ, hown, st259⟩ := ldcS (s := s) X240 hx hZ hown (hw _ (List.mem_of_getElem? (i := 58) rfl)) (own_wS hw) e240 hS195 hk250 (g := (mkF m 62 #[.val (.ref a1), .val (.long q1), .second, .val (.long q2), .second, .val .null, .val .null, .val .null, .val .null, .val .null, .val .null] [.null, .null, (.ref a1), (.ref b240), (.ref b240), (.ref a1)])) rfl (hb hby d2_62) (n := 20) (by decide) (by decide) (by decide) (by decide)
  refine Go.step st259 ?_
  have F260 : Exa Z h259 a1 "com/example/ottawa/ottawa/ParseBounds" := (F241.ext E259)
  have F261 : Fld Z h259 a1 "com/example/ottawa/ottawa/ParseBounds" "allowance" "J" (.long q1) := (F242.ext E259)
  have F262 : Fld Z h259 a1 "com/example/ottawa/ottawa/ParseBounds" "ratio" "J" (.long q2) := (F243.ext E259)
  have F263 : Fld Z h259 a1 "com/example/ottawa/ottawa/ParseBounds" "ownCharacters" "J" (.long ow) := (F244.ext E259)
  have F264 : Fld Z h259 a1 "com/example/ottawa/ottawa/ParseBounds" "expanded" "J" (.long ex) := (F245.ext E259)
  have F265 : Fld Z h259 a1 "com/example/ottawa/ottawa/ParseBounds" "rereadingWork" "J" (.long wk) := (F246.ext E259)
  have F266 : Fld Z h259 a1 "com/example/ottawa/ottawa/ParseBounds" "dtd" "Lcom/example/ottawa/ottawa/ParseBounds$Holding;" u3 := (F247.ext E259)
  have F267 : Exa Z h259 b156 "com/example/ottawa/ottawa/ParseBounds$Holding" := (F248.ext E259)
  have F268 : Exa Z h259 b240 "com/example/ottawa/ottawa/ParseBounds$Holding" := (A240.ext E259)
  have F269 : Fld Z h259 b240 "com/example/ottawa/ottawa/ParseBounds$Holding" "this$0" "Lcom/example/ottawa/ottawa/ParseBounds;" .null := (F252.ext E259)
  have F270 : Fld Z h259 b240 "com/example/ottawa/ottawa/ParseBounds$Holding" "entries" "Lcom/example/ottawa/ottawa/ParseBounds$Limit;" .null := (F253.ext E259)
  have F271 : Fld Z h259 b240 "com/example/ottawa/ottawa/ParseBounds$Holding" "characters" "Lcom/example/ottawa/ottawa/ParseBounds$Limit;" .null := (F254.ext E259)
  have F272 : Fld Z h259 b240 "com/example/ottawa/ottawa/ParseBounds$Holding" "holder" "Ljava/lang/String;" .null := (F255.ext E259)
  have F273 : Fld Z h259 b240 "com/example/ottawa/ottawa/ParseBounds$Holding" "held" "Ljava/lang/String;" .null := (F256.ext E259)
  have F274 : Fld Z h259 b240 "com/example/ottawa/ottawa/ParseBounds$Holding" "entryBytes" "J" (.long (0 : Int64)) := (F257.ext E259)
  have F275 : Fld Z h259 b240 "com/example/ottawa/ottawa/ParseBounds$Holding" "characterBytes" "J" (.long (0 : Int64)) := (F258.ext E259)
  have Z276 : n0 ≤ h259.size := (Nat.le_trans Z249 E259.1)
  have hk277 : _ ≤ h259.size := (Nat.le_trans hk250 E259.1)
  have K278 : Keep h0 h259 [a1] := (K251.ext E259)
  show Go p.tables e below _ (T259.setTop (mkF m 64 #[.val (.ref a1), .val (.long q1), .second, .val (.long q2), .second, .val .null, .val .null, .val .null, .val .null, .val .null, .val .null] [(.ref b259), .null, .null, (.ref a1), (.ref b240), (.ref b240), (.ref a1)]))
  obtain ⟨b279, T279, h279, k279, X279, e279, E279, hS279, hk279, hZ, hown, st279⟩ := ldcS (s := s) X259 hx hZ hown (hw _ (List.mem_of_getElem? (i := 59) rfl)) (own_wS hw) e259 hS259 hk259 (g := (mkF m 64 #[.val (.ref a1), .val (.long q1), .second, .val (.long q2), .second, .val .null, .val .null, .val .null, .val .null, .val .null, .val .null] [(.ref b259), .null, .null, (.ref a1), (.ref b240), (.ref b240), (.ref a1)])) rfl (hb hby d2_64) (n := 132) (by decide) (by decide) (by decide) (by decide)
  refine Go.step st279 ?_
  have F280 : Exa Z h279 a1 "com/example/ottawa/ottawa/ParseBounds" := (F260.ext E279)
  have F281 : Fld Z h279 a1 "com/example/ottawa/ottawa/ParseBounds" "allowance" "J" (.long q1) := (F261.ext E279)
  have F282 : Fld Z h279 a1 "com/example/ottawa/ottawa/ParseBounds" "ratio" "J" (.long q2) := (F262.ext E279)
  have F283 : Fld Z h279 a1 "com/example/ottawa/ottawa/ParseBounds" "ownCharacters" "J" (.long ow) := (F263.ext E279)
  have F284 : Fld Z h279 a1 "com/example/ottawa/ottawa/ParseBounds" "expanded" "J" (.long ex) := (F264.ext E279)
  have F285 : Fld Z h279 a1 "com/example/ottawa/ottawa/ParseBounds" "rereadingWork" "J" (.long wk) := (F265.ext E279)
  have F286 : Fld Z h279 a1 "com/example/ottawa/ottawa/ParseBounds" "dtd" "Lcom/example/ottawa/ottawa/ParseBounds$Holding;" u3 := (F266.ext E279)
  have F287 : Exa Z h279 b156 "com/example/ottawa/ottawa/ParseBounds$Holding" := (F267.ext E279)
  have F288 : Exa Z h279 b240 "com/example/ottawa/ottawa/ParseBounds$Holding" := (F268.ext E279)
  have F289 : Fld Z h279 b240 "com/example/ottawa/ottawa/ParseBounds$Holding" "this$0" "Lcom/example/ottawa/ottawa/ParseBounds;" .null := (F269.ext E279)
  have F290 : Fld Z h279 b240 "com/example/ottawa/ottawa/ParseBounds$Holding" "entries" "Lcom/example/ottawa/ottawa/ParseBounds$Limit;" .null := (F270.ext E279)
  have F291 : Fld Z h279 b240 "com/example/ottawa/ottawa/ParseBounds$Holding" "characters" "Lcom/example/ottawa/ottawa/ParseBounds$Limit;" .null := (F271.ext E279)
  have F292 : Fld Z h279 b240 "com/example/ottawa/ottawa/ParseBounds$Holding" "holder" "Ljava/lang/String;" .null := (F272.ext E279)
  have F293 : Fld Z h279 b240 "com/example/ottawa/ottawa/ParseBounds$Holding" "held" "Ljava/lang/String;" .null := (F273.ext E279)
  have F294 : Fld Z h279 b240 "com/example/ottawa/ottawa/ParseBounds$Holding" "entryBytes" "J" (.long (0 : Int64)) := (F274.ext E279)
  have F295 : Fld Z h279 b240 "com/example/ottawa/ottawa/ParseBounds$Holding" "characterBytes" "J" (.long (0 : Int64)) := (F275.ext E279)
  have Z296 : n0 ≤ h279.size := (Nat.le_trans Z276 E279.1)
  have hk297 : _ ≤ h279.size := (Nat.le_trans hk259 E279.1)
  have K298 : Keep h0 h279 [a1] := (K278.ext E279)
  show Go p.tables e below _ (T279.setTop (mkF m 66 #[.val (.ref a1), .val (.long q1), .second, .val (.long q2), .second, .val .null, .val .null, .val .null, .val .null, .val .null, .val .null] [(.ref b279), (.ref b259), .null, .null, (.ref a1), (.ref b240), (.ref b240), (.ref a1)]))
  refine Go.step (X279.ldc2Long hx hown (mvT hZ (hw _ (List.mem_of_getElem? (i := 60) rfl))) (g := (mkF m 66 #[.val (.ref a1), .val (.long q1), .second, .val (.long q2), .second, .val .null, .val .null, .val .null, .val .null, .val .null, .val .null] [(.ref b279), (.ref b259), .null, .null, (.ref a1), (.ref b240), (.ref b240), (.ref a1)])) rfl (hb hby d2_66)) ?_
  show Go p.tables e below _ (T279.setTop (mkF m 69 #[.val (.ref a1), .val (.long q1), .second, .val (.long q2), .second, .val .null, .val .null, .val .null, .val .null, .val .null, .val .null] [(.long (200 : Int64)), (.ref b279), (.ref b259), .null, .null, (.ref a1), (.ref b240), (.ref b240), (.ref a1)]))
  refine Go.step (X279.ldc2Long hx hown (mvT hZ (hw _ (List.mem_of_getElem? (i := 61) rfl))) (g := (mkF m 69 #[.val (.ref a1), .val (.long q1), .second, .val (.long q2), .second, .val .null, .val .null, .val .null, .val .null, .val .null, .val .null] [(.long (200 : Int64)), (.ref b279), (.ref b259), .null, .null, (.ref a1), (.ref b240), (.ref b240), (.ref a1)])) rfl (hb hby d2_69)) ?_
  show Go p.tables e below _ (T279.setTop (mkF m 72 #[.val (.ref a1), .val (.long q1), .second, .val (.long q2), .second, .val .null, .val .null, .val .null, .val .null, .val .null, .val .null] [(.long (2 : Int64)), (.long (200 : Int64)), (.ref b279), (.ref b259), .null, .null, (.ref a1), (.ref b240), (.ref b240), (.ref a1)]))
  obtain ⟨_, _, ⟨T299, L299, k299, n299⟩, -, X299, ⟨Lc299, hQ299, l299, y299, z299⟩, st299⟩ := specialBackRef X279 hx hZ (y := (⟨"com/example/ottawa/ottawa/ParseBounds$Holding", "<init>", "(Lcom/example/ottawa/ottawa/ParseBounds;Lcom/example/ottawa/ottawa/ParseBounds$Limit;Lcom/example/ottawa/ottawa/ParseBounds$Limit;Ljava/lang/String;Ljava/lang/String;JJ)V"⟩ : MethodName)) rfl hown (hw _ (List.mem_of_getElem? (i := 38) rfl)) (mvT hZ (hw _ (List.mem_of_getElem? (i := 39) rfl))) (mvT hZ (hw _ (List.mem_of_getElem? (i := 40) rfl))) (by decide) (backOf (W := 2) (rm4 l Z a0 hw [] b240 a1 b259 b279 (200 : Int64) (2 : Int64) .null .null .null .null .null (.long (0 : Int64)) (.long (0 : Int64)) h279 n0 Z296 F288 F289 F290 F291 F292 F293 F294 F295 g_b240) hZ (hw _ (List.mem_of_getElem? (i := 40) rfl)) (hw _ (List.mem_of_getElem? (i := 26) rfl)) (by decide) (by decide)) (g := (mkF m 72 #[.val (.ref a1), .val (.long q1), .second, .val (.long q2), .second, .val .null, .val .null, .val .null, .val .null, .val .null, .val .null] [(.long (2 : Int64)), (.long (200 : Int64)), (.ref b279), (.ref b259), .null, .null, (.ref a1), (.ref b240), (.ref b240), (.ref a1)])) rfl (by rw [hml]; rfl) (a := b240) (argsL := [(.ref a1), .null, .null, (.ref b259), (.ref b279), (.long (200 : Int64)), (.long (2 : Int64))]) (rest := [(.ref b240), (.ref a1)]) (lenOf pd_0 rfl) rfl (by show 2 * 0 + _ ≤ _; exact Nat.le_of_eq rfl) (hb hby d2_72) (fun _ _ => ⟨rfl, e279, (by decide : 10 + 0 ≤ _), (by decide : 430 + 0 ≤ _)⟩) (hw _ (List.mem_of_getElem? (i := 39) rfl))
  dsimp only [Pt.U, Pt.locs, Pt.cells, Pt.slots] at X299 l299 y299 z299 st299 hQ299
  subst l299 y299 z299
  obtain ⟨rfl, N299q, Kq299⟩ := hQ299
  have F300 : Exa Z T299.heap a1 "com/example/ottawa/ottawa/ParseBounds" := (F280.keep Kq299)
  have F301 : Fld Z T299.heap a1 "com/example/ottawa/ottawa/ParseBounds" "allowance" "J" (.long q1) := (F281.keep Kq299 (fun q => ne_a1_b240 (List.mem_singleton.mp q)))
  have F302 : Fld Z T299.heap a1 "com/example/ottawa/ottawa/ParseBounds" "ratio" "J" (.long q2) := (F282.keep Kq299 (fun q => ne_a1_b240 (List.mem_singleton.mp q)))
  have F303 : Fld Z T299.heap a1 "com/example/ottawa/ottawa/ParseBounds" "ownCharacters" "J" (.long ow) := (F283.keep Kq299 (fun q => ne_a1_b240 (List.mem_singleton.mp q)))
  have F304 : Fld Z T299.heap a1 "com/example/ottawa/ottawa/ParseBounds" "expanded" "J" (.long ex) := (F284.keep Kq299 (fun q => ne_a1_b240 (List.mem_singleton.mp q)))
  have F305 : Fld Z T299.heap a1 "com/example/ottawa/ottawa/ParseBounds" "rereadingWork" "J" (.long wk) := (F285.keep Kq299 (fun q => ne_a1_b240 (List.mem_singleton.mp q)))
  have F306 : Fld Z T299.heap a1 "com/example/ottawa/ottawa/ParseBounds" "dtd" "Lcom/example/ottawa/ottawa/ParseBounds$Holding;" u3 := (F286.keep Kq299 (fun q => ne_a1_b240 (List.mem_singleton.mp q)))
  have F307 : Exa Z T299.heap b156 "com/example/ottawa/ottawa/ParseBounds$Holding" := (F287.keep Kq299)
  have F308 : Exa Z T299.heap b240 "com/example/ottawa/ottawa/ParseBounds$Holding" := (F288.keep Kq299)
  have Z309 : n0 ≤ T299.heap.size := (Nat.le_trans Z296 Kq299.1)
  have hk310 : _ ≤ T299.heap.size := (Nat.le_trans hk279 Kq299.1)
  have K311 : Keep h0 T299.heap [a1] := (K298.trans Kq299 (by intro x hx; cases List.mem_singleton.mp hx; exact (Or.inr sz_b240)))
  have N299 := Fr.app N228 N299q
  refine Go.step (fun _ kt => st299.trans kt) ?_
  show Go p.tables e below _ (T299.setTop (mkF m 75 #[.val (.ref a1), .val (.long q1), .second, .val (.long q2), .second, .val .null, .val .null, .val .null, .val .null, .val .null, .val .null] [(.ref b240), (.ref a1)]))
  obtain ⟨T312, h312, X312, e312, W312, st312⟩ := putF X299 hx hZ hown (host := "") (Or.inl (hw _ (List.mem_of_getElem? (i := 62) rfl))) Via.refl rfl F306 F300 (Or.inr ⟨(hw _ (List.mem_of_getElem? (i := 63) rfl)), rfl, hnm⟩) (hw _ (List.mem_of_getElem? (i := 8) rfl)) (ty := (.object "com/example/ottawa/ottawa/ParseBounds$Holding")) (by decide) rfl rfl (g := (mkF m 75 #[.val (.ref a1), .val (.long q1), .second, .val (.long q2), .second, .val .null, .val .null, .val .null, .val .null, .val .null, .val .null] [(.ref b240), (.ref a1)])) rfl rfl (hb hby d2_75)
  refine Go.step st312 ?_
  have N312 := Fr.snoc X312 N299 g_a1
  have F313 : Exa Z h312 a1 "com/example/ottawa/ottawa/ParseBounds" := (F300.wr W312)
  have F314 : Fld Z h312 a1 "com/example/ottawa/ottawa/ParseBounds" "allowance" "J" (.long q1) := (F301.other W312 (Or.inr (slot_ne (Or.inr (hw _ (List.mem_of_getElem? (i := 17) rfl))) (Or.inr (hw _ (List.mem_of_getElem? (i := 63) rfl))) (by decide) (t := .long) (t' := (.object "com/example/ottawa/ottawa/ParseBounds$Holding")) (by decide) (by decide))))
  have F315 : Fld Z h312 a1 "com/example/ottawa/ottawa/ParseBounds" "ratio" "J" (.long q2) := (F302.other W312 (Or.inr (slot_ne (Or.inr (hw _ (List.mem_of_getElem? (i := 19) rfl))) (Or.inr (hw _ (List.mem_of_getElem? (i := 63) rfl))) (by decide) (t := .long) (t' := (.object "com/example/ottawa/ottawa/ParseBounds$Holding")) (by decide) (by decide))))
  have F316 : Fld Z h312 a1 "com/example/ottawa/ottawa/ParseBounds" "ownCharacters" "J" (.long ow) := (F303.other W312 (Or.inr (slot_ne (Or.inl (hw _ (List.mem_of_getElem? (i := 70) rfl))) (Or.inr (hw _ (List.mem_of_getElem? (i := 63) rfl))) (by decide) (t := .long) (t' := (.object "com/example/ottawa/ottawa/ParseBounds$Holding")) (by decide) (by decide))))
  have F317 : Fld Z h312 a1 "com/example/ottawa/ottawa/ParseBounds" "expanded" "J" (.long ex) := (F304.other W312 (Or.inr (slot_ne (Or.inl (hw _ (List.mem_of_getElem? (i := 77) rfl))) (Or.inr (hw _ (List.mem_of_getElem? (i := 63) rfl))) (by decide) (t := .long) (t' := (.object "com/example/ottawa/ottawa/ParseBounds$Holding")) (by decide) (by decide))))
  have F318 : Fld Z h312 a1 "com/example/ottawa/ottawa/ParseBounds" "rereadingWork" "J" (.long wk) := (F305.other W312 (Or.inr (slot_ne (Or.inl (hw _ (List.mem_of_getElem? (i := 79) rfl))) (Or.inr (hw _ (List.mem_of_getElem? (i := 63) rfl))) (by decide) (t := .long) (t' := (.object "com/example/ottawa/ottawa/ParseBounds$Holding")) (by decide) (by decide))))
  have F319 : Exa Z h312 b156 "com/example/ottawa/ottawa/ParseBounds$Holding" := (F307.wr W312)
  have F320 : Exa Z h312 b240 "com/example/ottawa/ottawa/ParseBounds$Holding" := (F308.wr W312)
  have Z321 : n0 ≤ h312.size := (Nat.le_trans Z309 (Nat.le_of_eq W312.size.symm))
  have hk322 : _ ≤ h312.size := (Nat.le_trans hk310 (Nat.le_of_eq W312.size.symm))
  have K323 : Keep h0 h312 [a1] := (K311.wr W312 (Or.inl (List.mem_of_getElem? (i := 0) rfl)))
  show Go p.tables e below _ (T312.setTop (mkF m 78 #[.val (.ref a1), .val (.long q1), .second, .val (.long q2), .second, .val .null, .val .null, .val .null, .val .null, .val .null, .val .null] []))
  obtain ⟨fs, hr, hrun, hended, hRW⟩ := X312.leaveW hS279 (by rw [e312]; exact hk322) (v := none) (fun _ => rfl)
  refine ⟨_, _, X312.returnOut hx Bd.returns (hb hby d2_78) hr, hrun, hended, _, _, rfl, ?_, hRW.1, hRW.2.1, hRW.2.2.1, hRW.2.2.2.mono (by decide) (by decide)⟩
  show Qrm2 Z a1 q1 q2 al ra ow ex wk u0 u1 u2 u3 h0 n0 _ T312.heap _
  rw [e312]
  refine ⟨?_, N312, K323, F313, F314, F315, F316, F317, F318⟩
  rfl
theorem d5_0 : decode prog_36_method_2_code 0 = .ok (.aload_n 0, 1) := by decide +kernel
theorem d5_1 : decode prog_36_method_2_code 1 = .ok (.dup, 1) := by decide +kernel
theorem d5_2 : decode prog_36_method_2_code 2 = .ok (.getfield 51, 3) := by decide +kernel
theorem d5_5 : decode prog_36_method_2_code 5 = .ok (.lload_n 1, 1) := by decide +kernel
theorem d5_6 : decode prog_36_method_2_code 6 = .ok (.ladd, 1) := by decide +kernel
theorem d5_7 : decode prog_36_method_2_code 7 = .ok (.putfield 51, 3) := by decide +kernel
theorem d5_10 : decode prog_36_method_2_code 10 = .ok (.return_, 1) := by decide +kernel
theorem ef_rm5 (m : MethodId) (a1 : Addr) (q1 : Int64) (al : Int64) (ra : Int64) (ow : Int64) (ex : Int64) (wk : Int64) : entryFrame m #[(.ref a1), (.long q1)] 3 = mkF m 0 #[.val (.ref a1), .val (.long q1), .second] [] := by first | (simp [entryFrame, mkF, argsToLocals, Value.category]; done) | rfl
def Qrm5 (Z : State) (a1 : Addr) (q1 : Int64) (al : Int64) (ra : Int64) (ow : Int64) (ex : Int64) (wk : Int64) (h0 : Heap) (n0 : Nat) (v : Option Value) (h : Heap) (L : List Loc) : Prop := v = none ∧ Fr n0 L ∧ Keep h0 h [a1] ∧ Exa Z h a1 "com/example/ottawa/ottawa/ParseBounds" ∧ Fld Z h a1 "com/example/ottawa/ottawa/ParseBounds" "allowance" "J" (.long al) ∧ Fld Z h a1 "com/example/ottawa/ottawa/ParseBounds" "ratio" "J" (.long ra) ∧ Fld Z h a1 "com/example/ottawa/ottawa/ParseBounds" "ownCharacters" "J" (.long (ow + q1)) ∧ Fld Z h a1 "com/example/ottawa/ottawa/ParseBounds" "expanded" "J" (.long ex) ∧ Fld Z h a1 "com/example/ottawa/ottawa/ParseBounds" "rereadingWork" "J" (.long wk)
set_option maxRecDepth 65536 in
set_option maxHeartbeats 40000000 in
theorem rm5 (l : Launch) (Z : State) (a0 : Array Value) (hw : ∀ d ∈ tables_1, d.before a0 Z = true) (ws : List Jvm.Cond) (a1 : Addr) (q1 : Int64) (al : Int64) (ra : Int64) (ow : Int64) (ex : Int64) (wk : Int64) (h0 : Heap) (n0 : Nat) (Z0 : n0 ≤ h0.size) (E1 : Exa Z h0 a1 "com/example/ottawa/ottawa/ParseBounds") (Fa : Fld Z h0 a1 "com/example/ottawa/ottawa/ParseBounds" "allowance" "J" (.long al)) (Fr_ : Fld Z h0 a1 "com/example/ottawa/ottawa/ParseBounds" "ratio" "J" (.long ra)) (Fo : Fld Z h0 a1 "com/example/ottawa/ottawa/ParseBounds" "ownCharacters" "J" (.long ow)) (Fx : Fld Z h0 a1 "com/example/ottawa/ottawa/ParseBounds" "expanded" "J" (.long ex)) (Fk : Fld Z h0 a1 "com/example/ottawa/ottawa/ParseBounds" "rereadingWork" "J" (.long wk)) (g_a1 : n0 ≤ a1) :
    MetFree l (⟨"com/example/ottawa/ottawa/ParseBounds", "countOwn", "(J)V"⟩ : MethodName) (head1 (Jvm.Cond.code (⟨"com/example/ottawa/ottawa/ParseBounds", "countOwn", "(J)V"⟩ : MethodName) prog_36_method_2_code 3 none :: ws) ({ frames := 0, cells := 0, slots := 0, locals := 0 } : Room)) (fun a U => a = #[(.ref a1), (.long q1)] ∧ Z.Warmed39 U.vm ∧ U.heap = h0) (fun _ _ _ _ _ => True) (fun _ U o U' => ∃ v L, o = .returned v ∧ Qrm5 Z a1 q1 al ra ow ex wk h0 n0 v U'.heap L ∧ FrameEnd U o U' L ({ frames := 0, cells := 0, slots := 0, locals := 0 } : Room).cells ({ frames := 0, cells := 0, slots := 0, locals := 0 } : Room).slots) := by
  refine MetFree.of_bodySF (plainFor_of_name pn_1) hisR ?_
  intro p e s m args below meth c s₁ Bd hml0 hP hK
  obtain ⟨rfl, hZ, hh⟩ := hP
  have hx := Bd.exec
  have hby := Bd.bytes
  have hml : c.maxLocals = 3 := hml0
  have hown : s.vm.findClass "com/example/ottawa/ottawa/ParseBounds" = some m.cls := findClass_of_methodNamed Bd.named
  have hnm := (name_of_methodNamed Bd.named Bd.method).1
  have X0 : Stand p l e ({ frames := 0, cells := 0, slots := 0, locals := 0 } : Room) s m #[(.ref a1), (.long q1)] below meth c s₁ [] 0 0 := Stand.of_body Bd
  have e0 : s₁.heap = h0 := by rw [← hh, Bd.state]; rfl
  have N0 := Fr.nil n0
  show Go p.tables e below (fun o U' => ∃ v L, o = .returned v ∧ Qrm5 Z a1 q1 al ra ow ex wk h0 n0 v U'.heap L ∧ FrameEnd s o U' L ({ frames := 0, cells := 0, slots := 0, locals := 0 } : Room).cells ({ frames := 0, cells := 0, slots := 0, locals := 0 } : Room).slots) _
  refine Go.step (fun t kt => castTop (ef_rm5 m a1 q1 al ra ow ex wk) kt) ?_
  show Go p.tables e below _ (s₁.setTop (mkF m 0 #[.val (.ref a1), .val (.long q1), .second] []))
  have K101 : Keep h0 h0 [a1] := (Keep.refl h0 [a1])
  refine Go.step (fun _ kt => XS.aloadN X0.here hx rfl (hb hby d5_0) rfl rfl kt) ?_
  show Go p.tables e below _ (s₁.setTop (mkF m 1 #[.val (.ref a1), .val (.long q1), .second] [(.ref a1)]))
  refine Go.step (fun _ kt => XS.dup X0.here hx rfl (hb hby d5_1) rfl rfl kt) ?_
  show Go p.tables e below _ (s₁.setTop (mkF m 2 #[.val (.ref a1), .val (.long q1), .second] [(.ref a1), (.ref a1)]))
  obtain ⟨T102, X102, e102, st102⟩ := getF X0 hx hZ hown (host := "") (Or.inl (hw _ (List.mem_of_getElem? (i := 69) rfl))) Via.refl e0 Fo (g := (mkF m 2 #[.val (.ref a1), .val (.long q1), .second] [(.ref a1), (.ref a1)])) rfl rfl (hb hby d5_2)
  refine Go.step st102 ?_
  show Go p.tables e below _ (T102.setTop (mkF m 5 #[.val (.ref a1), .val (.long q1), .second] [(.long ow), (.ref a1)]))
  refine Go.step (fun _ kt => XS.lloadN X102.here hx rfl (hb hby d5_5) rfl kt) ?_
  show Go p.tables e below _ (T102.setTop (mkF m 6 #[.val (.ref a1), .val (.long q1), .second] [(.long q1), (.long ow), (.ref a1)]))
  refine Go.step (fun _ kt => XS.ladd X102.here hx rfl (hb hby d5_6) rfl kt) ?_
  show Go p.tables e below _ (T102.setTop (mkF m 7 #[.val (.ref a1), .val (.long q1), .second] [(.long (ow + q1)), (.ref a1)]))
  obtain ⟨T103, h103, X103, e103, W103, st103⟩ := putF X102 hx hZ hown (host := "") (Or.inl (hw _ (List.mem_of_getElem? (i := 69) rfl))) Via.refl e102 Fo E1 (Or.inl (hw _ (List.mem_of_getElem? (i := 70) rfl))) (hw _ (List.mem_of_getElem? (i := 8) rfl)) (ty := .long) (by decide) rfl rfl (g := (mkF m 7 #[.val (.ref a1), .val (.long q1), .second] [(.long (ow + q1)), (.ref a1)])) rfl rfl (hb hby d5_7)
  refine Go.step st103 ?_
  have N103 := Fr.snoc X103 N0 g_a1
  have F104 : Exa Z h103 a1 "com/example/ottawa/ottawa/ParseBounds" := (E1.wr W103)
  have F105 : Fld Z h103 a1 "com/example/ottawa/ottawa/ParseBounds" "allowance" "J" (.long al) := (Fa.other W103 (Or.inr (slot_ne (Or.inr (hw _ (List.mem_of_getElem? (i := 17) rfl))) (Or.inl (hw _ (List.mem_of_getElem? (i := 70) rfl))) (by decide) (t := .long) (t' := .long) (by decide) (by decide))))
  have F106 : Fld Z h103 a1 "com/example/ottawa/ottawa/ParseBounds" "ratio" "J" (.long ra) := (Fr_.other W103 (Or.inr (slot_ne (Or.inr (hw _ (List.mem_of_getElem? (i := 19) rfl))) (Or.inl (hw _ (List.mem_of_getElem? (i := 70) rfl))) (by decide) (t := .long) (t' := .long) (by decide) (by decide))))
  have F107 : Fld Z h103 a1 "com/example/ottawa/ottawa/ParseBounds" "ownCharacters" "J" (.long (ow + q1)) := (Fo.same W103)
  have F108 : Fld Z h103 a1 "com/example/ottawa/ottawa/ParseBounds" "expanded" "J" (.long ex) := (Fx.other W103 (Or.inr (slot_ne (Or.inl (hw _ (List.mem_of_getElem? (i := 77) rfl))) (Or.inl (hw _ (List.mem_of_getElem? (i := 70) rfl))) (by decide) (t := .long) (t' := .long) (by decide) (by decide))))
  have F109 : Fld Z h103 a1 "com/example/ottawa/ottawa/ParseBounds" "rereadingWork" "J" (.long wk) := (Fk.other W103 (Or.inr (slot_ne (Or.inl (hw _ (List.mem_of_getElem? (i := 79) rfl))) (Or.inl (hw _ (List.mem_of_getElem? (i := 70) rfl))) (by decide) (t := .long) (t' := .long) (by decide) (by decide))))
  have Z110 : n0 ≤ h103.size := (Nat.le_trans Z0 (Nat.le_of_eq W103.size.symm))
  have K111 : Keep h0 h103 [a1] := (K101.wr W103 (Or.inl (List.mem_of_getElem? (i := 0) rfl)))
  show Go p.tables e below _ (T103.setTop (mkF m 10 #[.val (.ref a1), .val (.long q1), .second] []))
  obtain ⟨fs, hr, hrun, hended, hW, hsame⟩ := X103.leave (v := none) (fun _ => rfl)
  refine ⟨_, _, X103.returnOut hx Bd.returns (hb hby d5_10) hr, hrun, hended, _, _, rfl, ?_, ⟨_, rfl⟩, hW, hsame.mono (by decide) (by decide)⟩
  show Qrm5 Z a1 q1 al ra ow ex wk h0 n0 _ T103.heap _
  rw [e103]
  refine ⟨?_, N103, K111, F104, F105, F106, F107, F108, F109⟩
  rfl
theorem d6_0 : decode prog_36_method_5_code 0 = .ok (.aload_n 0, 1) := by decide +kernel
theorem d6_1 : decode prog_36_method_5_code 1 = .ok (.dup, 1) := by decide +kernel
theorem d6_2 : decode prog_36_method_5_code 2 = .ok (.getfield 51, 3) := by decide +kernel
theorem d6_5 : decode prog_36_method_5_code 5 = .ok (.lload_n 1, 1) := by decide +kernel
theorem d6_6 : decode prog_36_method_5_code 6 = .ok (.lsub, 1) := by decide +kernel
theorem d6_7 : decode prog_36_method_5_code 7 = .ok (.putfield 51, 3) := by decide +kernel
theorem d6_10 : decode prog_36_method_5_code 10 = .ok (.aload_n 0, 1) := by decide +kernel
theorem d6_11 : decode prog_36_method_5_code 11 = .ok (.dup, 1) := by decide +kernel
theorem d6_12 : decode prog_36_method_5_code 12 = .ok (.getfield 54, 3) := by decide +kernel
theorem d6_15 : decode prog_36_method_5_code 15 = .ok (.lload_n 1, 1) := by decide +kernel
theorem d6_16 : decode prog_36_method_5_code 16 = .ok (.ladd, 1) := by decide +kernel
theorem d6_17 : decode prog_36_method_5_code 17 = .ok (.putfield 54, 3) := by decide +kernel
theorem d6_20 : decode prog_36_method_5_code 20 = .ok (.aload_n 0, 1) := by decide +kernel
theorem d6_21 : decode prog_36_method_5_code 21 = .ok (.dup, 1) := by decide +kernel
theorem d6_22 : decode prog_36_method_5_code 22 = .ok (.getfield 61, 3) := by decide +kernel
theorem d6_25 : decode prog_36_method_5_code 25 = .ok (.iload_n 3, 1) := by decide +kernel
theorem d6_26 : decode prog_36_method_5_code 26 = .ok (.ifCond .eq 9, 3) := by decide +kernel
theorem d6_29 : decode prog_36_method_5_code 29 = .ok (.ldc2_w 81, 3) := by decide +kernel
theorem d6_32 : decode prog_36_method_5_code 32 = .ok (.goto 6, 3) := by decide +kernel
theorem d6_35 : decode prog_36_method_5_code 35 = .ok (.ldc2_w 83, 3) := by decide +kernel
theorem d6_38 : decode prog_36_method_5_code 38 = .ok (.ladd, 1) := by decide +kernel
theorem d6_39 : decode prog_36_method_5_code 39 = .ok (.putfield 61, 3) := by decide +kernel
theorem d6_42 : decode prog_36_method_5_code 42 = .ok (.return_, 1) := by decide +kernel
theorem ef_rm6 (m : MethodId) (a1 : Addr) (q1 : Int64) (p1 : Int32) (al : Int64) (ra : Int64) (ow : Int64) (ex : Int64) (wk : Int64) : entryFrame m #[(.ref a1), (.long q1), (.int p1)] 4 = mkF m 0 #[.val (.ref a1), .val (.long q1), .second, .val (.int p1)] [] := by first | (simp [entryFrame, mkF, argsToLocals, Value.category]; done) | rfl
def Qrm6 (Z : State) (a1 : Addr) (q1 : Int64) (p1 : Int32) (al : Int64) (ra : Int64) (ow : Int64) (ex : Int64) (wk : Int64) (h0 : Heap) (n0 : Nat) (v : Option Value) (h : Heap) (L : List Loc) : Prop := v = none ∧ Fr n0 L ∧ Keep h0 h [a1] ∧ Exa Z h a1 "com/example/ottawa/ottawa/ParseBounds" ∧ Fld Z h a1 "com/example/ottawa/ottawa/ParseBounds" "allowance" "J" (.long al) ∧ Fld Z h a1 "com/example/ottawa/ottawa/ParseBounds" "ratio" "J" (.long ra) ∧ Fld Z h a1 "com/example/ottawa/ottawa/ParseBounds" "ownCharacters" "J" (.long (ow - q1)) ∧ Fld Z h a1 "com/example/ottawa/ottawa/ParseBounds" "expanded" "J" (.long (ex + q1)) ∧ Fld Z h a1 "com/example/ottawa/ottawa/ParseBounds" "rereadingWork" "J" (.long (wk + (own_work p1)))
set_option maxRecDepth 65536 in
set_option maxHeartbeats 40000000 in
theorem rm6 (l : Launch) (Z : State) (a0 : Array Value) (hw : ∀ d ∈ tables_1, d.before a0 Z = true) (ws : List Jvm.Cond) (a1 : Addr) (q1 : Int64) (p1 : Int32) (al : Int64) (ra : Int64) (ow : Int64) (ex : Int64) (wk : Int64) (h0 : Heap) (n0 : Nat) (Z0 : n0 ≤ h0.size) (E1 : Exa Z h0 a1 "com/example/ottawa/ottawa/ParseBounds") (Fa : Fld Z h0 a1 "com/example/ottawa/ottawa/ParseBounds" "allowance" "J" (.long al)) (Fr_ : Fld Z h0 a1 "com/example/ottawa/ottawa/ParseBounds" "ratio" "J" (.long ra)) (Fo : Fld Z h0 a1 "com/example/ottawa/ottawa/ParseBounds" "ownCharacters" "J" (.long ow)) (Fx : Fld Z h0 a1 "com/example/ottawa/ottawa/ParseBounds" "expanded" "J" (.long ex)) (Fk : Fld Z h0 a1 "com/example/ottawa/ottawa/ParseBounds" "rereadingWork" "J" (.long wk)) (g_a1 : n0 ≤ a1) :
    MetFree l (⟨"com/example/ottawa/ottawa/ParseBounds", "countTextReadAgain", "(JZ)V"⟩ : MethodName) (head1 (Jvm.Cond.code (⟨"com/example/ottawa/ottawa/ParseBounds", "countTextReadAgain", "(JZ)V"⟩ : MethodName) prog_36_method_5_code 4 none :: ws) ({ frames := 0, cells := 0, slots := 0, locals := 0 } : Room)) (fun a U => a = #[(.ref a1), (.long q1), (.int p1)] ∧ Z.Warmed39 U.vm ∧ U.heap = h0) (fun _ _ _ _ _ => True) (fun _ U o U' => ∃ v L, o = .returned v ∧ Qrm6 Z a1 q1 p1 al ra ow ex wk h0 n0 v U'.heap L ∧ FrameEnd U o U' L ({ frames := 0, cells := 0, slots := 0, locals := 0 } : Room).cells ({ frames := 0, cells := 0, slots := 0, locals := 0 } : Room).slots) := by
  refine MetFree.of_bodySF (plainFor_of_name pn_1) hisR ?_
  intro p e s m args below meth c s₁ Bd hml0 hP hK
  obtain ⟨rfl, hZ, hh⟩ := hP
  have hx := Bd.exec
  have hby := Bd.bytes
  have hml : c.maxLocals = 4 := hml0
  have hown : s.vm.findClass "com/example/ottawa/ottawa/ParseBounds" = some m.cls := findClass_of_methodNamed Bd.named
  have hnm := (name_of_methodNamed Bd.named Bd.method).1
  have X0 : Stand p l e ({ frames := 0, cells := 0, slots := 0, locals := 0 } : Room) s m #[(.ref a1), (.long q1), (.int p1)] below meth c s₁ [] 0 0 := Stand.of_body Bd
  have e0 : s₁.heap = h0 := by rw [← hh, Bd.state]; rfl
  have N0 := Fr.nil n0
  show Go p.tables e below (fun o U' => ∃ v L, o = .returned v ∧ Qrm6 Z a1 q1 p1 al ra ow ex wk h0 n0 v U'.heap L ∧ FrameEnd s o U' L ({ frames := 0, cells := 0, slots := 0, locals := 0 } : Room).cells ({ frames := 0, cells := 0, slots := 0, locals := 0 } : Room).slots) _
  refine Go.step (fun t kt => castTop (ef_rm6 m a1 q1 p1 al ra ow ex wk) kt) ?_
  show Go p.tables e below _ (s₁.setTop (mkF m 0 #[.val (.ref a1), .val (.long q1), .second, .val (.int p1)] []))
  have K101 : Keep h0 h0 [a1] := (Keep.refl h0 [a1])
  refine Go.step (fun _ kt => XS.aloadN X0.here hx rfl (hb hby d6_0) rfl rfl kt) ?_
  show Go p.tables e below _ (s₁.setTop (mkF m 1 #[.val (.ref a1), .val (.long q1), .second, .val (.int p1)] [(.ref a1)]))
  refine Go.step (fun _ kt => XS.dup X0.here hx rfl (hb hby d6_1) rfl rfl kt) ?_
  show Go p.tables e below _ (s₁.setTop (mkF m 2 #[.val (.ref a1), .val (.long q1), .second, .val (.int p1)] [(.ref a1), (.ref a1)]))
  obtain ⟨T102, X102, e102, st102⟩ := getF X0 hx hZ hown (host := "") (Or.inl (hw _ (List.mem_of_getElem? (i := 69) rfl))) Via.refl e0 Fo (g := (mkF m 2 #[.val (.ref a1), .val (.long q1), .second, .val (.int p1)] [(.ref a1), (.ref a1)])) rfl rfl (hb hby d6_2)
  refine Go.step st102 ?_
  show Go p.tables e below _ (T102.setTop (mkF m 5 #[.val (.ref a1), .val (.long q1), .second, .val (.int p1)] [(.long ow), (.ref a1)]))
  refine Go.step (fun _ kt => XS.lloadN X102.here hx rfl (hb hby d6_5) rfl kt) ?_
  show Go p.tables e below _ (T102.setTop (mkF m 6 #[.val (.ref a1), .val (.long q1), .second, .val (.int p1)] [(.long q1), (.long ow), (.ref a1)]))
  refine Go.step (fun _ kt => XS.lsub X102.here hx rfl (hb hby d6_6) rfl kt) ?_
  show Go p.tables e below _ (T102.setTop (mkF m 7 #[.val (.ref a1), .val (.long q1), .second, .val (.int p1)] [(.long (ow - q1)), (.ref a1)]))
  obtain ⟨T103, h103, X103, e103, W103, st103⟩ := putF X102 hx hZ hown (host := "") (Or.inl (hw _ (List.mem_of_getElem? (i := 69) rfl))) Via.refl e102 Fo E1 (Or.inl (hw _ (List.mem_of_getElem? (i := 70) rfl))) (hw _ (List.mem_of_getElem? (i := 8) rfl)) (ty := .long) (by decide) rfl rfl (g := (mkF m 7 #[.val (.ref a1), .val (.long q1), .second, .val (.int p1)] [(.long (ow - q1)), (.ref a1)])) rfl rfl (hb hby d6_7)
  refine Go.step st103 ?_
  have N103 := Fr.snoc X103 N0 g_a1
  have F104 : Exa Z h103 a1 "com/example/ottawa/ottawa/ParseBounds" := (E1.wr W103)
  have F105 : Fld Z h103 a1 "com/example/ottawa/ottawa/ParseBounds" "allowance" "J" (.long al) := (Fa.other W103 (Or.inr (slot_ne (Or.inr (hw _ (List.mem_of_getElem? (i := 17) rfl))) (Or.inl (hw _ (List.mem_of_getElem? (i := 70) rfl))) (by decide) (t := .long) (t' := .long) (by decide) (by decide))))
  have F106 : Fld Z h103 a1 "com/example/ottawa/ottawa/ParseBounds" "ratio" "J" (.long ra) := (Fr_.other W103 (Or.inr (slot_ne (Or.inr (hw _ (List.mem_of_getElem? (i := 19) rfl))) (Or.inl (hw _ (List.mem_of_getElem? (i := 70) rfl))) (by decide) (t := .long) (t' := .long) (by decide) (by decide))))
  have F107 : Fld Z h103 a1 "com/example/ottawa/ottawa/ParseBounds" "ownCharacters" "J" (.long (ow - q1)) := (Fo.same W103)
  have F108 : Fld Z h103 a1 "com/example/ottawa/ottawa/ParseBounds" "expanded" "J" (.long ex) := (Fx.other W103 (Or.inr (slot_ne (Or.inl (hw _ (List.mem_of_getElem? (i := 77) rfl))) (Or.inl (hw _ (List.mem_of_getElem? (i := 70) rfl))) (by decide) (t := .long) (t' := .long) (by decide) (by decide))))
  have F109 : Fld Z h103 a1 "com/example/ottawa/ottawa/ParseBounds" "rereadingWork" "J" (.long wk) := (Fk.other W103 (Or.inr (slot_ne (Or.inl (hw _ (List.mem_of_getElem? (i := 79) rfl))) (Or.inl (hw _ (List.mem_of_getElem? (i := 70) rfl))) (by decide) (t := .long) (t' := .long) (by decide) (by decide))))
  have Z110 : n0 ≤ h103.size := (Nat.le_trans Z0 (Nat.le_of_eq W103.size.symm))
  have K111 : Keep h0 h103 [a1] := (K101.wr W103 (Or.inl (List.mem_of_getElem? (i := 0) rfl)))
  show Go p.tables e below _ (T103.setTop (mkF m 10 #[.val (.ref a1), .val (.long q1), .second, .val (.int p1)] []))
  refine Go.step (fun _ kt => XS.aloadN X103.here hx rfl (hb hby d6_10) rfl rfl kt) ?_
  show Go p.tables e below _ (T103.setTop (mkF m 11 #[.val (.ref a1), .val (.long q1), .second, .val (.int p1)] [(.ref a1)]))
  refine Go.step (fun _ kt => XS.dup X103.here hx rfl (hb hby d6_11) rfl rfl kt) ?_
  show Go p.tables e below _ (T103.setTop (mkF m 12 #[.val (.ref a1), .val (.long q1), .second, .val (.int p1)] [(.ref a1), (.ref a1)]))
  obtain ⟨T112, X112, e112, st112⟩ := getF X103 hx hZ hown (host := "") (Or.inl (hw _ (List.mem_of_getElem? (i := 76) rfl))) Via.refl e103 F108 (g := (mkF m 12 #[.val (.ref a1), .val (.long q1), .second, .val (.int p1)] [(.ref a1), (.ref a1)])) rfl rfl (hb hby d6_12)
  refine Go.step st112 ?_
  show Go p.tables e below _ (T112.setTop (mkF m 15 #[.val (.ref a1), .val (.long q1), .second, .val (.int p1)] [(.long ex), (.ref a1)]))
  refine Go.step (fun _ kt => XS.lloadN X112.here hx rfl (hb hby d6_15) rfl kt) ?_
  show Go p.tables e below _ (T112.setTop (mkF m 16 #[.val (.ref a1), .val (.long q1), .second, .val (.int p1)] [(.long q1), (.long ex), (.ref a1)]))
  refine Go.step (fun _ kt => XS.ladd X112.here hx rfl (hb hby d6_16) rfl kt) ?_
  show Go p.tables e below _ (T112.setTop (mkF m 17 #[.val (.ref a1), .val (.long q1), .second, .val (.int p1)] [(.long (ex + q1)), (.ref a1)]))
  obtain ⟨T113, h113, X113, e113, W113, st113⟩ := putF X112 hx hZ hown (host := "") (Or.inl (hw _ (List.mem_of_getElem? (i := 76) rfl))) Via.refl e112 F108 F104 (Or.inl (hw _ (List.mem_of_getElem? (i := 77) rfl))) (hw _ (List.mem_of_getElem? (i := 8) rfl)) (ty := .long) (by decide) rfl rfl (g := (mkF m 17 #[.val (.ref a1), .val (.long q1), .second, .val (.int p1)] [(.long (ex + q1)), (.ref a1)])) rfl rfl (hb hby d6_17)
  refine Go.step st113 ?_
  have N113 := Fr.snoc X113 N103 g_a1
  have F114 : Exa Z h113 a1 "com/example/ottawa/ottawa/ParseBounds" := (F104.wr W113)
  have F115 : Fld Z h113 a1 "com/example/ottawa/ottawa/ParseBounds" "allowance" "J" (.long al) := (F105.other W113 (Or.inr (slot_ne (Or.inr (hw _ (List.mem_of_getElem? (i := 17) rfl))) (Or.inl (hw _ (List.mem_of_getElem? (i := 77) rfl))) (by decide) (t := .long) (t' := .long) (by decide) (by decide))))
  have F116 : Fld Z h113 a1 "com/example/ottawa/ottawa/ParseBounds" "ratio" "J" (.long ra) := (F106.other W113 (Or.inr (slot_ne (Or.inr (hw _ (List.mem_of_getElem? (i := 19) rfl))) (Or.inl (hw _ (List.mem_of_getElem? (i := 77) rfl))) (by decide) (t := .long) (t' := .long) (by decide) (by decide))))
  have F117 : Fld Z h113 a1 "com/example/ottawa/ottawa/ParseBounds" "ownCharacters" "J" (.long (ow - q1)) := (F107.other W113 (Or.inr (slot_ne (Or.inl (hw _ (List.mem_of_getElem? (i := 70) rfl))) (Or.inl (hw _ (List.mem_of_getElem? (i := 77) rfl))) (by decide) (t := .long) (t' := .long) (by decide) (by decide))))
  have F118 : Fld Z h113 a1 "com/example/ottawa/ottawa/ParseBounds" "expanded" "J" (.long (ex + q1)) := (F108.same W113)
  have F119 : Fld Z h113 a1 "com/example/ottawa/ottawa/ParseBounds" "rereadingWork" "J" (.long wk) := (F109.other W113 (Or.inr (slot_ne (Or.inl (hw _ (List.mem_of_getElem? (i := 79) rfl))) (Or.inl (hw _ (List.mem_of_getElem? (i := 77) rfl))) (by decide) (t := .long) (t' := .long) (by decide) (by decide))))
  have Z120 : n0 ≤ h113.size := (Nat.le_trans Z110 (Nat.le_of_eq W113.size.symm))
  have K121 : Keep h0 h113 [a1] := (K111.wr W113 (Or.inl (List.mem_of_getElem? (i := 0) rfl)))
  show Go p.tables e below _ (T113.setTop (mkF m 20 #[.val (.ref a1), .val (.long q1), .second, .val (.int p1)] []))
  refine Go.step (fun _ kt => XS.aloadN X113.here hx rfl (hb hby d6_20) rfl rfl kt) ?_
  show Go p.tables e below _ (T113.setTop (mkF m 21 #[.val (.ref a1), .val (.long q1), .second, .val (.int p1)] [(.ref a1)]))
  refine Go.step (fun _ kt => XS.dup X113.here hx rfl (hb hby d6_21) rfl rfl kt) ?_
  show Go p.tables e below _ (T113.setTop (mkF m 22 #[.val (.ref a1), .val (.long q1), .second, .val (.int p1)] [(.ref a1), (.ref a1)]))
  obtain ⟨T122, X122, e122, st122⟩ := getF X113 hx hZ hown (host := "") (Or.inl (hw _ (List.mem_of_getElem? (i := 78) rfl))) Via.refl e113 F119 (g := (mkF m 22 #[.val (.ref a1), .val (.long q1), .second, .val (.int p1)] [(.ref a1), (.ref a1)])) rfl rfl (hb hby d6_22)
  refine Go.step st122 ?_
  show Go p.tables e below _ (T122.setTop (mkF m 25 #[.val (.ref a1), .val (.long q1), .second, .val (.int p1)] [(.long wk), (.ref a1)]))
  refine Go.step (fun _ kt => XS.iloadN X122.here hx rfl (hb hby d6_25) rfl kt) ?_
  show Go p.tables e below _ (T122.setTop (mkF m 26 #[.val (.ref a1), .val (.long q1), .second, .val (.int p1)] [(.int p1), (.long wk), (.ref a1)]))
  by_cases hc26_123 : p1 = (0 : Int32)
  · refine Go.step (fun _ kt => XS.ifYes X122.here hx rfl (pc0 := 26) (pc' := 35) rfl (hb hby d6_26) rfl ((if0 _ _).trans (teq hc26_123).1) (by decide) (by decide) kt) ?_
    show Go p.tables e below _ (T122.setTop (mkF m 35 #[.val (.ref a1), .val (.long q1), .second, .val (.int p1)] [(.long wk), (.ref a1)]))
    refine Go.step (X122.ldc2Long hx hown (mvT hZ (hw _ (List.mem_of_getElem? (i := 80) rfl))) (g := (mkF m 35 #[.val (.ref a1), .val (.long q1), .second, .val (.int p1)] [(.long wk), (.ref a1)])) rfl (hb hby d6_35)) ?_
    show Go p.tables e below _ (T122.setTop (mkF m 38 #[.val (.ref a1), .val (.long q1), .second, .val (.int p1)] [(.long (400 : Int64)), (.long wk), (.ref a1)]))
    have q124 : (400 : Int64) = (own_work p1) := by simp only [own_work]; simp [hc26_123]
    rw [q124]
    show Go p.tables e below _ (T122.setTop (mkF m 38 #[.val (.ref a1), .val (.long q1), .second, .val (.int p1)] [(.long (own_work p1)), (.long wk), (.ref a1)]))
    refine Go.step (fun _ kt => XS.ladd X122.here hx rfl (hb hby d6_38) rfl kt) ?_
    show Go p.tables e below _ (T122.setTop (mkF m 39 #[.val (.ref a1), .val (.long q1), .second, .val (.int p1)] [(.long (wk + (own_work p1))), (.ref a1)]))
    obtain ⟨T125, h125, X125, e125, W125, st125⟩ := putF X122 hx hZ hown (host := "") (Or.inl (hw _ (List.mem_of_getElem? (i := 78) rfl))) Via.refl e122 F119 F114 (Or.inl (hw _ (List.mem_of_getElem? (i := 79) rfl))) (hw _ (List.mem_of_getElem? (i := 8) rfl)) (ty := .long) (by decide) rfl rfl (g := (mkF m 39 #[.val (.ref a1), .val (.long q1), .second, .val (.int p1)] [(.long (wk + (own_work p1))), (.ref a1)])) rfl rfl (hb hby d6_39)
    refine Go.step st125 ?_
    have N125 := Fr.snoc X125 N113 g_a1
    have F126 : Exa Z h125 a1 "com/example/ottawa/ottawa/ParseBounds" := (F114.wr W125)
    have F127 : Fld Z h125 a1 "com/example/ottawa/ottawa/ParseBounds" "allowance" "J" (.long al) := (F115.other W125 (Or.inr (slot_ne (Or.inr (hw _ (List.mem_of_getElem? (i := 17) rfl))) (Or.inl (hw _ (List.mem_of_getElem? (i := 79) rfl))) (by decide) (t := .long) (t' := .long) (by decide) (by decide))))
    have F128 : Fld Z h125 a1 "com/example/ottawa/ottawa/ParseBounds" "ratio" "J" (.long ra) := (F116.other W125 (Or.inr (slot_ne (Or.inr (hw _ (List.mem_of_getElem? (i := 19) rfl))) (Or.inl (hw _ (List.mem_of_getElem? (i := 79) rfl))) (by decide) (t := .long) (t' := .long) (by decide) (by decide))))
    have F129 : Fld Z h125 a1 "com/example/ottawa/ottawa/ParseBounds" "ownCharacters" "J" (.long (ow - q1)) := (F117.other W125 (Or.inr (slot_ne (Or.inl (hw _ (List.mem_of_getElem? (i := 70) rfl))) (Or.inl (hw _ (List.mem_of_getElem? (i := 79) rfl))) (by decide) (t := .long) (t' := .long) (by decide) (by decide))))
    have F130 : Fld Z h125 a1 "com/example/ottawa/ottawa/ParseBounds" "expanded" "J" (.long (ex + q1)) := (F118.other W125 (Or.inr (slot_ne (Or.inl (hw _ (List.mem_of_getElem? (i := 77) rfl))) (Or.inl (hw _ (List.mem_of_getElem? (i := 79) rfl))) (by decide) (t := .long) (t' := .long) (by decide) (by decide))))
    have F131 : Fld Z h125 a1 "com/example/ottawa/ottawa/ParseBounds" "rereadingWork" "J" (.long (wk + (own_work p1))) := (F119.same W125)
    have Z132 : n0 ≤ h125.size := (Nat.le_trans Z120 (Nat.le_of_eq W125.size.symm))
    have K133 : Keep h0 h125 [a1] := (K121.wr W125 (Or.inl (List.mem_of_getElem? (i := 0) rfl)))
    show Go p.tables e below _ (T125.setTop (mkF m 42 #[.val (.ref a1), .val (.long q1), .second, .val (.int p1)] []))
    obtain ⟨fs, hr, hrun, hended, hW, hsame⟩ := X125.leave (v := none) (fun _ => rfl)
    refine ⟨_, _, X125.returnOut hx Bd.returns (hb hby d6_42) hr, hrun, hended, _, _, rfl, ?_, ⟨_, rfl⟩, hW, hsame.mono (by decide) (by decide)⟩
    show Qrm6 Z a1 q1 p1 al ra ow ex wk h0 n0 _ T125.heap _
    rw [e125]
    refine ⟨?_, N125, K133, F126, F127, F128, F129, F130, F131⟩
    rfl
  · refine Go.step (fun _ kt => XS.ifNo X122.here hx rfl (hb hby d6_26) rfl ((if0 _ _).trans (feq hc26_123).1) kt) ?_
    show Go p.tables e below _ (T122.setTop (mkF m 29 #[.val (.ref a1), .val (.long q1), .second, .val (.int p1)] [(.long wk), (.ref a1)]))
    refine Go.step (X122.ldc2Long hx hown (mvT hZ (hw _ (List.mem_of_getElem? (i := 92) rfl))) (g := (mkF m 29 #[.val (.ref a1), .val (.long q1), .second, .val (.int p1)] [(.long wk), (.ref a1)])) rfl (hb hby d6_29)) ?_
    show Go p.tables e below _ (T122.setTop (mkF m 32 #[.val (.ref a1), .val (.long q1), .second, .val (.int p1)] [(.long (20 : Int64)), (.long wk), (.ref a1)]))
    refine Go.step (fun _ kt => XS.goto X122.here hx rfl (pc0 := 32) (pc' := 38) rfl (hb hby d6_32) (by decide) (by decide) kt) ?_
    show Go p.tables e below _ (T122.setTop (mkF m 38 #[.val (.ref a1), .val (.long q1), .second, .val (.int p1)] [(.long (20 : Int64)), (.long wk), (.ref a1)]))
    have q134 : (20 : Int64) = (own_work p1) := by simp only [own_work]; simp [hc26_123]
    rw [q134]
    show Go p.tables e below _ (T122.setTop (mkF m 38 #[.val (.ref a1), .val (.long q1), .second, .val (.int p1)] [(.long (own_work p1)), (.long wk), (.ref a1)]))
    refine Go.step (fun _ kt => XS.ladd X122.here hx rfl (hb hby d6_38) rfl kt) ?_
    show Go p.tables e below _ (T122.setTop (mkF m 39 #[.val (.ref a1), .val (.long q1), .second, .val (.int p1)] [(.long (wk + (own_work p1))), (.ref a1)]))
    obtain ⟨T135, h135, X135, e135, W135, st135⟩ := putF X122 hx hZ hown (host := "") (Or.inl (hw _ (List.mem_of_getElem? (i := 78) rfl))) Via.refl e122 F119 F114 (Or.inl (hw _ (List.mem_of_getElem? (i := 79) rfl))) (hw _ (List.mem_of_getElem? (i := 8) rfl)) (ty := .long) (by decide) rfl rfl (g := (mkF m 39 #[.val (.ref a1), .val (.long q1), .second, .val (.int p1)] [(.long (wk + (own_work p1))), (.ref a1)])) rfl rfl (hb hby d6_39)
    refine Go.step st135 ?_
    have N135 := Fr.snoc X135 N113 g_a1
    have F136 : Exa Z h135 a1 "com/example/ottawa/ottawa/ParseBounds" := (F114.wr W135)
    have F137 : Fld Z h135 a1 "com/example/ottawa/ottawa/ParseBounds" "allowance" "J" (.long al) := (F115.other W135 (Or.inr (slot_ne (Or.inr (hw _ (List.mem_of_getElem? (i := 17) rfl))) (Or.inl (hw _ (List.mem_of_getElem? (i := 79) rfl))) (by decide) (t := .long) (t' := .long) (by decide) (by decide))))
    have F138 : Fld Z h135 a1 "com/example/ottawa/ottawa/ParseBounds" "ratio" "J" (.long ra) := (F116.other W135 (Or.inr (slot_ne (Or.inr (hw _ (List.mem_of_getElem? (i := 19) rfl))) (Or.inl (hw _ (List.mem_of_getElem? (i := 79) rfl))) (by decide) (t := .long) (t' := .long) (by decide) (by decide))))
    have F139 : Fld Z h135 a1 "com/example/ottawa/ottawa/ParseBounds" "ownCharacters" "J" (.long (ow - q1)) := (F117.other W135 (Or.inr (slot_ne (Or.inl (hw _ (List.mem_of_getElem? (i := 70) rfl))) (Or.inl (hw _ (List.mem_of_getElem? (i := 79) rfl))) (by decide) (t := .long) (t' := .long) (by decide) (by decide))))
    have F140 : Fld Z h135 a1 "com/example/ottawa/ottawa/ParseBounds" "expanded" "J" (.long (ex + q1)) := (F118.other W135 (Or.inr (slot_ne (Or.inl (hw _ (List.mem_of_getElem? (i := 77) rfl))) (Or.inl (hw _ (List.mem_of_getElem? (i := 79) rfl))) (by decide) (t := .long) (t' := .long) (by decide) (by decide))))
    have F141 : Fld Z h135 a1 "com/example/ottawa/ottawa/ParseBounds" "rereadingWork" "J" (.long (wk + (own_work p1))) := (F119.same W135)
    have Z142 : n0 ≤ h135.size := (Nat.le_trans Z120 (Nat.le_of_eq W135.size.symm))
    have K143 : Keep h0 h135 [a1] := (K121.wr W135 (Or.inl (List.mem_of_getElem? (i := 0) rfl)))
    show Go p.tables e below _ (T135.setTop (mkF m 42 #[.val (.ref a1), .val (.long q1), .second, .val (.int p1)] []))
    obtain ⟨fs, hr, hrun, hended, hW, hsame⟩ := X135.leave (v := none) (fun _ => rfl)
    refine ⟨_, _, X135.returnOut hx Bd.returns (hb hby d6_42) hr, hrun, hended, _, _, rfl, ?_, ⟨_, rfl⟩, hW, hsame.mono (by decide) (by decide)⟩
    show Qrm6 Z a1 q1 p1 al ra ow ex wk h0 n0 _ T135.heap _
    rw [e135]
    refine ⟨?_, N135, K143, F136, F137, F138, F139, F140, F141⟩
    rfl
theorem d8_0 : decode prog_36_method_6_code 0 = .ok (.aload_n 0, 1) := by decide +kernel
theorem d8_1 : decode prog_36_method_6_code 1 = .ok (.getfield 13, 3) := by decide +kernel
theorem d8_4 : decode prog_36_method_6_code 4 = .ok (.lconst 0, 1) := by decide +kernel
theorem d8_5 : decode prog_36_method_6_code 5 = .ok (.lcmp, 1) := by decide +kernel
theorem d8_6 : decode prog_36_method_6_code 6 = .ok (.ifCond .le 31, 3) := by decide +kernel
theorem d8_9 : decode prog_36_method_6_code 9 = .ok (.aload_n 0, 1) := by decide +kernel
theorem d8_10 : decode prog_36_method_6_code 10 = .ok (.getfield 51, 3) := by decide +kernel
theorem d8_13 : decode prog_36_method_6_code 13 = .ok (.ldc2_w 87, 3) := by decide +kernel
theorem d8_16 : decode prog_36_method_6_code 16 = .ok (.aload_n 0, 1) := by decide +kernel
theorem d8_17 : decode prog_36_method_6_code 17 = .ok (.getfield 9, 3) := by decide +kernel
theorem d8_20 : decode prog_36_method_6_code 20 = .ok (.lsub, 1) := by decide +kernel
theorem d8_21 : decode prog_36_method_6_code 21 = .ok (.aload_n 0, 1) := by decide +kernel
theorem d8_22 : decode prog_36_method_6_code 22 = .ok (.getfield 13, 3) := by decide +kernel
theorem d8_25 : decode prog_36_method_6_code 25 = .ok (.ldiv, 1) := by decide +kernel
theorem d8_26 : decode prog_36_method_6_code 26 = .ok (.lcmp, 1) := by decide +kernel
theorem d8_27 : decode prog_36_method_6_code 27 = .ok (.ifCond .le 10, 3) := by decide +kernel
theorem d8_30 : decode prog_36_method_6_code 30 = .ok (.ldc2_w 87, 3) := by decide +kernel
theorem d8_33 : decode prog_36_method_6_code 33 = .ok (.lstore_n 3, 1) := by decide +kernel
theorem d8_34 : decode prog_36_method_6_code 34 = .ok (.goto 18, 3) := by decide +kernel
theorem d8_37 : decode prog_36_method_6_code 37 = .ok (.aload_n 0, 1) := by decide +kernel
theorem d8_38 : decode prog_36_method_6_code 38 = .ok (.getfield 9, 3) := by decide +kernel
theorem d8_41 : decode prog_36_method_6_code 41 = .ok (.aload_n 0, 1) := by decide +kernel
theorem d8_42 : decode prog_36_method_6_code 42 = .ok (.getfield 13, 3) := by decide +kernel
theorem d8_45 : decode prog_36_method_6_code 45 = .ok (.aload_n 0, 1) := by decide +kernel
theorem d8_46 : decode prog_36_method_6_code 46 = .ok (.getfield 51, 3) := by decide +kernel
theorem d8_49 : decode prog_36_method_6_code 49 = .ok (.lmul, 1) := by decide +kernel
theorem d8_50 : decode prog_36_method_6_code 50 = .ok (.ladd, 1) := by decide +kernel
theorem d8_51 : decode prog_36_method_6_code 51 = .ok (.lstore_n 3, 1) := by decide +kernel
theorem d8_52 : decode prog_36_method_6_code 52 = .ok (.lload_n 1, 1) := by decide +kernel
theorem d8_53 : decode prog_36_method_6_code 53 = .ok (.lload_n 3, 1) := by decide +kernel
theorem d8_54 : decode prog_36_method_6_code 54 = .ok (.lcmp, 1) := by decide +kernel
theorem d8_55 : decode prog_36_method_6_code 55 = .ok (.ifCond .gt 7, 3) := by decide +kernel
theorem d8_58 : decode prog_36_method_6_code 58 = .ok (.iconst 1, 1) := by decide +kernel
theorem d8_59 : decode prog_36_method_6_code 59 = .ok (.goto 4, 3) := by decide +kernel
theorem d8_62 : decode prog_36_method_6_code 62 = .ok (.iconst 0, 1) := by decide +kernel
theorem d8_63 : decode prog_36_method_6_code 63 = .ok (.ireturn, 1) := by decide +kernel
theorem ef_rm8 (m : MethodId) (a1 : Addr) (q1 : Int64) (al : Int64) (ra : Int64) (ow : Int64) : entryFrame m #[(.ref a1), (.long q1)] 5 = mkF m 0 #[.val (.ref a1), .val (.long q1), .second, .unset, .unset] [] := by first | (simp [entryFrame, mkF, argsToLocals, Value.category]; done) | rfl
def Qrm8 (Z : State) (a1 : Addr) (q1 : Int64) (al : Int64) (ra : Int64) (ow : Int64) (h0 : Heap) (n0 : Nat) (v : Option Value) (h : Heap) (L : List Loc) : Prop := v = some (.int (own_allows al ra ow q1)) ∧ Fr n0 L ∧ h = h0
set_option maxRecDepth 65536 in
set_option maxHeartbeats 40000000 in
theorem rm8 (l : Launch) (Z : State) (a0 : Array Value) (hw : ∀ d ∈ tables_1, d.before a0 Z = true) (ws : List Jvm.Cond) (a1 : Addr) (q1 : Int64) (al : Int64) (ra : Int64) (ow : Int64) (h0 : Heap) (n0 : Nat) (Z0 : n0 ≤ h0.size) (Fa : Fld Z h0 a1 "com/example/ottawa/ottawa/ParseBounds" "allowance" "J" (.long al)) (Fr_ : Fld Z h0 a1 "com/example/ottawa/ottawa/ParseBounds" "ratio" "J" (.long ra)) (Fo : Fld Z h0 a1 "com/example/ottawa/ottawa/ParseBounds" "ownCharacters" "J" (.long ow)) :
    MetFree l (⟨"com/example/ottawa/ottawa/ParseBounds", "allows", "(J)Z"⟩ : MethodName) (head1 (Jvm.Cond.code (⟨"com/example/ottawa/ottawa/ParseBounds", "allows", "(J)Z"⟩ : MethodName) prog_36_method_6_code 5 (some .boolean) :: ws) ({ frames := 0, cells := 0, slots := 0, locals := 0 } : Room)) (fun a U => a = #[(.ref a1), (.long q1)] ∧ Z.Warmed39 U.vm ∧ U.heap = h0) (fun _ _ _ _ _ => True) (fun _ U o U' => ∃ v L, o = .returned v ∧ Qrm8 Z a1 q1 al ra ow h0 n0 v U'.heap L ∧ FrameEnd U o U' L ({ frames := 0, cells := 0, slots := 0, locals := 0 } : Room).cells ({ frames := 0, cells := 0, slots := 0, locals := 0 } : Room).slots) := by
  refine MetFree.of_bodySF (plainFor_of_name pn_1) hisR ?_
  intro p e s m args below meth c s₁ Bd hml0 hP hK
  obtain ⟨rfl, hZ, hh⟩ := hP
  have hx := Bd.exec
  have hby := Bd.bytes
  have hml : c.maxLocals = 5 := hml0
  have hown : s.vm.findClass "com/example/ottawa/ottawa/ParseBounds" = some m.cls := findClass_of_methodNamed Bd.named
  have hnm := (name_of_methodNamed Bd.named Bd.method).1
  have X0 : Stand p l e ({ frames := 0, cells := 0, slots := 0, locals := 0 } : Room) s m #[(.ref a1), (.long q1)] below meth c s₁ [] 0 0 := Stand.of_body Bd
  have e0 : s₁.heap = h0 := by rw [← hh, Bd.state]; rfl
  have N0 := Fr.nil n0
  show Go p.tables e below (fun o U' => ∃ v L, o = .returned v ∧ Qrm8 Z a1 q1 al ra ow h0 n0 v U'.heap L ∧ FrameEnd s o U' L ({ frames := 0, cells := 0, slots := 0, locals := 0 } : Room).cells ({ frames := 0, cells := 0, slots := 0, locals := 0 } : Room).slots) _
  refine Go.step (fun t kt => castTop (ef_rm8 m a1 q1 al ra ow) kt) ?_
  show Go p.tables e below _ (s₁.setTop (mkF m 0 #[.val (.ref a1), .val (.long q1), .second, .unset, .unset] []))
  refine Go.step (fun _ kt => XS.aloadN X0.here hx rfl (hb hby d8_0) rfl rfl kt) ?_
  show Go p.tables e below _ (s₁.setTop (mkF m 1 #[.val (.ref a1), .val (.long q1), .second, .unset, .unset] [(.ref a1)]))
  obtain ⟨T101, X101, e101, st101⟩ := getF X0 hx hZ hown (host := "") (Or.inl (hw _ (List.mem_of_getElem? (i := 18) rfl))) Via.refl e0 Fr_ (g := (mkF m 1 #[.val (.ref a1), .val (.long q1), .second, .unset, .unset] [(.ref a1)])) rfl rfl (hb hby d8_1)
  refine Go.step st101 ?_
  show Go p.tables e below _ (T101.setTop (mkF m 4 #[.val (.ref a1), .val (.long q1), .second, .unset, .unset] [(.long ra)]))
  refine Go.step (fun _ kt => XS.lconst X101.here hx rfl (hb hby d8_4) kt) ?_
  show Go p.tables e below _ (T101.setTop (mkF m 5 #[.val (.ref a1), .val (.long q1), .second, .unset, .unset] [(.long (0 : Int64)), (.long ra)]))
  refine Go.step (fun _ kt => XS.lcmp X101.here hx rfl (hb hby d8_5) rfl kt) ?_
  show Go p.tables e below _ (T101.setTop (mkF m 6 #[.val (.ref a1), .val (.long q1), .second, .unset, .unset] [(.int (lcmpW ra (0 : Int64)))]))
  by_cases hc6_102 : (0 : Int32) < (lcmpW ra (0 : Int64))
  · refine Go.step (fun _ kt => XS.ifNo X101.here hx rfl (hb hby d8_6) rfl ((if0 _ _).trans (tlt hc6_102).2.2.2) kt) ?_
    show Go p.tables e below _ (T101.setTop (mkF m 9 #[.val (.ref a1), .val (.long q1), .second, .unset, .unset] []))
    refine Go.step (fun _ kt => XS.aloadN X101.here hx rfl (hb hby d8_9) rfl rfl kt) ?_
    show Go p.tables e below _ (T101.setTop (mkF m 10 #[.val (.ref a1), .val (.long q1), .second, .unset, .unset] [(.ref a1)]))
    obtain ⟨T103, X103, e103, st103⟩ := getF X101 hx hZ hown (host := "") (Or.inl (hw _ (List.mem_of_getElem? (i := 69) rfl))) Via.refl e101 Fo (g := (mkF m 10 #[.val (.ref a1), .val (.long q1), .second, .unset, .unset] [(.ref a1)])) rfl rfl (hb hby d8_10)
    refine Go.step st103 ?_
    show Go p.tables e below _ (T103.setTop (mkF m 13 #[.val (.ref a1), .val (.long q1), .second, .unset, .unset] [(.long ow)]))
    refine Go.step (X103.ldc2Long hx hown (mvT hZ (hw _ (List.mem_of_getElem? (i := 90) rfl))) (g := (mkF m 13 #[.val (.ref a1), .val (.long q1), .second, .unset, .unset] [(.long ow)])) rfl (hb hby d8_13)) ?_
    show Go p.tables e below _ (T103.setTop (mkF m 16 #[.val (.ref a1), .val (.long q1), .second, .unset, .unset] [(.long (9223372036854775807 : Int64)), (.long ow)]))
    refine Go.step (fun _ kt => XS.aloadN X103.here hx rfl (hb hby d8_16) rfl rfl kt) ?_
    show Go p.tables e below _ (T103.setTop (mkF m 17 #[.val (.ref a1), .val (.long q1), .second, .unset, .unset] [(.ref a1), (.long (9223372036854775807 : Int64)), (.long ow)]))
    obtain ⟨T104, X104, e104, st104⟩ := getF X103 hx hZ hown (host := "") (Or.inl (hw _ (List.mem_of_getElem? (i := 16) rfl))) Via.refl e103 Fa (g := (mkF m 17 #[.val (.ref a1), .val (.long q1), .second, .unset, .unset] [(.ref a1), (.long (9223372036854775807 : Int64)), (.long ow)])) rfl rfl (hb hby d8_17)
    refine Go.step st104 ?_
    show Go p.tables e below _ (T104.setTop (mkF m 20 #[.val (.ref a1), .val (.long q1), .second, .unset, .unset] [(.long al), (.long (9223372036854775807 : Int64)), (.long ow)]))
    refine Go.step (fun _ kt => XS.lsub X104.here hx rfl (hb hby d8_20) rfl kt) ?_
    show Go p.tables e below _ (T104.setTop (mkF m 21 #[.val (.ref a1), .val (.long q1), .second, .unset, .unset] [(.long ((9223372036854775807 : Int64) - al)), (.long ow)]))
    refine Go.step (fun _ kt => XS.aloadN X104.here hx rfl (hb hby d8_21) rfl rfl kt) ?_
    show Go p.tables e below _ (T104.setTop (mkF m 22 #[.val (.ref a1), .val (.long q1), .second, .unset, .unset] [(.ref a1), (.long ((9223372036854775807 : Int64) - al)), (.long ow)]))
    obtain ⟨T105, X105, e105, st105⟩ := getF X104 hx hZ hown (host := "") (Or.inl (hw _ (List.mem_of_getElem? (i := 18) rfl))) Via.refl e104 Fr_ (g := (mkF m 22 #[.val (.ref a1), .val (.long q1), .second, .unset, .unset] [(.ref a1), (.long ((9223372036854775807 : Int64) - al)), (.long ow)])) rfl rfl (hb hby d8_22)
    refine Go.step st105 ?_
    show Go p.tables e below _ (T105.setTop (mkF m 25 #[.val (.ref a1), .val (.long q1), .second, .unset, .unset] [(.long ra), (.long ((9223372036854775807 : Int64) - al)), (.long ow)]))
    refine Go.step (fun _ kt => XS.ldiv X105.here hx rfl (hb hby d8_25) rfl (fun q0 => absurd hc6_102 (by rw [q0]; decide)) kt) ?_
    show Go p.tables e below _ (T105.setTop (mkF m 26 #[.val (.ref a1), .val (.long q1), .second, .unset, .unset] [(.long (((9223372036854775807 : Int64) - al) / ra)), (.long ow)]))
    refine Go.step (fun _ kt => XS.lcmp X105.here hx rfl (hb hby d8_26) rfl kt) ?_
    show Go p.tables e below _ (T105.setTop (mkF m 27 #[.val (.ref a1), .val (.long q1), .second, .unset, .unset] [(.int (lcmpW ow (((9223372036854775807 : Int64) - al) / ra)))]))
    by_cases hc27_106 : (0 : Int32) < (lcmpW ow (((9223372036854775807 : Int64) - al) / ra))
    · refine Go.step (fun _ kt => XS.ifNo X105.here hx rfl (hb hby d8_27) rfl ((if0 _ _).trans (tlt hc27_106).2.2.2) kt) ?_
      show Go p.tables e below _ (T105.setTop (mkF m 30 #[.val (.ref a1), .val (.long q1), .second, .unset, .unset] []))
      refine Go.step (X105.ldc2Long hx hown (mvT hZ (hw _ (List.mem_of_getElem? (i := 90) rfl))) (g := (mkF m 30 #[.val (.ref a1), .val (.long q1), .second, .unset, .unset] [])) rfl (hb hby d8_30)) ?_
      show Go p.tables e below _ (T105.setTop (mkF m 33 #[.val (.ref a1), .val (.long q1), .second, .unset, .unset] [(.long (9223372036854775807 : Int64))]))
      have q107 : (9223372036854775807 : Int64) = (own_bnd al ra ow) := by simp only [own_bnd]; simp [hc6_102, hc27_106]
      rw [q107]
      show Go p.tables e below _ (T105.setTop (mkF m 33 #[.val (.ref a1), .val (.long q1), .second, .unset, .unset] [(.long (own_bnd al ra ow))]))
      refine Go.step (fun _ kt => XS.lstoreN X105.here hx rfl (hb hby d8_33) rfl (l' := #[.val (.ref a1), .val (.long q1), .second, .val (.long (own_bnd al ra ow)), .second]) rfl kt) ?_
      show Go p.tables e below _ (T105.setTop (mkF m 34 #[.val (.ref a1), .val (.long q1), .second, .val (.long (own_bnd al ra ow)), .second] []))
      refine Go.step (fun _ kt => XS.goto X105.here hx rfl (pc0 := 34) (pc' := 52) rfl (hb hby d8_34) (by decide) (by decide) kt) ?_
      show Go p.tables e below _ (T105.setTop (mkF m 52 #[.val (.ref a1), .val (.long q1), .second, .val (.long (own_bnd al ra ow)), .second] []))
      refine Go.step (fun _ kt => XS.lloadN X105.here hx rfl (hb hby d8_52) rfl kt) ?_
      show Go p.tables e below _ (T105.setTop (mkF m 53 #[.val (.ref a1), .val (.long q1), .second, .val (.long (own_bnd al ra ow)), .second] [(.long q1)]))
      refine Go.step (fun _ kt => XS.lloadN X105.here hx rfl (hb hby d8_53) rfl kt) ?_
      show Go p.tables e below _ (T105.setTop (mkF m 54 #[.val (.ref a1), .val (.long q1), .second, .val (.long (own_bnd al ra ow)), .second] [(.long (own_bnd al ra ow)), (.long q1)]))
      refine Go.step (fun _ kt => XS.lcmp X105.here hx rfl (hb hby d8_54) rfl kt) ?_
      show Go p.tables e below _ (T105.setTop (mkF m 55 #[.val (.ref a1), .val (.long q1), .second, .val (.long (own_bnd al ra ow)), .second] [(.int (lcmpW q1 (own_bnd al ra ow)))]))
      by_cases hc55_108 : (0 : Int32) < (lcmpW q1 (own_bnd al ra ow))
      · refine Go.step (fun _ kt => XS.ifYes X105.here hx rfl (pc0 := 55) (pc' := 62) rfl (hb hby d8_55) rfl ((if0 _ _).trans (tlt hc55_108).2.2.1) (by decide) (by decide) kt) ?_
        show Go p.tables e below _ (T105.setTop (mkF m 62 #[.val (.ref a1), .val (.long q1), .second, .val (.long (own_bnd al ra ow)), .second] []))
        refine Go.step (fun _ kt => XS.iconst X105.here hx rfl (hb hby d8_62) kt) ?_
        show Go p.tables e below _ (T105.setTop (mkF m 63 #[.val (.ref a1), .val (.long q1), .second, .val (.long (own_bnd al ra ow)), .second] [(.int (0 : Int32))]))
        obtain ⟨fs, hr, hrun, hended, hW, hsame⟩ := X105.leave (v := some (.int (0 : Int32))) (fun h => by rw [Bd.returns] at h; cases h)
        refine ⟨_, _, retN X105 hx (t := .boolean) Bd.returns (by simp) (hb hby d8_63) hr, hrun, hended, _, _, rfl, ?_, ⟨_, rfl⟩, hW, hsame.mono (by decide) (by decide)⟩
        show Qrm8 Z a1 q1 al ra ow h0 n0 _ T105.heap _
        rw [e105]
        refine ⟨?_, N0, rfl⟩
        have q : own_allows al ra ow q1 = (0 : Int32) := by simp only [own_allows]; simp [hc6_102, hc27_106, hc55_108]
        rw [q]
      · refine Go.step (fun _ kt => XS.ifNo X105.here hx rfl (hb hby d8_55) rfl ((if0 _ _).trans (flt hc55_108).2.2.1) kt) ?_
        show Go p.tables e below _ (T105.setTop (mkF m 58 #[.val (.ref a1), .val (.long q1), .second, .val (.long (own_bnd al ra ow)), .second] []))
        refine Go.step (fun _ kt => XS.iconst X105.here hx rfl (hb hby d8_58) kt) ?_
        show Go p.tables e below _ (T105.setTop (mkF m 59 #[.val (.ref a1), .val (.long q1), .second, .val (.long (own_bnd al ra ow)), .second] [(.int (1 : Int32))]))
        refine Go.step (fun _ kt => XS.goto X105.here hx rfl (pc0 := 59) (pc' := 63) rfl (hb hby d8_59) (by decide) (by decide) kt) ?_
        show Go p.tables e below _ (T105.setTop (mkF m 63 #[.val (.ref a1), .val (.long q1), .second, .val (.long (own_bnd al ra ow)), .second] [(.int (1 : Int32))]))
        obtain ⟨fs, hr, hrun, hended, hW, hsame⟩ := X105.leave (v := some (.int (1 : Int32))) (fun h => by rw [Bd.returns] at h; cases h)
        refine ⟨_, _, retN X105 hx (t := .boolean) Bd.returns (by simp) (hb hby d8_63) hr, hrun, hended, _, _, rfl, ?_, ⟨_, rfl⟩, hW, hsame.mono (by decide) (by decide)⟩
        show Qrm8 Z a1 q1 al ra ow h0 n0 _ T105.heap _
        rw [e105]
        refine ⟨?_, N0, rfl⟩
        have q : own_allows al ra ow q1 = (1 : Int32) := by simp only [own_allows]; simp [hc6_102, hc27_106, hc55_108]
        rw [q]
    · refine Go.step (fun _ kt => XS.ifYes X105.here hx rfl (pc0 := 27) (pc' := 37) rfl (hb hby d8_27) rfl ((if0 _ _).trans (flt hc27_106).2.2.2) (by decide) (by decide) kt) ?_
      show Go p.tables e below _ (T105.setTop (mkF m 37 #[.val (.ref a1), .val (.long q1), .second, .unset, .unset] []))
      refine Go.step (fun _ kt => XS.aloadN X105.here hx rfl (hb hby d8_37) rfl rfl kt) ?_
      show Go p.tables e below _ (T105.setTop (mkF m 38 #[.val (.ref a1), .val (.long q1), .second, .unset, .unset] [(.ref a1)]))
      obtain ⟨T109, X109, e109, st109⟩ := getF X105 hx hZ hown (host := "") (Or.inl (hw _ (List.mem_of_getElem? (i := 16) rfl))) Via.refl e105 Fa (g := (mkF m 38 #[.val (.ref a1), .val (.long q1), .second, .unset, .unset] [(.ref a1)])) rfl rfl (hb hby d8_38)
      refine Go.step st109 ?_
      show Go p.tables e below _ (T109.setTop (mkF m 41 #[.val (.ref a1), .val (.long q1), .second, .unset, .unset] [(.long al)]))
      refine Go.step (fun _ kt => XS.aloadN X109.here hx rfl (hb hby d8_41) rfl rfl kt) ?_
      show Go p.tables e below _ (T109.setTop (mkF m 42 #[.val (.ref a1), .val (.long q1), .second, .unset, .unset] [(.ref a1), (.long al)]))
      obtain ⟨T110, X110, e110, st110⟩ := getF X109 hx hZ hown (host := "") (Or.inl (hw _ (List.mem_of_getElem? (i := 18) rfl))) Via.refl e109 Fr_ (g := (mkF m 42 #[.val (.ref a1), .val (.long q1), .second, .unset, .unset] [(.ref a1), (.long al)])) rfl rfl (hb hby d8_42)
      refine Go.step st110 ?_
      show Go p.tables e below _ (T110.setTop (mkF m 45 #[.val (.ref a1), .val (.long q1), .second, .unset, .unset] [(.long ra), (.long al)]))
      refine Go.step (fun _ kt => XS.aloadN X110.here hx rfl (hb hby d8_45) rfl rfl kt) ?_
      show Go p.tables e below _ (T110.setTop (mkF m 46 #[.val (.ref a1), .val (.long q1), .second, .unset, .unset] [(.ref a1), (.long ra), (.long al)]))
      obtain ⟨T111, X111, e111, st111⟩ := getF X110 hx hZ hown (host := "") (Or.inl (hw _ (List.mem_of_getElem? (i := 69) rfl))) Via.refl e110 Fo (g := (mkF m 46 #[.val (.ref a1), .val (.long q1), .second, .unset, .unset] [(.ref a1), (.long ra), (.long al)])) rfl rfl (hb hby d8_46)
      refine Go.step st111 ?_
      show Go p.tables e below _ (T111.setTop (mkF m 49 #[.val (.ref a1), .val (.long q1), .second, .unset, .unset] [(.long ow), (.long ra), (.long al)]))
      refine Go.step (fun _ kt => XS.lmul X111.here hx rfl (hb hby d8_49) rfl kt) ?_
      show Go p.tables e below _ (T111.setTop (mkF m 50 #[.val (.ref a1), .val (.long q1), .second, .unset, .unset] [(.long (ra * ow)), (.long al)]))
      refine Go.step (fun _ kt => XS.ladd X111.here hx rfl (hb hby d8_50) rfl kt) ?_
      show Go p.tables e below _ (T111.setTop (mkF m 51 #[.val (.ref a1), .val (.long q1), .second, .unset, .unset] [(.long (al + (ra * ow)))]))
      have q112 : (al + (ra * ow)) = (own_bnd al ra ow) := by simp only [own_bnd]; simp [hc6_102, hc27_106]
      rw [q112]
      show Go p.tables e below _ (T111.setTop (mkF m 51 #[.val (.ref a1), .val (.long q1), .second, .unset, .unset] [(.long (own_bnd al ra ow))]))
      refine Go.step (fun _ kt => XS.lstoreN X111.here hx rfl (hb hby d8_51) rfl (l' := #[.val (.ref a1), .val (.long q1), .second, .val (.long (own_bnd al ra ow)), .second]) rfl kt) ?_
      show Go p.tables e below _ (T111.setTop (mkF m 52 #[.val (.ref a1), .val (.long q1), .second, .val (.long (own_bnd al ra ow)), .second] []))
      refine Go.step (fun _ kt => XS.lloadN X111.here hx rfl (hb hby d8_52) rfl kt) ?_
      show Go p.tables e below _ (T111.setTop (mkF m 53 #[.val (.ref a1), .val (.long q1), .second, .val (.long (own_bnd al ra ow)), .second] [(.long q1)]))
      refine Go.step (fun _ kt => XS.lloadN X111.here hx rfl (hb hby d8_53) rfl kt) ?_
      show Go p.tables e below _ (T111.setTop (mkF m 54 #[.val (.ref a1), .val (.long q1), .second, .val (.long (own_bnd al ra ow)), .second] [(.long (own_bnd al ra ow)), (.long q1)]))
      refine Go.step (fun _ kt => XS.lcmp X111.here hx rfl (hb hby d8_54) rfl kt) ?_
      show Go p.tables e below _ (T111.setTop (mkF m 55 #[.val (.ref a1), .val (.long q1), .second, .val (.long (own_bnd al ra ow)), .second] [(.int (lcmpW q1 (own_bnd al ra ow)))]))
      by_cases hc55_113 : (0 : Int32) < (lcmpW q1 (own_bnd al ra ow))
      · refine Go.step (fun _ kt => XS.ifYes X111.here hx rfl (pc0 := 55) (pc' := 62) rfl (hb hby d8_55) rfl ((if0 _ _).trans (tlt hc55_113).2.2.1) (by decide) (by decide) kt) ?_
        show Go p.tables e below _ (T111.setTop (mkF m 62 #[.val (.ref a1), .val (.long q1), .second, .val (.long (own_bnd al ra ow)), .second] []))
        refine Go.step (fun _ kt => XS.iconst X111.here hx rfl (hb hby d8_62) kt) ?_
        show Go p.tables e below _ (T111.setTop (mkF m 63 #[.val (.ref a1), .val (.long q1), .second, .val (.long (own_bnd al ra ow)), .second] [(.int (0 : Int32))]))
        obtain ⟨fs, hr, hrun, hended, hW, hsame⟩ := X111.leave (v := some (.int (0 : Int32))) (fun h => by rw [Bd.returns] at h; cases h)
        refine ⟨_, _, retN X111 hx (t := .boolean) Bd.returns (by simp) (hb hby d8_63) hr, hrun, hended, _, _, rfl, ?_, ⟨_, rfl⟩, hW, hsame.mono (by decide) (by decide)⟩
        show Qrm8 Z a1 q1 al ra ow h0 n0 _ T111.heap _
        rw [e111]
        refine ⟨?_, N0, rfl⟩
        have q : own_allows al ra ow q1 = (0 : Int32) := by simp only [own_allows]; simp [hc6_102, hc27_106, hc55_113]
        rw [q]
      · refine Go.step (fun _ kt => XS.ifNo X111.here hx rfl (hb hby d8_55) rfl ((if0 _ _).trans (flt hc55_113).2.2.1) kt) ?_
        show Go p.tables e below _ (T111.setTop (mkF m 58 #[.val (.ref a1), .val (.long q1), .second, .val (.long (own_bnd al ra ow)), .second] []))
        refine Go.step (fun _ kt => XS.iconst X111.here hx rfl (hb hby d8_58) kt) ?_
        show Go p.tables e below _ (T111.setTop (mkF m 59 #[.val (.ref a1), .val (.long q1), .second, .val (.long (own_bnd al ra ow)), .second] [(.int (1 : Int32))]))
        refine Go.step (fun _ kt => XS.goto X111.here hx rfl (pc0 := 59) (pc' := 63) rfl (hb hby d8_59) (by decide) (by decide) kt) ?_
        show Go p.tables e below _ (T111.setTop (mkF m 63 #[.val (.ref a1), .val (.long q1), .second, .val (.long (own_bnd al ra ow)), .second] [(.int (1 : Int32))]))
        obtain ⟨fs, hr, hrun, hended, hW, hsame⟩ := X111.leave (v := some (.int (1 : Int32))) (fun h => by rw [Bd.returns] at h; cases h)
        refine ⟨_, _, retN X111 hx (t := .boolean) Bd.returns (by simp) (hb hby d8_63) hr, hrun, hended, _, _, rfl, ?_, ⟨_, rfl⟩, hW, hsame.mono (by decide) (by decide)⟩
        show Qrm8 Z a1 q1 al ra ow h0 n0 _ T111.heap _
        rw [e111]
        refine ⟨?_, N0, rfl⟩
        have q : own_allows al ra ow q1 = (1 : Int32) := by simp only [own_allows]; simp [hc6_102, hc27_106, hc55_113]
        rw [q]
  · refine Go.step (fun _ kt => XS.ifYes X101.here hx rfl (pc0 := 6) (pc' := 37) rfl (hb hby d8_6) rfl ((if0 _ _).trans (flt hc6_102).2.2.2) (by decide) (by decide) kt) ?_
    show Go p.tables e below _ (T101.setTop (mkF m 37 #[.val (.ref a1), .val (.long q1), .second, .unset, .unset] []))
    refine Go.step (fun _ kt => XS.aloadN X101.here hx rfl (hb hby d8_37) rfl rfl kt) ?_
    show Go p.tables e below _ (T101.setTop (mkF m 38 #[.val (.ref a1), .val (.long q1), .second, .unset, .unset] [(.ref a1)]))
    obtain ⟨T114, X114, e114, st114⟩ := getF X101 hx hZ hown (host := "") (Or.inl (hw _ (List.mem_of_getElem? (i := 16) rfl))) Via.refl e101 Fa (g := (mkF m 38 #[.val (.ref a1), .val (.long q1), .second, .unset, .unset] [(.ref a1)])) rfl rfl (hb hby d8_38)
    refine Go.step st114 ?_
    show Go p.tables e below _ (T114.setTop (mkF m 41 #[.val (.ref a1), .val (.long q1), .second, .unset, .unset] [(.long al)]))
    refine Go.step (fun _ kt => XS.aloadN X114.here hx rfl (hb hby d8_41) rfl rfl kt) ?_
    show Go p.tables e below _ (T114.setTop (mkF m 42 #[.val (.ref a1), .val (.long q1), .second, .unset, .unset] [(.ref a1), (.long al)]))
    obtain ⟨T115, X115, e115, st115⟩ := getF X114 hx hZ hown (host := "") (Or.inl (hw _ (List.mem_of_getElem? (i := 18) rfl))) Via.refl e114 Fr_ (g := (mkF m 42 #[.val (.ref a1), .val (.long q1), .second, .unset, .unset] [(.ref a1), (.long al)])) rfl rfl (hb hby d8_42)
    refine Go.step st115 ?_
    show Go p.tables e below _ (T115.setTop (mkF m 45 #[.val (.ref a1), .val (.long q1), .second, .unset, .unset] [(.long ra), (.long al)]))
    refine Go.step (fun _ kt => XS.aloadN X115.here hx rfl (hb hby d8_45) rfl rfl kt) ?_
    show Go p.tables e below _ (T115.setTop (mkF m 46 #[.val (.ref a1), .val (.long q1), .second, .unset, .unset] [(.ref a1), (.long ra), (.long al)]))
    obtain ⟨T116, X116, e116, st116⟩ := getF X115 hx hZ hown (host := "") (Or.inl (hw _ (List.mem_of_getElem? (i := 69) rfl))) Via.refl e115 Fo (g := (mkF m 46 #[.val (.ref a1), .val (.long q1), .second, .unset, .unset] [(.ref a1), (.long ra), (.long al)])) rfl rfl (hb hby d8_46)
    refine Go.step st116 ?_
    show Go p.tables e below _ (T116.setTop (mkF m 49 #[.val (.ref a1), .val (.long q1), .second, .unset, .unset] [(.long ow), (.long ra), (.long al)]))
    refine Go.step (fun _ kt => XS.lmul X116.here hx rfl (hb hby d8_49) rfl kt) ?_
    show Go p.tables e below _ (T116.setTop (mkF m 50 #[.val (.ref a1), .val (.long q1), .second, .unset, .unset] [(.long (ra * ow)), (.long al)]))
    refine Go.step (fun _ kt => XS.ladd X116.here hx rfl (hb hby d8_50) rfl kt) ?_
    show Go p.tables e below _ (T116.setTop (mkF m 51 #[.val (.ref a1), .val (.long q1), .second, .unset, .unset] [(.long (al + (ra * ow)))]))
    have q117 : (al + (ra * ow)) = (own_bnd al ra ow) := by simp only [own_bnd]; simp [hc6_102]
    rw [q117]
    show Go p.tables e below _ (T116.setTop (mkF m 51 #[.val (.ref a1), .val (.long q1), .second, .unset, .unset] [(.long (own_bnd al ra ow))]))
    refine Go.step (fun _ kt => XS.lstoreN X116.here hx rfl (hb hby d8_51) rfl (l' := #[.val (.ref a1), .val (.long q1), .second, .val (.long (own_bnd al ra ow)), .second]) rfl kt) ?_
    show Go p.tables e below _ (T116.setTop (mkF m 52 #[.val (.ref a1), .val (.long q1), .second, .val (.long (own_bnd al ra ow)), .second] []))
    refine Go.step (fun _ kt => XS.lloadN X116.here hx rfl (hb hby d8_52) rfl kt) ?_
    show Go p.tables e below _ (T116.setTop (mkF m 53 #[.val (.ref a1), .val (.long q1), .second, .val (.long (own_bnd al ra ow)), .second] [(.long q1)]))
    refine Go.step (fun _ kt => XS.lloadN X116.here hx rfl (hb hby d8_53) rfl kt) ?_
    show Go p.tables e below _ (T116.setTop (mkF m 54 #[.val (.ref a1), .val (.long q1), .second, .val (.long (own_bnd al ra ow)), .second] [(.long (own_bnd al ra ow)), (.long q1)]))
    refine Go.step (fun _ kt => XS.lcmp X116.here hx rfl (hb hby d8_54) rfl kt) ?_
    show Go p.tables e below _ (T116.setTop (mkF m 55 #[.val (.ref a1), .val (.long q1), .second, .val (.long (own_bnd al ra ow)), .second] [(.int (lcmpW q1 (own_bnd al ra ow)))]))
    by_cases hc55_118 : (0 : Int32) < (lcmpW q1 (own_bnd al ra ow))
    · refine Go.step (fun _ kt => XS.ifYes X116.here hx rfl (pc0 := 55) (pc' := 62) rfl (hb hby d8_55) rfl ((if0 _ _).trans (tlt hc55_118).2.2.1) (by decide) (by decide) kt) ?_
      show Go p.tables e below _ (T116.setTop (mkF m 62 #[.val (.ref a1), .val (.long q1), .second, .val (.long (own_bnd al ra ow)), .second] []))
      refine Go.step (fun _ kt => XS.iconst X116.here hx rfl (hb hby d8_62) kt) ?_
      show Go p.tables e below _ (T116.setTop (mkF m 63 #[.val (.ref a1), .val (.long q1), .second, .val (.long (own_bnd al ra ow)), .second] [(.int (0 : Int32))]))
      obtain ⟨fs, hr, hrun, hended, hW, hsame⟩ := X116.leave (v := some (.int (0 : Int32))) (fun h => by rw [Bd.returns] at h; cases h)
      refine ⟨_, _, retN X116 hx (t := .boolean) Bd.returns (by simp) (hb hby d8_63) hr, hrun, hended, _, _, rfl, ?_, ⟨_, rfl⟩, hW, hsame.mono (by decide) (by decide)⟩
      show Qrm8 Z a1 q1 al ra ow h0 n0 _ T116.heap _
      rw [e116]
      refine ⟨?_, N0, rfl⟩
      have q : own_allows al ra ow q1 = (0 : Int32) := by simp only [own_allows]; simp [hc6_102, hc55_118]
      rw [q]
    · refine Go.step (fun _ kt => XS.ifNo X116.here hx rfl (hb hby d8_55) rfl ((if0 _ _).trans (flt hc55_118).2.2.1) kt) ?_
      show Go p.tables e below _ (T116.setTop (mkF m 58 #[.val (.ref a1), .val (.long q1), .second, .val (.long (own_bnd al ra ow)), .second] []))
      refine Go.step (fun _ kt => XS.iconst X116.here hx rfl (hb hby d8_58) kt) ?_
      show Go p.tables e below _ (T116.setTop (mkF m 59 #[.val (.ref a1), .val (.long q1), .second, .val (.long (own_bnd al ra ow)), .second] [(.int (1 : Int32))]))
      refine Go.step (fun _ kt => XS.goto X116.here hx rfl (pc0 := 59) (pc' := 63) rfl (hb hby d8_59) (by decide) (by decide) kt) ?_
      show Go p.tables e below _ (T116.setTop (mkF m 63 #[.val (.ref a1), .val (.long q1), .second, .val (.long (own_bnd al ra ow)), .second] [(.int (1 : Int32))]))
      obtain ⟨fs, hr, hrun, hended, hW, hsame⟩ := X116.leave (v := some (.int (1 : Int32))) (fun h => by rw [Bd.returns] at h; cases h)
      refine ⟨_, _, retN X116 hx (t := .boolean) Bd.returns (by simp) (hb hby d8_63) hr, hrun, hended, _, _, rfl, ?_, ⟨_, rfl⟩, hW, hsame.mono (by decide) (by decide)⟩
      show Qrm8 Z a1 q1 al ra ow h0 n0 _ T116.heap _
      rw [e116]
      refine ⟨?_, N0, rfl⟩
      have q : own_allows al ra ow q1 = (1 : Int32) := by simp only [own_allows]; simp [hc6_102, hc55_118]
      rw [q]
theorem pd_1 : parseMethodDescriptor "(J)Z" = some ⟨[.long], some .boolean⟩ := by decide +kernel
theorem d7_0 : decode prog_36_method_3_code 0 = .ok (.aload_n 0, 1) := by decide +kernel
theorem d7_1 : decode prog_36_method_3_code 1 = .ok (.dup, 1) := by decide +kernel
theorem d7_2 : decode prog_36_method_3_code 2 = .ok (.getfield 54, 3) := by decide +kernel
theorem d7_5 : decode prog_36_method_3_code 5 = .ok (.lload_n 1, 1) := by decide +kernel
theorem d7_6 : decode prog_36_method_3_code 6 = .ok (.ladd, 1) := by decide +kernel
theorem d7_7 : decode prog_36_method_3_code 7 = .ok (.putfield 54, 3) := by decide +kernel
theorem d7_10 : decode prog_36_method_3_code 10 = .ok (.aload_n 0, 1) := by decide +kernel
theorem d7_11 : decode prog_36_method_3_code 11 = .ok (.aload_n 0, 1) := by decide +kernel
theorem d7_12 : decode prog_36_method_3_code 12 = .ok (.getfield 54, 3) := by decide +kernel
theorem d7_15 : decode prog_36_method_3_code 15 = .ok (.invokevirtual 57, 3) := by decide +kernel
theorem d7_18 : decode prog_36_method_3_code 18 = .ok (.ifCond .eq 14, 3) := by decide +kernel
theorem d7_21 : decode prog_36_method_3_code 21 = .ok (.aload_n 0, 1) := by decide +kernel
theorem d7_22 : decode prog_36_method_3_code 22 = .ok (.aload_n 0, 1) := by decide +kernel
theorem d7_23 : decode prog_36_method_3_code 23 = .ok (.getfield 61, 3) := by decide +kernel
theorem d7_26 : decode prog_36_method_3_code 26 = .ok (.invokevirtual 57, 3) := by decide +kernel
theorem d7_29 : decode prog_36_method_3_code 29 = .ok (.ifCond .ne 8, 3) := by decide +kernel
theorem d7_37 : decode prog_36_method_3_code 37 = .ok (.return_, 1) := by decide +kernel
theorem ef_rm7 (m : MethodId) (a1 : Addr) (q1 : Int64) (al : Int64) (ra : Int64) (ow : Int64) (ex : Int64) (wk : Int64) : entryFrame m #[(.ref a1), (.long q1)] 3 = mkF m 0 #[.val (.ref a1), .val (.long q1), .second] [] := by first | (simp [entryFrame, mkF, argsToLocals, Value.category]; done) | rfl
def Qrm7 (Z : State) (a1 : Addr) (q1 : Int64) (al : Int64) (ra : Int64) (ow : Int64) (ex : Int64) (wk : Int64) (h0 : Heap) (n0 : Nat) (v : Option Value) (h : Heap) (L : List Loc) : Prop := v = none ∧ Fr n0 L ∧ Keep h0 h [a1]
set_option maxRecDepth 65536 in
set_option maxHeartbeats 40000000 in
theorem rm7 (l : Launch) (Z : State) (a0 : Array Value) (hw : ∀ d ∈ tables_1, d.before a0 Z = true) (ws : List Jvm.Cond) (a1 : Addr) (q1 : Int64) (al : Int64) (ra : Int64) (ow : Int64) (ex : Int64) (wk : Int64) (h0 : Heap) (n0 : Nat) (Z0 : n0 ≤ h0.size) (E1 : Exa Z h0 a1 "com/example/ottawa/ottawa/ParseBounds") (Fa : Fld Z h0 a1 "com/example/ottawa/ottawa/ParseBounds" "allowance" "J" (.long al)) (Fr_ : Fld Z h0 a1 "com/example/ottawa/ottawa/ParseBounds" "ratio" "J" (.long ra)) (Fo : Fld Z h0 a1 "com/example/ottawa/ottawa/ParseBounds" "ownCharacters" "J" (.long ow)) (Fx : Fld Z h0 a1 "com/example/ottawa/ottawa/ParseBounds" "expanded" "J" (.long ex)) (Fk : Fld Z h0 a1 "com/example/ottawa/ottawa/ParseBounds" "rereadingWork" "J" (.long wk)) (g_a1 : n0 ≤ a1) (hA1 : own_allows al ra ow (ex + q1) = 1) (hA2 : own_allows al ra ow wk = 1) :
    MetFree l (⟨"com/example/ottawa/ottawa/ParseBounds", "expand", "(J)V"⟩ : MethodName) (head1 (Jvm.Cond.code (⟨"com/example/ottawa/ottawa/ParseBounds", "expand", "(J)V"⟩ : MethodName) prog_36_method_3_code 3 none :: ws) ({ frames := 1, cells := 0, slots := 0, locals := 16 } : Room)) (fun a U => a = #[(.ref a1), (.long q1)] ∧ Z.Warmed39 U.vm ∧ U.heap = h0) (fun _ _ _ _ _ => True) (fun _ U o U' => ∃ v L, o = .returned v ∧ Qrm7 Z a1 q1 al ra ow ex wk h0 n0 v U'.heap L ∧ FrameEnd U o U' L ({ frames := 1, cells := 0, slots := 0, locals := 16 } : Room).cells ({ frames := 1, cells := 0, slots := 0, locals := 16 } : Room).slots) := by
  refine MetFree.of_bodySF (plainFor_of_name pn_1) hisR ?_
  intro p e s m args below meth c s₁ Bd hml0 hP hK
  obtain ⟨rfl, hZ, hh⟩ := hP
  have hx := Bd.exec
  have hby := Bd.bytes
  have hml : c.maxLocals = 3 := hml0
  have hown : s.vm.findClass "com/example/ottawa/ottawa/ParseBounds" = some m.cls := findClass_of_methodNamed Bd.named
  have hnm := (name_of_methodNamed Bd.named Bd.method).1
  have X0 : Stand p l e ({ frames := 1, cells := 0, slots := 0, locals := 16 } : Room) s m #[(.ref a1), (.long q1)] below meth c s₁ [] 0 0 := Stand.of_body Bd
  have e0 : s₁.heap = h0 := by rw [← hh, Bd.state]; rfl
  have N0 := Fr.nil n0
  show Go p.tables e below (fun o U' => ∃ v L, o = .returned v ∧ Qrm7 Z a1 q1 al ra ow ex wk h0 n0 v U'.heap L ∧ FrameEnd s o U' L ({ frames := 1, cells := 0, slots := 0, locals := 16 } : Room).cells ({ frames := 1, cells := 0, slots := 0, locals := 16 } : Room).slots) _
  refine Go.step (fun t kt => castTop (ef_rm7 m a1 q1 al ra ow ex wk) kt) ?_
  show Go p.tables e below _ (s₁.setTop (mkF m 0 #[.val (.ref a1), .val (.long q1), .second] []))
  have K101 : Keep h0 h0 [a1] := (Keep.refl h0 [a1])
  refine Go.step (fun _ kt => XS.aloadN X0.here hx rfl (hb hby d7_0) rfl rfl kt) ?_
  show Go p.tables e below _ (s₁.setTop (mkF m 1 #[.val (.ref a1), .val (.long q1), .second] [(.ref a1)]))
  refine Go.step (fun _ kt => XS.dup X0.here hx rfl (hb hby d7_1) rfl rfl kt) ?_
  show Go p.tables e below _ (s₁.setTop (mkF m 2 #[.val (.ref a1), .val (.long q1), .second] [(.ref a1), (.ref a1)]))
  obtain ⟨T102, X102, e102, st102⟩ := getF X0 hx hZ hown (host := "") (Or.inl (hw _ (List.mem_of_getElem? (i := 76) rfl))) Via.refl e0 Fx (g := (mkF m 2 #[.val (.ref a1), .val (.long q1), .second] [(.ref a1), (.ref a1)])) rfl rfl (hb hby d7_2)
  refine Go.step st102 ?_
  show Go p.tables e below _ (T102.setTop (mkF m 5 #[.val (.ref a1), .val (.long q1), .second] [(.long ex), (.ref a1)]))
  refine Go.step (fun _ kt => XS.lloadN X102.here hx rfl (hb hby d7_5) rfl kt) ?_
  show Go p.tables e below _ (T102.setTop (mkF m 6 #[.val (.ref a1), .val (.long q1), .second] [(.long q1), (.long ex), (.ref a1)]))
  refine Go.step (fun _ kt => XS.ladd X102.here hx rfl (hb hby d7_6) rfl kt) ?_
  show Go p.tables e below _ (T102.setTop (mkF m 7 #[.val (.ref a1), .val (.long q1), .second] [(.long (ex + q1)), (.ref a1)]))
  obtain ⟨T103, h103, X103, e103, W103, st103⟩ := putF X102 hx hZ hown (host := "") (Or.inl (hw _ (List.mem_of_getElem? (i := 76) rfl))) Via.refl e102 Fx E1 (Or.inl (hw _ (List.mem_of_getElem? (i := 77) rfl))) (hw _ (List.mem_of_getElem? (i := 8) rfl)) (ty := .long) (by decide) rfl rfl (g := (mkF m 7 #[.val (.ref a1), .val (.long q1), .second] [(.long (ex + q1)), (.ref a1)])) rfl rfl (hb hby d7_7)
  refine Go.step st103 ?_
  have N103 := Fr.snoc X103 N0 g_a1
  have F104 : Exa Z h103 a1 "com/example/ottawa/ottawa/ParseBounds" := (E1.wr W103)
  have F105 : Fld Z h103 a1 "com/example/ottawa/ottawa/ParseBounds" "allowance" "J" (.long al) := (Fa.other W103 (Or.inr (slot_ne (Or.inr (hw _ (List.mem_of_getElem? (i := 17) rfl))) (Or.inl (hw _ (List.mem_of_getElem? (i := 77) rfl))) (by decide) (t := .long) (t' := .long) (by decide) (by decide))))
  have F106 : Fld Z h103 a1 "com/example/ottawa/ottawa/ParseBounds" "ratio" "J" (.long ra) := (Fr_.other W103 (Or.inr (slot_ne (Or.inr (hw _ (List.mem_of_getElem? (i := 19) rfl))) (Or.inl (hw _ (List.mem_of_getElem? (i := 77) rfl))) (by decide) (t := .long) (t' := .long) (by decide) (by decide))))
  have F107 : Fld Z h103 a1 "com/example/ottawa/ottawa/ParseBounds" "ownCharacters" "J" (.long ow) := (Fo.other W103 (Or.inr (slot_ne (Or.inl (hw _ (List.mem_of_getElem? (i := 70) rfl))) (Or.inl (hw _ (List.mem_of_getElem? (i := 77) rfl))) (by decide) (t := .long) (t' := .long) (by decide) (by decide))))
  have F108 : Fld Z h103 a1 "com/example/ottawa/ottawa/ParseBounds" "expanded" "J" (.long (ex + q1)) := (Fx.same W103)
  have F109 : Fld Z h103 a1 "com/example/ottawa/ottawa/ParseBounds" "rereadingWork" "J" (.long wk) := (Fk.other W103 (Or.inr (slot_ne (Or.inl (hw _ (List.mem_of_getElem? (i := 79) rfl))) (Or.inl (hw _ (List.mem_of_getElem? (i := 77) rfl))) (by decide) (t := .long) (t' := .long) (by decide) (by decide))))
  have Z110 : n0 ≤ h103.size := (Nat.le_trans Z0 (Nat.le_of_eq W103.size.symm))
  have K111 : Keep h0 h103 [a1] := (K101.wr W103 (Or.inl (List.mem_of_getElem? (i := 0) rfl)))
  show Go p.tables e below _ (T103.setTop (mkF m 10 #[.val (.ref a1), .val (.long q1), .second] []))
  refine Go.step (fun _ kt => XS.aloadN X103.here hx rfl (hb hby d7_10) rfl rfl kt) ?_
  show Go p.tables e below _ (T103.setTop (mkF m 11 #[.val (.ref a1), .val (.long q1), .second] [(.ref a1)]))
  refine Go.step (fun _ kt => XS.aloadN X103.here hx rfl (hb hby d7_11) rfl rfl kt) ?_
  show Go p.tables e below _ (T103.setTop (mkF m 12 #[.val (.ref a1), .val (.long q1), .second] [(.ref a1), (.ref a1)]))
  obtain ⟨T112, X112, e112, st112⟩ := getF X103 hx hZ hown (host := "") (Or.inl (hw _ (List.mem_of_getElem? (i := 76) rfl))) Via.refl e103 F108 (g := (mkF m 12 #[.val (.ref a1), .val (.long q1), .second] [(.ref a1), (.ref a1)])) rfl rfl (hb hby d7_12)
  refine Go.step st112 ?_
  show Go p.tables e below _ (T112.setTop (mkF m 15 #[.val (.ref a1), .val (.long q1), .second] [(.long (ex + q1)), (.ref a1)]))
  obtain ⟨cq113, q113, q113'⟩ := F104.cell
  obtain ⟨_, _, ⟨T113, L113, k113, n113⟩, -, X113, ⟨Lc113, hQ113, l113, y113, z113⟩, st113⟩ := X112.privateBack hx (y := (⟨"com/example/ottawa/ottawa/ParseBounds", "allows", "(J)Z"⟩ : MethodName)) hown (mvT hZ (hw _ (List.mem_of_getElem? (i := 86) rfl))) (mvT hZ (hw _ (List.mem_of_getElem? (i := 87) rfl))) (own_selp (y := (⟨"com/example/ottawa/ottawa/ParseBounds", "allows", "(J)Z"⟩ : MethodName)) (mvT hZ (hw _ (List.mem_of_getElem? (i := 8) rfl))) (mvP hZ (hw _ (List.mem_of_getElem? (i := 88) rfl))) (mvT hZ (hw _ (List.mem_of_getElem? (i := 87) rfl))) (by decide)) (Cond.privateMethod_at (mvP hZ (hw _ (List.mem_of_getElem? (i := 88) rfl)) (args := #[]))) (mvT hZ (hw _ (List.mem_of_getElem? (i := 89) rfl))) (by decide) (backOf (W := 0) (rm8 l Z a0 hw [] a1 (ex + q1) al ra ow h103 n0 Z110 F105 F106 F107 ) hZ (hw _ (List.mem_of_getElem? (i := 89) rfl)) (hw _ (List.mem_of_getElem? (i := 9) rfl)) (by decide) (by decide)) (g := (mkF m 15 #[.val (.ref a1), .val (.long q1), .second] [(.long (ex + q1)), (.ref a1)])) rfl (by rw [hml]; rfl) (Steps.refl _) (a := a1) (by rw [e112]; exact q113) q113' (argsL := [(.long (ex + q1))]) (rest := []) (lenOf pd_1 rfl) rfl (by show 2 * 0 + _ ≤ _; exact Nat.le_of_eq rfl) (hb hby d7_15) (fun _ _ => ⟨rfl, e112, (by decide : 0 + 0 ≤ _), (by decide : 0 + 0 ≤ _)⟩)
  dsimp only [Pt.U, Pt.locs, Pt.cells, Pt.slots] at X113 l113 y113 z113 st113 hQ113
  subst l113 y113 z113
  obtain ⟨rfl, N113q, eh113⟩ := hQ113
  have N113 := Fr.app N103 N113q
  refine Go.step (fun _ kt => st113.trans kt) ?_
  show Go p.tables e below _ (T113.setTop (mkF m 18 #[.val (.ref a1), .val (.long q1), .second] [(.int (own_allows al ra ow (ex + q1)))]))
  refine Go.step (fun _ kt => XS.ifNo X113.here hx rfl (hb hby d7_18) rfl ((if0 _ _).trans (feq (by rw [hA1]; decide)).1) kt) ?_
  show Go p.tables e below _ (T113.setTop (mkF m 21 #[.val (.ref a1), .val (.long q1), .second] []))
  refine Go.step (fun _ kt => XS.aloadN X113.here hx rfl (hb hby d7_21) rfl rfl kt) ?_
  show Go p.tables e below _ (T113.setTop (mkF m 22 #[.val (.ref a1), .val (.long q1), .second] [(.ref a1)]))
  refine Go.step (fun _ kt => XS.aloadN X113.here hx rfl (hb hby d7_22) rfl rfl kt) ?_
  show Go p.tables e below _ (T113.setTop (mkF m 23 #[.val (.ref a1), .val (.long q1), .second] [(.ref a1), (.ref a1)]))
  obtain ⟨T114, X114, e114, st114⟩ := getF X113 hx hZ hown (host := "") (Or.inl (hw _ (List.mem_of_getElem? (i := 78) rfl))) Via.refl eh113 F109 (g := (mkF m 23 #[.val (.ref a1), .val (.long q1), .second] [(.ref a1), (.ref a1)])) rfl rfl (hb hby d7_23)
  refine Go.step st114 ?_
  show Go p.tables e below _ (T114.setTop (mkF m 26 #[.val (.ref a1), .val (.long q1), .second] [(.long wk), (.ref a1)]))
  obtain ⟨cq115, q115, q115'⟩ := F104.cell
  obtain ⟨_, _, ⟨T115, L115, k115, n115⟩, -, X115, ⟨Lc115, hQ115, l115, y115, z115⟩, st115⟩ := X114.privateBack hx (y := (⟨"com/example/ottawa/ottawa/ParseBounds", "allows", "(J)Z"⟩ : MethodName)) hown (mvT hZ (hw _ (List.mem_of_getElem? (i := 86) rfl))) (mvT hZ (hw _ (List.mem_of_getElem? (i := 87) rfl))) (own_selp (y := (⟨"com/example/ottawa/ottawa/ParseBounds", "allows", "(J)Z"⟩ : MethodName)) (mvT hZ (hw _ (List.mem_of_getElem? (i := 8) rfl))) (mvP hZ (hw _ (List.mem_of_getElem? (i := 88) rfl))) (mvT hZ (hw _ (List.mem_of_getElem? (i := 87) rfl))) (by decide)) (Cond.privateMethod_at (mvP hZ (hw _ (List.mem_of_getElem? (i := 88) rfl)) (args := #[]))) (mvT hZ (hw _ (List.mem_of_getElem? (i := 89) rfl))) (by decide) (backOf (W := 0) (rm8 l Z a0 hw [] a1 wk al ra ow h103 n0 Z110 F105 F106 F107 ) hZ (hw _ (List.mem_of_getElem? (i := 89) rfl)) (hw _ (List.mem_of_getElem? (i := 9) rfl)) (by decide) (by decide)) (g := (mkF m 26 #[.val (.ref a1), .val (.long q1), .second] [(.long wk), (.ref a1)])) rfl (by rw [hml]; rfl) (Steps.refl _) (a := a1) (by rw [e114]; exact q115) q115' (argsL := [(.long wk)]) (rest := []) (lenOf pd_1 rfl) rfl (by show 2 * 0 + _ ≤ _; exact Nat.le_of_eq rfl) (hb hby d7_26) (fun _ _ => ⟨rfl, e114, (by decide : 0 + 0 ≤ _), (by decide : 0 + 0 ≤ _)⟩)
  dsimp only [Pt.U, Pt.locs, Pt.cells, Pt.slots] at X115 l115 y115 z115 st115 hQ115
  subst l115 y115 z115
  obtain ⟨rfl, N115q, eh115⟩ := hQ115
  have N115 := Fr.app N113 N115q
  refine Go.step (fun _ kt => st115.trans kt) ?_
  show Go p.tables e below _ (T115.setTop (mkF m 29 #[.val (.ref a1), .val (.long q1), .second] [(.int (own_allows al ra ow wk))]))
  refine Go.step (fun _ kt => XS.ifYes X115.here hx rfl (pc0 := 29) (pc' := 37) rfl (hb hby d7_29) rfl ((if0 _ _).trans (feq (by rw [hA2]; decide)).2) (by decide) (by decide) kt) ?_
  show Go p.tables e below _ (T115.setTop (mkF m 37 #[.val (.ref a1), .val (.long q1), .second] []))
  obtain ⟨fs, hr, hrun, hended, hW, hsame⟩ := X115.leave (v := none) (fun _ => rfl)
  refine ⟨_, _, X115.returnOut hx Bd.returns (hb hby d7_37) hr, hrun, hended, _, _, rfl, ?_, ⟨_, rfl⟩, hW, hsame.mono (by decide) (by decide)⟩
  show Qrm7 Z a1 q1 al ra ow ex wk h0 n0 _ T115.heap _
  rw [eh115]
  refine ⟨?_, N115, K111⟩
  rfl
theorem own_ratio (f : Int32) : 1 ≤ ((1 : Int64) + ((((f.toUInt32 >>> ((1 : Int32) &&& 31).toUInt32).toInt32) &&& (3 : Int32)).toInt64)).toInt ∧ ((1 : Int64) + ((((f.toUInt32 >>> ((1 : Int32) &&& 31).toUInt32).toInt32) &&& (3 : Int32)).toInt64)).toInt ≤ 4 := by
  have h1 := c_mask ((f.toUInt32 >>> ((1 : Int32) &&& 31).toUInt32).toInt32) 3 2 (by decide) (by decide)
  have h2 := c_ladd (1 : Int64) ((((f.toUInt32 >>> ((1 : Int32) &&& 31).toUInt32).toInt32) &&& (3 : Int32)).toInt64)
  have h3 := c_i2l (((f.toUInt32 >>> ((1 : Int32) &&& 31).toUInt32).toInt32) &&& (3 : Int32))
  have h4 := rng64 ((1 : Int64) + ((((f.toUInt32 >>> ((1 : Int32) &&& 31).toUInt32).toInt32) &&& (3 : Int32)).toInt64))
  have e1 : (1 : Int64).toInt = 1 := by decide
  omega
theorem own_main (ra cc wk ex bd dv dd al : Int64) (hra : 1 ≤ ra.toInt ∧ ra.toInt ≤ 4) (hc : 0 ≤ cc.toInt ∧ cc.toInt < 1099511627776) (hwk : 0 ≤ wk.toInt ∧ wk.toInt ≤ 400)
    (hbd : bd = own_maxL cc wk) (hex : 0 ≤ ex.toInt) (hdv : dv = bd / ra + 1) (hdd : dd = ex - ex / dv * dv) (hal : al = bd - ra * dd) :
    own_allows al ra ((0 + (cc + dd)) - cc) ((0 + cc) + 0) = 1 ∧ own_allows al ra ((0 + (cc + dd)) - cc) (0 + wk) = 1 := by
  have m1 : bd.toInt = max cc.toInt wk.toInt := by
    rw [hbd]; unfold own_maxL
    split
    · rename_i q; rw [lw_lt, Int64.lt_iff_toInt_lt] at q; omega
    · rename_i q; rw [lw_lt, Int64.lt_iff_toInt_lt] at q; omega
  have b1 : 0 ≤ bd.toInt ∧ bd.toInt < 1099511627776 := by omega
  have hne : ra ≠ -1 := by intro q; rw [q] at hra; revert hra; decide
  have d1 := (c_ldiv bd ra ra.toInt rfl hne).1 b1.1
  have d2 : 0 ≤ bd.toInt / ra.toInt := Int.ediv_nonneg b1.1 (by omega)
  have d3 : bd.toInt / ra.toInt ≤ bd.toInt := Int.ediv_le_self _ b1.1
  have d4 : ra.toInt * (bd.toInt / ra.toInt) ≤ bd.toInt := Int.mul_ediv_self_le (by omega)
  have d5 := c_ladd (bd / ra) 1
  have e1 : (1 : Int64).toInt = 1 := by decide
  have e0 : (0 : Int64).toInt = 0 := by decide
  have d6 := rng64 (bd / ra + 1)
  have d7 : dv.toInt = bd.toInt / ra.toInt + 1 := by rw [hdv]; omega
  have r1 := (c_lrem ex dv dv.toInt rfl).1 hex
  rw [← hdd] at r1
  have r2 : 0 ≤ dd.toInt := by rw [r1]; exact Int.emod_nonneg _ (by omega)
  have r3 : dd.toInt < dv.toInt := by rw [r1]; exact Int.emod_lt_of_pos _ (by omega)
  have p1 : 0 ≤ ra.toInt * dd.toInt := Int.mul_nonneg (by omega) r2
  have p2 : ra.toInt * dd.toInt ≤ ra.toInt * (bd.toInt / ra.toInt) := Int.mul_le_mul_of_nonneg_left (by omega) (by omega)
  have q1 := c_lmul ra dd
  have q2 := c_lsub bd (ra * dd)
  have q3 := rng64 (ra * dd)
  have q4 := rng64 (bd - ra * dd)
  generalize ht : ra.toInt * dd.toInt = t at *
  generalize hu : ra.toInt * (bd.toInt / ra.toInt) = u at *
  have q5 : (ra * dd).toInt = t := by omega
  have q6 : al.toInt = bd.toInt - t := by rw [hal]; omega
  have o1 : ((0 + (cc + dd)) - cc : Int64) = dd := by
    rw [← Int64.toInt_inj]
    have z1 := c_ladd 0 (cc + dd)
    have z2 := c_ladd cc dd
    have z3 := c_lsub (0 + (cc + dd)) cc
    have z4 := rng64 ((0 + (cc + dd)) - cc)
    have z5 := rng64 (0 + (cc + dd))
    have z6 := rng64 (cc + dd)
    have z7 := rng64 dd
    omega
  have o2 : ((0 + cc) + 0 : Int64) = cc := by
    rw [← Int64.toInt_inj]
    have z1 := c_ladd 0 cc
    have z2 := c_ladd (0 + cc) 0
    have z3 := rng64 ((0 + cc) + 0)
    have z4 := rng64 (0 + cc)
    omega
  have o3 : (0 + wk : Int64) = wk := by
    rw [← Int64.toInt_inj]
    have z1 := c_ladd 0 wk
    have z3 := rng64 (0 + wk)
    omega
  rw [o1, o2, o3]
  have s1 := c_ladd al (ra * dd)
  have s2 := rng64 (al + ra * dd)
  have s3 : (al + ra * dd).toInt = bd.toInt := by omega
  have key : ∀ q : Int64, q.toInt ≤ bd.toInt → own_allows al ra dd q = 1 := by
    intro q hq
    have rq := rng64 q
    have ebig : (9223372036854775807 : Int64).toInt = 9223372036854775807 := by decide
    have hle : q.toInt ≤ (own_bnd al ra dd).toInt := by
      unfold own_bnd
      split
      · split
        · omega
        · omega
      · omega
    unfold own_allows
    rw [if_neg]
    rw [lw_gt, Int64.lt_iff_toInt_lt]
    omega
  exact ⟨key cc (by omega), key wk (by omega)⟩
theorem own_dvnz (ra cc wk bd dv : Int64) (hra : 1 ≤ ra.toInt ∧ ra.toInt ≤ 4) (hc : 0 ≤ cc.toInt ∧ cc.toInt < 1099511627776) (hwk : 0 ≤ wk.toInt ∧ wk.toInt ≤ 400) (hbd : bd = own_maxL cc wk) (hdv : dv = bd / ra + 1) : dv ≠ 0 := by
  have m1 : bd.toInt = max cc.toInt wk.toInt := by
    rw [hbd]; unfold own_maxL
    split
    · rename_i q; rw [lw_lt, Int64.lt_iff_toInt_lt] at q; omega
    · rename_i q; rw [lw_lt, Int64.lt_iff_toInt_lt] at q; omega
  have b1 : 0 ≤ bd.toInt ∧ bd.toInt < 1099511627776 := by omega
  have hne : ra ≠ -1 := by intro q; rw [q] at hra; revert hra; decide
  have d1 := (c_ldiv bd ra ra.toInt rfl hne).1 b1.1
  have d2 : 0 ≤ bd.toInt / ra.toInt := Int.ediv_nonneg b1.1 (by omega)
  have d3 : bd.toInt / ra.toInt ≤ bd.toInt := Int.ediv_le_self _ b1.1
  have d5 := c_ladd (bd / ra) 1
  have e1 : (1 : Int64).toInt = 1 := by decide
  have e0 : (0 : Int64).toInt = 0 := by decide
  have d6 := rng64 (bd / ra + 1)
  rw [Ne, ← Int64.toInt_inj, hdv, e0]
  omega
theorem pd_2 : parseMethodDescriptor "(JJ)J" = some ⟨[.long, .long], some .long⟩ := by decide +kernel
theorem pd_3 : parseMethodDescriptor "(JJLcom/example/ottawa/ottawa/ParseBounds$Limit;Lcom/example/ottawa/ottawa/ParseBounds$Limit;Lcom/example/ottawa/ottawa/ParseBounds$Limit;Lcom/example/ottawa/ottawa/ParseBounds$Limit;Lcom/example/ottawa/ottawa/ParseBounds$Limit;Lcom/example/ottawa/ottawa/ParseBounds$Limit;)V" = some ⟨[.long, .long, (.object "com/example/ottawa/ottawa/ParseBounds$Limit"), (.object "com/example/ottawa/ottawa/ParseBounds$Limit"), (.object "com/example/ottawa/ottawa/ParseBounds$Limit"), (.object "com/example/ottawa/ottawa/ParseBounds$Limit"), (.object "com/example/ottawa/ottawa/ParseBounds$Limit"), (.object "com/example/ottawa/ottawa/ParseBounds$Limit")], none⟩ := by decide +kernel
theorem pd_4 : parseMethodDescriptor "(J)V" = some ⟨[.long], none⟩ := by decide +kernel
theorem pd_5 : parseMethodDescriptor "(JZ)V" = some ⟨[.long, .boolean], none⟩ := by decide +kernel
theorem pn_2 : plainName "com/example/ottawa/ottawa/ParseBoundsCountTextReadAgainPinLaw" = true := by first | (simp [plainName, overriddenIn]; done) | decide +kernel
theorem ef_rm0 (m : MethodId) (q1 : Int64) (q2 : Int64) (p1 : Int32) : entryFrame m #[(.long q1), (.long q2), (.int p1)] maxLocals = mkF m 0 #[.val (.long q1), .second, .val (.long q2), .second, .val (.int p1), .unset, .unset, .unset, .unset, .unset, .unset, .unset, .unset, .unset, .unset, .unset, .unset, .unset, .unset] [] := by first | (simp [entryFrame, mkF, argsToLocals, Value.category, maxLocals]; done) | rfl
def Qrm0 (Z : State) (q1 : Int64) (q2 : Int64) (p1 : Int32) (h0 : Heap) (n0 : Nat) (v : Option Value) (h : Heap) (L : List Loc) : Prop := v = some (.int 1) ∧ Fr n0 L
set_option maxRecDepth 65536 in
set_option maxHeartbeats 40000000 in
theorem rm0 (l : Launch) (Z : State) (a0 : Array Value) (hw : ∀ d ∈ tables_1, d.before a0 Z = true) (ws : List Jvm.Cond) (q1 : Int64) (q2 : Int64) (p1 : Int32) (h0 : Heap) (n0 : Nat) (Z0 : n0 ≤ h0.size) :
    MetFree l x (head1 (Jvm.Cond.code x code maxLocals ret :: ws) room_1) (fun a U => a = #[(.long q1), (.long q2), (.int p1)] ∧ Z.Warmed39 U.vm ∧ U.heap = h0) (fun _ _ _ _ _ => True) (fun _ U o U' => ∃ v L, o = .returned v ∧ Qrm0 Z q1 q2 p1 h0 n0 v U'.heap L ∧ ReturnedEndW U o U' L room_1.cells room_1.slots) := by
  refine MetFree.of_bodySF (plainFor_of_name pn_2) hisR ?_
  intro p e s m args below meth c s₁ Bd hml0 hP hK
  obtain ⟨rfl, hZ, hh⟩ := hP
  have hx := Bd.exec
  have hby := Bd.bytes
  have hml : c.maxLocals = 19 := hml0
  have hown : s.vm.findClass "com/example/ottawa/ottawa/ParseBoundsCountTextReadAgainPinLaw" = some m.cls := findClass_of_methodNamed Bd.named
  have hnm := (name_of_methodNamed Bd.named Bd.method).1
  have X0 : Stand p l e room_1 (s.setVm s.vm) m #[(.long q1), (.long q2), (.int p1)] below meth c s₁ [] 0 0 := Stand.of_body Bd
  have e0 : s₁.heap = h0 := by rw [← hh, Bd.state]; rfl
  have N0 := Fr.nil n0
  have hS0 : s.Since s.vm s.heap.size := (State.WarmedH.refl s).since _
  have hk0 : s.heap.size ≤ h0.size := Nat.le_of_eq (congrArg Array.size hh)
  show Go p.tables e below (fun o U' => ∃ v L, o = .returned v ∧ Qrm0 Z q1 q2 p1 h0 n0 v U'.heap L ∧ ReturnedEndW s o U' L room_1.cells room_1.slots) _
  refine Go.step (fun t kt => castTop (ef_rm0 m q1 q2 p1) kt) ?_
  show Go p.tables e below _ (s₁.setTop (mkF m 0 #[.val (.long q1), .second, .val (.long q2), .second, .val (.int p1), .unset, .unset, .unset, .unset, .unset, .unset, .unset, .unset, .unset, .unset, .unset, .unset, .unset, .unset] []))
  refine Go.step (fun _ kt => XS.iload X0.here hx rfl (hb hby at_0) rfl kt) ?_
  show Go p.tables e below _ (s₁.setTop (mkF m 2 #[.val (.long q1), .second, .val (.long q2), .second, .val (.int p1), .unset, .unset, .unset, .unset, .unset, .unset, .unset, .unset, .unset, .unset, .unset, .unset, .unset, .unset] [(.int p1)]))
  refine Go.step (fun _ kt => XS.iconst X0.here hx rfl (hb hby at_2) kt) ?_
  show Go p.tables e below _ (s₁.setTop (mkF m 3 #[.val (.long q1), .second, .val (.long q2), .second, .val (.int p1), .unset, .unset, .unset, .unset, .unset, .unset, .unset, .unset, .unset, .unset, .unset, .unset, .unset, .unset] [(.int (1 : Int32)), (.int p1)]))
  refine Go.step (fun _ kt => XS.iand X0.here hx rfl (hb hby at_3) rfl kt) ?_
  show Go p.tables e below _ (s₁.setTop (mkF m 4 #[.val (.long q1), .second, .val (.long q2), .second, .val (.int p1), .unset, .unset, .unset, .unset, .unset, .unset, .unset, .unset, .unset, .unset, .unset, .unset, .unset, .unset] [(.int (p1 &&& (1 : Int32)))]))
  by_cases hc4_101 : (p1 &&& (1 : Int32)) = (0 : Int32)
  · refine Go.step (fun _ kt => XS.ifYes X0.here hx rfl (pc0 := 4) (pc' := 11) rfl (hb hby at_4) rfl ((if0 _ _).trans (teq hc4_101).1) (by decide) (by decide) kt) ?_
    show Go p.tables e below _ (s₁.setTop (mkF m 11 #[.val (.long q1), .second, .val (.long q2), .second, .val (.int p1), .unset, .unset, .unset, .unset, .unset, .unset, .unset, .unset, .unset, .unset, .unset, .unset, .unset, .unset] []))
    refine Go.step (fun _ kt => XS.iconst X0.here hx rfl (hb hby at_11) kt) ?_
    show Go p.tables e below _ (s₁.setTop (mkF m 12 #[.val (.long q1), .second, .val (.long q2), .second, .val (.int p1), .unset, .unset, .unset, .unset, .unset, .unset, .unset, .unset, .unset, .unset, .unset, .unset, .unset, .unset] [(.int (0 : Int32))]))
    refine Go.step (fun _ kt => XS.istore X0.here hx rfl (hb hby at_12) rfl (l' := #[.val (.long q1), .second, .val (.long q2), .second, .val (.int p1), .val (.int (0 : Int32)), .unset, .unset, .unset, .unset, .unset, .unset, .unset, .unset, .unset, .unset, .unset, .unset, .unset]) rfl kt) ?_
    show Go p.tables e below _ (s₁.setTop (mkF m 14 #[.val (.long q1), .second, .val (.long q2), .second, .val (.int p1), .val (.int (0 : Int32)), .unset, .unset, .unset, .unset, .unset, .unset, .unset, .unset, .unset, .unset, .unset, .unset, .unset] []))
    refine Go.step (fun _ kt => XS.lconst X0.here hx rfl (hb hby at_14) kt) ?_
    show Go p.tables e below _ (s₁.setTop (mkF m 15 #[.val (.long q1), .second, .val (.long q2), .second, .val (.int p1), .val (.int (0 : Int32)), .unset, .unset, .unset, .unset, .unset, .unset, .unset, .unset, .unset, .unset, .unset, .unset, .unset] [(.long (1 : Int64))]))
    refine Go.step (fun _ kt => XS.iload X0.here hx rfl (hb hby at_15) rfl kt) ?_
    show Go p.tables e below _ (s₁.setTop (mkF m 17 #[.val (.long q1), .second, .val (.long q2), .second, .val (.int p1), .val (.int (0 : Int32)), .unset, .unset, .unset, .unset, .unset, .unset, .unset, .unset, .unset, .unset, .unset, .unset, .unset] [(.int p1), (.long (1 : Int64))]))
    refine Go.step (fun _ kt => XS.iconst X0.here hx rfl (hb hby at_17) kt) ?_
    show Go p.tables e below _ (s₁.setTop (mkF m 18 #[.val (.long q1), .second, .val (.long q2), .second, .val (.int p1), .val (.int (0 : Int32)), .unset, .unset, .unset, .unset, .unset, .unset, .unset, .unset, .unset, .unset, .unset, .unset, .unset] [(.int (1 : Int32)), (.int p1), (.long (1 : Int64))]))
    refine Go.step (fun _ kt => XS.iushr X0.here hx rfl (hb hby at_18) rfl kt) ?_
    show Go p.tables e below _ (s₁.setTop (mkF m 19 #[.val (.long q1), .second, .val (.long q2), .second, .val (.int p1), .val (.int (0 : Int32)), .unset, .unset, .unset, .unset, .unset, .unset, .unset, .unset, .unset, .unset, .unset, .unset, .unset] [(.int ((p1.toUInt32 >>> ((1 : Int32) &&& 31).toUInt32).toInt32)), (.long (1 : Int64))]))
    refine Go.step (fun _ kt => XS.iconst X0.here hx rfl (hb hby at_19) kt) ?_
    show Go p.tables e below _ (s₁.setTop (mkF m 20 #[.val (.long q1), .second, .val (.long q2), .second, .val (.int p1), .val (.int (0 : Int32)), .unset, .unset, .unset, .unset, .unset, .unset, .unset, .unset, .unset, .unset, .unset, .unset, .unset] [(.int (3 : Int32)), (.int ((p1.toUInt32 >>> ((1 : Int32) &&& 31).toUInt32).toInt32)), (.long (1 : Int64))]))
    refine Go.step (fun _ kt => XS.iand X0.here hx rfl (hb hby at_20) rfl kt) ?_
    show Go p.tables e below _ (s₁.setTop (mkF m 21 #[.val (.long q1), .second, .val (.long q2), .second, .val (.int p1), .val (.int (0 : Int32)), .unset, .unset, .unset, .unset, .unset, .unset, .unset, .unset, .unset, .unset, .unset, .unset, .unset] [(.int (((p1.toUInt32 >>> ((1 : Int32) &&& 31).toUInt32).toInt32) &&& (3 : Int32))), (.long (1 : Int64))]))
    refine Go.step (fun _ kt => XS.i2l X0.here hx rfl (hb hby at_21) rfl kt) ?_
    show Go p.tables e below _ (s₁.setTop (mkF m 22 #[.val (.long q1), .second, .val (.long q2), .second, .val (.int p1), .val (.int (0 : Int32)), .unset, .unset, .unset, .unset, .unset, .unset, .unset, .unset, .unset, .unset, .unset, .unset, .unset] [(.long ((((p1.toUInt32 >>> ((1 : Int32) &&& 31).toUInt32).toInt32) &&& (3 : Int32)).toInt64)), (.long (1 : Int64))]))
    refine Go.step (fun _ kt => XS.ladd X0.here hx rfl (hb hby at_22) rfl kt) ?_
    show Go p.tables e below _ (s₁.setTop (mkF m 23 #[.val (.long q1), .second, .val (.long q2), .second, .val (.int p1), .val (.int (0 : Int32)), .unset, .unset, .unset, .unset, .unset, .unset, .unset, .unset, .unset, .unset, .unset, .unset, .unset] [(.long ((1 : Int64) + ((((p1.toUInt32 >>> ((1 : Int32) &&& 31).toUInt32).toInt32) &&& (3 : Int32)).toInt64)))]))
    obtain ⟨ra, e_ra⟩ : ∃ nm_, nm_ = ((1 : Int64) + ((((p1.toUInt32 >>> ((1 : Int32) &&& 31).toUInt32).toInt32) &&& (3 : Int32)).toInt64)) := ⟨_, rfl⟩
    rw [← e_ra]
    show Go p.tables e below _ (s₁.setTop (mkF m 23 #[.val (.long q1), .second, .val (.long q2), .second, .val (.int p1), .val (.int (0 : Int32)), .unset, .unset, .unset, .unset, .unset, .unset, .unset, .unset, .unset, .unset, .unset, .unset, .unset] [(.long ra)]))
    refine Go.step (fun _ kt => XS.lstore X0.here hx rfl (hb hby at_23) rfl (l' := #[.val (.long q1), .second, .val (.long q2), .second, .val (.int p1), .val (.int (0 : Int32)), .val (.long ra), .second, .unset, .unset, .unset, .unset, .unset, .unset, .unset, .unset, .unset, .unset, .unset]) rfl kt) ?_
    show Go p.tables e below _ (s₁.setTop (mkF m 25 #[.val (.long q1), .second, .val (.long q2), .second, .val (.int p1), .val (.int (0 : Int32)), .val (.long ra), .second, .unset, .unset, .unset, .unset, .unset, .unset, .unset, .unset, .unset, .unset, .unset] []))
    refine Go.step (fun _ kt => XS.lloadN X0.here hx rfl (hb hby at_25) rfl kt) ?_
    show Go p.tables e below _ (s₁.setTop (mkF m 26 #[.val (.long q1), .second, .val (.long q2), .second, .val (.int p1), .val (.int (0 : Int32)), .val (.long ra), .second, .unset, .unset, .unset, .unset, .unset, .unset, .unset, .unset, .unset, .unset, .unset] [(.long q1)]))
    refine Go.step (X0.ldc2Long hx hown (mvT hZ (hw _ (List.mem_of_getElem? (i := 0) rfl))) (g := (mkF m 26 #[.val (.long q1), .second, .val (.long q2), .second, .val (.int p1), .val (.int (0 : Int32)), .val (.long ra), .second, .unset, .unset, .unset, .unset, .unset, .unset, .unset, .unset, .unset, .unset, .unset] [(.long q1)])) rfl (hb hby at_26)) ?_
    show Go p.tables e below _ (s₁.setTop (mkF m 29 #[.val (.long q1), .second, .val (.long q2), .second, .val (.int p1), .val (.int (0 : Int32)), .val (.long ra), .second, .unset, .unset, .unset, .unset, .unset, .unset, .unset, .unset, .unset, .unset, .unset] [(.long (1099511627775 : Int64)), (.long q1)]))
    refine Go.step (fun _ kt => XS.land X0.here hx rfl (hb hby at_29) rfl kt) ?_
    show Go p.tables e below _ (s₁.setTop (mkF m 30 #[.val (.long q1), .second, .val (.long q2), .second, .val (.int p1), .val (.int (0 : Int32)), .val (.long ra), .second, .unset, .unset, .unset, .unset, .unset, .unset, .unset, .unset, .unset, .unset, .unset] [(.long (q1 &&& (1099511627775 : Int64)))]))
    obtain ⟨cc, e_cc⟩ : ∃ nm_, nm_ = (q1 &&& (1099511627775 : Int64)) := ⟨_, rfl⟩
    rw [← e_cc]
    show Go p.tables e below _ (s₁.setTop (mkF m 30 #[.val (.long q1), .second, .val (.long q2), .second, .val (.int p1), .val (.int (0 : Int32)), .val (.long ra), .second, .unset, .unset, .unset, .unset, .unset, .unset, .unset, .unset, .unset, .unset, .unset] [(.long cc)]))
    refine Go.step (fun _ kt => XS.lstore X0.here hx rfl (hb hby at_30) rfl (l' := #[.val (.long q1), .second, .val (.long q2), .second, .val (.int p1), .val (.int (0 : Int32)), .val (.long ra), .second, .val (.long cc), .second, .unset, .unset, .unset, .unset, .unset, .unset, .unset, .unset, .unset]) rfl kt) ?_
    show Go p.tables e below _ (s₁.setTop (mkF m 32 #[.val (.long q1), .second, .val (.long q2), .second, .val (.int p1), .val (.int (0 : Int32)), .val (.long ra), .second, .val (.long cc), .second, .unset, .unset, .unset, .unset, .unset, .unset, .unset, .unset, .unset] []))
    refine Go.step (fun _ kt => XS.iload X0.here hx rfl (hb hby at_32) rfl kt) ?_
    show Go p.tables e below _ (s₁.setTop (mkF m 34 #[.val (.long q1), .second, .val (.long q2), .second, .val (.int p1), .val (.int (0 : Int32)), .val (.long ra), .second, .val (.long cc), .second, .unset, .unset, .unset, .unset, .unset, .unset, .unset, .unset, .unset] [(.int (0 : Int32))]))
    refine Go.step (fun _ kt => XS.ifYes X0.here hx rfl (pc0 := 34) (pc' := 43) rfl (hb hby at_34) rfl ((if0 _ _).trans (teq (by decide : (0 : Int32) = (0 : Int32))).1) (by decide) (by decide) kt) ?_
    show Go p.tables e below _ (s₁.setTop (mkF m 43 #[.val (.long q1), .second, .val (.long q2), .second, .val (.int p1), .val (.int (0 : Int32)), .val (.long ra), .second, .val (.long cc), .second, .unset, .unset, .unset, .unset, .unset, .unset, .unset, .unset, .unset] []))
    refine Go.step (X0.ldc2Long hx hown (mvT hZ (hw _ (List.mem_of_getElem? (i := 1) rfl))) (g := (mkF m 43 #[.val (.long q1), .second, .val (.long q2), .second, .val (.int p1), .val (.int (0 : Int32)), .val (.long ra), .second, .val (.long cc), .second, .unset, .unset, .unset, .unset, .unset, .unset, .unset, .unset, .unset] [])) rfl (hb hby at_43)) ?_
    show Go p.tables e below _ (s₁.setTop (mkF m 46 #[.val (.long q1), .second, .val (.long q2), .second, .val (.int p1), .val (.int (0 : Int32)), .val (.long ra), .second, .val (.long cc), .second, .unset, .unset, .unset, .unset, .unset, .unset, .unset, .unset, .unset] [(.long (400 : Int64))]))
    refine Go.step (fun _ kt => XS.lstore X0.here hx rfl (hb hby at_46) rfl (l' := #[.val (.long q1), .second, .val (.long q2), .second, .val (.int p1), .val (.int (0 : Int32)), .val (.long ra), .second, .val (.long cc), .second, .val (.long (400 : Int64)), .second, .unset, .unset, .unset, .unset, .unset, .unset, .unset]) rfl kt) ?_
    show Go p.tables e below _ (s₁.setTop (mkF m 48 #[.val (.long q1), .second, .val (.long q2), .second, .val (.int p1), .val (.int (0 : Int32)), .val (.long ra), .second, .val (.long cc), .second, .val (.long (400 : Int64)), .second, .unset, .unset, .unset, .unset, .unset, .unset, .unset] []))
    refine Go.step (fun _ kt => XS.lload X0.here hx rfl (hb hby at_48) rfl kt) ?_
    show Go p.tables e below _ (s₁.setTop (mkF m 50 #[.val (.long q1), .second, .val (.long q2), .second, .val (.int p1), .val (.int (0 : Int32)), .val (.long ra), .second, .val (.long cc), .second, .val (.long (400 : Int64)), .second, .unset, .unset, .unset, .unset, .unset, .unset, .unset] [(.long cc)]))
    refine Go.step (fun _ kt => XS.lload X0.here hx rfl (hb hby at_50) rfl kt) ?_
    show Go p.tables e below _ (s₁.setTop (mkF m 52 #[.val (.long q1), .second, .val (.long q2), .second, .val (.int p1), .val (.int (0 : Int32)), .val (.long ra), .second, .val (.long cc), .second, .val (.long (400 : Int64)), .second, .unset, .unset, .unset, .unset, .unset, .unset, .unset] [(.long (400 : Int64)), (.long cc)]))
    obtain ⟨_, _, ⟨T102, L102, k102, n102⟩, -, X102, ⟨Lc102, hQ102, l102, y102, z102⟩, st102⟩ := Jvm.LawKit.callS X0 hx (y := (⟨"java/lang/Math", "max", "(JJ)J"⟩ : MethodName)) hown (mvT hZ (hw _ (List.mem_of_getElem? (i := 2) rfl))) (mvT hZ (hw _ (List.mem_of_getElem? (i := 3) rfl))) (mvT hZ (hw _ (List.mem_of_getElem? (i := 4) rfl))) (mvT hZ (hw _ (List.mem_of_getElem? (i := 5) rfl))) (by decide) (backOf (W := 0) (rm1 l Z a0 hw [] cc (400 : Int64)  h0 n0 Z0  ) hZ (hw _ (List.mem_of_getElem? (i := 5) rfl)) (hw _ (List.mem_of_getElem? (i := 4) rfl)) (by decide) (by decide)) (g := (mkF m 52 #[.val (.long q1), .second, .val (.long q2), .second, .val (.int p1), .val (.int (0 : Int32)), .val (.long ra), .second, .val (.long cc), .second, .val (.long (400 : Int64)), .second, .unset, .unset, .unset, .unset, .unset, .unset, .unset] [(.long (400 : Int64)), (.long cc)])) rfl (by rw [hml]; rfl) (argsL := [(.long cc), (.long (400 : Int64))]) (rest := []) (lenOf pd_2 rfl) rfl (by show 2 * 0 + _ ≤ _; exact Nat.le_of_eq rfl) (hb hby at_52) (fun _ _ => ⟨rfl, e0, (by decide : 0 + 0 ≤ _), (by decide : 0 + 0 ≤ _)⟩)
    dsimp only [Pt.U, Pt.locs, Pt.cells, Pt.slots] at X102 l102 y102 z102 st102 hQ102
    subst l102 y102 z102
    obtain ⟨rfl, N102q, eh102⟩ := hQ102
    have N102 := Fr.app N0 N102q
    refine Go.step st102 ?_
    show Go p.tables e below _ (T102.setTop (mkF m 55 #[.val (.long q1), .second, .val (.long q2), .second, .val (.int p1), .val (.int (0 : Int32)), .val (.long ra), .second, .val (.long cc), .second, .val (.long (400 : Int64)), .second, .unset, .unset, .unset, .unset, .unset, .unset, .unset] [(.long (own_maxL cc (400 : Int64)))]))
    obtain ⟨bd, e_bd⟩ : ∃ nm_, nm_ = (own_maxL cc (400 : Int64)) := ⟨_, rfl⟩
    rw [← e_bd]
    show Go p.tables e below _ (T102.setTop (mkF m 55 #[.val (.long q1), .second, .val (.long q2), .second, .val (.int p1), .val (.int (0 : Int32)), .val (.long ra), .second, .val (.long cc), .second, .val (.long (400 : Int64)), .second, .unset, .unset, .unset, .unset, .unset, .unset, .unset] [(.long bd)]))
    refine Go.step (fun _ kt => XS.lstore X102.here hx rfl (hb hby at_55) rfl (l' := #[.val (.long q1), .second, .val (.long q2), .second, .val (.int p1), .val (.int (0 : Int32)), .val (.long ra), .second, .val (.long cc), .second, .val (.long (400 : Int64)), .second, .val (.long bd), .second, .unset, .unset, .unset, .unset, .unset]) rfl kt) ?_
    show Go p.tables e below _ (T102.setTop (mkF m 57 #[.val (.long q1), .second, .val (.long q2), .second, .val (.int p1), .val (.int (0 : Int32)), .val (.long ra), .second, .val (.long cc), .second, .val (.long (400 : Int64)), .second, .val (.long bd), .second, .unset, .unset, .unset, .unset, .unset] []))
    refine Go.step (fun _ kt => XS.lloadN X102.here hx rfl (hb hby at_57) rfl kt) ?_
    show Go p.tables e below _ (T102.setTop (mkF m 58 #[.val (.long q1), .second, .val (.long q2), .second, .val (.int p1), .val (.int (0 : Int32)), .val (.long ra), .second, .val (.long cc), .second, .val (.long (400 : Int64)), .second, .val (.long bd), .second, .unset, .unset, .unset, .unset, .unset] [(.long q2)]))
    refine Go.step (X102.ldc2Long hx hown (mvT hZ (hw _ (List.mem_of_getElem? (i := 6) rfl))) (g := (mkF m 58 #[.val (.long q1), .second, .val (.long q2), .second, .val (.int p1), .val (.int (0 : Int32)), .val (.long ra), .second, .val (.long cc), .second, .val (.long (400 : Int64)), .second, .val (.long bd), .second, .unset, .unset, .unset, .unset, .unset] [(.long q2)])) rfl (hb hby at_58)) ?_
    show Go p.tables e below _ (T102.setTop (mkF m 61 #[.val (.long q1), .second, .val (.long q2), .second, .val (.int p1), .val (.int (0 : Int32)), .val (.long ra), .second, .val (.long cc), .second, .val (.long (400 : Int64)), .second, .val (.long bd), .second, .unset, .unset, .unset, .unset, .unset] [(.long (9223372036854775807 : Int64)), (.long q2)]))
    refine Go.step (fun _ kt => XS.land X102.here hx rfl (hb hby at_61) rfl kt) ?_
    show Go p.tables e below _ (T102.setTop (mkF m 62 #[.val (.long q1), .second, .val (.long q2), .second, .val (.int p1), .val (.int (0 : Int32)), .val (.long ra), .second, .val (.long cc), .second, .val (.long (400 : Int64)), .second, .val (.long bd), .second, .unset, .unset, .unset, .unset, .unset] [(.long (q2 &&& (9223372036854775807 : Int64)))]))
    refine Go.step (fun _ kt => XS.lload X102.here hx rfl (hb hby at_62) rfl kt) ?_
    show Go p.tables e below _ (T102.setTop (mkF m 64 #[.val (.long q1), .second, .val (.long q2), .second, .val (.int p1), .val (.int (0 : Int32)), .val (.long ra), .second, .val (.long cc), .second, .val (.long (400 : Int64)), .second, .val (.long bd), .second, .unset, .unset, .unset, .unset, .unset] [(.long bd), (.long (q2 &&& (9223372036854775807 : Int64)))]))
    refine Go.step (fun _ kt => XS.lload X102.here hx rfl (hb hby at_64) rfl kt) ?_
    show Go p.tables e below _ (T102.setTop (mkF m 66 #[.val (.long q1), .second, .val (.long q2), .second, .val (.int p1), .val (.int (0 : Int32)), .val (.long ra), .second, .val (.long cc), .second, .val (.long (400 : Int64)), .second, .val (.long bd), .second, .unset, .unset, .unset, .unset, .unset] [(.long ra), (.long bd), (.long (q2 &&& (9223372036854775807 : Int64)))]))
    refine Go.step (fun _ kt => XS.ldiv X102.here hx rfl (hb hby at_66) rfl (by intro q0; have := own_ratio p1; rw [← e_ra, q0] at this; revert this; decide) kt) ?_
    show Go p.tables e below _ (T102.setTop (mkF m 67 #[.val (.long q1), .second, .val (.long q2), .second, .val (.int p1), .val (.int (0 : Int32)), .val (.long ra), .second, .val (.long cc), .second, .val (.long (400 : Int64)), .second, .val (.long bd), .second, .unset, .unset, .unset, .unset, .unset] [(.long (bd / ra)), (.long (q2 &&& (9223372036854775807 : Int64)))]))
    refine Go.step (fun _ kt => XS.lconst X102.here hx rfl (hb hby at_67) kt) ?_
    show Go p.tables e below _ (T102.setTop (mkF m 68 #[.val (.long q1), .second, .val (.long q2), .second, .val (.int p1), .val (.int (0 : Int32)), .val (.long ra), .second, .val (.long cc), .second, .val (.long (400 : Int64)), .second, .val (.long bd), .second, .unset, .unset, .unset, .unset, .unset] [(.long (1 : Int64)), (.long (bd / ra)), (.long (q2 &&& (9223372036854775807 : Int64)))]))
    refine Go.step (fun _ kt => XS.ladd X102.here hx rfl (hb hby at_68) rfl kt) ?_
    show Go p.tables e below _ (T102.setTop (mkF m 69 #[.val (.long q1), .second, .val (.long q2), .second, .val (.int p1), .val (.int (0 : Int32)), .val (.long ra), .second, .val (.long cc), .second, .val (.long (400 : Int64)), .second, .val (.long bd), .second, .unset, .unset, .unset, .unset, .unset] [(.long ((bd / ra) + (1 : Int64))), (.long (q2 &&& (9223372036854775807 : Int64)))]))
    obtain ⟨dv, e_dv⟩ : ∃ nm_, nm_ = ((bd / ra) + (1 : Int64)) := ⟨_, rfl⟩
    rw [← e_dv]
    show Go p.tables e below _ (T102.setTop (mkF m 69 #[.val (.long q1), .second, .val (.long q2), .second, .val (.int p1), .val (.int (0 : Int32)), .val (.long ra), .second, .val (.long cc), .second, .val (.long (400 : Int64)), .second, .val (.long bd), .second, .unset, .unset, .unset, .unset, .unset] [(.long dv), (.long (q2 &&& (9223372036854775807 : Int64)))]))
    refine Go.step (fun _ kt => XS.lrem X102.here hx rfl (hb hby at_69) rfl (own_dvnz ra cc (400 : Int64) bd dv (by rw [e_ra]; exact own_ratio p1) (by rw [e_cc, c_maskL q1 1099511627775 40 (by decide) (by decide)]; omega) (by decide) e_bd e_dv) kt) ?_
    show Go p.tables e below _ (T102.setTop (mkF m 70 #[.val (.long q1), .second, .val (.long q2), .second, .val (.int p1), .val (.int (0 : Int32)), .val (.long ra), .second, .val (.long cc), .second, .val (.long (400 : Int64)), .second, .val (.long bd), .second, .unset, .unset, .unset, .unset, .unset] [(.long ((q2 &&& (9223372036854775807 : Int64)) - ((q2 &&& (9223372036854775807 : Int64)) / dv) * dv))]))
    obtain ⟨dd, e_dd⟩ : ∃ nm_, nm_ = ((q2 &&& (9223372036854775807 : Int64)) - ((q2 &&& (9223372036854775807 : Int64)) / dv) * dv) := ⟨_, rfl⟩
    rw [← e_dd]
    show Go p.tables e below _ (T102.setTop (mkF m 70 #[.val (.long q1), .second, .val (.long q2), .second, .val (.int p1), .val (.int (0 : Int32)), .val (.long ra), .second, .val (.long cc), .second, .val (.long (400 : Int64)), .second, .val (.long bd), .second, .unset, .unset, .unset, .unset, .unset] [(.long dd)]))
    refine Go.step (fun _ kt => XS.lstore X102.here hx rfl (hb hby at_70) rfl (l' := #[.val (.long q1), .second, .val (.long q2), .second, .val (.int p1), .val (.int (0 : Int32)), .val (.long ra), .second, .val (.long cc), .second, .val (.long (400 : Int64)), .second, .val (.long bd), .second, .val (.long dd), .second, .unset, .unset, .unset]) rfl kt) ?_
    show Go p.tables e below _ (T102.setTop (mkF m 72 #[.val (.long q1), .second, .val (.long q2), .second, .val (.int p1), .val (.int (0 : Int32)), .val (.long ra), .second, .val (.long cc), .second, .val (.long (400 : Int64)), .second, .val (.long bd), .second, .val (.long dd), .second, .unset, .unset, .unset] []))
    refine Go.step (fun _ kt => XS.lload X102.here hx rfl (hb hby at_72) rfl kt) ?_
    show Go p.tables e below _ (T102.setTop (mkF m 74 #[.val (.long q1), .second, .val (.long q2), .second, .val (.int p1), .val (.int (0 : Int32)), .val (.long ra), .second, .val (.long cc), .second, .val (.long (400 : Int64)), .second, .val (.long bd), .second, .val (.long dd), .second, .unset, .unset, .unset] [(.long bd)]))
    refine Go.step (fun _ kt => XS.lload X102.here hx rfl (hb hby at_74) rfl kt) ?_
    show Go p.tables e below _ (T102.setTop (mkF m 76 #[.val (.long q1), .second, .val (.long q2), .second, .val (.int p1), .val (.int (0 : Int32)), .val (.long ra), .second, .val (.long cc), .second, .val (.long (400 : Int64)), .second, .val (.long bd), .second, .val (.long dd), .second, .unset, .unset, .unset] [(.long ra), (.long bd)]))
    refine Go.step (fun _ kt => XS.lload X102.here hx rfl (hb hby at_76) rfl kt) ?_
    show Go p.tables e below _ (T102.setTop (mkF m 78 #[.val (.long q1), .second, .val (.long q2), .second, .val (.int p1), .val (.int (0 : Int32)), .val (.long ra), .second, .val (.long cc), .second, .val (.long (400 : Int64)), .second, .val (.long bd), .second, .val (.long dd), .second, .unset, .unset, .unset] [(.long dd), (.long ra), (.long bd)]))
    refine Go.step (fun _ kt => XS.lmul X102.here hx rfl (hb hby at_78) rfl kt) ?_
    show Go p.tables e below _ (T102.setTop (mkF m 79 #[.val (.long q1), .second, .val (.long q2), .second, .val (.int p1), .val (.int (0 : Int32)), .val (.long ra), .second, .val (.long cc), .second, .val (.long (400 : Int64)), .second, .val (.long bd), .second, .val (.long dd), .second, .unset, .unset, .unset] [(.long (ra * dd)), (.long bd)]))
    refine Go.step (fun _ kt => XS.lsub X102.here hx rfl (hb hby at_79) rfl kt) ?_
    show Go p.tables e below _ (T102.setTop (mkF m 80 #[.val (.long q1), .second, .val (.long q2), .second, .val (.int p1), .val (.int (0 : Int32)), .val (.long ra), .second, .val (.long cc), .second, .val (.long (400 : Int64)), .second, .val (.long bd), .second, .val (.long dd), .second, .unset, .unset, .unset] [(.long (bd - (ra * dd)))]))
    obtain ⟨al, e_al⟩ : ∃ nm_, nm_ = (bd - (ra * dd)) := ⟨_, rfl⟩
    rw [← e_al]
    show Go p.tables e below _ (T102.setTop (mkF m 80 #[.val (.long q1), .second, .val (.long q2), .second, .val (.int p1), .val (.int (0 : Int32)), .val (.long ra), .second, .val (.long cc), .second, .val (.long (400 : Int64)), .second, .val (.long bd), .second, .val (.long dd), .second, .unset, .unset, .unset] [(.long al)]))
    refine Go.step (fun _ kt => XS.lstore X102.here hx rfl (hb hby at_80) rfl (l' := #[.val (.long q1), .second, .val (.long q2), .second, .val (.int p1), .val (.int (0 : Int32)), .val (.long ra), .second, .val (.long cc), .second, .val (.long (400 : Int64)), .second, .val (.long bd), .second, .val (.long dd), .second, .val (.long al), .second, .unset]) rfl kt) ?_
    show Go p.tables e below _ (T102.setTop (mkF m 82 #[.val (.long q1), .second, .val (.long q2), .second, .val (.int p1), .val (.int (0 : Int32)), .val (.long ra), .second, .val (.long cc), .second, .val (.long (400 : Int64)), .second, .val (.long bd), .second, .val (.long dd), .second, .val (.long al), .second, .unset] []))
    obtain ⟨T103, h103, X103, e103, E103, A103, D103, -, st103⟩ := newO X102 hx hZ hown (hw _ (List.mem_of_getElem? (i := 7) rfl)) (hw _ (List.mem_of_getElem? (i := 8) rfl)) (hw _ (List.mem_of_getElem? (i := 9) rfl)) eh102 (g := (mkF m 82 #[.val (.long q1), .second, .val (.long q2), .second, .val (.int p1), .val (.int (0 : Int32)), .val (.long ra), .second, .val (.long cc), .second, .val (.long (400 : Int64)), .second, .val (.long bd), .second, .val (.long dd), .second, .val (.long al), .second, .unset] [])) rfl (hb hby at_82) (by decide) (by decide)
    obtain ⟨b103, g103⟩ : ∃ z, z = h0.size := ⟨_, rfl⟩
    rw [← g103] at A103 D103 st103
    refine Go.step st103 ?_
    have g_b103 : n0 ≤ b103 := Nat.le_trans Z0 (Nat.le_of_eq g103.symm)
    have Z104 : n0 ≤ h103.size := (Nat.le_trans Z0 E103.1)
    have hk105 : _ ≤ h103.size := (Nat.le_trans hk0 E103.1)
    have F106 : Fld Z h103 b103 "com/example/ottawa/ottawa/ParseBounds" "allowance" "J" (.long (0 : Int64)) := D103 (Or.inr (hw _ (List.mem_of_getElem? (i := 17) rfl))) (ty := .long) (by decide)
    have F107 : Fld Z h103 b103 "com/example/ottawa/ottawa/ParseBounds" "ratio" "J" (.long (0 : Int64)) := D103 (Or.inr (hw _ (List.mem_of_getElem? (i := 19) rfl))) (ty := .long) (by decide)
    have F108 : Fld Z h103 b103 "com/example/ottawa/ottawa/ParseBounds" "textLimit" "Lcom/example/ottawa/ottawa/ParseBounds$Limit;" .null := D103 (Or.inr (hw _ (List.mem_of_getElem? (i := 21) rfl))) (ty := (.object "com/example/ottawa/ottawa/ParseBounds$Limit")) (by decide)
    have F109 : Fld Z h103 b103 "com/example/ottawa/ottawa/ParseBounds" "heapLimit" "Lcom/example/ottawa/ottawa/ParseBounds$Limit;" .null := D103 (Or.inr (hw _ (List.mem_of_getElem? (i := 23) rfl))) (ty := (.object "com/example/ottawa/ottawa/ParseBounds$Limit")) (by decide)
    have F110 : Fld Z h103 b103 "com/example/ottawa/ottawa/ParseBounds" "startTag" "Lcom/example/ottawa/ottawa/ParseBounds$Holding;" .null := D103 (Or.inr (hw _ (List.mem_of_getElem? (i := 57) rfl))) (ty := (.object "com/example/ottawa/ottawa/ParseBounds$Holding")) (by decide)
    have F111 : Fld Z h103 b103 "com/example/ottawa/ottawa/ParseBounds" "dtd" "Lcom/example/ottawa/ottawa/ParseBounds$Holding;" .null := D103 (Or.inr (hw _ (List.mem_of_getElem? (i := 63) rfl))) (ty := (.object "com/example/ottawa/ottawa/ParseBounds$Holding")) (by decide)
    have F112 : Fld Z h103 b103 "com/example/ottawa/ottawa/ParseBounds" "ownCharacters" "J" (.long (0 : Int64)) := D103 (Or.inl (hw _ (List.mem_of_getElem? (i := 70) rfl))) (ty := .long) (by decide)
    have F113 : Fld Z h103 b103 "com/example/ottawa/ottawa/ParseBounds" "expanded" "J" (.long (0 : Int64)) := D103 (Or.inl (hw _ (List.mem_of_getElem? (i := 77) rfl))) (ty := .long) (by decide)
    have F114 : Fld Z h103 b103 "com/example/ottawa/ottawa/ParseBounds" "rereadingWork" "J" (.long (0 : Int64)) := D103 (Or.inl (hw _ (List.mem_of_getElem? (i := 79) rfl))) (ty := .long) (by decide)
    show Go p.tables e below _ (T103.setTop (mkF m 85 #[.val (.long q1), .second, .val (.long q2), .second, .val (.int p1), .val (.int (0 : Int32)), .val (.long ra), .second, .val (.long cc), .second, .val (.long (400 : Int64)), .second, .val (.long bd), .second, .val (.long dd), .second, .val (.long al), .second, .unset] [(.ref b103)]))
    refine Go.step (fun _ kt => XS.dup X103.here hx rfl (hb hby at_85) rfl rfl kt) ?_
    show Go p.tables e below _ (T103.setTop (mkF m 86 #[.val (.long q1), .second, .val (.long q2), .second, .val (.int p1), .val (.int (0 : Int32)), .val (.long ra), .second, .val (.long cc), .second, .val (.long (400 : Int64)), .second, .val (.long bd), .second, .val (.long dd), .second, .val (.long al), .second, .unset] [(.ref b103), (.ref b103)]))
    refine Go.step (fun _ kt => XS.lload X103.here hx rfl (hb hby at_86) rfl kt) ?_
    show Go p.tables e below _ (T103.setTop (mkF m 88 #[.val (.long q1), .second, .val (.long q2), .second, .val (.int p1), .val (.int (0 : Int32)), .val (.long ra), .second, .val (.long cc), .second, .val (.long (400 : Int64)), .second, .val (.long bd), .second, .val (.long dd), .second, .val (.long al), .second, .unset] [(.long al), (.ref b103), (.ref b103)]))
    refine Go.step (fun _ kt => XS.lload X103.here hx rfl (hb hby at_88) rfl kt) ?_
    show Go p.tables e below _ (T103.setTop (mkF m 90 #[.val (.long q1), .second, .val (.long q2), .second, .val (.int p1), .val (.int (0 : Int32)), .val (.long ra), .second, .val (.long cc), .second, .val (.long (400 : Int64)), .second, .val (.long bd), .second, .val (.long dd), .second, .val (.long al), .second, .unset] [(.long ra), (.long al), (.ref b103), (.ref b103)]))
    refine Go.step (fun _ kt => XS.aconstNull X103.here hx rfl (hb hby at_90) kt) ?_
    show Go p.tables e below _ (T103.setTop (mkF m 91 #[.val (.long q1), .second, .val (.long q2), .second, .val (.int p1), .val (.int (0 : Int32)), .val (.long ra), .second, .val (.long cc), .second, .val (.long (400 : Int64)), .second, .val (.long bd), .second, .val (.long dd), .second, .val (.long al), .second, .unset] [.null, (.long ra), (.long al), (.ref b103), (.ref b103)]))
    refine Go.step (fun _ kt => XS.aconstNull X103.here hx rfl (hb hby at_91) kt) ?_
    show Go p.tables e below _ (T103.setTop (mkF m 92 #[.val (.long q1), .second, .val (.long q2), .second, .val (.int p1), .val (.int (0 : Int32)), .val (.long ra), .second, .val (.long cc), .second, .val (.long (400 : Int64)), .second, .val (.long bd), .second, .val (.long dd), .second, .val (.long al), .second, .unset] [.null, .null, (.long ra), (.long al), (.ref b103), (.ref b103)]))
    refine Go.step (fun _ kt => XS.aconstNull X103.here hx rfl (hb hby at_92) kt) ?_
    show Go p.tables e below _ (T103.setTop (mkF m 93 #[.val (.long q1), .second, .val (.long q2), .second, .val (.int p1), .val (.int (0 : Int32)), .val (.long ra), .second, .val (.long cc), .second, .val (.long (400 : Int64)), .second, .val (.long bd), .second, .val (.long dd), .second, .val (.long al), .second, .unset] [.null, .null, .null, (.long ra), (.long al), (.ref b103), (.ref b103)]))
    refine Go.step (fun _ kt => XS.aconstNull X103.here hx rfl (hb hby at_93) kt) ?_
    show Go p.tables e below _ (T103.setTop (mkF m 94 #[.val (.long q1), .second, .val (.long q2), .second, .val (.int p1), .val (.int (0 : Int32)), .val (.long ra), .second, .val (.long cc), .second, .val (.long (400 : Int64)), .second, .val (.long bd), .second, .val (.long dd), .second, .val (.long al), .second, .unset] [.null, .null, .null, .null, (.long ra), (.long al), (.ref b103), (.ref b103)]))
    refine Go.step (fun _ kt => XS.aconstNull X103.here hx rfl (hb hby at_94) kt) ?_
    show Go p.tables e below _ (T103.setTop (mkF m 95 #[.val (.long q1), .second, .val (.long q2), .second, .val (.int p1), .val (.int (0 : Int32)), .val (.long ra), .second, .val (.long cc), .second, .val (.long (400 : Int64)), .second, .val (.long bd), .second, .val (.long dd), .second, .val (.long al), .second, .unset] [.null, .null, .null, .null, .null, (.long ra), (.long al), (.ref b103), (.ref b103)]))
    refine Go.step (fun _ kt => XS.aconstNull X103.here hx rfl (hb hby at_95) kt) ?_
    show Go p.tables e below _ (T103.setTop (mkF m 96 #[.val (.long q1), .second, .val (.long q2), .second, .val (.int p1), .val (.int (0 : Int32)), .val (.long ra), .second, .val (.long cc), .second, .val (.long (400 : Int64)), .second, .val (.long bd), .second, .val (.long dd), .second, .val (.long al), .second, .unset] [.null, .null, .null, .null, .null, .null, (.long ra), (.long al), (.ref b103), (.ref b103)]))
    obtain ⟨_, _, ⟨T115, L115, k115, n115⟩, -, X115, hSq115, hgq115, ⟨Lc115, hQ115, l115, y115, z115⟩, st115⟩ := X103.specialBackS hx (y := (⟨"com/example/ottawa/ottawa/ParseBounds", "<init>", "(JJLcom/example/ottawa/ottawa/ParseBounds$Limit;Lcom/example/ottawa/ottawa/ParseBounds$Limit;Lcom/example/ottawa/ottawa/ParseBounds$Limit;Lcom/example/ottawa/ottawa/ParseBounds$Limit;Lcom/example/ottawa/ottawa/ParseBounds$Limit;Lcom/example/ottawa/ottawa/ParseBounds$Limit;)V"⟩ : MethodName)) rfl hown (mvT hZ (hw _ (List.mem_of_getElem? (i := 10) rfl))) (mvT hZ (hw _ (List.mem_of_getElem? (i := 11) rfl))) (mvT hZ (hw _ (List.mem_of_getElem? (i := 12) rfl))) (by decide) (backOfS (W := 1) (rm2 l Z a0 hw [] b103 al ra (0 : Int64) (0 : Int64) (0 : Int64) (0 : Int64) (0 : Int64) .null .null .null .null h103 n0 Z104 A103 F106 F107 F112 F113 F114 F108 F109 F110 F111 g_b103) hZ (hw _ (List.mem_of_getElem? (i := 12) rfl)) (hw _ (List.mem_of_getElem? (i := 9) rfl)) (by decide) (by decide)) (g := (mkF m 96 #[.val (.long q1), .second, .val (.long q2), .second, .val (.int p1), .val (.int (0 : Int32)), .val (.long ra), .second, .val (.long cc), .second, .val (.long (400 : Int64)), .second, .val (.long bd), .second, .val (.long dd), .second, .val (.long al), .second, .unset] [.null, .null, .null, .null, .null, .null, (.long ra), (.long al), (.ref b103), (.ref b103)])) rfl (by rw [hml]; rfl) (Steps.refl _) (a := b103) (argsL := [(.long al), (.long ra), .null, .null, .null, .null, .null, .null]) (rest := [(.ref b103)]) (lenOf pd_3 rfl) rfl (by show 2 * 0 + _ ≤ _; exact Nat.le_of_eq rfl) (hb hby at_96) (fun _ _ => ⟨rfl, e103, (by decide : 1 + 10 ≤ _), (by decide : 10 + 430 ≤ _)⟩)
    dsimp only [Pt.U, Pt.locs, Pt.cells, Pt.slots] at X115 l115 y115 z115 st115 hQ115 hSq115 hgq115
    subst l115 y115 z115
    obtain ⟨X115, hS115, hZ, hown⟩ := rebS hS0 (by rw [e103]; exact hk105) X115 hSq115 hgq115 hZ hown
    have hk115 : T115.heap.size ≤ T115.heap.size := Nat.le_refl _
    obtain ⟨rfl, N115q, Kq115, P116, P117, P118, P119, P120, P121⟩ := hQ115
    have F122 : Exa Z T115.heap b103 "com/example/ottawa/ottawa/ParseBounds" := (A103.keep Kq115)
    have Z123 : n0 ≤ T115.heap.size := (Nat.le_trans Z104 Kq115.1)
    have N115 := Fr.app N102 N115q
    refine Go.step (fun _ kt => st115.trans kt) ?_
    show Go p.tables e below _ (T115.setTop (mkF m 99 #[.val (.long q1), .second, .val (.long q2), .second, .val (.int p1), .val (.int (0 : Int32)), .val (.long ra), .second, .val (.long cc), .second, .val (.long (400 : Int64)), .second, .val (.long bd), .second, .val (.long dd), .second, .val (.long al), .second, .unset] [(.ref b103)]))
    refine Go.step (fun _ kt => XS.astore X115.here hx rfl (hb hby at_99) rfl rfl (l' := #[.val (.long q1), .second, .val (.long q2), .second, .val (.int p1), .val (.int (0 : Int32)), .val (.long ra), .second, .val (.long cc), .second, .val (.long (400 : Int64)), .second, .val (.long bd), .second, .val (.long dd), .second, .val (.long al), .second, .val (.ref b103)]) rfl kt) ?_
    show Go p.tables e below _ (T115.setTop (mkF m 101 #[.val (.long q1), .second, .val (.long q2), .second, .val (.int p1), .val (.int (0 : Int32)), .val (.long ra), .second, .val (.long cc), .second, .val (.long (400 : Int64)), .second, .val (.long bd), .second, .val (.long dd), .second, .val (.long al), .second, .val (.ref b103)] []))
    refine Go.step (fun _ kt => XS.aload X115.here hx rfl (hb hby at_101) rfl rfl kt) ?_
    show Go p.tables e below _ (T115.setTop (mkF m 103 #[.val (.long q1), .second, .val (.long q2), .second, .val (.int p1), .val (.int (0 : Int32)), .val (.long ra), .second, .val (.long cc), .second, .val (.long (400 : Int64)), .second, .val (.long bd), .second, .val (.long dd), .second, .val (.long al), .second, .val (.ref b103)] [(.ref b103)]))
    refine Go.step (fun _ kt => XS.lload X115.here hx rfl (hb hby at_103) rfl kt) ?_
    show Go p.tables e below _ (T115.setTop (mkF m 105 #[.val (.long q1), .second, .val (.long q2), .second, .val (.int p1), .val (.int (0 : Int32)), .val (.long ra), .second, .val (.long cc), .second, .val (.long (400 : Int64)), .second, .val (.long bd), .second, .val (.long dd), .second, .val (.long al), .second, .val (.ref b103)] [(.long cc), (.ref b103)]))
    refine Go.step (fun _ kt => XS.lload X115.here hx rfl (hb hby at_105) rfl kt) ?_
    show Go p.tables e below _ (T115.setTop (mkF m 107 #[.val (.long q1), .second, .val (.long q2), .second, .val (.int p1), .val (.int (0 : Int32)), .val (.long ra), .second, .val (.long cc), .second, .val (.long (400 : Int64)), .second, .val (.long bd), .second, .val (.long dd), .second, .val (.long al), .second, .val (.ref b103)] [(.long dd), (.long cc), (.ref b103)]))
    refine Go.step (fun _ kt => XS.ladd X115.here hx rfl (hb hby at_107) rfl kt) ?_
    show Go p.tables e below _ (T115.setTop (mkF m 108 #[.val (.long q1), .second, .val (.long q2), .second, .val (.int p1), .val (.int (0 : Int32)), .val (.long ra), .second, .val (.long cc), .second, .val (.long (400 : Int64)), .second, .val (.long bd), .second, .val (.long dd), .second, .val (.long al), .second, .val (.ref b103)] [(.long (cc + dd)), (.ref b103)]))
    obtain ⟨cq124, kq124, q124a, q124b, q124c⟩ := isOf hZ rfl P116
    obtain ⟨_, _, ⟨T124, L124, k124, n124⟩, -, X124, ⟨Lc124, hQ124, l124, y124, z124⟩, st124⟩ := X115.virtualBack hx (y := (⟨"com/example/ottawa/ottawa/ParseBounds", "countOwn", "(J)V"⟩ : MethodName)) (z := (⟨"com/example/ottawa/ottawa/ParseBounds", "countOwn", "(J)V"⟩ : MethodName)) hown (mvT hZ (hw _ (List.mem_of_getElem? (i := 64) rfl))) (mvT hZ (hw _ (List.mem_of_getElem? (i := 65) rfl))) (notFace_of_selects (args := #[]) (mvT hZ (hw _ (List.mem_of_getElem? (i := 67) rfl)))) (mvT hZ (hw _ (List.mem_of_getElem? (i := 67) rfl))) (mvT hZ (hw _ (List.mem_of_getElem? (i := 66) rfl))) (by decide) (backOf (W := 0) (rm5 l Z a0 hw [] b103 (cc + dd) al ra (0 : Int64) (0 : Int64) (0 : Int64) T115.heap n0 Z123 P116 P117 P118 P119 P120 P121 g_b103) hZ (hw _ (List.mem_of_getElem? (i := 68) rfl)) (hw _ (List.mem_of_getElem? (i := 9) rfl)) (by decide) (by decide)) q124a q124c (g := (mkF m 108 #[.val (.long q1), .second, .val (.long q2), .second, .val (.int p1), .val (.int (0 : Int32)), .val (.long ra), .second, .val (.long cc), .second, .val (.long (400 : Int64)), .second, .val (.long bd), .second, .val (.long dd), .second, .val (.long al), .second, .val (.ref b103)] [(.long (cc + dd)), (.ref b103)])) rfl (by rw [hml]; rfl) (Steps.refl _) (argsL := [(.long (cc + dd))]) (rest := []) (lenOf pd_4 rfl) rfl (by show 2 * 0 + _ ≤ _; exact Nat.le_of_eq rfl) (hb hby at_108) (fun _ _ => ⟨rfl, rfl, (by decide : 11 + 0 ≤ _), (by decide : 440 + 0 ≤ _)⟩)
    dsimp only [Pt.U, Pt.locs, Pt.cells, Pt.slots] at X124 l124 y124 z124 st124 hQ124
    subst l124 y124 z124
    obtain ⟨rfl, N124q, Kq124, P125, P126, P127, P128, P129, P130⟩ := hQ124
    have F131 : Exa Z T124.heap b103 "com/example/ottawa/ottawa/ParseBounds" := (P116.keep Kq124)
    have Z132 : n0 ≤ T124.heap.size := (Nat.le_trans Z123 Kq124.1)
    have hk133 : _ ≤ T124.heap.size := (Nat.le_trans hk115 Kq124.1)
    have N124 := Fr.app N115 N124q
    refine Go.step (fun _ kt => st124.trans kt) ?_
    show Go p.tables e below _ (T124.setTop (mkF m 111 #[.val (.long q1), .second, .val (.long q2), .second, .val (.int p1), .val (.int (0 : Int32)), .val (.long ra), .second, .val (.long cc), .second, .val (.long (400 : Int64)), .second, .val (.long bd), .second, .val (.long dd), .second, .val (.long al), .second, .val (.ref b103)] []))
    refine Go.step (fun _ kt => XS.aload X124.here hx rfl (hb hby at_111) rfl rfl kt) ?_
    show Go p.tables e below _ (T124.setTop (mkF m 113 #[.val (.long q1), .second, .val (.long q2), .second, .val (.int p1), .val (.int (0 : Int32)), .val (.long ra), .second, .val (.long cc), .second, .val (.long (400 : Int64)), .second, .val (.long bd), .second, .val (.long dd), .second, .val (.long al), .second, .val (.ref b103)] [(.ref b103)]))
    refine Go.step (fun _ kt => XS.lload X124.here hx rfl (hb hby at_113) rfl kt) ?_
    show Go p.tables e below _ (T124.setTop (mkF m 115 #[.val (.long q1), .second, .val (.long q2), .second, .val (.int p1), .val (.int (0 : Int32)), .val (.long ra), .second, .val (.long cc), .second, .val (.long (400 : Int64)), .second, .val (.long bd), .second, .val (.long dd), .second, .val (.long al), .second, .val (.ref b103)] [(.long cc), (.ref b103)]))
    refine Go.step (fun _ kt => XS.iload X124.here hx rfl (hb hby at_115) rfl kt) ?_
    show Go p.tables e below _ (T124.setTop (mkF m 117 #[.val (.long q1), .second, .val (.long q2), .second, .val (.int p1), .val (.int (0 : Int32)), .val (.long ra), .second, .val (.long cc), .second, .val (.long (400 : Int64)), .second, .val (.long bd), .second, .val (.long dd), .second, .val (.long al), .second, .val (.ref b103)] [(.int (0 : Int32)), (.long cc), (.ref b103)]))
    obtain ⟨cq134, kq134, q134a, q134b, q134c⟩ := isOf hZ rfl P125
    obtain ⟨_, _, ⟨T134, L134, k134, n134⟩, -, X134, ⟨Lc134, hQ134, l134, y134, z134⟩, st134⟩ := X124.virtualBack hx (y := (⟨"com/example/ottawa/ottawa/ParseBounds", "countTextReadAgain", "(JZ)V"⟩ : MethodName)) (z := (⟨"com/example/ottawa/ottawa/ParseBounds", "countTextReadAgain", "(JZ)V"⟩ : MethodName)) hown (mvT hZ (hw _ (List.mem_of_getElem? (i := 71) rfl))) (mvT hZ (hw _ (List.mem_of_getElem? (i := 72) rfl))) (notFace_of_selects (args := #[]) (mvT hZ (hw _ (List.mem_of_getElem? (i := 74) rfl)))) (mvT hZ (hw _ (List.mem_of_getElem? (i := 74) rfl))) (mvT hZ (hw _ (List.mem_of_getElem? (i := 73) rfl))) (by decide) (backOf (W := 0) (rm6 l Z a0 hw [] b103 cc (0 : Int32) al ra ((0 : Int64) + (cc + dd)) (0 : Int64) (0 : Int64) T124.heap n0 Z132 P125 P126 P127 P128 P129 P130 g_b103) hZ (hw _ (List.mem_of_getElem? (i := 75) rfl)) (hw _ (List.mem_of_getElem? (i := 9) rfl)) (by decide) (by decide)) q134a q134c (g := (mkF m 117 #[.val (.long q1), .second, .val (.long q2), .second, .val (.int p1), .val (.int (0 : Int32)), .val (.long ra), .second, .val (.long cc), .second, .val (.long (400 : Int64)), .second, .val (.long bd), .second, .val (.long dd), .second, .val (.long al), .second, .val (.ref b103)] [(.int (0 : Int32)), (.long cc), (.ref b103)])) rfl (by rw [hml]; rfl) (Steps.refl _) (argsL := [(.long cc), (.int (0 : Int32))]) (rest := []) (lenOf pd_5 rfl) rfl (by show 2 * 0 + _ ≤ _; exact Nat.le_of_eq rfl) (hb hby at_117) (fun _ _ => ⟨rfl, rfl, (by decide : 11 + 0 ≤ _), (by decide : 440 + 0 ≤ _)⟩)
    dsimp only [Pt.U, Pt.locs, Pt.cells, Pt.slots] at X134 l134 y134 z134 st134 hQ134
    subst l134 y134 z134
    obtain ⟨rfl, N134q, Kq134, P135, P136, P137, P138, P139, P140⟩ := hQ134
    have F141 : Exa Z T134.heap b103 "com/example/ottawa/ottawa/ParseBounds" := (P125.keep Kq134)
    have Z142 : n0 ≤ T134.heap.size := (Nat.le_trans Z132 Kq134.1)
    have hk143 : _ ≤ T134.heap.size := (Nat.le_trans hk133 Kq134.1)
    have N134 := Fr.app N124 N134q
    refine Go.step (fun _ kt => st134.trans kt) ?_
    show Go p.tables e below _ (T134.setTop (mkF m 120 #[.val (.long q1), .second, .val (.long q2), .second, .val (.int p1), .val (.int (0 : Int32)), .val (.long ra), .second, .val (.long cc), .second, .val (.long (400 : Int64)), .second, .val (.long bd), .second, .val (.long dd), .second, .val (.long al), .second, .val (.ref b103)] []))
    obtain ⟨own_h1, own_h2⟩ := own_main ra cc (400 : Int64) (q2 &&& (9223372036854775807 : Int64)) bd dv dd al (by rw [e_ra]; exact own_ratio p1) (by rw [e_cc, c_maskL q1 1099511627775 40 (by decide) (by decide)]; omega) (by decide) e_bd (by rw [c_maskL q2 9223372036854775807 63 (by decide) (by decide)]; omega) e_dv e_dd e_al
    refine Go.step (fun _ kt => XS.aload X134.here hx rfl (hb hby at_120) rfl rfl kt) ?_
    show Go p.tables e below _ (T134.setTop (mkF m 122 #[.val (.long q1), .second, .val (.long q2), .second, .val (.int p1), .val (.int (0 : Int32)), .val (.long ra), .second, .val (.long cc), .second, .val (.long (400 : Int64)), .second, .val (.long bd), .second, .val (.long dd), .second, .val (.long al), .second, .val (.ref b103)] [(.ref b103)]))
    refine Go.step (fun _ kt => XS.lconst X134.here hx rfl (hb hby at_122) kt) ?_
    show Go p.tables e below _ (T134.setTop (mkF m 123 #[.val (.long q1), .second, .val (.long q2), .second, .val (.int p1), .val (.int (0 : Int32)), .val (.long ra), .second, .val (.long cc), .second, .val (.long (400 : Int64)), .second, .val (.long bd), .second, .val (.long dd), .second, .val (.long al), .second, .val (.ref b103)] [(.long (0 : Int64)), (.ref b103)]))
    obtain ⟨cq144, kq144, q144a, q144b, q144c⟩ := isOf hZ rfl P135
    obtain ⟨_, _, ⟨T144, L144, k144, n144⟩, -, X144, ⟨Lc144, hQ144, l144, y144, z144⟩, st144⟩ := X134.virtualBack hx (y := (⟨"com/example/ottawa/ottawa/ParseBounds", "expand", "(J)V"⟩ : MethodName)) (z := (⟨"com/example/ottawa/ottawa/ParseBounds", "expand", "(J)V"⟩ : MethodName)) hown (mvT hZ (hw _ (List.mem_of_getElem? (i := 81) rfl))) (mvT hZ (hw _ (List.mem_of_getElem? (i := 82) rfl))) (notFace_of_selects (args := #[]) (mvT hZ (hw _ (List.mem_of_getElem? (i := 84) rfl)))) (mvT hZ (hw _ (List.mem_of_getElem? (i := 84) rfl))) (mvT hZ (hw _ (List.mem_of_getElem? (i := 83) rfl))) (by decide) (backOf (W := 0) (rm7 l Z a0 hw [] b103 (0 : Int64) al ra (((0 : Int64) + (cc + dd)) - cc) ((0 : Int64) + cc) ((0 : Int64) + (own_work (0 : Int32))) T134.heap n0 Z142 P135 P136 P137 P138 P139 P140 g_b103 own_h1 own_h2) hZ (hw _ (List.mem_of_getElem? (i := 85) rfl)) (hw _ (List.mem_of_getElem? (i := 9) rfl)) (by decide) (by decide)) q144a q144c (g := (mkF m 123 #[.val (.long q1), .second, .val (.long q2), .second, .val (.int p1), .val (.int (0 : Int32)), .val (.long ra), .second, .val (.long cc), .second, .val (.long (400 : Int64)), .second, .val (.long bd), .second, .val (.long dd), .second, .val (.long al), .second, .val (.ref b103)] [(.long (0 : Int64)), (.ref b103)])) rfl (by rw [hml]; rfl) (Steps.refl _) (argsL := [(.long (0 : Int64))]) (rest := []) (lenOf pd_4 rfl) rfl (by show 2 * 0 + _ ≤ _; exact Nat.le_of_eq rfl) (hb hby at_123) (fun _ _ => ⟨rfl, rfl, (by decide : 11 + 0 ≤ _), (by decide : 440 + 0 ≤ _)⟩)
    dsimp only [Pt.U, Pt.locs, Pt.cells, Pt.slots] at X144 l144 y144 z144 st144 hQ144
    subst l144 y144 z144
    obtain ⟨rfl, N144q, Kq144⟩ := hQ144
    have F145 : Exa Z T144.heap b103 "com/example/ottawa/ottawa/ParseBounds" := (P135.keep Kq144)
    have Z146 : n0 ≤ T144.heap.size := (Nat.le_trans Z142 Kq144.1)
    have hk147 : _ ≤ T144.heap.size := (Nat.le_trans hk143 Kq144.1)
    have N144 := Fr.app N134 N144q
    refine Go.step (fun _ kt => st144.trans kt) ?_
    show Go p.tables e below _ (T144.setTop (mkF m 126 #[.val (.long q1), .second, .val (.long q2), .second, .val (.int p1), .val (.int (0 : Int32)), .val (.long ra), .second, .val (.long cc), .second, .val (.long (400 : Int64)), .second, .val (.long bd), .second, .val (.long dd), .second, .val (.long al), .second, .val (.ref b103)] []))
    refine Go.step (fun _ kt => XS.iconst X144.here hx rfl (hb hby at_126) kt) ?_
    show Go p.tables e below _ (T144.setTop (mkF m 127 #[.val (.long q1), .second, .val (.long q2), .second, .val (.int p1), .val (.int (0 : Int32)), .val (.long ra), .second, .val (.long cc), .second, .val (.long (400 : Int64)), .second, .val (.long bd), .second, .val (.long dd), .second, .val (.long al), .second, .val (.ref b103)] [(.int (1 : Int32))]))
    obtain ⟨fs, hr, hrun, hended, hRW⟩ := X144.leaveW hS115 hk147 (v := some (.int (1 : Int32))) (fun h => by rw [Bd.returns] at h; cases h)
    refine ⟨_, _, retN X144 hx (t := .boolean) Bd.returns (by simp) (hb hby at_127) hr, hrun, hended, _, _, rfl, ?_, hRW.1, hRW.2.1, hRW.2.2.1, hRW.2.2.2.mono (by decide) (by decide)⟩
    show Qrm0 Z q1 q2 p1 h0 n0 _ T144.heap _
    exact ⟨rfl, N144⟩
  · refine Go.step (fun _ kt => XS.ifNo X0.here hx rfl (hb hby at_4) rfl ((if0 _ _).trans (feq hc4_101).1) kt) ?_
    show Go p.tables e below _ (s₁.setTop (mkF m 7 #[.val (.long q1), .second, .val (.long q2), .second, .val (.int p1), .unset, .unset, .unset, .unset, .unset, .unset, .unset, .unset, .unset, .unset, .unset, .unset, .unset, .unset] []))
    refine Go.step (fun _ kt => XS.iconst X0.here hx rfl (hb hby at_7) kt) ?_
    show Go p.tables e below _ (s₁.setTop (mkF m 8 #[.val (.long q1), .second, .val (.long q2), .second, .val (.int p1), .unset, .unset, .unset, .unset, .unset, .unset, .unset, .unset, .unset, .unset, .unset, .unset, .unset, .unset] [(.int (1 : Int32))]))
    refine Go.step (fun _ kt => XS.goto X0.here hx rfl (pc0 := 8) (pc' := 12) rfl (hb hby at_8) (by decide) (by decide) kt) ?_
    show Go p.tables e below _ (s₁.setTop (mkF m 12 #[.val (.long q1), .second, .val (.long q2), .second, .val (.int p1), .unset, .unset, .unset, .unset, .unset, .unset, .unset, .unset, .unset, .unset, .unset, .unset, .unset, .unset] [(.int (1 : Int32))]))
    refine Go.step (fun _ kt => XS.istore X0.here hx rfl (hb hby at_12) rfl (l' := #[.val (.long q1), .second, .val (.long q2), .second, .val (.int p1), .val (.int (1 : Int32)), .unset, .unset, .unset, .unset, .unset, .unset, .unset, .unset, .unset, .unset, .unset, .unset, .unset]) rfl kt) ?_
    show Go p.tables e below _ (s₁.setTop (mkF m 14 #[.val (.long q1), .second, .val (.long q2), .second, .val (.int p1), .val (.int (1 : Int32)), .unset, .unset, .unset, .unset, .unset, .unset, .unset, .unset, .unset, .unset, .unset, .unset, .unset] []))
    refine Go.step (fun _ kt => XS.lconst X0.here hx rfl (hb hby at_14) kt) ?_
    show Go p.tables e below _ (s₁.setTop (mkF m 15 #[.val (.long q1), .second, .val (.long q2), .second, .val (.int p1), .val (.int (1 : Int32)), .unset, .unset, .unset, .unset, .unset, .unset, .unset, .unset, .unset, .unset, .unset, .unset, .unset] [(.long (1 : Int64))]))
    refine Go.step (fun _ kt => XS.iload X0.here hx rfl (hb hby at_15) rfl kt) ?_
    show Go p.tables e below _ (s₁.setTop (mkF m 17 #[.val (.long q1), .second, .val (.long q2), .second, .val (.int p1), .val (.int (1 : Int32)), .unset, .unset, .unset, .unset, .unset, .unset, .unset, .unset, .unset, .unset, .unset, .unset, .unset] [(.int p1), (.long (1 : Int64))]))
    refine Go.step (fun _ kt => XS.iconst X0.here hx rfl (hb hby at_17) kt) ?_
    show Go p.tables e below _ (s₁.setTop (mkF m 18 #[.val (.long q1), .second, .val (.long q2), .second, .val (.int p1), .val (.int (1 : Int32)), .unset, .unset, .unset, .unset, .unset, .unset, .unset, .unset, .unset, .unset, .unset, .unset, .unset] [(.int (1 : Int32)), (.int p1), (.long (1 : Int64))]))
    refine Go.step (fun _ kt => XS.iushr X0.here hx rfl (hb hby at_18) rfl kt) ?_
    show Go p.tables e below _ (s₁.setTop (mkF m 19 #[.val (.long q1), .second, .val (.long q2), .second, .val (.int p1), .val (.int (1 : Int32)), .unset, .unset, .unset, .unset, .unset, .unset, .unset, .unset, .unset, .unset, .unset, .unset, .unset] [(.int ((p1.toUInt32 >>> ((1 : Int32) &&& 31).toUInt32).toInt32)), (.long (1 : Int64))]))
    refine Go.step (fun _ kt => XS.iconst X0.here hx rfl (hb hby at_19) kt) ?_
    show Go p.tables e below _ (s₁.setTop (mkF m 20 #[.val (.long q1), .second, .val (.long q2), .second, .val (.int p1), .val (.int (1 : Int32)), .unset, .unset, .unset, .unset, .unset, .unset, .unset, .unset, .unset, .unset, .unset, .unset, .unset] [(.int (3 : Int32)), (.int ((p1.toUInt32 >>> ((1 : Int32) &&& 31).toUInt32).toInt32)), (.long (1 : Int64))]))
    refine Go.step (fun _ kt => XS.iand X0.here hx rfl (hb hby at_20) rfl kt) ?_
    show Go p.tables e below _ (s₁.setTop (mkF m 21 #[.val (.long q1), .second, .val (.long q2), .second, .val (.int p1), .val (.int (1 : Int32)), .unset, .unset, .unset, .unset, .unset, .unset, .unset, .unset, .unset, .unset, .unset, .unset, .unset] [(.int (((p1.toUInt32 >>> ((1 : Int32) &&& 31).toUInt32).toInt32) &&& (3 : Int32))), (.long (1 : Int64))]))
    refine Go.step (fun _ kt => XS.i2l X0.here hx rfl (hb hby at_21) rfl kt) ?_
    show Go p.tables e below _ (s₁.setTop (mkF m 22 #[.val (.long q1), .second, .val (.long q2), .second, .val (.int p1), .val (.int (1 : Int32)), .unset, .unset, .unset, .unset, .unset, .unset, .unset, .unset, .unset, .unset, .unset, .unset, .unset] [(.long ((((p1.toUInt32 >>> ((1 : Int32) &&& 31).toUInt32).toInt32) &&& (3 : Int32)).toInt64)), (.long (1 : Int64))]))
    refine Go.step (fun _ kt => XS.ladd X0.here hx rfl (hb hby at_22) rfl kt) ?_
    show Go p.tables e below _ (s₁.setTop (mkF m 23 #[.val (.long q1), .second, .val (.long q2), .second, .val (.int p1), .val (.int (1 : Int32)), .unset, .unset, .unset, .unset, .unset, .unset, .unset, .unset, .unset, .unset, .unset, .unset, .unset] [(.long ((1 : Int64) + ((((p1.toUInt32 >>> ((1 : Int32) &&& 31).toUInt32).toInt32) &&& (3 : Int32)).toInt64)))]))
    obtain ⟨ra, e_ra⟩ : ∃ nm_, nm_ = ((1 : Int64) + ((((p1.toUInt32 >>> ((1 : Int32) &&& 31).toUInt32).toInt32) &&& (3 : Int32)).toInt64)) := ⟨_, rfl⟩
    rw [← e_ra]
    show Go p.tables e below _ (s₁.setTop (mkF m 23 #[.val (.long q1), .second, .val (.long q2), .second, .val (.int p1), .val (.int (1 : Int32)), .unset, .unset, .unset, .unset, .unset, .unset, .unset, .unset, .unset, .unset, .unset, .unset, .unset] [(.long ra)]))
    refine Go.step (fun _ kt => XS.lstore X0.here hx rfl (hb hby at_23) rfl (l' := #[.val (.long q1), .second, .val (.long q2), .second, .val (.int p1), .val (.int (1 : Int32)), .val (.long ra), .second, .unset, .unset, .unset, .unset, .unset, .unset, .unset, .unset, .unset, .unset, .unset]) rfl kt) ?_
    show Go p.tables e below _ (s₁.setTop (mkF m 25 #[.val (.long q1), .second, .val (.long q2), .second, .val (.int p1), .val (.int (1 : Int32)), .val (.long ra), .second, .unset, .unset, .unset, .unset, .unset, .unset, .unset, .unset, .unset, .unset, .unset] []))
    refine Go.step (fun _ kt => XS.lloadN X0.here hx rfl (hb hby at_25) rfl kt) ?_
    show Go p.tables e below _ (s₁.setTop (mkF m 26 #[.val (.long q1), .second, .val (.long q2), .second, .val (.int p1), .val (.int (1 : Int32)), .val (.long ra), .second, .unset, .unset, .unset, .unset, .unset, .unset, .unset, .unset, .unset, .unset, .unset] [(.long q1)]))
    refine Go.step (X0.ldc2Long hx hown (mvT hZ (hw _ (List.mem_of_getElem? (i := 0) rfl))) (g := (mkF m 26 #[.val (.long q1), .second, .val (.long q2), .second, .val (.int p1), .val (.int (1 : Int32)), .val (.long ra), .second, .unset, .unset, .unset, .unset, .unset, .unset, .unset, .unset, .unset, .unset, .unset] [(.long q1)])) rfl (hb hby at_26)) ?_
    show Go p.tables e below _ (s₁.setTop (mkF m 29 #[.val (.long q1), .second, .val (.long q2), .second, .val (.int p1), .val (.int (1 : Int32)), .val (.long ra), .second, .unset, .unset, .unset, .unset, .unset, .unset, .unset, .unset, .unset, .unset, .unset] [(.long (1099511627775 : Int64)), (.long q1)]))
    refine Go.step (fun _ kt => XS.land X0.here hx rfl (hb hby at_29) rfl kt) ?_
    show Go p.tables e below _ (s₁.setTop (mkF m 30 #[.val (.long q1), .second, .val (.long q2), .second, .val (.int p1), .val (.int (1 : Int32)), .val (.long ra), .second, .unset, .unset, .unset, .unset, .unset, .unset, .unset, .unset, .unset, .unset, .unset] [(.long (q1 &&& (1099511627775 : Int64)))]))
    obtain ⟨cc, e_cc⟩ : ∃ nm_, nm_ = (q1 &&& (1099511627775 : Int64)) := ⟨_, rfl⟩
    rw [← e_cc]
    show Go p.tables e below _ (s₁.setTop (mkF m 30 #[.val (.long q1), .second, .val (.long q2), .second, .val (.int p1), .val (.int (1 : Int32)), .val (.long ra), .second, .unset, .unset, .unset, .unset, .unset, .unset, .unset, .unset, .unset, .unset, .unset] [(.long cc)]))
    refine Go.step (fun _ kt => XS.lstore X0.here hx rfl (hb hby at_30) rfl (l' := #[.val (.long q1), .second, .val (.long q2), .second, .val (.int p1), .val (.int (1 : Int32)), .val (.long ra), .second, .val (.long cc), .second, .unset, .unset, .unset, .unset, .unset, .unset, .unset, .unset, .unset]) rfl kt) ?_
    show Go p.tables e below _ (s₁.setTop (mkF m 32 #[.val (.long q1), .second, .val (.long q2), .second, .val (.int p1), .val (.int (1 : Int32)), .val (.long ra), .second, .val (.long cc), .second, .unset, .unset, .unset, .unset, .unset, .unset, .unset, .unset, .unset] []))
    refine Go.step (fun _ kt => XS.iload X0.here hx rfl (hb hby at_32) rfl kt) ?_
    show Go p.tables e below _ (s₁.setTop (mkF m 34 #[.val (.long q1), .second, .val (.long q2), .second, .val (.int p1), .val (.int (1 : Int32)), .val (.long ra), .second, .val (.long cc), .second, .unset, .unset, .unset, .unset, .unset, .unset, .unset, .unset, .unset] [(.int (1 : Int32))]))
    refine Go.step (fun _ kt => XS.ifNo X0.here hx rfl (hb hby at_34) rfl ((if0 _ _).trans (feq (by decide : ¬ ((1 : Int32) = (0 : Int32)))).1) kt) ?_
    show Go p.tables e below _ (s₁.setTop (mkF m 37 #[.val (.long q1), .second, .val (.long q2), .second, .val (.int p1), .val (.int (1 : Int32)), .val (.long ra), .second, .val (.long cc), .second, .unset, .unset, .unset, .unset, .unset, .unset, .unset, .unset, .unset] []))
    refine Go.step (X0.ldc2Long hx hown (mvT hZ (hw _ (List.mem_of_getElem? (i := 91) rfl))) (g := (mkF m 37 #[.val (.long q1), .second, .val (.long q2), .second, .val (.int p1), .val (.int (1 : Int32)), .val (.long ra), .second, .val (.long cc), .second, .unset, .unset, .unset, .unset, .unset, .unset, .unset, .unset, .unset] [])) rfl (hb hby at_37)) ?_
    show Go p.tables e below _ (s₁.setTop (mkF m 40 #[.val (.long q1), .second, .val (.long q2), .second, .val (.int p1), .val (.int (1 : Int32)), .val (.long ra), .second, .val (.long cc), .second, .unset, .unset, .unset, .unset, .unset, .unset, .unset, .unset, .unset] [(.long (20 : Int64))]))
    refine Go.step (fun _ kt => XS.goto X0.here hx rfl (pc0 := 40) (pc' := 46) rfl (hb hby at_40) (by decide) (by decide) kt) ?_
    show Go p.tables e below _ (s₁.setTop (mkF m 46 #[.val (.long q1), .second, .val (.long q2), .second, .val (.int p1), .val (.int (1 : Int32)), .val (.long ra), .second, .val (.long cc), .second, .unset, .unset, .unset, .unset, .unset, .unset, .unset, .unset, .unset] [(.long (20 : Int64))]))
    refine Go.step (fun _ kt => XS.lstore X0.here hx rfl (hb hby at_46) rfl (l' := #[.val (.long q1), .second, .val (.long q2), .second, .val (.int p1), .val (.int (1 : Int32)), .val (.long ra), .second, .val (.long cc), .second, .val (.long (20 : Int64)), .second, .unset, .unset, .unset, .unset, .unset, .unset, .unset]) rfl kt) ?_
    show Go p.tables e below _ (s₁.setTop (mkF m 48 #[.val (.long q1), .second, .val (.long q2), .second, .val (.int p1), .val (.int (1 : Int32)), .val (.long ra), .second, .val (.long cc), .second, .val (.long (20 : Int64)), .second, .unset, .unset, .unset, .unset, .unset, .unset, .unset] []))
    refine Go.step (fun _ kt => XS.lload X0.here hx rfl (hb hby at_48) rfl kt) ?_
    show Go p.tables e below _ (s₁.setTop (mkF m 50 #[.val (.long q1), .second, .val (.long q2), .second, .val (.int p1), .val (.int (1 : Int32)), .val (.long ra), .second, .val (.long cc), .second, .val (.long (20 : Int64)), .second, .unset, .unset, .unset, .unset, .unset, .unset, .unset] [(.long cc)]))
    refine Go.step (fun _ kt => XS.lload X0.here hx rfl (hb hby at_50) rfl kt) ?_
    show Go p.tables e below _ (s₁.setTop (mkF m 52 #[.val (.long q1), .second, .val (.long q2), .second, .val (.int p1), .val (.int (1 : Int32)), .val (.long ra), .second, .val (.long cc), .second, .val (.long (20 : Int64)), .second, .unset, .unset, .unset, .unset, .unset, .unset, .unset] [(.long (20 : Int64)), (.long cc)]))
    obtain ⟨_, _, ⟨T148, L148, k148, n148⟩, -, X148, ⟨Lc148, hQ148, l148, y148, z148⟩, st148⟩ := Jvm.LawKit.callS X0 hx (y := (⟨"java/lang/Math", "max", "(JJ)J"⟩ : MethodName)) hown (mvT hZ (hw _ (List.mem_of_getElem? (i := 2) rfl))) (mvT hZ (hw _ (List.mem_of_getElem? (i := 3) rfl))) (mvT hZ (hw _ (List.mem_of_getElem? (i := 4) rfl))) (mvT hZ (hw _ (List.mem_of_getElem? (i := 5) rfl))) (by decide) (backOf (W := 0) (rm1 l Z a0 hw [] cc (20 : Int64)  h0 n0 Z0  ) hZ (hw _ (List.mem_of_getElem? (i := 5) rfl)) (hw _ (List.mem_of_getElem? (i := 4) rfl)) (by decide) (by decide)) (g := (mkF m 52 #[.val (.long q1), .second, .val (.long q2), .second, .val (.int p1), .val (.int (1 : Int32)), .val (.long ra), .second, .val (.long cc), .second, .val (.long (20 : Int64)), .second, .unset, .unset, .unset, .unset, .unset, .unset, .unset] [(.long (20 : Int64)), (.long cc)])) rfl (by rw [hml]; rfl) (argsL := [(.long cc), (.long (20 : Int64))]) (rest := []) (lenOf pd_2 rfl) rfl (by show 2 * 0 + _ ≤ _; exact Nat.le_of_eq rfl) (hb hby at_52) (fun _ _ => ⟨rfl, e0, (by decide : 0 + 0 ≤ _), (by decide : 0 + 0 ≤ _)⟩)
    dsimp only [Pt.U, Pt.locs, Pt.cells, Pt.slots] at X148 l148 y148 z148 st148 hQ148
    subst l148 y148 z148
    obtain ⟨rfl, N148q, eh148⟩ := hQ148
    have N148 := Fr.app N0 N148q
    refine Go.step st148 ?_
    show Go p.tables e below _ (T148.setTop (mkF m 55 #[.val (.long q1), .second, .val (.long q2), .second, .val (.int p1), .val (.int (1 : Int32)), .val (.long ra), .second, .val (.long cc), .second, .val (.long (20 : Int64)), .second, .unset, .unset, .unset, .unset, .unset, .unset, .unset] [(.long (own_maxL cc (20 : Int64)))]))
    obtain ⟨bd, e_bd⟩ : ∃ nm_, nm_ = (own_maxL cc (20 : Int64)) := ⟨_, rfl⟩
    rw [← e_bd]
    show Go p.tables e below _ (T148.setTop (mkF m 55 #[.val (.long q1), .second, .val (.long q2), .second, .val (.int p1), .val (.int (1 : Int32)), .val (.long ra), .second, .val (.long cc), .second, .val (.long (20 : Int64)), .second, .unset, .unset, .unset, .unset, .unset, .unset, .unset] [(.long bd)]))
    refine Go.step (fun _ kt => XS.lstore X148.here hx rfl (hb hby at_55) rfl (l' := #[.val (.long q1), .second, .val (.long q2), .second, .val (.int p1), .val (.int (1 : Int32)), .val (.long ra), .second, .val (.long cc), .second, .val (.long (20 : Int64)), .second, .val (.long bd), .second, .unset, .unset, .unset, .unset, .unset]) rfl kt) ?_
    show Go p.tables e below _ (T148.setTop (mkF m 57 #[.val (.long q1), .second, .val (.long q2), .second, .val (.int p1), .val (.int (1 : Int32)), .val (.long ra), .second, .val (.long cc), .second, .val (.long (20 : Int64)), .second, .val (.long bd), .second, .unset, .unset, .unset, .unset, .unset] []))
    refine Go.step (fun _ kt => XS.lloadN X148.here hx rfl (hb hby at_57) rfl kt) ?_
    show Go p.tables e below _ (T148.setTop (mkF m 58 #[.val (.long q1), .second, .val (.long q2), .second, .val (.int p1), .val (.int (1 : Int32)), .val (.long ra), .second, .val (.long cc), .second, .val (.long (20 : Int64)), .second, .val (.long bd), .second, .unset, .unset, .unset, .unset, .unset] [(.long q2)]))
    refine Go.step (X148.ldc2Long hx hown (mvT hZ (hw _ (List.mem_of_getElem? (i := 6) rfl))) (g := (mkF m 58 #[.val (.long q1), .second, .val (.long q2), .second, .val (.int p1), .val (.int (1 : Int32)), .val (.long ra), .second, .val (.long cc), .second, .val (.long (20 : Int64)), .second, .val (.long bd), .second, .unset, .unset, .unset, .unset, .unset] [(.long q2)])) rfl (hb hby at_58)) ?_
    show Go p.tables e below _ (T148.setTop (mkF m 61 #[.val (.long q1), .second, .val (.long q2), .second, .val (.int p1), .val (.int (1 : Int32)), .val (.long ra), .second, .val (.long cc), .second, .val (.long (20 : Int64)), .second, .val (.long bd), .second, .unset, .unset, .unset, .unset, .unset] [(.long (9223372036854775807 : Int64)), (.long q2)]))
    refine Go.step (fun _ kt => XS.land X148.here hx rfl (hb hby at_61) rfl kt) ?_
    show Go p.tables e below _ (T148.setTop (mkF m 62 #[.val (.long q1), .second, .val (.long q2), .second, .val (.int p1), .val (.int (1 : Int32)), .val (.long ra), .second, .val (.long cc), .second, .val (.long (20 : Int64)), .second, .val (.long bd), .second, .unset, .unset, .unset, .unset, .unset] [(.long (q2 &&& (9223372036854775807 : Int64)))]))
    refine Go.step (fun _ kt => XS.lload X148.here hx rfl (hb hby at_62) rfl kt) ?_
    show Go p.tables e below _ (T148.setTop (mkF m 64 #[.val (.long q1), .second, .val (.long q2), .second, .val (.int p1), .val (.int (1 : Int32)), .val (.long ra), .second, .val (.long cc), .second, .val (.long (20 : Int64)), .second, .val (.long bd), .second, .unset, .unset, .unset, .unset, .unset] [(.long bd), (.long (q2 &&& (9223372036854775807 : Int64)))]))
    refine Go.step (fun _ kt => XS.lload X148.here hx rfl (hb hby at_64) rfl kt) ?_
    show Go p.tables e below _ (T148.setTop (mkF m 66 #[.val (.long q1), .second, .val (.long q2), .second, .val (.int p1), .val (.int (1 : Int32)), .val (.long ra), .second, .val (.long cc), .second, .val (.long (20 : Int64)), .second, .val (.long bd), .second, .unset, .unset, .unset, .unset, .unset] [(.long ra), (.long bd), (.long (q2 &&& (9223372036854775807 : Int64)))]))
    refine Go.step (fun _ kt => XS.ldiv X148.here hx rfl (hb hby at_66) rfl (by intro q0; have := own_ratio p1; rw [← e_ra, q0] at this; revert this; decide) kt) ?_
    show Go p.tables e below _ (T148.setTop (mkF m 67 #[.val (.long q1), .second, .val (.long q2), .second, .val (.int p1), .val (.int (1 : Int32)), .val (.long ra), .second, .val (.long cc), .second, .val (.long (20 : Int64)), .second, .val (.long bd), .second, .unset, .unset, .unset, .unset, .unset] [(.long (bd / ra)), (.long (q2 &&& (9223372036854775807 : Int64)))]))
    refine Go.step (fun _ kt => XS.lconst X148.here hx rfl (hb hby at_67) kt) ?_
    show Go p.tables e below _ (T148.setTop (mkF m 68 #[.val (.long q1), .second, .val (.long q2), .second, .val (.int p1), .val (.int (1 : Int32)), .val (.long ra), .second, .val (.long cc), .second, .val (.long (20 : Int64)), .second, .val (.long bd), .second, .unset, .unset, .unset, .unset, .unset] [(.long (1 : Int64)), (.long (bd / ra)), (.long (q2 &&& (9223372036854775807 : Int64)))]))
    refine Go.step (fun _ kt => XS.ladd X148.here hx rfl (hb hby at_68) rfl kt) ?_
    show Go p.tables e below _ (T148.setTop (mkF m 69 #[.val (.long q1), .second, .val (.long q2), .second, .val (.int p1), .val (.int (1 : Int32)), .val (.long ra), .second, .val (.long cc), .second, .val (.long (20 : Int64)), .second, .val (.long bd), .second, .unset, .unset, .unset, .unset, .unset] [(.long ((bd / ra) + (1 : Int64))), (.long (q2 &&& (9223372036854775807 : Int64)))]))
    obtain ⟨dv, e_dv⟩ : ∃ nm_, nm_ = ((bd / ra) + (1 : Int64)) := ⟨_, rfl⟩
    rw [← e_dv]
    show Go p.tables e below _ (T148.setTop (mkF m 69 #[.val (.long q1), .second, .val (.long q2), .second, .val (.int p1), .val (.int (1 : Int32)), .val (.long ra), .second, .val (.long cc), .second, .val (.long (20 : Int64)), .second, .val (.long bd), .second, .unset, .unset, .unset, .unset, .unset] [(.long dv), (.long (q2 &&& (9223372036854775807 : Int64)))]))
    refine Go.step (fun _ kt => XS.lrem X148.here hx rfl (hb hby at_69) rfl (own_dvnz ra cc (20 : Int64) bd dv (by rw [e_ra]; exact own_ratio p1) (by rw [e_cc, c_maskL q1 1099511627775 40 (by decide) (by decide)]; omega) (by decide) e_bd e_dv) kt) ?_
    show Go p.tables e below _ (T148.setTop (mkF m 70 #[.val (.long q1), .second, .val (.long q2), .second, .val (.int p1), .val (.int (1 : Int32)), .val (.long ra), .second, .val (.long cc), .second, .val (.long (20 : Int64)), .second, .val (.long bd), .second, .unset, .unset, .unset, .unset, .unset] [(.long ((q2 &&& (9223372036854775807 : Int64)) - ((q2 &&& (9223372036854775807 : Int64)) / dv) * dv))]))
    obtain ⟨dd, e_dd⟩ : ∃ nm_, nm_ = ((q2 &&& (9223372036854775807 : Int64)) - ((q2 &&& (9223372036854775807 : Int64)) / dv) * dv) := ⟨_, rfl⟩
    rw [← e_dd]
    show Go p.tables e below _ (T148.setTop (mkF m 70 #[.val (.long q1), .second, .val (.long q2), .second, .val (.int p1), .val (.int (1 : Int32)), .val (.long ra), .second, .val (.long cc), .second, .val (.long (20 : Int64)), .second, .val (.long bd), .second, .unset, .unset, .unset, .unset, .unset] [(.long dd)]))
    refine Go.step (fun _ kt => XS.lstore X148.here hx rfl (hb hby at_70) rfl (l' := #[.val (.long q1), .second, .val (.long q2), .second, .val (.int p1), .val (.int (1 : Int32)), .val (.long ra), .second, .val (.long cc), .second, .val (.long (20 : Int64)), .second, .val (.long bd), .second, .val (.long dd), .second, .unset, .unset, .unset]) rfl kt) ?_
    show Go p.tables e below _ (T148.setTop (mkF m 72 #[.val (.long q1), .second, .val (.long q2), .second, .val (.int p1), .val (.int (1 : Int32)), .val (.long ra), .second, .val (.long cc), .second, .val (.long (20 : Int64)), .second, .val (.long bd), .second, .val (.long dd), .second, .unset, .unset, .unset] []))
    refine Go.step (fun _ kt => XS.lload X148.here hx rfl (hb hby at_72) rfl kt) ?_
    show Go p.tables e below _ (T148.setTop (mkF m 74 #[.val (.long q1), .second, .val (.long q2), .second, .val (.int p1), .val (.int (1 : Int32)), .val (.long ra), .second, .val (.long cc), .second, .val (.long (20 : Int64)), .second, .val (.long bd), .second, .val (.long dd), .second, .unset, .unset, .unset] [(.long bd)]))
    refine Go.step (fun _ kt => XS.lload X148.here hx rfl (hb hby at_74) rfl kt) ?_
    show Go p.tables e below _ (T148.setTop (mkF m 76 #[.val (.long q1), .second, .val (.long q2), .second, .val (.int p1), .val (.int (1 : Int32)), .val (.long ra), .second, .val (.long cc), .second, .val (.long (20 : Int64)), .second, .val (.long bd), .second, .val (.long dd), .second, .unset, .unset, .unset] [(.long ra), (.long bd)]))
    refine Go.step (fun _ kt => XS.lload X148.here hx rfl (hb hby at_76) rfl kt) ?_
    show Go p.tables e below _ (T148.setTop (mkF m 78 #[.val (.long q1), .second, .val (.long q2), .second, .val (.int p1), .val (.int (1 : Int32)), .val (.long ra), .second, .val (.long cc), .second, .val (.long (20 : Int64)), .second, .val (.long bd), .second, .val (.long dd), .second, .unset, .unset, .unset] [(.long dd), (.long ra), (.long bd)]))
    refine Go.step (fun _ kt => XS.lmul X148.here hx rfl (hb hby at_78) rfl kt) ?_
    show Go p.tables e below _ (T148.setTop (mkF m 79 #[.val (.long q1), .second, .val (.long q2), .second, .val (.int p1), .val (.int (1 : Int32)), .val (.long ra), .second, .val (.long cc), .second, .val (.long (20 : Int64)), .second, .val (.long bd), .second, .val (.long dd), .second, .unset, .unset, .unset] [(.long (ra * dd)), (.long bd)]))
    refine Go.step (fun _ kt => XS.lsub X148.here hx rfl (hb hby at_79) rfl kt) ?_
    show Go p.tables e below _ (T148.setTop (mkF m 80 #[.val (.long q1), .second, .val (.long q2), .second, .val (.int p1), .val (.int (1 : Int32)), .val (.long ra), .second, .val (.long cc), .second, .val (.long (20 : Int64)), .second, .val (.long bd), .second, .val (.long dd), .second, .unset, .unset, .unset] [(.long (bd - (ra * dd)))]))
    obtain ⟨al, e_al⟩ : ∃ nm_, nm_ = (bd - (ra * dd)) := ⟨_, rfl⟩
    rw [← e_al]
    show Go p.tables e below _ (T148.setTop (mkF m 80 #[.val (.long q1), .second, .val (.long q2), .second, .val (.int p1), .val (.int (1 : Int32)), .val (.long ra), .second, .val (.long cc), .second, .val (.long (20 : Int64)), .second, .val (.long bd), .second, .val (.long dd), .second, .unset, .unset, .unset] [(.long al)]))
    refine Go.step (fun _ kt => XS.lstore X148.here hx rfl (hb hby at_80) rfl (l' := #[.val (.long q1), .second, .val (.long q2), .second, .val (.int p1), .val (.int (1 : Int32)), .val (.long ra), .second, .val (.long cc), .second, .val (.long (20 : Int64)), .second, .val (.long bd), .second, .val (.long dd), .second, .val (.long al), .second, .unset]) rfl kt) ?_
    show Go p.tables e below _ (T148.setTop (mkF m 82 #[.val (.long q1), .second, .val (.long q2), .second, .val (.int p1), .val (.int (1 : Int32)), .val (.long ra), .second, .val (.long cc), .second, .val (.long (20 : Int64)), .second, .val (.long bd), .second, .val (.long dd), .second, .val (.long al), .second, .unset] []))
    obtain ⟨T149, h149, X149, e149, E149, A149, D149, -, st149⟩ := newO X148 hx hZ hown (hw _ (List.mem_of_getElem? (i := 7) rfl)) (hw _ (List.mem_of_getElem? (i := 8) rfl)) (hw _ (List.mem_of_getElem? (i := 9) rfl)) eh148 (g := (mkF m 82 #[.val (.long q1), .second, .val (.long q2), .second, .val (.int p1), .val (.int (1 : Int32)), .val (.long ra), .second, .val (.long cc), .second, .val (.long (20 : Int64)), .second, .val (.long bd), .second, .val (.long dd), .second, .val (.long al), .second, .unset] [])) rfl (hb hby at_82) (by decide) (by decide)
    obtain ⟨b149, g149⟩ : ∃ z, z = h0.size := ⟨_, rfl⟩
    rw [← g149] at A149 D149 st149
    refine Go.step st149 ?_
    have g_b149 : n0 ≤ b149 := Nat.le_trans Z0 (Nat.le_of_eq g149.symm)
    have Z150 : n0 ≤ h149.size := (Nat.le_trans Z0 E149.1)
    have hk151 : _ ≤ h149.size := (Nat.le_trans hk0 E149.1)
    have F152 : Fld Z h149 b149 "com/example/ottawa/ottawa/ParseBounds" "allowance" "J" (.long (0 : Int64)) := D149 (Or.inr (hw _ (List.mem_of_getElem? (i := 17) rfl))) (ty := .long) (by decide)
    have F153 : Fld Z h149 b149 "com/example/ottawa/ottawa/ParseBounds" "ratio" "J" (.long (0 : Int64)) := D149 (Or.inr (hw _ (List.mem_of_getElem? (i := 19) rfl))) (ty := .long) (by decide)
    have F154 : Fld Z h149 b149 "com/example/ottawa/ottawa/ParseBounds" "textLimit" "Lcom/example/ottawa/ottawa/ParseBounds$Limit;" .null := D149 (Or.inr (hw _ (List.mem_of_getElem? (i := 21) rfl))) (ty := (.object "com/example/ottawa/ottawa/ParseBounds$Limit")) (by decide)
    have F155 : Fld Z h149 b149 "com/example/ottawa/ottawa/ParseBounds" "heapLimit" "Lcom/example/ottawa/ottawa/ParseBounds$Limit;" .null := D149 (Or.inr (hw _ (List.mem_of_getElem? (i := 23) rfl))) (ty := (.object "com/example/ottawa/ottawa/ParseBounds$Limit")) (by decide)
    have F156 : Fld Z h149 b149 "com/example/ottawa/ottawa/ParseBounds" "startTag" "Lcom/example/ottawa/ottawa/ParseBounds$Holding;" .null := D149 (Or.inr (hw _ (List.mem_of_getElem? (i := 57) rfl))) (ty := (.object "com/example/ottawa/ottawa/ParseBounds$Holding")) (by decide)
    have F157 : Fld Z h149 b149 "com/example/ottawa/ottawa/ParseBounds" "dtd" "Lcom/example/ottawa/ottawa/ParseBounds$Holding;" .null := D149 (Or.inr (hw _ (List.mem_of_getElem? (i := 63) rfl))) (ty := (.object "com/example/ottawa/ottawa/ParseBounds$Holding")) (by decide)
    have F158 : Fld Z h149 b149 "com/example/ottawa/ottawa/ParseBounds" "ownCharacters" "J" (.long (0 : Int64)) := D149 (Or.inl (hw _ (List.mem_of_getElem? (i := 70) rfl))) (ty := .long) (by decide)
    have F159 : Fld Z h149 b149 "com/example/ottawa/ottawa/ParseBounds" "expanded" "J" (.long (0 : Int64)) := D149 (Or.inl (hw _ (List.mem_of_getElem? (i := 77) rfl))) (ty := .long) (by decide)
    have F160 : Fld Z h149 b149 "com/example/ottawa/ottawa/ParseBounds" "rereadingWork" "J" (.long (0 : Int64)) := D149 (Or.inl (hw _ (List.mem_of_getElem? (i := 79) rfl))) (ty := .long) (by decide)
    show Go p.tables e below _ (T149.setTop (mkF m 85 #[.val (.long q1), .second, .val (.long q2), .second, .val (.int p1), .val (.int (1 : Int32)), .val (.long ra), .second, .val (.long cc), .second, .val (.long (20 : Int64)), .second, .val (.long bd), .second, .val (.long dd), .second, .val (.long al), .second, .unset] [(.ref b149)]))
    refine Go.step (fun _ kt => XS.dup X149.here hx rfl (hb hby at_85) rfl rfl kt) ?_
    show Go p.tables e below _ (T149.setTop (mkF m 86 #[.val (.long q1), .second, .val (.long q2), .second, .val (.int p1), .val (.int (1 : Int32)), .val (.long ra), .second, .val (.long cc), .second, .val (.long (20 : Int64)), .second, .val (.long bd), .second, .val (.long dd), .second, .val (.long al), .second, .unset] [(.ref b149), (.ref b149)]))
    refine Go.step (fun _ kt => XS.lload X149.here hx rfl (hb hby at_86) rfl kt) ?_
    show Go p.tables e below _ (T149.setTop (mkF m 88 #[.val (.long q1), .second, .val (.long q2), .second, .val (.int p1), .val (.int (1 : Int32)), .val (.long ra), .second, .val (.long cc), .second, .val (.long (20 : Int64)), .second, .val (.long bd), .second, .val (.long dd), .second, .val (.long al), .second, .unset] [(.long al), (.ref b149), (.ref b149)]))
    refine Go.step (fun _ kt => XS.lload X149.here hx rfl (hb hby at_88) rfl kt) ?_
    show Go p.tables e below _ (T149.setTop (mkF m 90 #[.val (.long q1), .second, .val (.long q2), .second, .val (.int p1), .val (.int (1 : Int32)), .val (.long ra), .second, .val (.long cc), .second, .val (.long (20 : Int64)), .second, .val (.long bd), .second, .val (.long dd), .second, .val (.long al), .second, .unset] [(.long ra), (.long al), (.ref b149), (.ref b149)]))
    refine Go.step (fun _ kt => XS.aconstNull X149.here hx rfl (hb hby at_90) kt) ?_
    show Go p.tables e below _ (T149.setTop (mkF m 91 #[.val (.long q1), .second, .val (.long q2), .second, .val (.int p1), .val (.int (1 : Int32)), .val (.long ra), .second, .val (.long cc), .second, .val (.long (20 : Int64)), .second, .val (.long bd), .second, .val (.long dd), .second, .val (.long al), .second, .unset] [.null, (.long ra), (.long al), (.ref b149), (.ref b149)]))
    refine Go.step (fun _ kt => XS.aconstNull X149.here hx rfl (hb hby at_91) kt) ?_
    show Go p.tables e below _ (T149.setTop (mkF m 92 #[.val (.long q1), .second, .val (.long q2), .second, .val (.int p1), .val (.int (1 : Int32)), .val (.long ra), .second, .val (.long cc), .second, .val (.long (20 : Int64)), .second, .val (.long bd), .second, .val (.long dd), .second, .val (.long al), .second, .unset] [.null, .null, (.long ra), (.long al), (.ref b149), (.ref b149)]))
    refine Go.step (fun _ kt => XS.aconstNull X149.here hx rfl (hb hby at_92) kt) ?_
    show Go p.tables e below _ (T149.setTop (mkF m 93 #[.val (.long q1), .second, .val (.long q2), .second, .val (.int p1), .val (.int (1 : Int32)), .val (.long ra), .second, .val (.long cc), .second, .val (.long (20 : Int64)), .second, .val (.long bd), .second, .val (.long dd), .second, .val (.long al), .second, .unset] [.null, .null, .null, (.long ra), (.long al), (.ref b149), (.ref b149)]))
    refine Go.step (fun _ kt => XS.aconstNull X149.here hx rfl (hb hby at_93) kt) ?_
    show Go p.tables e below _ (T149.setTop (mkF m 94 #[.val (.long q1), .second, .val (.long q2), .second, .val (.int p1), .val (.int (1 : Int32)), .val (.long ra), .second, .val (.long cc), .second, .val (.long (20 : Int64)), .second, .val (.long bd), .second, .val (.long dd), .second, .val (.long al), .second, .unset] [.null, .null, .null, .null, (.long ra), (.long al), (.ref b149), (.ref b149)]))
    refine Go.step (fun _ kt => XS.aconstNull X149.here hx rfl (hb hby at_94) kt) ?_
    show Go p.tables e below _ (T149.setTop (mkF m 95 #[.val (.long q1), .second, .val (.long q2), .second, .val (.int p1), .val (.int (1 : Int32)), .val (.long ra), .second, .val (.long cc), .second, .val (.long (20 : Int64)), .second, .val (.long bd), .second, .val (.long dd), .second, .val (.long al), .second, .unset] [.null, .null, .null, .null, .null, (.long ra), (.long al), (.ref b149), (.ref b149)]))
    refine Go.step (fun _ kt => XS.aconstNull X149.here hx rfl (hb hby at_95) kt) ?_
    show Go p.tables e below _ (T149.setTop (mkF m 96 #[.val (.long q1), .second, .val (.long q2), .second, .val (.int p1), .val (.int (1 : Int32)), .val (.long ra), .second, .val (.long cc), .second, .val (.long (20 : Int64)), .second, .val (.long bd), .second, .val (.long dd), .second, .val (.long al), .second, .unset] [.null, .null, .null, .null, .null, .null, (.long ra), (.long al), (.ref b149), (.ref b149)]))
    obtain ⟨_, _, ⟨T161, L161, k161, n161⟩, -, X161, hSq161, hgq161, ⟨Lc161, hQ161, l161, y161, z161⟩, st161⟩ := X149.specialBackS hx (y := (⟨"com/example/ottawa/ottawa/ParseBounds", "<init>", "(JJLcom/example/ottawa/ottawa/ParseBounds$Limit;Lcom/example/ottawa/ottawa/ParseBounds$Limit;Lcom/example/ottawa/ottawa/ParseBounds$Limit;Lcom/example/ottawa/ottawa/ParseBounds$Limit;Lcom/example/ottawa/ottawa/ParseBounds$Limit;Lcom/example/ottawa/ottawa/ParseBounds$Limit;)V"⟩ : MethodName)) rfl hown (mvT hZ (hw _ (List.mem_of_getElem? (i := 10) rfl))) (mvT hZ (hw _ (List.mem_of_getElem? (i := 11) rfl))) (mvT hZ (hw _ (List.mem_of_getElem? (i := 12) rfl))) (by decide) (backOfS (W := 1) (rm2 l Z a0 hw [] b149 al ra (0 : Int64) (0 : Int64) (0 : Int64) (0 : Int64) (0 : Int64) .null .null .null .null h149 n0 Z150 A149 F152 F153 F158 F159 F160 F154 F155 F156 F157 g_b149) hZ (hw _ (List.mem_of_getElem? (i := 12) rfl)) (hw _ (List.mem_of_getElem? (i := 9) rfl)) (by decide) (by decide)) (g := (mkF m 96 #[.val (.long q1), .second, .val (.long q2), .second, .val (.int p1), .val (.int (1 : Int32)), .val (.long ra), .second, .val (.long cc), .second, .val (.long (20 : Int64)), .second, .val (.long bd), .second, .val (.long dd), .second, .val (.long al), .second, .unset] [.null, .null, .null, .null, .null, .null, (.long ra), (.long al), (.ref b149), (.ref b149)])) rfl (by rw [hml]; rfl) (Steps.refl _) (a := b149) (argsL := [(.long al), (.long ra), .null, .null, .null, .null, .null, .null]) (rest := [(.ref b149)]) (lenOf pd_3 rfl) rfl (by show 2 * 0 + _ ≤ _; exact Nat.le_of_eq rfl) (hb hby at_96) (fun _ _ => ⟨rfl, e149, (by decide : 1 + 10 ≤ _), (by decide : 10 + 430 ≤ _)⟩)
    dsimp only [Pt.U, Pt.locs, Pt.cells, Pt.slots] at X161 l161 y161 z161 st161 hQ161 hSq161 hgq161
    subst l161 y161 z161
    obtain ⟨X161, hS161, hZ, hown⟩ := rebS hS0 (by rw [e149]; exact hk151) X161 hSq161 hgq161 hZ hown
    have hk161 : T161.heap.size ≤ T161.heap.size := Nat.le_refl _
    obtain ⟨rfl, N161q, Kq161, P162, P163, P164, P165, P166, P167⟩ := hQ161
    have F168 : Exa Z T161.heap b149 "com/example/ottawa/ottawa/ParseBounds" := (A149.keep Kq161)
    have Z169 : n0 ≤ T161.heap.size := (Nat.le_trans Z150 Kq161.1)
    have N161 := Fr.app N148 N161q
    refine Go.step (fun _ kt => st161.trans kt) ?_
    show Go p.tables e below _ (T161.setTop (mkF m 99 #[.val (.long q1), .second, .val (.long q2), .second, .val (.int p1), .val (.int (1 : Int32)), .val (.long ra), .second, .val (.long cc), .second, .val (.long (20 : Int64)), .second, .val (.long bd), .second, .val (.long dd), .second, .val (.long al), .second, .unset] [(.ref b149)]))
    refine Go.step (fun _ kt => XS.astore X161.here hx rfl (hb hby at_99) rfl rfl (l' := #[.val (.long q1), .second, .val (.long q2), .second, .val (.int p1), .val (.int (1 : Int32)), .val (.long ra), .second, .val (.long cc), .second, .val (.long (20 : Int64)), .second, .val (.long bd), .second, .val (.long dd), .second, .val (.long al), .second, .val (.ref b149)]) rfl kt) ?_
    show Go p.tables e below _ (T161.setTop (mkF m 101 #[.val (.long q1), .second, .val (.long q2), .second, .val (.int p1), .val (.int (1 : Int32)), .val (.long ra), .second, .val (.long cc), .second, .val (.long (20 : Int64)), .second, .val (.long bd), .second, .val (.long dd), .second, .val (.long al), .second, .val (.ref b149)] []))
    refine Go.step (fun _ kt => XS.aload X161.here hx rfl (hb hby at_101) rfl rfl kt) ?_
    show Go p.tables e below _ (T161.setTop (mkF m 103 #[.val (.long q1), .second, .val (.long q2), .second, .val (.int p1), .val (.int (1 : Int32)), .val (.long ra), .second, .val (.long cc), .second, .val (.long (20 : Int64)), .second, .val (.long bd), .second, .val (.long dd), .second, .val (.long al), .second, .val (.ref b149)] [(.ref b149)]))
    refine Go.step (fun _ kt => XS.lload X161.here hx rfl (hb hby at_103) rfl kt) ?_
    show Go p.tables e below _ (T161.setTop (mkF m 105 #[.val (.long q1), .second, .val (.long q2), .second, .val (.int p1), .val (.int (1 : Int32)), .val (.long ra), .second, .val (.long cc), .second, .val (.long (20 : Int64)), .second, .val (.long bd), .second, .val (.long dd), .second, .val (.long al), .second, .val (.ref b149)] [(.long cc), (.ref b149)]))
    refine Go.step (fun _ kt => XS.lload X161.here hx rfl (hb hby at_105) rfl kt) ?_
    show Go p.tables e below _ (T161.setTop (mkF m 107 #[.val (.long q1), .second, .val (.long q2), .second, .val (.int p1), .val (.int (1 : Int32)), .val (.long ra), .second, .val (.long cc), .second, .val (.long (20 : Int64)), .second, .val (.long bd), .second, .val (.long dd), .second, .val (.long al), .second, .val (.ref b149)] [(.long dd), (.long cc), (.ref b149)]))
    refine Go.step (fun _ kt => XS.ladd X161.here hx rfl (hb hby at_107) rfl kt) ?_
    show Go p.tables e below _ (T161.setTop (mkF m 108 #[.val (.long q1), .second, .val (.long q2), .second, .val (.int p1), .val (.int (1 : Int32)), .val (.long ra), .second, .val (.long cc), .second, .val (.long (20 : Int64)), .second, .val (.long bd), .second, .val (.long dd), .second, .val (.long al), .second, .val (.ref b149)] [(.long (cc + dd)), (.ref b149)]))
    obtain ⟨cq170, kq170, q170a, q170b, q170c⟩ := isOf hZ rfl P162
    obtain ⟨_, _, ⟨T170, L170, k170, n170⟩, -, X170, ⟨Lc170, hQ170, l170, y170, z170⟩, st170⟩ := X161.virtualBack hx (y := (⟨"com/example/ottawa/ottawa/ParseBounds", "countOwn", "(J)V"⟩ : MethodName)) (z := (⟨"com/example/ottawa/ottawa/ParseBounds", "countOwn", "(J)V"⟩ : MethodName)) hown (mvT hZ (hw _ (List.mem_of_getElem? (i := 64) rfl))) (mvT hZ (hw _ (List.mem_of_getElem? (i := 65) rfl))) (notFace_of_selects (args := #[]) (mvT hZ (hw _ (List.mem_of_getElem? (i := 67) rfl)))) (mvT hZ (hw _ (List.mem_of_getElem? (i := 67) rfl))) (mvT hZ (hw _ (List.mem_of_getElem? (i := 66) rfl))) (by decide) (backOf (W := 0) (rm5 l Z a0 hw [] b149 (cc + dd) al ra (0 : Int64) (0 : Int64) (0 : Int64) T161.heap n0 Z169 P162 P163 P164 P165 P166 P167 g_b149) hZ (hw _ (List.mem_of_getElem? (i := 68) rfl)) (hw _ (List.mem_of_getElem? (i := 9) rfl)) (by decide) (by decide)) q170a q170c (g := (mkF m 108 #[.val (.long q1), .second, .val (.long q2), .second, .val (.int p1), .val (.int (1 : Int32)), .val (.long ra), .second, .val (.long cc), .second, .val (.long (20 : Int64)), .second, .val (.long bd), .second, .val (.long dd), .second, .val (.long al), .second, .val (.ref b149)] [(.long (cc + dd)), (.ref b149)])) rfl (by rw [hml]; rfl) (Steps.refl _) (argsL := [(.long (cc + dd))]) (rest := []) (lenOf pd_4 rfl) rfl (by show 2 * 0 + _ ≤ _; exact Nat.le_of_eq rfl) (hb hby at_108) (fun _ _ => ⟨rfl, rfl, (by decide : 11 + 0 ≤ _), (by decide : 440 + 0 ≤ _)⟩)
    dsimp only [Pt.U, Pt.locs, Pt.cells, Pt.slots] at X170 l170 y170 z170 st170 hQ170
    subst l170 y170 z170
    obtain ⟨rfl, N170q, Kq170, P171, P172, P173, P174, P175, P176⟩ := hQ170
    have F177 : Exa Z T170.heap b149 "com/example/ottawa/ottawa/ParseBounds" := (P162.keep Kq170)
    have Z178 : n0 ≤ T170.heap.size := (Nat.le_trans Z169 Kq170.1)
    have hk179 : _ ≤ T170.heap.size := (Nat.le_trans hk161 Kq170.1)
    have N170 := Fr.app N161 N170q
    refine Go.step (fun _ kt => st170.trans kt) ?_
    show Go p.tables e below _ (T170.setTop (mkF m 111 #[.val (.long q1), .second, .val (.long q2), .second, .val (.int p1), .val (.int (1 : Int32)), .val (.long ra), .second, .val (.long cc), .second, .val (.long (20 : Int64)), .second, .val (.long bd), .second, .val (.long dd), .second, .val (.long al), .second, .val (.ref b149)] []))
    refine Go.step (fun _ kt => XS.aload X170.here hx rfl (hb hby at_111) rfl rfl kt) ?_
    show Go p.tables e below _ (T170.setTop (mkF m 113 #[.val (.long q1), .second, .val (.long q2), .second, .val (.int p1), .val (.int (1 : Int32)), .val (.long ra), .second, .val (.long cc), .second, .val (.long (20 : Int64)), .second, .val (.long bd), .second, .val (.long dd), .second, .val (.long al), .second, .val (.ref b149)] [(.ref b149)]))
    refine Go.step (fun _ kt => XS.lload X170.here hx rfl (hb hby at_113) rfl kt) ?_
    show Go p.tables e below _ (T170.setTop (mkF m 115 #[.val (.long q1), .second, .val (.long q2), .second, .val (.int p1), .val (.int (1 : Int32)), .val (.long ra), .second, .val (.long cc), .second, .val (.long (20 : Int64)), .second, .val (.long bd), .second, .val (.long dd), .second, .val (.long al), .second, .val (.ref b149)] [(.long cc), (.ref b149)]))
    refine Go.step (fun _ kt => XS.iload X170.here hx rfl (hb hby at_115) rfl kt) ?_
    show Go p.tables e below _ (T170.setTop (mkF m 117 #[.val (.long q1), .second, .val (.long q2), .second, .val (.int p1), .val (.int (1 : Int32)), .val (.long ra), .second, .val (.long cc), .second, .val (.long (20 : Int64)), .second, .val (.long bd), .second, .val (.long dd), .second, .val (.long al), .second, .val (.ref b149)] [(.int (1 : Int32)), (.long cc), (.ref b149)]))
    obtain ⟨cq180, kq180, q180a, q180b, q180c⟩ := isOf hZ rfl P171
    obtain ⟨_, _, ⟨T180, L180, k180, n180⟩, -, X180, ⟨Lc180, hQ180, l180, y180, z180⟩, st180⟩ := X170.virtualBack hx (y := (⟨"com/example/ottawa/ottawa/ParseBounds", "countTextReadAgain", "(JZ)V"⟩ : MethodName)) (z := (⟨"com/example/ottawa/ottawa/ParseBounds", "countTextReadAgain", "(JZ)V"⟩ : MethodName)) hown (mvT hZ (hw _ (List.mem_of_getElem? (i := 71) rfl))) (mvT hZ (hw _ (List.mem_of_getElem? (i := 72) rfl))) (notFace_of_selects (args := #[]) (mvT hZ (hw _ (List.mem_of_getElem? (i := 74) rfl)))) (mvT hZ (hw _ (List.mem_of_getElem? (i := 74) rfl))) (mvT hZ (hw _ (List.mem_of_getElem? (i := 73) rfl))) (by decide) (backOf (W := 0) (rm6 l Z a0 hw [] b149 cc (1 : Int32) al ra ((0 : Int64) + (cc + dd)) (0 : Int64) (0 : Int64) T170.heap n0 Z178 P171 P172 P173 P174 P175 P176 g_b149) hZ (hw _ (List.mem_of_getElem? (i := 75) rfl)) (hw _ (List.mem_of_getElem? (i := 9) rfl)) (by decide) (by decide)) q180a q180c (g := (mkF m 117 #[.val (.long q1), .second, .val (.long q2), .second, .val (.int p1), .val (.int (1 : Int32)), .val (.long ra), .second, .val (.long cc), .second, .val (.long (20 : Int64)), .second, .val (.long bd), .second, .val (.long dd), .second, .val (.long al), .second, .val (.ref b149)] [(.int (1 : Int32)), (.long cc), (.ref b149)])) rfl (by rw [hml]; rfl) (Steps.refl _) (argsL := [(.long cc), (.int (1 : Int32))]) (rest := []) (lenOf pd_5 rfl) rfl (by show 2 * 0 + _ ≤ _; exact Nat.le_of_eq rfl) (hb hby at_117) (fun _ _ => ⟨rfl, rfl, (by decide : 11 + 0 ≤ _), (by decide : 440 + 0 ≤ _)⟩)
    dsimp only [Pt.U, Pt.locs, Pt.cells, Pt.slots] at X180 l180 y180 z180 st180 hQ180
    subst l180 y180 z180
    obtain ⟨rfl, N180q, Kq180, P181, P182, P183, P184, P185, P186⟩ := hQ180
    have F187 : Exa Z T180.heap b149 "com/example/ottawa/ottawa/ParseBounds" := (P171.keep Kq180)
    have Z188 : n0 ≤ T180.heap.size := (Nat.le_trans Z178 Kq180.1)
    have hk189 : _ ≤ T180.heap.size := (Nat.le_trans hk179 Kq180.1)
    have N180 := Fr.app N170 N180q
    refine Go.step (fun _ kt => st180.trans kt) ?_
    show Go p.tables e below _ (T180.setTop (mkF m 120 #[.val (.long q1), .second, .val (.long q2), .second, .val (.int p1), .val (.int (1 : Int32)), .val (.long ra), .second, .val (.long cc), .second, .val (.long (20 : Int64)), .second, .val (.long bd), .second, .val (.long dd), .second, .val (.long al), .second, .val (.ref b149)] []))
    obtain ⟨own_h1, own_h2⟩ := own_main ra cc (20 : Int64) (q2 &&& (9223372036854775807 : Int64)) bd dv dd al (by rw [e_ra]; exact own_ratio p1) (by rw [e_cc, c_maskL q1 1099511627775 40 (by decide) (by decide)]; omega) (by decide) e_bd (by rw [c_maskL q2 9223372036854775807 63 (by decide) (by decide)]; omega) e_dv e_dd e_al
    refine Go.step (fun _ kt => XS.aload X180.here hx rfl (hb hby at_120) rfl rfl kt) ?_
    show Go p.tables e below _ (T180.setTop (mkF m 122 #[.val (.long q1), .second, .val (.long q2), .second, .val (.int p1), .val (.int (1 : Int32)), .val (.long ra), .second, .val (.long cc), .second, .val (.long (20 : Int64)), .second, .val (.long bd), .second, .val (.long dd), .second, .val (.long al), .second, .val (.ref b149)] [(.ref b149)]))
    refine Go.step (fun _ kt => XS.lconst X180.here hx rfl (hb hby at_122) kt) ?_
    show Go p.tables e below _ (T180.setTop (mkF m 123 #[.val (.long q1), .second, .val (.long q2), .second, .val (.int p1), .val (.int (1 : Int32)), .val (.long ra), .second, .val (.long cc), .second, .val (.long (20 : Int64)), .second, .val (.long bd), .second, .val (.long dd), .second, .val (.long al), .second, .val (.ref b149)] [(.long (0 : Int64)), (.ref b149)]))
    obtain ⟨cq190, kq190, q190a, q190b, q190c⟩ := isOf hZ rfl P181
    obtain ⟨_, _, ⟨T190, L190, k190, n190⟩, -, X190, ⟨Lc190, hQ190, l190, y190, z190⟩, st190⟩ := X180.virtualBack hx (y := (⟨"com/example/ottawa/ottawa/ParseBounds", "expand", "(J)V"⟩ : MethodName)) (z := (⟨"com/example/ottawa/ottawa/ParseBounds", "expand", "(J)V"⟩ : MethodName)) hown (mvT hZ (hw _ (List.mem_of_getElem? (i := 81) rfl))) (mvT hZ (hw _ (List.mem_of_getElem? (i := 82) rfl))) (notFace_of_selects (args := #[]) (mvT hZ (hw _ (List.mem_of_getElem? (i := 84) rfl)))) (mvT hZ (hw _ (List.mem_of_getElem? (i := 84) rfl))) (mvT hZ (hw _ (List.mem_of_getElem? (i := 83) rfl))) (by decide) (backOf (W := 0) (rm7 l Z a0 hw [] b149 (0 : Int64) al ra (((0 : Int64) + (cc + dd)) - cc) ((0 : Int64) + cc) ((0 : Int64) + (own_work (1 : Int32))) T180.heap n0 Z188 P181 P182 P183 P184 P185 P186 g_b149 own_h1 own_h2) hZ (hw _ (List.mem_of_getElem? (i := 85) rfl)) (hw _ (List.mem_of_getElem? (i := 9) rfl)) (by decide) (by decide)) q190a q190c (g := (mkF m 123 #[.val (.long q1), .second, .val (.long q2), .second, .val (.int p1), .val (.int (1 : Int32)), .val (.long ra), .second, .val (.long cc), .second, .val (.long (20 : Int64)), .second, .val (.long bd), .second, .val (.long dd), .second, .val (.long al), .second, .val (.ref b149)] [(.long (0 : Int64)), (.ref b149)])) rfl (by rw [hml]; rfl) (Steps.refl _) (argsL := [(.long (0 : Int64))]) (rest := []) (lenOf pd_4 rfl) rfl (by show 2 * 0 + _ ≤ _; exact Nat.le_of_eq rfl) (hb hby at_123) (fun _ _ => ⟨rfl, rfl, (by decide : 11 + 0 ≤ _), (by decide : 440 + 0 ≤ _)⟩)
    dsimp only [Pt.U, Pt.locs, Pt.cells, Pt.slots] at X190 l190 y190 z190 st190 hQ190
    subst l190 y190 z190
    obtain ⟨rfl, N190q, Kq190⟩ := hQ190
    have F191 : Exa Z T190.heap b149 "com/example/ottawa/ottawa/ParseBounds" := (P181.keep Kq190)
    have Z192 : n0 ≤ T190.heap.size := (Nat.le_trans Z188 Kq190.1)
    have hk193 : _ ≤ T190.heap.size := (Nat.le_trans hk189 Kq190.1)
    have N190 := Fr.app N180 N190q
    refine Go.step (fun _ kt => st190.trans kt) ?_
    show Go p.tables e below _ (T190.setTop (mkF m 126 #[.val (.long q1), .second, .val (.long q2), .second, .val (.int p1), .val (.int (1 : Int32)), .val (.long ra), .second, .val (.long cc), .second, .val (.long (20 : Int64)), .second, .val (.long bd), .second, .val (.long dd), .second, .val (.long al), .second, .val (.ref b149)] []))
    refine Go.step (fun _ kt => XS.iconst X190.here hx rfl (hb hby at_126) kt) ?_
    show Go p.tables e below _ (T190.setTop (mkF m 127 #[.val (.long q1), .second, .val (.long q2), .second, .val (.int p1), .val (.int (1 : Int32)), .val (.long ra), .second, .val (.long cc), .second, .val (.long (20 : Int64)), .second, .val (.long bd), .second, .val (.long dd), .second, .val (.long al), .second, .val (.ref b149)] [(.int (1 : Int32))]))
    obtain ⟨fs, hr, hrun, hended, hRW⟩ := X190.leaveW hS161 hk193 (v := some (.int (1 : Int32))) (fun h => by rw [Bd.returns] at h; cases h)
    refine ⟨_, _, retN X190 hx (t := .boolean) Bd.returns (by simp) (hb hby at_127) hr, hrun, hended, _, _, rfl, ?_, hRW.1, hRW.2.1, hRW.2.2.1, hRW.2.2.2.mono (by decide) (by decide)⟩
    show Qrm0 Z q1 q2 p1 h0 n0 _ T190.heap _
    exact ⟨rfl, N190⟩
set_option maxRecDepth 65536 in
set_option maxHeartbeats 40000000 in
theorem comes_1 {Post : Tables → Env → Array Value → State → Outcome → State → Prop} (hpost : ∀ tb e args s v u, (limb_1_1.after args s (.returned v) u = true ∧ limb_1_2.after args s (.returned v) u = true ∧ True) → ReturnedEndW s (.returned v) u (Jvm.fieldLocs frame_1_writes args s ++ Jvm.arrayLocs frame_1_arrays args s ++ Jvm.staticLocs frame_1_statics s) 24 4288 → Post tb e args s (.returned v) u) :
    ArmFor flags0 classFile x code maxLocals ret World_1 tables_1 room_1 Calls_1 rest_1 Pre_1 Post := by
  intro l hfl _ _ p e ha hc hk s m args below hf hA hF happ hP
  obtain ⟨hcalls, hrest, hpre⟩ := hP
  obtain ⟨-, -, -, hnamed, -, -, -, hat⟩ := (Spec.applies_iff hf).mp happ
  obtain ⟨hg, hn⟩ := and_e (Cond.before_iff.mp (show (Jvm.Cond.and given_1 narrow_1).before args s = true from hpre))
  obtain ⟨hcount, hg1⟩ := and_e hg
  obtain ⟨ga0, hg2⟩ := and_e hg1
  obtain ⟨ga1, hg3⟩ := and_e hg2
  have ga2 := hg3
  obtain ⟨w0, w1, w2, rfl⟩ : ∃ w0 w1 w2 : Value, args = #[w0, w1, w2] := by
    have hs : args.size = 3 := by simpa [Cond.value, given_1] using hcount
    obtain ⟨L⟩ := args
    match L, hs with
    | [w0, w1, w2], _ => exact ⟨w0, w1, w2, rfl⟩
  have hw := fun d (hd : d ∈ tables_1) => atoms_spec (ws := Jvm.Cond.code x code maxLocals ret :: tables_1) hat d (List.mem_cons_of_mem _ hd)
  have hfit : Fit s := fun {y c} hc i hi => by
    obtain ⟨ha, rfl⟩ := Array.getElem?_eq_some_iff.mp hc
    have q := List.all_eq_true.mp ((Array.all_eq_true_iff_forall_mem.mp hF) _ (Array.getElem_mem ha)) i (List.mem_range.mpr hi)
    simpa [Array.getElem?_eq_getElem hi] using q
  obtain ⟨i0, ei0⟩ := isL_v ga0
  obtain rfl : w0 = (.long i0) := Option.some.inj ei0
  obtain ⟨i1, ei1⟩ := isL_v ga1
  obtain rfl : w1 = (.long i1) := Option.some.inj ei1
  obtain ⟨i2, ei2⟩ := is_v ga2
  obtain rfl : w2 = (.int i2) := Option.some.inj ei2
  obtain ⟨n, o, h1, h2, h3, _, L, rfl, ⟨rfl, N⟩, hq⟩ := rm0 l s _ hw tables_1 i0 i1 i2 s.heap s.heap.size (Nat.le_refl _) p e ha hc hk s m _ below hf ((Spec.applies_iff_loose hf).mp happ).1 ⟨rfl, State.Warmed39.refl s, rfl⟩ trivial
  refine ⟨n, _, h1, h2, h3, hpost _ _ _ _ _ _ ⟨Cond.after_iff.mpr rfl, Cond.after_iff.mpr (eq_i res_at (Term.int_eval (1)) rfl), trivial⟩ ⟨hq.1, hq.2.1, hq.2.2.1, (hq.2.2.2.sift fun y hy => Or.inr (N y hy)).mono (by decide) (by decide)⟩⟩
theorem main_1_1 : Claimed_1_1 := comes_1 fun _ _ _ _ _ _ h hF => ⟨h.1, hF⟩
theorem main_1_2 : Claimed_1_2 := comes_1 fun _ _ _ _ _ _ h hF => ⟨h.2.1, hF⟩
end Jvm.Pilot.@@N@@
namespace Jvm.Pilot.@@N@@
open Jvm Jvm.ClassFile Sem Op Lib Jvm.Free Jvm.Stand Jvm.Pilot.@@N@@.Jvm.D
/-! MADE BY PROGRAM (witnessworld.py) out of the Statement's table words and the real class files: 16 classes; the members and pool entries that the words name. The judged class is class 1, her method 1. -/
namespace start1
open Jvm.ClassFile
def u (s : String) : CpInfo := .utf8 (stringToUtf16 s)
/-- a pool by its gaps: so many unusable entries, then the entry; so many at the end -/
def gap : Nat → List CpInfo → List CpInfo
  | 0, r => r
  | n + 1, r => .unusable :: gap n r
def poolList (es : List (Nat × CpInfo)) (last : Nat) : List CpInfo := es.foldr (fun e r => gap e.1 (e.2 :: r)) (gap last [])
def pool (es : List (Nat × CpInfo)) (last : Nat) : Array CpInfo := ⟨poolList es last⟩
def fileOf (pool : Array CpInfo) (this : Nat) (attrs : Array Attribute := #[]) (ms : Array MethodInfo := #[]) (fl : Nat := 33) (sup : Nat := 0) (ifs : Array Nat := #[]) (fds : Array FieldInfo := #[]) : ClassFile where
  minorVersion := 0
  majorVersion := 65
  constantPool := pool
  accessFlags := fl
  thisClass := this
  superClass := sup
  interfaces := ifs
  fields := fds
  methods := ms
  attributes := attrs
def plain (name : String) (sup : Option ClassId) : Class where
  name := name
  kind := .ordinary
  loader := none
  accessFlags := 33
  super := sup
  interfaces := #[]
  cf := none
  fields := #[]
  methods := #[]
  instanceTypes := #[]
  staticTypes := #[]
  resolved := #[]
  callSites := []
  init := .initialized
  statics := none
  mirror := none

def pool0 : Array CpInfo := pool [(5, u "<init>"), (0, u "()V"), (1, .class_ 10), (1, u "java/lang/Object")] 113

def k0c0 : Code := { maxStack := 0, maxLocals := 1, code := object_method_1_code, exceptionTable := #[], attributes := #[] }
def k0m0 : Method := { name := "<init>", desc := "()V", sig := { parameters := [], returnType := none }, accessFlags := 1, code := some k0c0 }
/-- java/lang/Object -/
def k0 : Class := { plain "java/lang/Object" none with
  accessFlags := 33
  interfaces := #[]
  cf := some (fileOf pool0 8 #[] #[{ accessFlags := 1, nameIndex := 5, descriptorIndex := 6, attributes := #[] }] 33 0 #[] #[])
  fields := #[]
  methods := #[k0m0]
  instanceTypes := #[]
  staticTypes := #[]
  resolved := Array.replicate 124 none
  statics := none }

def pool1 : Array CpInfo := pool [(2, .class_ 4), (1, u "java/lang/Object"), (0, u "<init>"), (0, u "()V"), (0, .long 1099511627775), (1, .long 20), (1, .long 400), (1, .methodref 14 15), (0, .class_ 16), (0, .nameAndType 17 18), (0, u "java/lang/Math"), (0, u "max"), (0, u "(JJ)J"), (0, .long 9223372036854775807), (1, .class_ 22), (0, u "com/example/ottawa/ottawa/ParseBounds"), (0, .methodref 21 24), (0, .nameAndType 5 25), (0, u "(JJLcom/example/ottawa/ottawa/ParseBounds$Limit;Lcom/example/ottawa/ottawa/ParseBounds$Limit;Lcom/example/ottawa/ottawa/ParseBounds$Limit;Lcom/example/ottawa/ottawa/ParseBounds$Limit;Lcom/example/ottawa/ottawa/ParseBounds$Limit;Lcom/example/ottawa/ottawa/ParseBounds$Limit;)V"), (0, .methodref 21 27), (0, .nameAndType 28 29), (0, u "countOwn"), (0, u "(J)V"), (0, .methodref 21 31), (0, .nameAndType 32 33), (0, u "countTextReadAgain"), (0, u "(JZ)V"), (0, .methodref 21 35), (0, .nameAndType 36 29), (0, u "expand"), (0, .class_ 38), (0, u "com/example/ottawa/ottawa/ParseBoundsCountTextReadAgainPinLaw"), (2, u "law"), (0, u "(JJI)Z")] 10

def k1m0 : Method := { name := "<init>", desc := "()V", sig := { parameters := [], returnType := none }, accessFlags := 2, code := none }
def k1c1 : Code := { maxStack := 12, maxLocals := 19, code := code, exceptionTable := #[], attributes := #[] }
def k1m1 : Method := { name := "law", desc := "(JJI)Z", sig := { parameters := [.long, .long, .int], returnType := some .boolean }, accessFlags := 9, code := some k1c1 }
/-- com/example/ottawa/ottawa/ParseBoundsCountTextReadAgainPinLaw -/
def k1 : Class := { plain "com/example/ottawa/ottawa/ParseBoundsCountTextReadAgainPinLaw" (some 0) with
  accessFlags := 49
  interfaces := #[]
  cf := some (fileOf pool1 37 #[] #[{ accessFlags := 2, nameIndex := 5, descriptorIndex := 6, attributes := #[] }, { accessFlags := 9, nameIndex := 41, descriptorIndex := 42, attributes := #[] }] 49 2 #[] #[])
  fields := #[]
  methods := #[k1m0, k1m1]
  instanceTypes := #[]
  staticTypes := #[]
  resolved := Array.replicate 53 none
  statics := none }

def pool2 : Array CpInfo := pool [(1, .class_ 2), (0, u "java/lang/Math"), (1, .class_ 6), (1, u "java/lang/Object"), (0, u "<init>"), (0, u "()V"), (89, .class_ 100), (1, u "java/lang/Math$RandomNumberGeneratorHolder"), (20, u "(JJ)J"), (50, u "negativeZeroFloatBits"), (0, u "J"), (2, u "negativeZeroDoubleBits"), (21, u "max"), (46, u "$assertionsDisabled"), (0, u "Z"), (91, u "twoToTheDoubleScaleDown"), (0, u "D"), (4, u "twoToTheDoubleScaleUp"), (9, u "E"), (3, u "PI"), (2, u "TAU"), (2, u "DEGREES_TO_RADIANS"), (0, u "RADIANS_TO_DEGREES")] 94

def k2m0 : Method := { name := "<init>", desc := "()V", sig := { parameters := [], returnType := none }, accessFlags := 2, code := none }
def k2c1 : Code := { maxStack := 4, maxLocals := 4, code := jdk_29_method_66_code, exceptionTable := #[], attributes := #[] }
def k2m1 : Method := { name := "max", desc := "(JJ)J", sig := { parameters := [.long, .long], returnType := some .long }, accessFlags := 9, code := some k2c1 }
/-- java/lang/Math -/
def k2 : Class := { plain "java/lang/Math" (some 0) with
  accessFlags := 49
  interfaces := #[]
  cf := some (fileOf pool2 1 #[.nestMembers #[98]] #[{ accessFlags := 2, nameIndex := 7, descriptorIndex := 8, attributes := #[] }, { accessFlags := 9, nameIndex := 198, descriptorIndex := 121, attributes := #[] }] 49 4 #[] #[{ accessFlags := 25, nameIndex := 354, descriptorIndex := 339, attributes := #[] }, { accessFlags := 25, nameIndex := 358, descriptorIndex := 339, attributes := #[] }, { accessFlags := 25, nameIndex := 361, descriptorIndex := 339, attributes := #[] }, { accessFlags := 26, nameIndex := 364, descriptorIndex := 339, attributes := #[] }, { accessFlags := 26, nameIndex := 365, descriptorIndex := 339, attributes := #[] }, { accessFlags := 26, nameIndex := 172, descriptorIndex := 173, attributes := #[] }, { accessFlags := 26, nameIndex := 176, descriptorIndex := 173, attributes := #[] }, { accessFlags := 8, nameIndex := 344, descriptorIndex := 339, attributes := #[] }, { accessFlags := 8, nameIndex := 338, descriptorIndex := 339, attributes := #[] }, { accessFlags := 4120, nameIndex := 245, descriptorIndex := 246, attributes := #[] }])
  fields := #[{ name := "E", type := .double, accessFlags := 25, slot := 0, constantValue := 0 }, { name := "PI", type := .double, accessFlags := 25, slot := 1, constantValue := 0 }, { name := "TAU", type := .double, accessFlags := 25, slot := 2, constantValue := 0 }, { name := "DEGREES_TO_RADIANS", type := .double, accessFlags := 26, slot := 3, constantValue := 0 }, { name := "RADIANS_TO_DEGREES", type := .double, accessFlags := 26, slot := 4, constantValue := 0 }, { name := "negativeZeroFloatBits", type := .long, accessFlags := 26, slot := 5, constantValue := 0 }, { name := "negativeZeroDoubleBits", type := .long, accessFlags := 26, slot := 6, constantValue := 0 }, { name := "twoToTheDoubleScaleUp", type := .double, accessFlags := 8, slot := 7, constantValue := 0 }, { name := "twoToTheDoubleScaleDown", type := .double, accessFlags := 8, slot := 8, constantValue := 0 }, { name := "$assertionsDisabled", type := .boolean, accessFlags := 4120, slot := 9, constantValue := 0 }]
  methods := #[k2m0, k2m1]
  instanceTypes := #[]
  staticTypes := #[.double, .double, .double, .double, .double, .long, .long, .double, .double, .boolean]
  resolved := Array.replicate 460 none
  statics := none }

def pool3 : Array CpInfo := pool [(1, .class_ 2), (0, u "com/example/ottawa/ottawa/ParseBounds"), (0, .methodref 4 5), (0, .class_ 6), (0, .nameAndType 7 8), (0, u "java/lang/Object"), (0, u "<init>"), (0, u "()V"), (0, .fieldref 1 10), (0, .nameAndType 11 12), (0, u "allowance"), (0, u "J"), (0, .fieldref 1 14), (0, .nameAndType 15 12), (0, u "ratio"), (0, .fieldref 1 17), (0, .nameAndType 18 19), (0, u "textLimit"), (0, u "Lcom/example/ottawa/ottawa/ParseBounds$Limit;"), (0, .fieldref 1 21), (0, .nameAndType 22 19), (0, u "heapLimit"), (0, .class_ 24), (0, u "com/example/ottawa/ottawa/ParseBounds$Holding"), (0, .string 26), (0, u "a start tag"), (0, .string 28), (0, u "the names and values of a start tag's attributes"), (0, .long 60), (1, .long 6), (1, .methodref 23 34), (0, .nameAndType 7 35), (0, u "(Lcom/example/ottawa/ottawa/ParseBounds;Lcom/example/ottawa/ottawa/ParseBounds$Limit;Lcom/example/ottawa/ottawa/ParseBounds$Limit;Ljava/lang/String;Ljava/lang/String;JJ)V"), (0, .fieldref 1 37), (0, .nameAndType 38 39), (0, u "startTag"), (0, u "Lcom/example/ottawa/ottawa/ParseBounds$Holding;"), (0, .string 41), (0, u "a DTD"), (0, .string 43), (0, u "the declarations that a DTD keeps"), (0, .long 200), (1, .long 2), (1, .fieldref 1 49), (0, .nameAndType 50 39), (0, u "dtd"), (0, .fieldref 1 52), (0, .nameAndType 53 12), (0, u "ownCharacters"), (0, .fieldref 1 55), (0, .nameAndType 56 12), (0, u "expanded"), (0, .methodref 1 58), (0, .nameAndType 59 60), (0, u "allows"), (0, u "(J)Z"), (0, .fieldref 1 62), (0, .nameAndType 63 12), (0, u "rereadingWork"), (17, .long 20), (1, .long 400), (3, .long 9223372036854775807), (3, u "heapHeld"), (3, .class_ 97), (1, u "com/example/ottawa/ottawa/ParseBounds$Limit"), (5, u "(J)V"), (7, u "EXPANSION_ALLOWANCE"), (3, u "EXPANSION_RATIO"), (2, u "TEXT_CHARACTERS"), (2, u "START_TAG_ATTRIBUTES"), (2, u "START_TAG_CHARACTERS"), (0, u "DTD_DECLARATIONS"), (2, u "DTD_CHARACTERS"), (0, u "HEAP_BYTES"), (2, u "REOPENING_CHARACTERS"), (0, u "REREADING_CHARACTERS"), (0, u "START_TAG_ENTRY_BYTES"), (0, u "START_TAG_CHARACTER_BYTES"), (0, u "DTD_ENTRY_BYTES"), (0, u "DTD_CHARACTER_BYTES"), (0, u "(JJLcom/example/ottawa/ottawa/ParseBounds$Limit;Lcom/example/ottawa/ottawa/ParseBounds$Limit;Lcom/example/ottawa/ottawa/ParseBounds$Limit;Lcom/example/ottawa/ottawa/ParseBounds$Limit;Lcom/example/ottawa/ottawa/ParseBounds$Limit;Lcom/example/ottawa/ottawa/ParseBounds$Limit;)V"), (2, u "countOwn"), (0, u "expand"), (4, u "countTextReadAgain"), (0, u "(JZ)V")] 29

def k3c0 : Code := { maxStack := 12, maxLocals := 11, code := prog_36_method_1_code, exceptionTable := #[], attributes := #[] }
def k3m0 : Method := { name := "<init>", desc := "(JJLcom/example/ottawa/ottawa/ParseBounds$Limit;Lcom/example/ottawa/ottawa/ParseBounds$Limit;Lcom/example/ottawa/ottawa/ParseBounds$Limit;Lcom/example/ottawa/ottawa/ParseBounds$Limit;Lcom/example/ottawa/ottawa/ParseBounds$Limit;Lcom/example/ottawa/ottawa/ParseBounds$Limit;)V", sig := { parameters := [.long, .long, (.object "com/example/ottawa/ottawa/ParseBounds$Limit"), (.object "com/example/ottawa/ottawa/ParseBounds$Limit"), (.object "com/example/ottawa/ottawa/ParseBounds$Limit"), (.object "com/example/ottawa/ottawa/ParseBounds$Limit"), (.object "com/example/ottawa/ottawa/ParseBounds$Limit"), (.object "com/example/ottawa/ottawa/ParseBounds$Limit")], returnType := none }, accessFlags := 0, code := some k3c0 }
def k3c1 : Code := { maxStack := 5, maxLocals := 3, code := prog_36_method_2_code, exceptionTable := #[], attributes := #[] }
def k3m1 : Method := { name := "countOwn", desc := "(J)V", sig := { parameters := [.long], returnType := none }, accessFlags := 0, code := some k3c1 }
def k3c2 : Code := { maxStack := 5, maxLocals := 3, code := prog_36_method_3_code, exceptionTable := #[], attributes := #[] }
def k3m2 : Method := { name := "expand", desc := "(J)V", sig := { parameters := [.long], returnType := none }, accessFlags := 0, code := some k3c2 }
def k3c3 : Code := { maxStack := 5, maxLocals := 4, code := prog_36_method_5_code, exceptionTable := #[], attributes := #[] }
def k3m3 : Method := { name := "countTextReadAgain", desc := "(JZ)V", sig := { parameters := [.long, .boolean], returnType := none }, accessFlags := 0, code := some k3c3 }
def k3c4 : Code := { maxStack := 6, maxLocals := 5, code := prog_36_method_6_code, exceptionTable := #[], attributes := #[] }
def k3m4 : Method := { name := "allows", desc := "(J)Z", sig := { parameters := [.long], returnType := some .boolean }, accessFlags := 2, code := some k3c4 }
/-- com/example/ottawa/ottawa/ParseBounds -/
def k3 : Class := { plain "com/example/ottawa/ottawa/ParseBounds" (some 0) with
  accessFlags := 48
  interfaces := #[]
  cf := some (fileOf pool3 1 #[.nestMembers #[23, 95]] #[{ accessFlags := 0, nameIndex := 7, descriptorIndex := 138, attributes := #[] }, { accessFlags := 0, nameIndex := 141, descriptorIndex := 103, attributes := #[] }, { accessFlags := 0, nameIndex := 142, descriptorIndex := 103, attributes := #[] }, { accessFlags := 0, nameIndex := 147, descriptorIndex := 148, attributes := #[] }, { accessFlags := 2, nameIndex := 59, descriptorIndex := 60, attributes := #[] }] 48 4 #[] #[{ accessFlags := 24, nameIndex := 111, descriptorIndex := 12, attributes := #[] }, { accessFlags := 24, nameIndex := 115, descriptorIndex := 12, attributes := #[] }, { accessFlags := 24, nameIndex := 118, descriptorIndex := 12, attributes := #[] }, { accessFlags := 24, nameIndex := 121, descriptorIndex := 12, attributes := #[] }, { accessFlags := 24, nameIndex := 124, descriptorIndex := 12, attributes := #[] }, { accessFlags := 24, nameIndex := 125, descriptorIndex := 12, attributes := #[] }, { accessFlags := 24, nameIndex := 128, descriptorIndex := 12, attributes := #[] }, { accessFlags := 24, nameIndex := 129, descriptorIndex := 12, attributes := #[] }, { accessFlags := 26, nameIndex := 132, descriptorIndex := 12, attributes := #[] }, { accessFlags := 26, nameIndex := 133, descriptorIndex := 12, attributes := #[] }, { accessFlags := 26, nameIndex := 134, descriptorIndex := 12, attributes := #[] }, { accessFlags := 26, nameIndex := 135, descriptorIndex := 12, attributes := #[] }, { accessFlags := 26, nameIndex := 136, descriptorIndex := 12, attributes := #[] }, { accessFlags := 26, nameIndex := 137, descriptorIndex := 12, attributes := #[] }, { accessFlags := 18, nameIndex := 11, descriptorIndex := 12, attributes := #[] }, { accessFlags := 18, nameIndex := 15, descriptorIndex := 12, attributes := #[] }, { accessFlags := 2, nameIndex := 53, descriptorIndex := 12, attributes := #[] }, { accessFlags := 2, nameIndex := 56, descriptorIndex := 12, attributes := #[] }, { accessFlags := 2, nameIndex := 63, descriptorIndex := 12, attributes := #[] }, { accessFlags := 18, nameIndex := 18, descriptorIndex := 19, attributes := #[] }, { accessFlags := 18, nameIndex := 22, descriptorIndex := 19, attributes := #[] }, { accessFlags := 2, nameIndex := 91, descriptorIndex := 12, attributes := #[] }, { accessFlags := 18, nameIndex := 38, descriptorIndex := 39, attributes := #[] }, { accessFlags := 18, nameIndex := 50, descriptorIndex := 39, attributes := #[] }])
  fields := #[{ name := "EXPANSION_ALLOWANCE", type := .long, accessFlags := 24, slot := 0, constantValue := 0 }, { name := "EXPANSION_RATIO", type := .long, accessFlags := 24, slot := 1, constantValue := 0 }, { name := "TEXT_CHARACTERS", type := .long, accessFlags := 24, slot := 2, constantValue := 0 }, { name := "START_TAG_ATTRIBUTES", type := .long, accessFlags := 24, slot := 3, constantValue := 0 }, { name := "START_TAG_CHARACTERS", type := .long, accessFlags := 24, slot := 4, constantValue := 0 }, { name := "DTD_DECLARATIONS", type := .long, accessFlags := 24, slot := 5, constantValue := 0 }, { name := "DTD_CHARACTERS", type := .long, accessFlags := 24, slot := 6, constantValue := 0 }, { name := "HEAP_BYTES", type := .long, accessFlags := 24, slot := 7, constantValue := 0 }, { name := "REOPENING_CHARACTERS", type := .long, accessFlags := 26, slot := 8, constantValue := 0 }, { name := "REREADING_CHARACTERS", type := .long, accessFlags := 26, slot := 9, constantValue := 0 }, { name := "START_TAG_ENTRY_BYTES", type := .long, accessFlags := 26, slot := 10, constantValue := 0 }, { name := "START_TAG_CHARACTER_BYTES", type := .long, accessFlags := 26, slot := 11, constantValue := 0 }, { name := "DTD_ENTRY_BYTES", type := .long, accessFlags := 26, slot := 12, constantValue := 0 }, { name := "DTD_CHARACTER_BYTES", type := .long, accessFlags := 26, slot := 13, constantValue := 0 }, { name := "allowance", type := .long, accessFlags := 18, slot := 0, constantValue := 0 }, { name := "ratio", type := .long, accessFlags := 18, slot := 1, constantValue := 0 }, { name := "ownCharacters", type := .long, accessFlags := 2, slot := 2, constantValue := 0 }, { name := "expanded", type := .long, accessFlags := 2, slot := 3, constantValue := 0 }, { name := "rereadingWork", type := .long, accessFlags := 2, slot := 4, constantValue := 0 }, { name := "textLimit", type := (.object "com/example/ottawa/ottawa/ParseBounds$Limit"), accessFlags := 18, slot := 5, constantValue := 0 }, { name := "heapLimit", type := (.object "com/example/ottawa/ottawa/ParseBounds$Limit"), accessFlags := 18, slot := 6, constantValue := 0 }, { name := "heapHeld", type := .long, accessFlags := 2, slot := 7, constantValue := 0 }, { name := "startTag", type := (.object "com/example/ottawa/ottawa/ParseBounds$Holding"), accessFlags := 18, slot := 8, constantValue := 0 }, { name := "dtd", type := (.object "com/example/ottawa/ottawa/ParseBounds$Holding"), accessFlags := 18, slot := 9, constantValue := 0 }]
  methods := #[k3m0, k3m1, k3m2, k3m3, k3m4]
  instanceTypes := #[.long, .long, .long, .long, .long, (.object "com/example/ottawa/ottawa/ParseBounds$Limit"), (.object "com/example/ottawa/ottawa/ParseBounds$Limit"), .long, (.object "com/example/ottawa/ottawa/ParseBounds$Holding"), (.object "com/example/ottawa/ottawa/ParseBounds$Holding")]
  staticTypes := #[.long, .long, .long, .long, .long, .long, .long, .long, .long, .long, .long, .long, .long, .long]
  resolved := Array.replicate 23 none ++ #[some (.cls 4)] ++ Array.replicate 9 none ++ #[some (.method ⟨4, 0⟩)] ++ Array.replicate 144 none
  statics := none }

def pool4 : Array CpInfo := pool [(1, .fieldref 2 3), (0, .class_ 4), (0, .nameAndType 5 6), (0, u "com/example/ottawa/ottawa/ParseBounds$Holding"), (0, u "this$0"), (0, u "Lcom/example/ottawa/ottawa/ParseBounds;"), (0, .methodref 8 9), (0, .class_ 10), (0, .nameAndType 11 12), (0, u "java/lang/Object"), (0, u "<init>"), (0, u "()V"), (0, .fieldref 2 14), (0, .nameAndType 15 16), (0, u "entries"), (0, u "Lcom/example/ottawa/ottawa/ParseBounds$Limit;"), (0, .fieldref 2 18), (0, .nameAndType 19 16), (0, u "characters"), (0, .fieldref 2 21), (0, .nameAndType 22 23), (0, u "holder"), (0, u "Ljava/lang/String;"), (0, .fieldref 2 25), (0, .nameAndType 26 23), (0, u "held"), (0, .fieldref 2 28), (0, .nameAndType 29 30), (0, u "entryBytes"), (0, u "J"), (0, .fieldref 2 32), (0, .nameAndType 33 30), (0, u "characterBytes"), (2, u "entryCount"), (2, u "characterCount"), (2, u "heldEntries"), (2, u "heldCharacters"), (10, u "mostEntries"), (2, u "mostCharacters"), (1, .class_ 63), (1, u "com/example/ottawa/ottawa/ParseBounds"), (26, u "(Lcom/example/ottawa/ottawa/ParseBounds;Lcom/example/ottawa/ottawa/ParseBounds$Limit;Lcom/example/ottawa/ottawa/ParseBounds$Limit;Ljava/lang/String;Ljava/lang/String;JJ)V")] 15

def k4c0 : Code := { maxStack := 3, maxLocals := 10, code := prog_37_method_1_code, exceptionTable := #[], attributes := #[] }
def k4m0 : Method := { name := "<init>", desc := "(Lcom/example/ottawa/ottawa/ParseBounds;Lcom/example/ottawa/ottawa/ParseBounds$Limit;Lcom/example/ottawa/ottawa/ParseBounds$Limit;Ljava/lang/String;Ljava/lang/String;JJ)V", sig := { parameters := [(.object "com/example/ottawa/ottawa/ParseBounds"), (.object "com/example/ottawa/ottawa/ParseBounds$Limit"), (.object "com/example/ottawa/ottawa/ParseBounds$Limit"), (.object "java/lang/String"), (.object "java/lang/String"), .long, .long], returnType := none }, accessFlags := 2, code := some k4c0 }
/-- com/example/ottawa/ottawa/ParseBounds$Holding -/
def k4 : Class := { plain "com/example/ottawa/ottawa/ParseBounds$Holding" (some 0) with
  accessFlags := 48
  interfaces := #[]
  cf := some (fileOf pool4 2 #[.nestHost 61] #[{ accessFlags := 2, nameIndex := 11, descriptorIndex := 90, attributes := #[] }] 48 8 #[] #[{ accessFlags := 18, nameIndex := 15, descriptorIndex := 16, attributes := #[] }, { accessFlags := 18, nameIndex := 19, descriptorIndex := 16, attributes := #[] }, { accessFlags := 18, nameIndex := 22, descriptorIndex := 23, attributes := #[] }, { accessFlags := 18, nameIndex := 26, descriptorIndex := 23, attributes := #[] }, { accessFlags := 18, nameIndex := 29, descriptorIndex := 30, attributes := #[] }, { accessFlags := 18, nameIndex := 33, descriptorIndex := 30, attributes := #[] }, { accessFlags := 2, nameIndex := 36, descriptorIndex := 30, attributes := #[] }, { accessFlags := 2, nameIndex := 39, descriptorIndex := 30, attributes := #[] }, { accessFlags := 2, nameIndex := 42, descriptorIndex := 30, attributes := #[] }, { accessFlags := 2, nameIndex := 45, descriptorIndex := 30, attributes := #[] }, { accessFlags := 2, nameIndex := 56, descriptorIndex := 30, attributes := #[] }, { accessFlags := 2, nameIndex := 59, descriptorIndex := 30, attributes := #[] }, { accessFlags := 4112, nameIndex := 5, descriptorIndex := 6, attributes := #[] }])
  fields := #[{ name := "entries", type := (.object "com/example/ottawa/ottawa/ParseBounds$Limit"), accessFlags := 18, slot := 0, constantValue := 0 }, { name := "characters", type := (.object "com/example/ottawa/ottawa/ParseBounds$Limit"), accessFlags := 18, slot := 1, constantValue := 0 }, { name := "holder", type := (.object "java/lang/String"), accessFlags := 18, slot := 2, constantValue := 0 }, { name := "held", type := (.object "java/lang/String"), accessFlags := 18, slot := 3, constantValue := 0 }, { name := "entryBytes", type := .long, accessFlags := 18, slot := 4, constantValue := 0 }, { name := "characterBytes", type := .long, accessFlags := 18, slot := 5, constantValue := 0 }, { name := "entryCount", type := .long, accessFlags := 2, slot := 6, constantValue := 0 }, { name := "characterCount", type := .long, accessFlags := 2, slot := 7, constantValue := 0 }, { name := "heldEntries", type := .long, accessFlags := 2, slot := 8, constantValue := 0 }, { name := "heldCharacters", type := .long, accessFlags := 2, slot := 9, constantValue := 0 }, { name := "mostEntries", type := .long, accessFlags := 2, slot := 10, constantValue := 0 }, { name := "mostCharacters", type := .long, accessFlags := 2, slot := 11, constantValue := 0 }, { name := "this$0", type := (.object "com/example/ottawa/ottawa/ParseBounds"), accessFlags := 4112, slot := 12, constantValue := 0 }]
  methods := #[k4m0]
  instanceTypes := #[(.object "com/example/ottawa/ottawa/ParseBounds$Limit"), (.object "com/example/ottawa/ottawa/ParseBounds$Limit"), (.object "java/lang/String"), (.object "java/lang/String"), .long, .long, .long, .long, .long, .long, .long, .long, (.object "com/example/ottawa/ottawa/ParseBounds")]
  staticTypes := #[]
  resolved := Array.replicate 106 none
  statics := none }

def pool5 : Array CpInfo := pool [(1, .class_ 2), (0, u "java/io/Serializable"), (0, .class_ 4), (0, u "java/lang/Object")] 2

/-- java/io/Serializable -/
def k5 : Class := { plain "java/io/Serializable" (some 0) with
  accessFlags := 1537
  interfaces := #[]
  cf := some (fileOf pool5 1 #[] #[] 1537 3 #[] #[])
  fields := #[]
  methods := #[]
  instanceTypes := #[]
  staticTypes := #[]
  resolved := Array.replicate 7 none
  statics := none }

def pool6 : Array CpInfo := pool [(1, .class_ 2), (0, u "java/lang/Comparable"), (0, .class_ 4), (0, u "java/lang/Object")] 7

/-- java/lang/Comparable -/
def k6 : Class := { plain "java/lang/Comparable" (some 0) with
  accessFlags := 1537
  interfaces := #[]
  cf := some (fileOf pool6 1 #[] #[] 1537 3 #[] #[])
  fields := #[]
  methods := #[]
  instanceTypes := #[]
  staticTypes := #[]
  resolved := Array.replicate 12 none
  statics := none }

def pool7 : Array CpInfo := pool [(2, .class_ 4), (1, u "java/lang/CharSequence"), (42, .class_ 48), (0, u "java/lang/CharSequence$1CodePointIterator"), (10, .class_ 60), (0, u "java/lang/CharSequence$1CharIterator"), (5, .class_ 67), (0, u "java/lang/Object")] 63

/-- java/lang/CharSequence -/
def k7 : Class := { plain "java/lang/CharSequence" (some 0) with
  accessFlags := 1537
  interfaces := #[]
  cf := some (fileOf pool7 2 #[.nestMembers #[47, 59]] #[] 1537 66 #[] #[])
  fields := #[]
  methods := #[]
  instanceTypes := #[]
  staticTypes := #[]
  resolved := Array.replicate 131 none
  statics := none }

def pool8 : Array CpInfo := pool [(1, .class_ 2), (0, u "java/lang/constant/Constable"), (0, .class_ 4), (0, u "java/lang/Object")] 6

/-- java/lang/constant/Constable -/
def k8 : Class := { plain "java/lang/constant/Constable" (some 0) with
  accessFlags := 1537
  interfaces := #[]
  cf := some (fileOf pool8 1 #[] #[] 1537 3 #[] #[])
  fields := #[]
  methods := #[]
  instanceTypes := #[]
  staticTypes := #[]
  resolved := Array.replicate 11 none
  statics := none }

def pool9 : Array CpInfo := pool [(1, .class_ 2), (0, u "java/lang/constant/ConstantDesc"), (0, .class_ 4), (0, u "java/lang/Object")] 32

/-- java/lang/constant/ConstantDesc -/
def k9 : Class := { plain "java/lang/constant/ConstantDesc" (some 0) with
  accessFlags := 1537
  interfaces := #[]
  cf := some (fileOf pool9 1 #[] #[] 1537 3 #[] #[])
  fields := #[]
  methods := #[]
  instanceTypes := #[]
  staticTypes := #[]
  resolved := Array.replicate 37 none
  statics := none }

def pool10 : Array CpInfo := pool [(2, .class_ 4), (1, u "java/lang/Object"), (0, u "<init>"), (0, u "()V"), (3, .class_ 12), (1, u "java/lang/String"), (0, u "value"), (0, u "[B"), (2, u "coder"), (0, u "B"), (2, u "hash"), (0, u "I"), (2, u "hashIsZero"), (0, u "Z"), (13, u "COMPACT_STRINGS"), (534, .class_ 576), (0, u "java/lang/CharSequence"), (22, u "CASE_INSENSITIVE_ORDER"), (0, u "Ljava/util/Comparator;"), (500, u "serialPersistentFields"), (0, u "[Ljava/io/ObjectStreamField;"), (0, .class_ 1104), (0, u "java/lang/String$CaseInsensitiveComparator"), (1, .class_ 1107), (0, u "java/io/Serializable"), (0, .class_ 1109), (0, u "java/lang/Comparable"), (0, .class_ 1111), (0, u "java/lang/constant/Constable"), (0, .class_ 1113), (0, u "java/lang/constant/ConstantDesc"), (2, u "serialVersionUID"), (0, u "J"), (3, u "REPL"), (0, u "C"), (2, u "LATIN1"), (1, u "UTF16")] 323

def k10m0 : Method := { name := "<init>", desc := "()V", sig := { parameters := [], returnType := none }, accessFlags := 1, code := none }
/-- java/lang/String -/
def k10 : Class := { plain "java/lang/String" (some 0) with
  accessFlags := 49
  interfaces := #[5, 6, 7, 8, 9]
  cf := some (fileOf pool10 10 #[.nestMembers #[1103]] #[{ accessFlags := 1, nameIndex := 5, descriptorIndex := 6, attributes := #[] }] 49 2 #[1106, 1108, 575, 1110, 1112] #[{ accessFlags := 18, nameIndex := 13, descriptorIndex := 14, attributes := #[] }, { accessFlags := 18, nameIndex := 17, descriptorIndex := 18, attributes := #[] }, { accessFlags := 2, nameIndex := 21, descriptorIndex := 22, attributes := #[] }, { accessFlags := 2, nameIndex := 25, descriptorIndex := 26, attributes := #[] }, { accessFlags := 26, nameIndex := 1116, descriptorIndex := 1117, attributes := #[] }, { accessFlags := 24, nameIndex := 40, descriptorIndex := 26, attributes := #[] }, { accessFlags := 26, nameIndex := 1101, descriptorIndex := 1102, attributes := #[] }, { accessFlags := 26, nameIndex := 1121, descriptorIndex := 1122, attributes := #[] }, { accessFlags := 25, nameIndex := 599, descriptorIndex := 600, attributes := #[] }, { accessFlags := 24, nameIndex := 1125, descriptorIndex := 18, attributes := #[] }, { accessFlags := 24, nameIndex := 1127, descriptorIndex := 18, attributes := #[] }])
  fields := #[{ name := "value", type := (.array .byte), accessFlags := 18, slot := 0, constantValue := 0 }, { name := "coder", type := .byte, accessFlags := 18, slot := 1, constantValue := 0 }, { name := "hash", type := .int, accessFlags := 2, slot := 2, constantValue := 0 }, { name := "hashIsZero", type := .boolean, accessFlags := 2, slot := 3, constantValue := 0 }, { name := "serialVersionUID", type := .long, accessFlags := 26, slot := 0, constantValue := 0 }, { name := "COMPACT_STRINGS", type := .boolean, accessFlags := 24, slot := 1, constantValue := 0 }, { name := "serialPersistentFields", type := (.array (.object "java/io/ObjectStreamField")), accessFlags := 26, slot := 2, constantValue := 0 }, { name := "REPL", type := .char, accessFlags := 26, slot := 3, constantValue := 0 }, { name := "CASE_INSENSITIVE_ORDER", type := (.object "java/util/Comparator"), accessFlags := 25, slot := 4, constantValue := 0 }, { name := "LATIN1", type := .byte, accessFlags := 24, slot := 5, constantValue := 0 }, { name := "UTF16", type := .byte, accessFlags := 24, slot := 6, constantValue := 0 }]
  methods := #[k10m0]
  instanceTypes := #[(.array .byte), .byte, .int, .boolean]
  staticTypes := #[.long, .boolean, (.array (.object "java/io/ObjectStreamField")), .char, (.object "java/util/Comparator"), .byte, .byte]
  resolved := Array.replicate 1451 none
  statics := none }

def pool11 : Array CpInfo := pool [(1, u "java/lang/Cloneable"), (0, .class_ 1), (0, u "java/lang/Object"), (0, .class_ 3)] 3

/-- java/lang/Cloneable -/
def k11 : Class := { plain "java/lang/Cloneable" (some 0) with
  accessFlags := 1537
  interfaces := #[]
  cf := some (fileOf pool11 2 #[] #[] 1537 4 #[] #[])
  fields := #[]
  methods := #[]
  instanceTypes := #[]
  staticTypes := #[]
  resolved := Array.replicate 8 none
  statics := none }

/-- the primitive byte -/
def k12 : Class := { plain "byte" none with kind := .primitive 'B', accessFlags := 0x411 }
/-- [B -/
def k13 : Class := { plain "[B" (some 0) with kind := .array 12 .byte, interfaces := #[11, 5], accessFlags := 1041 }

/-- the primitive int -/
def k14 : Class := { plain "int" none with kind := .primitive 'I', accessFlags := 0x411 }
/-- [I -/
def k15 : Class := { plain "[I" (some 0) with kind := .array 14 .int, interfaces := #[11, 5], accessFlags := 1041 }

def heap : Heap := #[]
def classes : Array Class := #[k0, k1, k2, k3, k4, k5, k6, k7, k8, k9, k10, k11, k12, k13, k14, k15]
def interned : List (Array UInt16 × Addr) := []
def slotsUsed : Nat := 0
def theMethod : MethodId := ⟨1, 1⟩
def args0 : Array Value := #[.long 5, .long 9, .int 3]
def aboutOver (below : List Frame) : State where
  vm := { classes := classes, interned := interned.toArray }
  heap := heap
  slotsUsed := slotsUsed
  threads := #[{ frames := .invoking theMethod args0 :: below }]
def below0 : List Frame := [.native { method := ⟨0, 0⟩, args := #[] }]
def about1 : State := aboutOver below0
def p0 : Program := .bare "" "" ""
def e0 : Env := launch0.env 0 0 0
theorem w_frames : about1.frames = Frame.invoking theMethod args0 :: below0 := rfl
set_option maxRecDepth 65536 in
theorem w_args : argsFit about1.vm theMethod args0 = true := by decide +kernel
set_option maxRecDepth 65536 in
theorem w_heap : heapFits about1 = true := by decide +kernel
set_option maxRecDepth 65536 in
theorem w_runnable : about1.curStatus? = some .runnable := by decide +kernel
set_option maxRecDepth 65536 in
theorem w_alone : about1.alone = true := by decide +kernel
set_option maxRecDepth 65536 in
theorem w_named : about1.methodNamed? x = some theMethod := by decide +kernel
set_option maxRecDepth 65536 in
theorem w_hears : about1.hears theMethod below0 = true := by decide +kernel
set_option maxRecDepth 65536 in
theorem w_ripe : about1.ripe theMethod args0 below0 = true := by decide +kernel
theorem w_running : about1.status = .running := rfl
set_option maxRecDepth 65536 in
theorem w_room : about1.hasRoom e0.platform room_1 = true :=
  launch0.hasRoom_least _ room_1 (by decide +kernel) (by decide +kernel) (by decide +kernel) (by decide +kernel) (by decide +kernel) (by decide +kernel)
theorem allAtoms_all (ts : List Jvm.Cond) (a : Array Jvm.Value) (st : Jvm.State) : (allAtoms ts).before a st = ts.all (fun c => c.before a st) := by
  induction ts with
  | nil => rfl
  | cons c t ih =>
    show (Jvm.Cond.and c (allAtoms t)).before a st = _
    rw [Jvm.Cond.before_and, ih, List.all_cons]
def words1 : List Jvm.Cond := Jvm.Cond.code x code maxLocals ret :: tables_1
/-- a 'code' word, met by the world's own term for the bytes: nothing is compared byte by byte -/
theorem code_word {y : MethodName} {bytes : ByteArray} {mx : Nat} {rt : Option FieldType} {a : Array Value} {s : State} {m : MethodId} {meth : Method} {c : Code} (h1 : s.methodNamed? y = some m) (h2 : s.vm.method? m = some meth) (h3 : meth.code = some c) (h4 : c.code = bytes)
    (h5 : (c.maxLocals == mx && c.exceptionTable.isEmpty && decide (c.maxStack ≤ mostOperands) && decide (meth.sig.returnType = rt) && !meth.locks && decide (parseMethodDescriptor y.desc = some meth.sig)) = true) : (Jvm.Cond.code y bytes mx rt).before a s = true := by
  simp only [Bool.and_eq_true, beq_iff_eq, Bool.not_eq_true', decide_eq_true_eq] at h5
  obtain ⟨⟨⟨⟨⟨g1, g2⟩, g3⟩, g4⟩, g5⟩, g6⟩ := h5
  simp [Cond.before, Cond.holds, Cond.value, h1, h2, h3, h4, g1, g2, g3, g4, g5, g6]
def isCode : Jvm.Cond → Bool
  | .code _ _ _ _ => true
  | _ => false
theorem all_split {L : List Jvm.Cond} {P : Jvm.Cond → Bool} (h1 : L.all (fun c => isCode c || P c) = true) (h2 : ∀ c ∈ L.filter isCode, P c = true) : L.all P = true := by
  refine List.all_eq_true.mpr fun c hc => ?_
  have h := List.all_eq_true.mp h1 c hc
  rcases Bool.eq_false_or_eq_true (isCode c) with hi | hi
  · exact h2 c (List.mem_filter.mpr ⟨hc, hi⟩)
  · simpa [hi] using h
set_option maxRecDepth 65536 in
theorem w_c0 : (Jvm.Cond.code x code maxLocals ret).before args0 about1 = true := code_word (m := ⟨1, 1⟩) (meth := k1m1) (c := k1c1) (by decide +kernel) rfl rfl rfl (by decide +kernel)
set_option maxRecDepth 65536 in
theorem w_c1 : (Jvm.Cond.code ({ cls := "java/lang/Math", name := "max", desc := "(JJ)J" } : Jvm.MethodName) jdk_29_method_66_code (4 : Nat) (Option.some Jvm.ClassFile.FieldType.long)).before args0 about1 = true := code_word (m := ⟨2, 1⟩) (meth := k2m1) (c := k2c1) (by decide +kernel) rfl rfl rfl (by decide +kernel)
set_option maxRecDepth 65536 in
theorem w_c2 : (Jvm.Cond.code ({ cls := "com/example/ottawa/ottawa/ParseBounds", name := "<init>", desc := "(JJLcom/example/ottawa/ottawa/ParseBounds$Limit;Lcom/example/ottawa/ottawa/ParseBounds$Limit;Lcom/example/ottawa/ottawa/ParseBounds$Limit;Lcom/example/ottawa/ottawa/ParseBounds$Limit;Lcom/example/ottawa/ottawa/ParseBounds$Limit;Lcom/example/ottawa/ottawa/ParseBounds$Limit;)V" } : Jvm.MethodName) prog_36_method_1_code (11 : Nat) (Option.none : Option Jvm.ClassFile.FieldType)).before args0 about1 = true := code_word (m := ⟨3, 0⟩) (meth := k3m0) (c := k3c0) (by decide +kernel) rfl rfl rfl (by decide +kernel)
set_option maxRecDepth 65536 in
theorem w_c3 : (Jvm.Cond.code ({ cls := "java/lang/Object", name := "<init>", desc := "()V" } : Jvm.MethodName) object_method_1_code (1 : Nat) (Option.none : Option Jvm.ClassFile.FieldType)).before args0 about1 = true := code_word (m := ⟨0, 0⟩) (meth := k0m0) (c := k0c0) (by decide +kernel) rfl rfl rfl (by decide +kernel)
set_option maxRecDepth 65536 in
theorem w_c4 : (Jvm.Cond.code ({ cls := "com/example/ottawa/ottawa/ParseBounds$Holding", name := "<init>", desc := "(Lcom/example/ottawa/ottawa/ParseBounds;Lcom/example/ottawa/ottawa/ParseBounds$Limit;Lcom/example/ottawa/ottawa/ParseBounds$Limit;Ljava/lang/String;Ljava/lang/String;JJ)V" } : Jvm.MethodName) prog_37_method_1_code (10 : Nat) (Option.none : Option Jvm.ClassFile.FieldType)).before args0 about1 = true := code_word (m := ⟨4, 0⟩) (meth := k4m0) (c := k4c0) (by decide +kernel) rfl rfl rfl (by decide +kernel)
set_option maxRecDepth 65536 in
theorem w_c5 : (Jvm.Cond.code ({ cls := "com/example/ottawa/ottawa/ParseBounds", name := "countOwn", desc := "(J)V" } : Jvm.MethodName) prog_36_method_2_code (3 : Nat) (Option.none : Option Jvm.ClassFile.FieldType)).before args0 about1 = true := code_word (m := ⟨3, 1⟩) (meth := k3m1) (c := k3c1) (by decide +kernel) rfl rfl rfl (by decide +kernel)
set_option maxRecDepth 65536 in
theorem w_c6 : (Jvm.Cond.code ({ cls := "com/example/ottawa/ottawa/ParseBounds", name := "countTextReadAgain", desc := "(JZ)V" } : Jvm.MethodName) prog_36_method_5_code (4 : Nat) (Option.none : Option Jvm.ClassFile.FieldType)).before args0 about1 = true := code_word (m := ⟨3, 3⟩) (meth := k3m3) (c := k3c3) (by decide +kernel) rfl rfl rfl (by decide +kernel)
set_option maxRecDepth 65536 in
theorem w_c7 : (Jvm.Cond.code ({ cls := "com/example/ottawa/ottawa/ParseBounds", name := "expand", desc := "(J)V" } : Jvm.MethodName) prog_36_method_3_code (3 : Nat) (Option.none : Option Jvm.ClassFile.FieldType)).before args0 about1 = true := code_word (m := ⟨3, 2⟩) (meth := k3m2) (c := k3c2) (by decide +kernel) rfl rfl rfl (by decide +kernel)
set_option maxRecDepth 65536 in
theorem w_c8 : (Jvm.Cond.code ({ cls := "com/example/ottawa/ottawa/ParseBounds", name := "allows", desc := "(J)Z" } : Jvm.MethodName) prog_36_method_6_code (5 : Nat) (Option.some Jvm.ClassFile.FieldType.boolean)).before args0 about1 = true := code_word (m := ⟨3, 4⟩) (meth := k3m4) (c := k3c4) (by decide +kernel) rfl rfl rfl (by decide +kernel)
def codes1 : List Jvm.Cond := [Jvm.Cond.code x code maxLocals ret, Jvm.Cond.code ({ cls := "java/lang/Math", name := "max", desc := "(JJ)J" } : Jvm.MethodName) jdk_29_method_66_code (4 : Nat) (Option.some Jvm.ClassFile.FieldType.long), Jvm.Cond.code ({ cls := "com/example/ottawa/ottawa/ParseBounds", name := "<init>", desc := "(JJLcom/example/ottawa/ottawa/ParseBounds$Limit;Lcom/example/ottawa/ottawa/ParseBounds$Limit;Lcom/example/ottawa/ottawa/ParseBounds$Limit;Lcom/example/ottawa/ottawa/ParseBounds$Limit;Lcom/example/ottawa/ottawa/ParseBounds$Limit;Lcom/example/ottawa/ottawa/ParseBounds$Limit;)V" } : Jvm.MethodName) prog_36_method_1_code (11 : Nat) (Option.none : Option Jvm.ClassFile.FieldType), Jvm.Cond.code ({ cls := "java/lang/Object", name := "<init>", desc := "()V" } : Jvm.MethodName) object_method_1_code (1 : Nat) (Option.none : Option Jvm.ClassFile.FieldType), Jvm.Cond.code ({ cls := "com/example/ottawa/ottawa/ParseBounds$Holding", name := "<init>", desc := "(Lcom/example/ottawa/ottawa/ParseBounds;Lcom/example/ottawa/ottawa/ParseBounds$Limit;Lcom/example/ottawa/ottawa/ParseBounds$Limit;Ljava/lang/String;Ljava/lang/String;JJ)V" } : Jvm.MethodName) prog_37_method_1_code (10 : Nat) (Option.none : Option Jvm.ClassFile.FieldType), Jvm.Cond.code ({ cls := "com/example/ottawa/ottawa/ParseBounds", name := "countOwn", desc := "(J)V" } : Jvm.MethodName) prog_36_method_2_code (3 : Nat) (Option.none : Option Jvm.ClassFile.FieldType), Jvm.Cond.code ({ cls := "com/example/ottawa/ottawa/ParseBounds", name := "countTextReadAgain", desc := "(JZ)V" } : Jvm.MethodName) prog_36_method_5_code (4 : Nat) (Option.none : Option Jvm.ClassFile.FieldType), Jvm.Cond.code ({ cls := "com/example/ottawa/ottawa/ParseBounds", name := "expand", desc := "(J)V" } : Jvm.MethodName) prog_36_method_3_code (3 : Nat) (Option.none : Option Jvm.ClassFile.FieldType), Jvm.Cond.code ({ cls := "com/example/ottawa/ottawa/ParseBounds", name := "allows", desc := "(J)Z" } : Jvm.MethodName) prog_36_method_6_code (5 : Nat) (Option.some Jvm.ClassFile.FieldType.boolean)]
set_option maxRecDepth 65536 in
theorem codes_eq : words1.filter isCode = codes1 := rfl
theorem w_codes : ∀ c ∈ words1.filter isCode, c.before args0 about1 = true := by
  rw [codes_eq]
  intro c hc
  simp only [codes1, List.mem_cons, List.not_mem_nil, or_false] at hc
  rcases hc with rfl | rfl | rfl | rfl | rfl | rfl | rfl | rfl | rfl
  · exact w_c0
  · exact w_c1
  · exact w_c2
  · exact w_c3
  · exact w_c4
  · exact w_c5
  · exact w_c6
  · exact w_c7
  · exact w_c8
set_option maxRecDepth 65536 in
theorem w_t1 : (words1.take 24).all (fun c => isCode c || c.before args0 about1) = true := by decide +kernel
set_option maxRecDepth 65536 in
theorem w_t2 : ((words1.drop 24).take 24).all (fun c => isCode c || c.before args0 about1) = true := by decide +kernel
set_option maxRecDepth 65536 in
theorem w_t3 : (((words1.drop 24).drop 24).take 24).all (fun c => isCode c || c.before args0 about1) = true := by decide +kernel
set_option maxRecDepth 65536 in
theorem w_t4 : (((words1.drop 24).drop 24).drop 24).all (fun c => isCode c || c.before args0 about1) = true := by decide +kernel
theorem w_tables : (allAtoms (Jvm.Cond.code x code maxLocals ret :: tables_1)).before args0 about1 = true := by
  rw [allAtoms_all]
  show words1.all (fun c => c.before args0 about1) = true
  refine all_split ?_ w_codes
  rw [← List.take_append_drop 24 words1, List.all_append, w_t1, ← List.take_append_drop 24 (words1.drop 24), List.all_append, w_t2, ← List.take_append_drop 24 ((words1.drop 24).drop 24), List.all_append, w_t3, w_t4]
  rfl
set_option maxRecDepth 65536 in
theorem w_case : (Jvm.Cond.and given_1 narrow_1).before args0 about1 = true := by decide +kernel
theorem w_applies : (headSpec (Jvm.Cond.code x code maxLocals ret :: tables_1) room_1).applies x e0.platform about1 = true :=
  (Spec.applies_iff w_frames).mpr ⟨w_running, w_runnable, w_alone, w_named, w_hears, w_ripe, w_room, w_tables⟩
theorem atStart : AtStart classFile x code maxLocals ret World_1 tables_1 room_1 Calls_1 rest_1 Pre_1 launch0 p0 e0 about1 theMethod args0 below0 :=
  ⟨lists_1, trivial, launch0.admits_env _ _ _, launch0.least_env, fairChoices_fair.cas, fairChoices_fair.clock, w_frames, w_args, w_heap, w_applies, trivial, trivial, w_case⟩
end start1
theorem witness_1 : WitnessClaimed_1 := ⟨start1.p0, start1.e0, start1.about1, start1.theMethod, start1.args0, start1.below0, start1.atStart⟩
end Jvm.Pilot.@@N@@
