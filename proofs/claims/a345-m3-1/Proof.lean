import JvmDerived
import JvmDerived.Pilot.@@N@@Statement
import JvmDerived.Pilot.@@N@@Code
set_option linter.unusedVariables false
set_option linter.unusedSimpArgs false
namespace Jvm.RoadKit
open Sem ClassFile Op Lib Jvm.Stand Jvm.Free Jvm.LawKit
section New
variable {p : Program} {l : Launch} {e : Env} {R : Room} {s : State} {m : MethodId} {args : Array Value} {below : List Frame} {meth : Method} {c : Code} {T : State} {locs : List Loc} {cells slots : Nat}
theorem retI (X : Stand p l e R s m args below meth c T locs cells slots) (hx : p.tables.exec = Jvm.exec) {pc : Nat} {Ls : Array Slot} {z : Int32} {rest : List Value} (hret : meth.sig.returnType = some .int) (hd : decode c.code pc = .ok (.ireturn, 1)) {fs : List Frame}
    (hl : ∀ (f : JFrame) (acts : List Action), f.method = m → f.locked = none → f.entered = [] → (doReturn e (T.setTop f) acts (some (.int z))).1 = T.setFrames fs) : Steps p.tables e below (T.setTop (mkF m pc Ls (.int z :: rest))) (T.setFrames fs) := by
  have hm' : T.vm.method? m = some meth := X.method'
  have hn : narrow .int (.int z) = .int z := rfl
  show Steps p.tables e below (T.setTop { method := m, pc := pc, locals := Ls, stack := _ :: rest, locked := none }) _
  jvm_step X.here [X.here.top, hx, hd, hm', hret, hn]
  first | (intro acts; rw [hl _ acts rfl rfl rfl]) | rw [hl _ _ rfl rfl rfl]
  exact Steps.refl _
end New
/-- the run from S ends, with Post of its end -/
def Go (tb : Tables) (e : Env) (below : List Frame) (Post : Outcome → State → Prop) (S : State) : Prop := ∃ s₂ o, Steps tb e below S s₂ ∧ s₂.status = .running ∧ Ended s₂ below o ∧ Post o s₂
theorem Go.step {tb : Tables} {e : Env} {below : List Frame} {Post : Outcome → State → Prop} {S S' : State} (h : ∀ t, Steps tb e below S' t → Steps tb e below S t) (g : Go tb e below Post S') : Go tb e below Post S := by
  obtain ⟨s₂, o, a, b⟩ := g
  exact ⟨s₂, o, h _ a, b⟩
theorem at_of {c : Cell} {vs : List Value} {d v : Value} {j : Int32} (H : Has c vs d) (hin : ¬ (j < 0 ∨ c.slots.size ≤ j.toNatClampNeg)) (e : vs.getD j.toNatClampNeg d = v) : c.slots[j.toNatClampNeg]? = some v := by
  have q : j.toNatClampNeg < c.slots.size := Nat.lt_of_not_le (fun h => hin (Or.inr h))
  rw [H _ q, e]
end Jvm.RoadKit
namespace Jvm.Pilot.@@N@@
open Jvm Jvm.ClassFile Sem Op Lib Jvm.Free Jvm.Stand Jvm.LawKit Jvm.RoadKit Bundle Jvm.Pilot.@@N@@.Jvm.D
theorem own_wS {Z : State} {a0 : Array Value} (hw : ∀ d ∈ tables_1, d.before a0 Z = true) : ∀ a ∈ Bundle.stringAtoms, a.before a0 Z = true := fun d hd => by
  simp only [Bundle.stringAtoms, List.mem_cons, List.not_mem_nil, or_false] at hd
  rcases hd with rfl | rfl | rfl | rfl | rfl | rfl | rfl
  · exact hw _ (List.mem_of_getElem? (i := 10) rfl)
  · exact hw _ (List.mem_of_getElem? (i := 9) rfl)
  · exact hw _ (List.mem_of_getElem? (i := 22) rfl)
  · exact hw _ (List.mem_of_getElem? (i := 23) rfl)
  · exact hw _ (List.mem_of_getElem? (i := 24) rfl)
  · exact hw _ (List.mem_of_getElem? (i := 25) rfl)
  · exact hw _ (List.mem_of_getElem? (i := 26) rfl)
def own_EL : List (String × Nat) := [("java/lang/String", 7)]
theorem own_EW {Z : State} {a0 : Array Value} (hw : ∀ d ∈ tables_1, d.before a0 Z = true) : EW Z a0 own_EL := (EW.cons (hw _ (List.mem_of_getElem? (i := 21) rfl)) (by decide) EW.nil)
section HeldX
variable {p : Program} {l : Launch} {e : Env} {R : Room} {s : State} {m : MethodId} {args : Array Value} {below : List Frame} {Z : State} {a0 : Array Value} {EL : List (String × Nat)} {h : Heap} {vm0 : Vm}
/-- the library's backOfSH, for a callee that writes cells which may not be a literal's: it is told so -/
theorem backOfSHx {y : MethodName} {bytes : ByteArray} {maxL : Nat} {ret : Option FieldType} {rm : Room} {len W : Nat} {as' : Array Value} {Q : Option Value → Heap → List Loc → Prop} {ws : List Addr}
    (hM : MetFree l y (head1 [Jvm.Cond.code y bytes maxL ret] rm) (fun a U => a = as' ∧ Z.Warmed39 U.vm ∧ U.heap = h ∧ CHv Z EL U.vm h ∧ ∀ x ∈ ws, Safe Z EL U.vm h x) (fun _ _ _ _ _ => True) (fun _ U o U' => ∃ v L, o = .returned v ∧ Q v U'.heap L ∧ CHr Z EL U.vm U.heap U'.vm U'.heap ∧ ReturnedEndW U o U' L rm.cells rm.slots))
    (hZ : Z.Warmed39 vm0) (wc : (Jvm.Cond.code y bytes maxL ret).before a0 Z = true) (wz : (Jvm.Cond.initialized y.cls).before a0 Z = true) (hf : rm.frames + 1 ≤ R.frames) (hl : W + (maxL + 11) + rm.locals ≤ R.locals) (hEL : EW Z a0 EL) (H : CHv Z EL vm0 h) (hs : ∀ x ∈ ws, x < h.size ∧ Safe Z EL vm0 h x) :
    BackS l R p e below (s.setVm vm0) args y len W (fun A a => a = as' ∧ A.U.heap = h ∧ A.cells + rm.cells ≤ R.cells ∧ A.slots + rm.slots ≤ R.slots)
      (fun A _ v B => ∃ L, Q v B.U.heap L ∧ B.locs = A.locs ++ L ∧ B.cells = A.cells + rm.cells ∧ B.slots = A.slots + rm.slots ∧ CHr Z EL vm0 h B.U.vm B.U.heap) :=
  BackS.of_freeW (bytes := bytes) (maxL := maxL) (ret := ret) (E := fun _ first o t L k n => k = rm.cells ∧ n = rm.slots ∧ (∃ v, o = .returned v ∧ Q v t.heap L) ∧ CHr Z EL first.vm first.heap t.vm t.heap) hM hf hl
    (fun m meth c A a Y hp => have hU : Z.Warmed39 A.U.vm := wtrans (s := s.setVm vm0) hZ Y.warmed
      ⟨by show (Jvm.Cond.and _ .tt).before a A.U = true; rw [Cond.before_and, mv hU wc]; rfl, mv hU wc, mv hU wz, hp.2.2.1, hp.2.2.2⟩)
    (fun m meth c A a g mk Y hp => ⟨hp.1, wtrans (s := s.setVm vm0) hZ Y.warmed, hp.2.1, (CHv.at Y hZ hEL H).1, fun x hx => (CHv.at Y hZ hEL H).safe (hs x hx).1 (hs x hx).2⟩) (fun _ _ _ _ _ _ _ _ _ => trivial)
    (fun _ _ _ _ ⟨v, L, h1, h2, h3, h4⟩ => ⟨L, _, _, h4, rfl, rfl, ⟨v, h1, h2⟩, h3⟩)
    (fun m meth c A a g mk v t L k n Y hp _ _ ⟨e1, e2, ⟨v', e3, e4⟩, e5⟩ => by
      cases e3; subst e1 e2
      refine ⟨L, e4, rfl, rfl, rfl, (CHv.at Y hZ hEL H).trans ?_⟩
      rw [← hp.2.1]; exact e5)
end HeldX
theorem own_and3 (x : Int32) : (x &&& (3 : Int32)) = 0 ∨ (x &&& (3 : Int32)) = 1 ∨ (x &&& (3 : Int32)) = 2 ∨ (x &&& (3 : Int32)) = 3 := by
  have h := c_mask x 3 2 (by decide) (by decide)
  have e0 : (0 : Int32).toInt = 0 := by decide
  have e1 : (1 : Int32).toInt = 1 := by decide
  have e2 : (2 : Int32).toInt = 2 := by decide
  have e3 : (3 : Int32).toInt = 3 := by decide
  simp only [← Int32.toInt_inj]
  omega
def own_n (p : Int32) : Int32 := p &&& (3 : Int32)
def own_x0 (p : Int32) : Int32 := (((p.toUInt32 >>> ((8 : Int32) &&& 31).toUInt32).toInt32) &&& (255 : Int32))
def own_x1 (p : Int32) : Int32 := (((p.toUInt32 >>> ((16 : Int32) &&& 31).toUInt32).toInt32) &&& (255 : Int32))
def own_x2 (p : Int32) : Int32 := (((p.toUInt32 >>> ((24 : Int32) &&& 31).toUInt32).toInt32) &&& (255 : Int32))
def own_by (c : Int32) : Int32 := c.toInt8.toInt32
theorem own_m255 (y : Int32) : ¬ (y &&& (255 : Int32)) < 0 ∧ ¬ (255 : Int32) < (y &&& (255 : Int32)) := by
  have h := c_mask y 255 8 (by decide) (by decide)
  have e0 : (0 : Int32).toInt = 0 := by decide
  have e1 : (255 : Int32).toInt = 255 := by decide
  rw [Int32.lt_iff_toInt_lt, Int32.lt_iff_toInt_lt]
  omega
theorem own_r0 (p : Int32) : ¬ (own_x0 p) < 0 ∧ ¬ (255 : Int32) < own_x0 p := own_m255 _
theorem own_r1 (p : Int32) : ¬ (own_x1 p) < 0 ∧ ¬ (255 : Int32) < own_x1 p := own_m255 _
theorem own_r2 (p : Int32) : ¬ (own_x2 p) < 0 ∧ ¬ (255 : Int32) < own_x2 p := own_m255 _
theorem own_c (x : Int32) (h : ¬ x < 0 ∧ ¬ (255 : Int32) < x) : x.toUInt32.toUInt16.toUInt32.toInt32 = x := by
  obtain ⟨h1, h2⟩ := h
  have q := c_i2c x
  have e0 : (0 : Int32).toInt = 0 := by decide
  have e1 : (255 : Int32).toInt = 255 := by decide
  rw [Int32.lt_iff_toInt_lt] at h1 h2
  rw [← Int32.toInt_inj]
  omega
theorem own_bb (x : Int32) : (own_by x).toInt8.toInt32 = own_by x := by
  have q1 := c_i2b x
  have q2 := c_i2b (own_by x)
  have e : own_by x = x.toInt8.toInt32 := rfl
  rw [← e] at q1
  rw [← Int32.toInt_inj]
  omega
theorem own_byi (x y : Int32) (hx : ¬ x < 0 ∧ ¬ (255 : Int32) < x) (hy : ¬ y < 0 ∧ ¬ (255 : Int32) < y) (h : own_by x = own_by y) : x = y := by
  obtain ⟨h1, h2⟩ := hx
  obtain ⟨h3, h4⟩ := hy
  have q1 := c_i2b x
  have q2 := c_i2b y
  have e1 : own_by x = x.toInt8.toInt32 := rfl
  have e2 : own_by y = y.toInt8.toInt32 := rfl
  rw [← e1] at q1
  rw [← e2] at q2
  rw [← h] at q2
  have e0 : (0 : Int32).toInt = 0 := by decide
  have e255 : (255 : Int32).toInt = 255 := by decide
  rw [Int32.lt_iff_toInt_lt] at h1 h2 h3 h4
  rw [← Int32.toInt_inj]
  omega
/-- what 'same' answers -/
def own_same (p q : Int32) : Int32 :=
  if ¬ own_n p = own_n q then 0 else if 0 < own_n p ∧ ¬ own_x0 p = own_x0 q then 0 else if 1 < own_n p ∧ ¬ own_x1 p = own_x1 q then 0 else if 2 < own_n p ∧ ¬ own_x2 p = own_x2 q then 0 else 1
def own_eqs (p q r s : Int32) : Int32 := if own_same p r = 0 then 0 else if own_same q s = 0 then 0 else 1
theorem own_arv_more {Z : State} {h : Heap} {b : Addr} {k : ClassId} {ty : FieldType} {z : Int32} {vs vs' : List Value} {d : Value} (F : Arv Z h b k ty z vs d) (q : ∀ i, i < z.toNatClampNeg → vs'.getD i d = vs.getD i d) : Arv Z h b k ty z vs' d := by
  obtain ⟨c, A, r1, r2, r3, H, G⟩ := F
  exact ⟨c, A, r1, r2, r3, fun i hi => by rw [q i (by rw [← r2]; exact hi)]; exact H i hi, fun i hi => by rw [q i (by rw [← r2]; exact hi)]; exact G i hi⟩
theorem own_noins {Z : State} {a0 : Array Value} (hw : ∀ d ∈ tables_1, d.before a0 Z = true) : ∃ c t, Z.vm.findClass "java/lang/String" = some c ∧ Z.vm.findClass "com/example/inchworm/inchworm/crawler/PageImage" = some t ∧ Z.vm.assignable c t = false := by
  have w1 := (hw _ (List.mem_of_getElem? (i := 68) rfl))
  have w2 := (hw _ (List.mem_of_getElem? (i := 69) rfl))
  have w3 := (hw _ (List.mem_of_getElem? (i := 1) rfl))
  obtain ⟨t, kt, g1, g2, g3, g4, -⟩ := Cond.instantiable_spec w3
  obtain ⟨o, ko, h1, h2, h3, -, -⟩ := Cond.noSuperclass_spec w2
  obtain ⟨c, h0⟩ := found_sup w1
  obtain ⟨p, k, kp, s1, s2, s3, s4, s5, -, s7⟩ := Cond.superclass_spec h0 w1
  cases h1.symm.trans s1
  have ne1 := ids_ne h0 g1 (by decide)
  have ne2 := ids_ne h1 g1 (by decide)
  have hi : kt.isInterface = false := (Bool.or_eq_false_iff.mp g4).1
  refine ⟨c, t, h0, g1, ?_⟩
  show Z.vm.assignableAux (255 + 1) c t = false
  have hsub : ∀ fuel, Z.vm.isSubclassAux fuel c t = false := fun fuel => by
    cases fuel with
    | zero => rfl
    | succ f =>
      cases f with
      | zero => simp [Vm.isSubclassAux, ne1, s2, s4]
      | succ f => simp [Vm.isSubclassAux, ne1, ne2, s2, s4, h2, h3]
  simp [Vm.assignableAux, ne1, s2, g2, s5, g3, hi, Vm.isSubclass, hsub]
theorem own_sta_keep0 {Z : State} {h h' : Heap} {C n d : String} {v : Value} (F : Sta Z h C n d v) (Kp : Keep h h' []) : Sta Z h' C n d v := by
  obtain ⟨cf, i, k, f, st, cell, h1, h2, h3, h4, h5, h6, h7⟩ := F
  exact ⟨cf, i, k, f, st, cell, h1, h2, h3, h4, Kp.2.1 st cell h5 (by simp), h6, h7⟩
theorem own_sta_keep {Z : State} {h h' : Heap} {C n d K : String} {v : Value} {a : Addr} (F : Sta Z h C n d v) (E : Exa Z h a K) (Kp : Keep h h' [a]) : Sta Z h' C n d v := by
  obtain ⟨cf, i, k, f, st, cell, h1, h2, h3, h4, h5, h6, h7⟩ := F
  refine ⟨cf, i, k, f, st, cell, h1, h2, h3, h4, Kp.2.1 st cell h5 ?_, h6, h7⟩
  intro q
  cases List.mem_singleton.mp q
  obtain ⟨c', k', e1, _, _, e4, _⟩ := E
  cases h5.symm.trans e1
  rw [h6] at e4
  cases e4
theorem pn_0 : plainName "java/lang/String" = true := by first | (simp [plainName, overriddenIn]; done) | decide +kernel
theorem d3_0 : decode jdk_42_method_149_code 0 = .ok (.aload_n 0, 1) := by decide +kernel
theorem d3_1 : decode jdk_42_method_149_code 1 = .ok (.invokespecial 1, 3) := by decide +kernel
theorem d3_4 : decode jdk_42_method_149_code 4 = .ok (.iload_n 3, 1) := by decide +kernel
theorem d3_5 : decode jdk_42_method_149_code 5 = .ok (.ifCond .ne 22, 3) := by decide +kernel
theorem d3_8 : decode jdk_42_method_149_code 8 = .ok (.aload_n 0, 1) := by decide +kernel
theorem d3_9 : decode jdk_42_method_149_code 9 = .ok (.ldc 7, 2) := by decide +kernel
theorem d3_11 : decode jdk_42_method_149_code 11 = .ok (.getfield 9, 3) := by decide +kernel
theorem d3_14 : decode jdk_42_method_149_code 14 = .ok (.putfield 9, 3) := by decide +kernel
theorem d3_17 : decode jdk_42_method_149_code 17 = .ok (.aload_n 0, 1) := by decide +kernel
theorem d3_18 : decode jdk_42_method_149_code 18 = .ok (.ldc 7, 2) := by decide +kernel
theorem d3_20 : decode jdk_42_method_149_code 20 = .ok (.getfield 15, 3) := by decide +kernel
theorem d3_23 : decode jdk_42_method_149_code 23 = .ok (.putfield 15, 3) := by decide +kernel
theorem d3_26 : decode jdk_42_method_149_code 26 = .ok (.return_, 1) := by decide +kernel
theorem ef_rmct4_0 (m : MethodId) (a1 : Addr) (a2 : Addr) (u1 : Value) (u2 : Value) (k2 : ClassId) (cs : Int32) : entryFrame m #[(.ref a1), (.ref a2), (.int (0 : Int32)), (.int (0 : Int32)), .null] 6 = mkF m 0 #[.val (.ref a1), .val (.ref a2), .val (.int (0 : Int32)), .val (.int (0 : Int32)), .val .null, .unset] [] := by first | (simp [entryFrame, mkF, argsToLocals, Value.category]; done) | rfl
def Qrmct4_0 (Z : State) (a1 : Addr) (a2 : Addr) (u1 : Value) (u2 : Value) (k2 : ClassId) (cs : Int32) (h0 : Heap) (n0 : Nat) (v : Option Value) (h : Heap) (L : List Loc) : Prop := ∃ b : Addr, ∃ kb : ClassId, v = none ∧ Fr n0 L ∧ Keep h0 h [a1] ∧ Exa Z h a1 "java/lang/String" ∧ Fld Z h a1 "java/lang/String" "coder" "B" (.int (0 : Int32)) ∧ Fld Z h a1 "java/lang/String" "value" "[B" (.ref b) ∧ Arv Z h b kb .byte (0 : Int32) [] (.int (0 : Int32))
set_option maxRecDepth 65536 in
set_option maxHeartbeats 40000000 in
theorem rmct4_0 (l : Launch) (Z : State) (a0 : Array Value) (hw : ∀ d ∈ tables_1, d.before a0 Z = true) (ws : List Jvm.Cond) (a1 : Addr) (a2 : Addr) (u1 : Value) (u2 : Value) (k2 : ClassId) (cs : Int32) (h0 : Heap) (n0 : Nat) (Z0 : n0 ≤ h0.size) (E1 : Exa Z h0 a1 "java/lang/String") (Fc : Fld Z h0 a1 "java/lang/String" "coder" "B" u1) (Fv : Fld Z h0 a1 "java/lang/String" "value" "[B" u2) (V2 : Arv Z h0 a2 k2 .char (0 : Int32) [] (.int (0 : Int32))) (S_cs : Sta Z h0 "java/lang/String" "COMPACT_STRINGS" "Z" (.int cs)) (g_a1 : n0 ≤ a1) (hcs : ¬ cs = 0) (ne21 : a2 ≠ a1) :
    MetFree l (⟨"java/lang/String", "<init>", "([CIILjava/lang/Void;)V"⟩ : MethodName) (head1 (Jvm.Cond.code (⟨"java/lang/String", "<init>", "([CIILjava/lang/Void;)V"⟩ : MethodName) jdk_42_method_149_code 6 none :: ws) ({ frames := 1, cells := 4, slots := 8, locals := 12 } : Room)) (fun a U => a = #[(.ref a1), (.ref a2), (.int (0 : Int32)), (.int (0 : Int32)), .null] ∧ Z.Warmed39 U.vm ∧ U.heap = h0 ∧ CHv Z own_EL U.vm h0 ∧ ∀ x ∈ [a1], Safe Z own_EL U.vm h0 x) (fun _ _ _ _ _ => True) (fun _ U o U' => ∃ v L, o = .returned v ∧ Qrmct4_0 Z a1 a2 u1 u2 k2 cs h0 n0 v U'.heap L ∧ CHr Z own_EL U.vm U.heap U'.vm U'.heap ∧ ReturnedEndW U o U' L ({ frames := 1, cells := 4, slots := 8, locals := 12 } : Room).cells ({ frames := 1, cells := 4, slots := 8, locals := 12 } : Room).slots) := by
  refine MetFree.of_bodySF (plainFor_of_name pn_0) hisR ?_
  intro p e s m args below meth c s₁ Bd hml0 hP hK
  obtain ⟨rfl, hZ, hh, hCH, hSf⟩ := hP
  have hx := Bd.exec
  have hby := Bd.bytes
  have hml : c.maxLocals = 6 := hml0
  have hown : s.vm.findClass "java/lang/String" = some m.cls := findClass_of_methodNamed Bd.named
  have hnm := (name_of_methodNamed Bd.named Bd.method).1
  have X0 : Stand p l e ({ frames := 1, cells := 4, slots := 8, locals := 12 } : Room) (s.setVm s.vm) m #[(.ref a1), (.ref a2), (.int (0 : Int32)), (.int (0 : Int32)), .null] below meth c s₁ [] 0 0 := Stand.of_body Bd
  have e0 : s₁.heap = h0 := by rw [← hh, Bd.state]; rfl
  have N0 := Fr.nil n0
  have hS0 : s.Since s.vm s.heap.size := (State.WarmedH.refl s).since _
  have hk0 : s.heap.size ≤ h0.size := Nat.le_of_eq (congrArg Array.size hh)
  have C0 := CHr.refl hCH
  show Go p.tables e below (fun o U' => ∃ v L, o = .returned v ∧ Qrmct4_0 Z a1 a2 u1 u2 k2 cs h0 n0 v U'.heap L ∧ CHr Z own_EL s.vm s.heap U'.vm U'.heap ∧ ReturnedEndW s o U' L ({ frames := 1, cells := 4, slots := 8, locals := 12 } : Room).cells ({ frames := 1, cells := 4, slots := 8, locals := 12 } : Room).slots) _
  refine Go.step (fun t kt => castTop (ef_rmct4_0 m a1 a2 u1 u2 k2 cs) kt) ?_
  show Go p.tables e below _ (s₁.setTop (mkF m 0 #[.val (.ref a1), .val (.ref a2), .val (.int (0 : Int32)), .val (.int (0 : Int32)), .val .null, .unset] []))
  have K101 : Keep h0 h0 [a1] := (Keep.refl h0 [a1])
  refine Go.step (fun _ kt => XS.aloadN X0.here hx rfl (hb hby d3_0) rfl rfl kt) ?_
  show Go p.tables e below _ (s₁.setTop (mkF m 1 #[.val (.ref a1), .val (.ref a2), .val (.int (0 : Int32)), .val (.int (0 : Int32)), .val .null, .unset] [(.ref a1)]))
  obtain ⟨T102, X102, e102, st102⟩ := initO X0 hx hZ hown (hw _ (List.mem_of_getElem? (i := 18) rfl)) (hw _ (List.mem_of_getElem? (i := 19) rfl)) (hw _ (List.mem_of_getElem? (i := 20) rfl)) e0 (g := (mkF m 1 #[.val (.ref a1), .val (.ref a2), .val (.int (0 : Int32)), .val (.int (0 : Int32)), .val .null, .unset] [(.ref a1)])) rfl (by rw [hml]; rfl) rfl (hb hby d3_1) (by decide) (W := 0) (by show 2 * 0 + _ ≤ _; exact Nat.le_of_eq rfl) (by decide)
  refine Go.step st102 ?_
  show Go p.tables e below _ (T102.setTop (mkF m 4 #[.val (.ref a1), .val (.ref a2), .val (.int (0 : Int32)), .val (.int (0 : Int32)), .val .null, .unset] []))
  refine Go.step (fun _ kt => XS.iloadN X102.here hx rfl (hb hby d3_4) rfl (XS.ifNo X102.here hx rfl (hb hby d3_5) rfl ((if0 _ _).trans (teq (by decide : (0 : Int32) = (0 : Int32))).2) (XS.aloadN X102.here hx rfl (hb hby d3_8) rfl rfl kt))) ?_
  show Go p.tables e below _ (T102.setTop (mkF m 9 #[.val (.ref a1), .val (.ref a2), .val (.int (0 : Int32)), .val (.int (0 : Int32)), .val .null, .unset] [(.ref a1)]))
  obtain ⟨b103, T103, h103, k103, ba103, kc103, X103, e103, E103, hS103, hk103, hZ, hown, Ex103, Fc103, Fv103, Vb103, lt103, ltb103, Cq103, Li103, Ne103, st103⟩ := ldcCH (s := s) (EL := own_EL) X102 hx hZ hown (hw _ (List.mem_of_getElem? (i := 21) rfl)) (own_wS hw) e102 hS0 hk0 (own_EW hw) (by decide) C0.1 (vs := []) (z := (0 : Int32)) (by decide) (by decide) rfl (g := (mkF m 9 #[.val (.ref a1), .val (.ref a2), .val (.int (0 : Int32)), .val (.int (0 : Int32)), .val .null, .unset] [(.ref a1)])) rfl (hb hby d3_9) (n := 0) (by decide) (by decide) (by decide) (by decide)
  refine Go.step st103 ?_
  have F104 : Exa Z h103 a1 "java/lang/String" := (E1.ext E103)
  have F105 : Fld Z h103 a1 "java/lang/String" "coder" "B" u1 := (Fc.ext E103)
  have F106 : Fld Z h103 a1 "java/lang/String" "value" "[B" u2 := (Fv.ext E103)
  have F107 : Arv Z h103 a2 k2 .char (0 : Int32) [] (.int (0 : Int32)) := (V2.ext E103)
  have F108 : Sta Z h103 "java/lang/String" "COMPACT_STRINGS" "Z" (.int cs) := (S_cs.ext E103)
  have Z109 : n0 ≤ h103.size := (Nat.le_trans Z0 E103.1)
  have Sf110 := (Cq103.safe E1.lt (hSf _ (List.mem_of_getElem? (i := 0) rfl)))
  have C111 := (C0.trans Cq103)
  have K112 : Keep h0 h103 [a1] := (K101.ext E103)
  have nq113 := Ne103 _ Sf110
  have nq114 := Ne103 _ (by obtain ⟨_, Ar_, _⟩ := F107; exact Safe.arr hZ.alike Ar_ (by decide))
  show Go p.tables e below _ (T103.setTop (mkF m 11 #[.val (.ref a1), .val (.ref a2), .val (.int (0 : Int32)), .val (.int (0 : Int32)), .val .null, .unset] [(.ref b103), (.ref a1)]))
  obtain ⟨T115, X115, e115, st115⟩ := getF X103 hx hZ hown (host := "") (Or.inl (hw _ (List.mem_of_getElem? (i := 27) rfl))) Via.refl e103 Fv103 (g := (mkF m 11 #[.val (.ref a1), .val (.ref a2), .val (.int (0 : Int32)), .val (.int (0 : Int32)), .val .null, .unset] [(.ref b103), (.ref a1)])) rfl rfl (hb hby d3_11)
  refine Go.step st115 ?_
  show Go p.tables e below _ (T115.setTop (mkF m 14 #[.val (.ref a1), .val (.ref a2), .val (.int (0 : Int32)), .val (.int (0 : Int32)), .val .null, .unset] [(.ref ba103), (.ref a1)]))
  obtain ⟨T116, h116, X116, e116, W116, st116⟩ := putF X115 hx hZ hown (host := "") (Or.inl (hw _ (List.mem_of_getElem? (i := 27) rfl))) Via.refl e115 F106 F104 (Or.inr ⟨(hw _ (List.mem_of_getElem? (i := 23) rfl)), rfl, hnm⟩) (hw _ (List.mem_of_getElem? (i := 9) rfl)) (ty := (.array .byte)) (by decide) rfl rfl (g := (mkF m 14 #[.val (.ref a1), .val (.ref a2), .val (.int (0 : Int32)), .val (.int (0 : Int32)), .val .null, .unset] [(.ref ba103), (.ref a1)])) rfl rfl (hb hby d3_14)
  refine Go.step st116 ?_
  have N116 := Fr.snoc X116 N0 g_a1
  have F117 : Exa Z h116 a1 "java/lang/String" := (F104.wr W116)
  have F118 : Fld Z h116 a1 "java/lang/String" "coder" "B" u1 := (F105.other W116 (Or.inr (slot_ne (Or.inr (hw _ (List.mem_of_getElem? (i := 24) rfl))) (Or.inr (hw _ (List.mem_of_getElem? (i := 23) rfl))) (by decide) (t := .byte) (t' := (.array .byte)) (by decide) (by decide))))
  have F119 : Fld Z h116 a1 "java/lang/String" "value" "[B" (.ref ba103) := (F106.same W116)
  have F120 : Arv Z h116 a2 k2 .char (0 : Int32) [] (.int (0 : Int32)) := (F107.other W116 ne21)
  have F121 : Sta Z h116 "java/lang/String" "COMPACT_STRINGS" "Z" (.int cs) := (F108.wr W116)
  have F122 : Exa Z h116 b103 "java/lang/String" := (Ex103.wr W116)
  have F123 : Fld Z h116 b103 "java/lang/String" "coder" "B" (.int (0 : Int32)) := (Fc103.other W116 (Or.inl (Ne.symm nq113.1)))
  have F124 : Fld Z h116 b103 "java/lang/String" "value" "[B" (.ref ba103) := (Fv103.other W116 (Or.inl (Ne.symm nq113.1)))
  have F125 : Arv Z h116 ba103 kc103 .byte (0 : Int32) [] (.int (0 : Int32)) := (Vb103.other W116 (Ne.symm nq113.2))
  have Z126 : n0 ≤ h116.size := (Nat.le_trans Z109 (Nat.le_of_eq W116.size.symm))
  have hk127 : _ ≤ h116.size := (Nat.le_trans hk103 (Nat.le_of_eq W116.size.symm))
  have Sf128 := (Safe.wr W116 Sf110 C111.1 Sf110)
  have C129 := (C111.trans (CHr.wr W116 Sf110 C111.1))
  have K130 : Keep h0 h116 [a1] := (K112.wr W116 (Or.inl (List.mem_of_getElem? (i := 0) rfl)))
  show Go p.tables e below _ (T116.setTop (mkF m 17 #[.val (.ref a1), .val (.ref a2), .val (.int (0 : Int32)), .val (.int (0 : Int32)), .val .null, .unset] []))
  refine Go.step (fun _ kt => XS.aloadN X116.here hx rfl (hb hby d3_17) rfl rfl kt) ?_
  show Go p.tables e below _ (T116.setTop (mkF m 18 #[.val (.ref a1), .val (.ref a2), .val (.int (0 : Int32)), .val (.int (0 : Int32)), .val .null, .unset] [(.ref a1)]))
  obtain ⟨b131, T131, h131, k131, ba131, kc131, X131, e131, E131, hS131, hk131, hZ, hown, Ex131, Fc131, Fv131, Vb131, lt131, ltb131, Cq131, Li131, Ne131, st131⟩ := ldcCH (s := s) (EL := own_EL) X116 hx hZ hown (hw _ (List.mem_of_getElem? (i := 21) rfl)) (own_wS hw) e116 hS103 hk127 (own_EW hw) (by decide) C129.1 (vs := []) (z := (0 : Int32)) (by decide) (by decide) rfl (g := (mkF m 18 #[.val (.ref a1), .val (.ref a2), .val (.int (0 : Int32)), .val (.int (0 : Int32)), .val .null, .unset] [(.ref a1)])) rfl (hb hby d3_18) (n := 0) (by decide) (by decide) (by decide) (by decide)
  refine Go.step st131 ?_
  have F132 : Exa Z h131 a1 "java/lang/String" := (F117.ext E131)
  have F133 : Fld Z h131 a1 "java/lang/String" "coder" "B" u1 := (F118.ext E131)
  have F134 : Fld Z h131 a1 "java/lang/String" "value" "[B" (.ref ba103) := (F119.ext E131)
  have F135 : Arv Z h131 a2 k2 .char (0 : Int32) [] (.int (0 : Int32)) := (F120.ext E131)
  have F136 : Sta Z h131 "java/lang/String" "COMPACT_STRINGS" "Z" (.int cs) := (F121.ext E131)
  have F137 : Exa Z h131 b103 "java/lang/String" := (F122.ext E131)
  have F138 : Fld Z h131 b103 "java/lang/String" "coder" "B" (.int (0 : Int32)) := (F123.ext E131)
  have F139 : Fld Z h131 b103 "java/lang/String" "value" "[B" (.ref ba103) := (F124.ext E131)
  have F140 : Arv Z h131 ba103 kc103 .byte (0 : Int32) [] (.int (0 : Int32)) := (F125.ext E131)
  have Z141 : n0 ≤ h131.size := (Nat.le_trans Z126 E131.1)
  have Sf142 := (Cq131.safe F117.lt Sf128)
  have C143 := (C129.trans Cq131)
  have K144 : Keep h0 h131 [a1] := (K130.ext E131)
  have nq145 := Ne131 _ Sf142
  have nq146 := Ne131 _ (by obtain ⟨_, Ar_, _⟩ := F135; exact Safe.arr hZ.alike Ar_ (by decide))
  show Go p.tables e below _ (T131.setTop (mkF m 20 #[.val (.ref a1), .val (.ref a2), .val (.int (0 : Int32)), .val (.int (0 : Int32)), .val .null, .unset] [(.ref b131), (.ref a1)]))
  obtain ⟨T147, X147, e147, st147⟩ := getF X131 hx hZ hown (host := "") (Or.inl (hw _ (List.mem_of_getElem? (i := 28) rfl))) Via.refl e131 Fc131 (g := (mkF m 20 #[.val (.ref a1), .val (.ref a2), .val (.int (0 : Int32)), .val (.int (0 : Int32)), .val .null, .unset] [(.ref b131), (.ref a1)])) rfl rfl (hb hby d3_20)
  refine Go.step st147 ?_
  show Go p.tables e below _ (T147.setTop (mkF m 23 #[.val (.ref a1), .val (.ref a2), .val (.int (0 : Int32)), .val (.int (0 : Int32)), .val .null, .unset] [(.int (0 : Int32)), (.ref a1)]))
  obtain ⟨T148, h148, X148, e148, W148, st148⟩ := putFN X147 hx hZ hown (hw _ (List.mem_of_getElem? (i := 28) rfl)) Via.refl e147 F133 F132 (Or.inr ⟨(hw _ (List.mem_of_getElem? (i := 24) rfl)), rfl, hnm⟩) (hw _ (List.mem_of_getElem? (i := 9) rfl)) (ty := .byte) (v' := (.int (0 : Int32))) (by decide) rfl rfl (g := (mkF m 23 #[.val (.ref a1), .val (.ref a2), .val (.int (0 : Int32)), .val (.int (0 : Int32)), .val .null, .unset] [(.int (0 : Int32)), (.ref a1)])) rfl rfl (hb hby d3_23)
  refine Go.step st148 ?_
  have N148 := Fr.snoc X148 N116 g_a1
  have F149 : Exa Z h148 a1 "java/lang/String" := (F132.wr W148)
  have F150 : Fld Z h148 a1 "java/lang/String" "coder" "B" (.int (0 : Int32)) := (F133.same W148)
  have F151 : Fld Z h148 a1 "java/lang/String" "value" "[B" (.ref ba103) := (F134.other W148 (Or.inr (slot_ne (Or.inr (hw _ (List.mem_of_getElem? (i := 23) rfl))) (Or.inr (hw _ (List.mem_of_getElem? (i := 24) rfl))) (by decide) (t := (.array .byte)) (t' := .byte) (by decide) (by decide))))
  have F152 : Arv Z h148 a2 k2 .char (0 : Int32) [] (.int (0 : Int32)) := (F135.other W148 ne21)
  have F153 : Sta Z h148 "java/lang/String" "COMPACT_STRINGS" "Z" (.int cs) := (F136.wr W148)
  have F154 : Exa Z h148 b103 "java/lang/String" := (F137.wr W148)
  have F155 : Fld Z h148 b103 "java/lang/String" "coder" "B" (.int (0 : Int32)) := (F138.other W148 (Or.inl (Ne.symm nq113.1)))
  have F156 : Fld Z h148 b103 "java/lang/String" "value" "[B" (.ref ba103) := (F139.other W148 (Or.inl (Ne.symm nq113.1)))
  have F157 : Arv Z h148 ba103 kc103 .byte (0 : Int32) [] (.int (0 : Int32)) := (F140.other W148 (Ne.symm nq113.2))
  have F158 : Exa Z h148 b131 "java/lang/String" := (Ex131.wr W148)
  have F159 : Fld Z h148 b131 "java/lang/String" "coder" "B" (.int (0 : Int32)) := (Fc131.other W148 (Or.inl (Ne.symm nq145.1)))
  have F160 : Fld Z h148 b131 "java/lang/String" "value" "[B" (.ref ba131) := (Fv131.other W148 (Or.inl (Ne.symm nq145.1)))
  have F161 : Arv Z h148 ba131 kc131 .byte (0 : Int32) [] (.int (0 : Int32)) := (Vb131.other W148 (Ne.symm nq145.2))
  have Z162 : n0 ≤ h148.size := (Nat.le_trans Z141 (Nat.le_of_eq W148.size.symm))
  have hk163 : _ ≤ h148.size := (Nat.le_trans hk131 (Nat.le_of_eq W148.size.symm))
  have Sf164 := (Safe.wr W148 Sf142 C143.1 Sf142)
  have C165 := (C143.trans (CHr.wr W148 Sf142 C143.1))
  have K166 : Keep h0 h148 [a1] := (K144.wr W148 (Or.inl (List.mem_of_getElem? (i := 0) rfl)))
  show Go p.tables e below _ (T148.setTop (mkF m 26 #[.val (.ref a1), .val (.ref a2), .val (.int (0 : Int32)), .val (.int (0 : Int32)), .val .null, .unset] []))
  obtain ⟨fs, hr, hrun, hended, hRW⟩ := X148.leaveW hS131 (by rw [e148]; exact hk163) (v := none) (fun _ => rfl)
  refine ⟨_, _, X148.returnOut hx Bd.returns (hb hby d3_26) hr, hrun, hended, _, _, rfl, ?_, (by have q := C165.trans (CHv.at X148 hZ (own_EW hw) C165.1); rw [hh]; rw [← e148] at q; exact q), hRW.1, hRW.2.1, hRW.2.2.1, hRW.2.2.2.mono (by decide) (by decide)⟩
  show Qrmct4_0 Z a1 a2 u1 u2 k2 cs h0 n0 _ T148.heap _
  rw [e148]
  refine ⟨ba103, kc103, ?_, N148, K166, F149, F150, F151, F157⟩
  rfl
theorem pd_0 : parseMethodDescriptor "([CIILjava/lang/Void;)V" = some ⟨[(.array .char), .int, .int, (.object "java/lang/Void")], none⟩ := by decide +kernel
theorem d2_0 : decode jdk_42_method_3_code 0 = .ok (.aload_n 0, 1) := by decide +kernel
theorem d2_1 : decode jdk_42_method_3_code 1 = .ok (.aload_n 1, 1) := by decide +kernel
theorem d2_2 : decode jdk_42_method_3_code 2 = .ok (.iconst 0, 1) := by decide +kernel
theorem d2_3 : decode jdk_42_method_3_code 3 = .ok (.aload_n 1, 1) := by decide +kernel
theorem d2_4 : decode jdk_42_method_3_code 4 = .ok (.arraylength, 1) := by decide +kernel
theorem d2_5 : decode jdk_42_method_3_code 5 = .ok (.aconst_null, 1) := by decide +kernel
theorem d2_6 : decode jdk_42_method_3_code 6 = .ok (.invokespecial 27, 3) := by decide +kernel
theorem d2_9 : decode jdk_42_method_3_code 9 = .ok (.return_, 1) := by decide +kernel
theorem ef_rmct1_0 (m : MethodId) (a1 : Addr) (a2 : Addr) (u1 : Value) (u2 : Value) (k2 : ClassId) (cs : Int32) : entryFrame m #[(.ref a1), (.ref a2)] 2 = mkF m 0 #[.val (.ref a1), .val (.ref a2)] [] := by first | (simp [entryFrame, mkF, argsToLocals, Value.category]; done) | rfl
def Qrmct1_0 (Z : State) (a1 : Addr) (a2 : Addr) (u1 : Value) (u2 : Value) (k2 : ClassId) (cs : Int32) (h0 : Heap) (n0 : Nat) (v : Option Value) (h : Heap) (L : List Loc) : Prop := ∃ b : Addr, ∃ kb : ClassId, v = none ∧ Fr n0 L ∧ Keep h0 h [a1] ∧ Exa Z h a1 "java/lang/String" ∧ Fld Z h a1 "java/lang/String" "coder" "B" (.int (0 : Int32)) ∧ Fld Z h a1 "java/lang/String" "value" "[B" (.ref b) ∧ Arv Z h b kb .byte (0 : Int32) [] (.int (0 : Int32))
set_option maxRecDepth 65536 in
set_option maxHeartbeats 40000000 in
theorem rmct1_0 (l : Launch) (Z : State) (a0 : Array Value) (hw : ∀ d ∈ tables_1, d.before a0 Z = true) (ws : List Jvm.Cond) (a1 : Addr) (a2 : Addr) (u1 : Value) (u2 : Value) (k2 : ClassId) (cs : Int32) (h0 : Heap) (n0 : Nat) (Z0 : n0 ≤ h0.size) (E1 : Exa Z h0 a1 "java/lang/String") (Fc : Fld Z h0 a1 "java/lang/String" "coder" "B" u1) (Fv : Fld Z h0 a1 "java/lang/String" "value" "[B" u2) (V2 : Arv Z h0 a2 k2 .char (0 : Int32) [] (.int (0 : Int32))) (S_cs : Sta Z h0 "java/lang/String" "COMPACT_STRINGS" "Z" (.int cs)) (g_a1 : n0 ≤ a1) (hcs : ¬ cs = 0) (ne21 : a2 ≠ a1) :
    MetFree l (⟨"java/lang/String", "<init>", "([C)V"⟩ : MethodName) (head1 (Jvm.Cond.code (⟨"java/lang/String", "<init>", "([C)V"⟩ : MethodName) jdk_42_method_3_code 2 none :: ws) ({ frames := 2, cells := 4, slots := 8, locals := 29 } : Room)) (fun a U => a = #[(.ref a1), (.ref a2)] ∧ Z.Warmed39 U.vm ∧ U.heap = h0 ∧ CHv Z own_EL U.vm h0 ∧ ∀ x ∈ [a1], Safe Z own_EL U.vm h0 x) (fun _ _ _ _ _ => True) (fun _ U o U' => ∃ v L, o = .returned v ∧ Qrmct1_0 Z a1 a2 u1 u2 k2 cs h0 n0 v U'.heap L ∧ CHr Z own_EL U.vm U.heap U'.vm U'.heap ∧ ReturnedEndW U o U' L ({ frames := 2, cells := 4, slots := 8, locals := 29 } : Room).cells ({ frames := 2, cells := 4, slots := 8, locals := 29 } : Room).slots) := by
  refine MetFree.of_bodySF (plainFor_of_name pn_0) hisR ?_
  intro p e s m args below meth c s₁ Bd hml0 hP hK
  obtain ⟨rfl, hZ, hh, hCH, hSf⟩ := hP
  have hx := Bd.exec
  have hby := Bd.bytes
  have hml : c.maxLocals = 2 := hml0
  have hown : s.vm.findClass "java/lang/String" = some m.cls := findClass_of_methodNamed Bd.named
  have hnm := (name_of_methodNamed Bd.named Bd.method).1
  have X0 : Stand p l e ({ frames := 2, cells := 4, slots := 8, locals := 29 } : Room) (s.setVm s.vm) m #[(.ref a1), (.ref a2)] below meth c s₁ [] 0 0 := Stand.of_body Bd
  have e0 : s₁.heap = h0 := by rw [← hh, Bd.state]; rfl
  have N0 := Fr.nil n0
  have hS0 : s.Since s.vm s.heap.size := (State.WarmedH.refl s).since _
  have hk0 : s.heap.size ≤ h0.size := Nat.le_of_eq (congrArg Array.size hh)
  have C0 := CHr.refl hCH
  show Go p.tables e below (fun o U' => ∃ v L, o = .returned v ∧ Qrmct1_0 Z a1 a2 u1 u2 k2 cs h0 n0 v U'.heap L ∧ CHr Z own_EL s.vm s.heap U'.vm U'.heap ∧ ReturnedEndW s o U' L ({ frames := 2, cells := 4, slots := 8, locals := 29 } : Room).cells ({ frames := 2, cells := 4, slots := 8, locals := 29 } : Room).slots) _
  refine Go.step (fun t kt => castTop (ef_rmct1_0 m a1 a2 u1 u2 k2 cs) kt) ?_
  show Go p.tables e below _ (s₁.setTop (mkF m 0 #[.val (.ref a1), .val (.ref a2)] []))
  have K101 : Keep h0 h0 [a1] := (Keep.refl h0 [a1])
  refine Go.step (fun _ kt => XS.aloadN X0.here hx rfl (hb hby d2_0) rfl rfl (XS.aloadN X0.here hx rfl (hb hby d2_1) rfl rfl (XS.iconst X0.here hx rfl (hb hby d2_2) (XS.aloadN X0.here hx rfl (hb hby d2_3) rfl rfl kt)))) ?_
  show Go p.tables e below _ (s₁.setTop (mkF m 4 #[.val (.ref a1), .val (.ref a2)] [(.ref a2), (.int (0 : Int32)), (.ref a2), (.ref a1)]))
  obtain ⟨cl102, Ar102, qa102, Sa102, Na102, Ha102, Ga102⟩ := (id V2)
  refine Go.step (X0.arraylength hx (by rw [e0]; exact Ar102.1) (State.isArrayOf_alike hZ.alike Ar102.2.1) (g := (mkF m 4 #[.val (.ref a1), .val (.ref a2)] [(.ref a2), (.int (0 : Int32)), (.ref a2), (.ref a1)])) rfl rfl (hb hby d2_4)) ?_
  rw [len_of Sa102 Na102]
  show Go p.tables e below _ (s₁.setTop (mkF m 5 #[.val (.ref a1), .val (.ref a2)] [(.int (0 : Int32)), (.int (0 : Int32)), (.ref a2), (.ref a1)]))
  refine Go.step (fun _ kt => XS.aconstNull X0.here hx rfl (hb hby d2_5) kt) ?_
  show Go p.tables e below _ (s₁.setTop (mkF m 6 #[.val (.ref a1), .val (.ref a2)] [.null, (.int (0 : Int32)), (.int (0 : Int32)), (.ref a2), (.ref a1)]))
  obtain ⟨_, _, ⟨T103, L103, k103, n103⟩, -, X103, hSq103, hgq103, ⟨Lc103, hQ103, l103, y103, z103, Cq103⟩, st103⟩ := X0.specialBackS hx (y := (⟨"java/lang/String", "<init>", "([CIILjava/lang/Void;)V"⟩ : MethodName)) rfl hown (mvT hZ (hw _ (List.mem_of_getElem? (i := 14) rfl))) (mvT hZ (hw _ (List.mem_of_getElem? (i := 15) rfl))) (mvT hZ (hw _ (List.mem_of_getElem? (i := 17) rfl))) (by decide) (backOfSHx (s := s) (EL := own_EL) (W := 0) (ws := [a1]) (rmct4_0 l Z a0 hw [] a1 a2 u1 u2 k2 cs h0 n0 Z0 E1 Fc Fv V2 S_cs g_a1 hcs ne21) hZ (hw _ (List.mem_of_getElem? (i := 17) rfl)) (hw _ (List.mem_of_getElem? (i := 10) rfl)) (by decide) (by decide) (own_EW hw) C0.1 (by intro x hx; cases List.mem_singleton.mp hx; exact ⟨E1.lt, (hSf _ (List.mem_of_getElem? (i := 0) rfl))⟩)) (g := (mkF m 6 #[.val (.ref a1), .val (.ref a2)] [.null, (.int (0 : Int32)), (.int (0 : Int32)), (.ref a2), (.ref a1)])) rfl (by rw [hml]; rfl) (Steps.refl _) (a := a1) (argsL := [(.ref a2), (.int (0 : Int32)), (.int (0 : Int32)), .null]) (rest := []) (lenOf pd_0 rfl) rfl (by show 2 * 0 + _ ≤ _; exact Nat.le_of_eq rfl) (hb hby d2_6) (fun _ _ => ⟨rfl, e0, (by decide : 0 + 4 ≤ _), (by decide : 0 + 8 ≤ _)⟩)
  dsimp only [Pt.U, Pt.locs, Pt.cells, Pt.slots] at X103 l103 y103 z103 st103 hQ103 hSq103 hgq103
  subst l103 y103 z103
  obtain ⟨X103, hS103, hZ, hown⟩ := rebS hS0 (by rw [e0]; exact hk0) X103 hSq103 hgq103 hZ hown
  have hk103 : T103.heap.size ≤ T103.heap.size := Nat.le_refl _
  dsimp only [Pt.U] at Cq103
  obtain ⟨b103b, b103kb, rfl, N103q, Kq103, P104, P105, P106, P107⟩ := hQ103
  have F108 : Exa Z T103.heap a1 "java/lang/String" := (E1.keep Kq103)
  have F109 : Arv Z T103.heap a2 k2 .char (0 : Int32) [] (.int (0 : Int32)) := (V2.keep Kq103 (fun q => ne21 (List.mem_singleton.mp q)))
  have Z110 : n0 ≤ T103.heap.size := (Nat.le_trans Z0 Kq103.1)
  have Sf111 := (Cq103.safe E1.lt (hSf _ (List.mem_of_getElem? (i := 0) rfl)))
  have C112 := (C0.trans Cq103)
  have K113 : Keep h0 T103.heap [a1] := (K101.trans Kq103 (by intro x hx; cases List.mem_singleton.mp hx; exact (Or.inl (List.mem_of_getElem? (i := 0) rfl))))
  have N103 := Fr.app N0 N103q
  refine Go.step (fun _ kt => st103.trans kt) ?_
  show Go p.tables e below _ (T103.setTop (mkF m 9 #[.val (.ref a1), .val (.ref a2)] []))
  obtain ⟨fs, hr, hrun, hended, hRW⟩ := X103.leaveW hS103 hk103 (v := none) (fun _ => rfl)
  refine ⟨_, _, X103.returnOut hx Bd.returns (hb hby d2_9) hr, hrun, hended, _, _, rfl, ?_, (by have q := C112.trans (CHv.at X103 hZ (own_EW hw) C112.1); rw [hh]; exact q), hRW.1, hRW.2.1, hRW.2.2.1, hRW.2.2.2.mono (by decide) (by decide)⟩
  show Qrmct1_0 Z a1 a2 u1 u2 k2 cs h0 n0 _ T103.heap _
  refine ⟨b103b, b103kb, ?_, N103, K113, P104, P105, P106, P107⟩
  rfl
theorem pd_1 : parseMethodDescriptor "([C)V" = some ⟨[(.array .char)], none⟩ := by decide +kernel
theorem pn_1 : plainName "java/lang/StringUTF16" = true := by first | (simp [plainName, overriddenIn]; done) | decide +kernel
theorem d6_0 : decode jdk_52_method_21_code 0 = .ok (.iconst 0, 1) := by decide +kernel
theorem d6_1 : decode jdk_52_method_21_code 1 = .ok (.istore 5, 2) := by decide +kernel
theorem d6_3 : decode jdk_52_method_21_code 3 = .ok (.iload 5, 2) := by decide +kernel
theorem d6_5 : decode jdk_52_method_21_code 5 = .ok (.iload 4, 2) := by decide +kernel
theorem d6_7 : decode jdk_52_method_21_code 7 = .ok (.if_icmp .ge 37, 3) := by decide +kernel
theorem d6_10 : decode jdk_52_method_21_code 10 = .ok (.aload_n 0, 1) := by decide +kernel
theorem d6_11 : decode jdk_52_method_21_code 11 = .ok (.iload_n 1, 1) := by decide +kernel
theorem d6_12 : decode jdk_52_method_21_code 12 = .ok (.caload, 1) := by decide +kernel
theorem d6_13 : decode jdk_52_method_21_code 13 = .ok (.istore 6, 2) := by decide +kernel
theorem d6_15 : decode jdk_52_method_21_code 15 = .ok (.iload 6, 2) := by decide +kernel
theorem d6_17 : decode jdk_52_method_21_code 17 = .ok (.sipush 255, 3) := by decide +kernel
theorem d6_20 : decode jdk_52_method_21_code 20 = .ok (.if_icmp .le 6, 3) := by decide +kernel
theorem d6_26 : decode jdk_52_method_21_code 26 = .ok (.aload_n 2, 1) := by decide +kernel
theorem d6_27 : decode jdk_52_method_21_code 27 = .ok (.iload_n 3, 1) := by decide +kernel
theorem d6_28 : decode jdk_52_method_21_code 28 = .ok (.iload 6, 2) := by decide +kernel
theorem d6_30 : decode jdk_52_method_21_code 30 = .ok (.i2b, 1) := by decide +kernel
theorem d6_31 : decode jdk_52_method_21_code 31 = .ok (.bastore, 1) := by decide +kernel
theorem d6_32 : decode jdk_52_method_21_code 32 = .ok (.iinc 1 1, 3) := by decide +kernel
theorem d6_35 : decode jdk_52_method_21_code 35 = .ok (.iinc 3 1, 3) := by decide +kernel
theorem d6_38 : decode jdk_52_method_21_code 38 = .ok (.iinc 5 1, 3) := by decide +kernel
theorem d6_41 : decode jdk_52_method_21_code 41 = .ok (.goto (-38), 3) := by decide +kernel
theorem d6_44 : decode jdk_52_method_21_code 44 = .ok (.iload 4, 2) := by decide +kernel
theorem d6_46 : decode jdk_52_method_21_code 46 = .ok (.ireturn, 1) := by decide +kernel
theorem ef_rmkl1 (m : MethodId) (a1 : Addr) (a2 : Addr) (k1 : ClassId) (k2 : ClassId) (c0 : Int32) : entryFrame m #[(.ref a1), (.int (0 : Int32)), (.ref a2), (.int (0 : Int32)), (.int (1 : Int32))] 7 = mkF m 0 #[.val (.ref a1), .val (.int (0 : Int32)), .val (.ref a2), .val (.int (0 : Int32)), .val (.int (1 : Int32)), .unset, .unset] [] := by first | (simp [entryFrame, mkF, argsToLocals, Value.category]; done) | rfl
def Qrmkl1 (Z : State) (a1 : Addr) (a2 : Addr) (k1 : ClassId) (k2 : ClassId) (c0 : Int32) (h0 : Heap) (n0 : Nat) (v : Option Value) (h : Heap) (L : List Loc) : Prop := v = some (.int (1 : Int32)) ∧ Fr n0 L ∧ Keep h0 h [a2] ∧ Arv Z h a2 k2 .byte (1 : Int32) [(.int (own_by c0))] (.int (0 : Int32))
set_option maxRecDepth 65536 in
set_option maxHeartbeats 40000000 in
theorem rmkl1 (l : Launch) (Z : State) (a0 : Array Value) (hw : ∀ d ∈ tables_1, d.before a0 Z = true) (ws : List Jvm.Cond) (a1 : Addr) (a2 : Addr) (k1 : ClassId) (k2 : ClassId) (c0 : Int32) (h0 : Heap) (n0 : Nat) (Z0 : n0 ≤ h0.size) (V1 : Arv Z h0 a1 k1 .char (1 : Int32) [(.int c0)] (.int (0 : Int32))) (V2 : Arv Z h0 a2 k2 .byte (1 : Int32) [(.int (0 : Int32))] (.int (0 : Int32))) (g_a2 : n0 ≤ a2) (ne12 : a1 ≠ a2) (hb0 : ¬ c0 < 0 ∧ ¬ (255 : Int32) < c0) :
    MetFree l (⟨"java/lang/StringUTF16", "compress", "([CI[BII)I"⟩ : MethodName) (head1 (Jvm.Cond.code (⟨"java/lang/StringUTF16", "compress", "([CI[BII)I"⟩ : MethodName) jdk_52_method_21_code 7 (some .int) :: ws) ({ frames := 0, cells := 0, slots := 0, locals := 0 } : Room)) (fun a U => a = #[(.ref a1), (.int (0 : Int32)), (.ref a2), (.int (0 : Int32)), (.int (1 : Int32))] ∧ Z.Warmed39 U.vm ∧ U.heap = h0) (fun _ _ _ _ _ => True) (fun _ U o U' => ∃ v L, o = .returned v ∧ Qrmkl1 Z a1 a2 k1 k2 c0 h0 n0 v U'.heap L ∧ FrameEnd U o U' L ({ frames := 0, cells := 0, slots := 0, locals := 0 } : Room).cells ({ frames := 0, cells := 0, slots := 0, locals := 0 } : Room).slots) := by
  refine MetFree.of_bodySF (plainFor_of_name pn_1) hisR ?_
  intro p e s m args below meth c s₁ Bd hml0 hP hK
  obtain ⟨rfl, hZ, hh⟩ := hP
  have hx := Bd.exec
  have hby := Bd.bytes
  have hml : c.maxLocals = 7 := hml0
  have hown : s.vm.findClass "java/lang/StringUTF16" = some m.cls := findClass_of_methodNamed Bd.named
  have hnm := (name_of_methodNamed Bd.named Bd.method).1
  have X0 : Stand p l e ({ frames := 0, cells := 0, slots := 0, locals := 0 } : Room) s m #[(.ref a1), (.int (0 : Int32)), (.ref a2), (.int (0 : Int32)), (.int (1 : Int32))] below meth c s₁ [] 0 0 := Stand.of_body Bd
  have e0 : s₁.heap = h0 := by rw [← hh, Bd.state]; rfl
  have N0 := Fr.nil n0
  show Go p.tables e below (fun o U' => ∃ v L, o = .returned v ∧ Qrmkl1 Z a1 a2 k1 k2 c0 h0 n0 v U'.heap L ∧ FrameEnd s o U' L ({ frames := 0, cells := 0, slots := 0, locals := 0 } : Room).cells ({ frames := 0, cells := 0, slots := 0, locals := 0 } : Room).slots) _
  refine Go.step (fun t kt => castTop (ef_rmkl1 m a1 a2 k1 k2 c0) kt) ?_
  show Go p.tables e below _ (s₁.setTop (mkF m 0 #[.val (.ref a1), .val (.int (0 : Int32)), .val (.ref a2), .val (.int (0 : Int32)), .val (.int (1 : Int32)), .unset, .unset] []))
  have K101 : Keep h0 h0 [a2] := (Keep.refl h0 [a2])
  refine Go.step (fun _ kt => XS.iconst X0.here hx rfl (hb hby d6_0) (XS.istore X0.here hx rfl (hb hby d6_1) rfl (l' := #[.val (.ref a1), .val (.int (0 : Int32)), .val (.ref a2), .val (.int (0 : Int32)), .val (.int (1 : Int32)), .val (.int (0 : Int32)), .unset]) rfl (XS.iload X0.here hx rfl (hb hby d6_3) rfl (XS.iload X0.here hx rfl (hb hby d6_5) rfl (XS.icmpNo X0.here hx rfl (hb hby d6_7) rfl (tlt (by decide : (0 : Int32) < (1 : Int32))).2.1 (XS.aloadN X0.here hx rfl (hb hby d6_10) rfl rfl (XS.iloadN X0.here hx rfl (hb hby d6_11) rfl kt))))))) ?_
  show Go p.tables e below _ (s₁.setTop (mkF m 12 #[.val (.ref a1), .val (.int (0 : Int32)), .val (.ref a2), .val (.int (0 : Int32)), .val (.int (1 : Int32)), .val (.int (0 : Int32)), .unset] [(.int (0 : Int32)), (.ref a1)]))
  obtain ⟨cl102, Ar102, qa102, Sa102, Na102, Ha102, Ga102⟩ := (id V1)
  have hin102 : ¬ ((0 : Int32) < 0 ∨ cl102.slots.size ≤ ((0 : Int32)).toNatClampNeg) := inb_of Sa102 ⟨by decide, by decide⟩
  have hat102 : cl102.slots[((0 : Int32)).toNatClampNeg]? = some (.int c0) := at_of Ha102 hin102 rfl
  refine Go.step (X0.caload hx (j := (0 : Int32)) (v := (.int c0)) (by rw [e0]; exact Ar102.1) (State.isArrayOf_alike hZ.alike Ar102.2.1) Ar102.2.2 hin102 hat102 (g := (mkF m 12 #[.val (.ref a1), .val (.int (0 : Int32)), .val (.ref a2), .val (.int (0 : Int32)), .val (.int (1 : Int32)), .val (.int (0 : Int32)), .unset] [(.int (0 : Int32)), (.ref a1)])) rfl rfl (hb hby d6_12)) ?_
  show Go p.tables e below _ (s₁.setTop (mkF m 13 #[.val (.ref a1), .val (.int (0 : Int32)), .val (.ref a2), .val (.int (0 : Int32)), .val (.int (1 : Int32)), .val (.int (0 : Int32)), .unset] [(.int c0)]))
  refine Go.step (fun _ kt => XS.istore X0.here hx rfl (hb hby d6_13) rfl (l' := #[.val (.ref a1), .val (.int (0 : Int32)), .val (.ref a2), .val (.int (0 : Int32)), .val (.int (1 : Int32)), .val (.int (0 : Int32)), .val (.int c0)]) rfl (XS.iload X0.here hx rfl (hb hby d6_15) rfl (XS.sipush X0.here hx rfl (hb hby d6_17) (XS.icmpYes X0.here hx rfl (pc0 := 20) (pc' := 26) rfl (hb hby d6_20) rfl (flt hb0.2).2.2.2 (by decide) (by decide) (XS.aloadN X0.here hx rfl (hb hby d6_26) rfl rfl (XS.iloadN X0.here hx rfl (hb hby d6_27) rfl (XS.iload X0.here hx rfl (hb hby d6_28) rfl (XS.i2b X0.here hx rfl (hb hby d6_30) rfl kt)))))))) ?_
  show Go p.tables e below _ (s₁.setTop (mkF m 31 #[.val (.ref a1), .val (.int (0 : Int32)), .val (.ref a2), .val (.int (0 : Int32)), .val (.int (1 : Int32)), .val (.int (0 : Int32)), .val (.int c0)] [(.int (c0.toInt8.toInt32)), (.int (0 : Int32)), (.ref a2)]))
  have q103 : (c0.toInt8.toInt32) = (own_by c0) := rfl
  rw [q103]
  show Go p.tables e below _ (s₁.setTop (mkF m 31 #[.val (.ref a1), .val (.int (0 : Int32)), .val (.ref a2), .val (.int (0 : Int32)), .val (.int (1 : Int32)), .val (.int (0 : Int32)), .val (.int c0)] [(.int (own_by c0)), (.int (0 : Int32)), (.ref a2)]))
  obtain ⟨cl104, Ar104, qa104, Sa104, Na104, Ha104, Ga104⟩ := (id V2)
  have hin104 : ¬ ((0 : Int32) < 0 ∨ cl104.slots.size ≤ ((0 : Int32)).toNatClampNeg) := inb_of Sa104 ⟨by decide, by decide⟩
  obtain ⟨T104, h104, X104, e104, W104, st104⟩ := stB X0 hx hZ e0 Ar104 (j := (0 : Int32)) hin104 (g := (mkF m 31 #[.val (.ref a1), .val (.int (0 : Int32)), .val (.ref a2), .val (.int (0 : Int32)), .val (.int (1 : Int32)), .val (.int (0 : Int32)), .val (.int c0)] [(.int (own_by c0)), (.int (0 : Int32)), (.ref a2)])) rfl rfl (hb hby d6_31)
  refine Go.step st104 ?_
  have V105 := Arv.set Ar104 qa104 Sa104 Na104 Ha104 Ga104 (fits_nar_byte _) W104 0 rfl (Nat.le_of_ble_eq_true rfl)
  have N104 := Fr.snoc X104 N0 g_a2
  have F106 : Arv Z h104 a1 k1 .char (1 : Int32) [(.int c0)] (.int (0 : Int32)) := (V1.other W104 ne12)
  have Z107 : n0 ≤ h104.size := (Nat.le_trans Z0 (Nat.le_of_eq W104.size.symm))
  have K108 : Keep h0 h104 [a2] := (K101.wr W104 (Or.inl (List.mem_of_getElem? (i := 0) rfl)))
  show Go p.tables e below _ (T104.setTop (mkF m 32 #[.val (.ref a1), .val (.int (0 : Int32)), .val (.ref a2), .val (.int (0 : Int32)), .val (.int (1 : Int32)), .val (.int (0 : Int32)), .val (.int c0)] []))
  have Vn109 : Arv Z h104 a2 k2 .byte (1 : Int32) [(.int (own_by c0))] (.int (0 : Int32)) := by have q0 := V105; rw [own_bb] at q0; exact q0
  refine Go.step (fun _ kt => XS.iinc X104.here hx rfl (hb hby d6_32) rfl (l' := #[.val (.ref a1), .val (.int ((0 : Int32) + (1 : Int32))), .val (.ref a2), .val (.int (0 : Int32)), .val (.int (1 : Int32)), .val (.int (0 : Int32)), .val (.int c0)]) rfl kt) ?_
  show Go p.tables e below _ (T104.setTop (mkF m 35 #[.val (.ref a1), .val (.int ((0 : Int32) + (1 : Int32))), .val (.ref a2), .val (.int (0 : Int32)), .val (.int (1 : Int32)), .val (.int (0 : Int32)), .val (.int c0)] []))
  have q110 : ((0 : Int32) + (1 : Int32)) = (1 : Int32) := by decide
  rw [q110]
  show Go p.tables e below _ (T104.setTop (mkF m 35 #[.val (.ref a1), .val (.int (1 : Int32)), .val (.ref a2), .val (.int (0 : Int32)), .val (.int (1 : Int32)), .val (.int (0 : Int32)), .val (.int c0)] []))
  refine Go.step (fun _ kt => XS.iinc X104.here hx rfl (hb hby d6_35) rfl (l' := #[.val (.ref a1), .val (.int (1 : Int32)), .val (.ref a2), .val (.int ((0 : Int32) + (1 : Int32))), .val (.int (1 : Int32)), .val (.int (0 : Int32)), .val (.int c0)]) rfl kt) ?_
  show Go p.tables e below _ (T104.setTop (mkF m 38 #[.val (.ref a1), .val (.int (1 : Int32)), .val (.ref a2), .val (.int ((0 : Int32) + (1 : Int32))), .val (.int (1 : Int32)), .val (.int (0 : Int32)), .val (.int c0)] []))
  have q111 : ((0 : Int32) + (1 : Int32)) = (1 : Int32) := by decide
  rw [q111]
  show Go p.tables e below _ (T104.setTop (mkF m 38 #[.val (.ref a1), .val (.int (1 : Int32)), .val (.ref a2), .val (.int (1 : Int32)), .val (.int (1 : Int32)), .val (.int (0 : Int32)), .val (.int c0)] []))
  refine Go.step (fun _ kt => XS.iinc X104.here hx rfl (hb hby d6_38) rfl (l' := #[.val (.ref a1), .val (.int (1 : Int32)), .val (.ref a2), .val (.int (1 : Int32)), .val (.int (1 : Int32)), .val (.int ((0 : Int32) + (1 : Int32))), .val (.int c0)]) rfl kt) ?_
  show Go p.tables e below _ (T104.setTop (mkF m 41 #[.val (.ref a1), .val (.int (1 : Int32)), .val (.ref a2), .val (.int (1 : Int32)), .val (.int (1 : Int32)), .val (.int ((0 : Int32) + (1 : Int32))), .val (.int c0)] []))
  have q112 : ((0 : Int32) + (1 : Int32)) = (1 : Int32) := by decide
  rw [q112]
  show Go p.tables e below _ (T104.setTop (mkF m 41 #[.val (.ref a1), .val (.int (1 : Int32)), .val (.ref a2), .val (.int (1 : Int32)), .val (.int (1 : Int32)), .val (.int (1 : Int32)), .val (.int c0)] []))
  refine Go.step (fun _ kt => XS.goto X104.here hx rfl (pc0 := 41) (pc' := 3) rfl (hb hby d6_41) (by decide) (by decide) (XS.iload X104.here hx rfl (hb hby d6_3) rfl (XS.iload X104.here hx rfl (hb hby d6_5) rfl (XS.icmpYes X104.here hx rfl (pc0 := 7) (pc' := 44) rfl (hb hby d6_7) rfl (flt (by decide : ¬ ((1 : Int32) < (1 : Int32)))).2.1 (by decide) (by decide) (XS.iload X104.here hx rfl (hb hby d6_44) rfl kt))))) ?_
  show Go p.tables e below _ (T104.setTop (mkF m 46 #[.val (.ref a1), .val (.int (1 : Int32)), .val (.ref a2), .val (.int (1 : Int32)), .val (.int (1 : Int32)), .val (.int (1 : Int32)), .val (.int c0)] [(.int (1 : Int32))]))
  obtain ⟨fs, hr, hrun, hended, hW, hsame⟩ := X104.leave (v := some (.int (1 : Int32))) (fun h => by rw [Bd.returns] at h; cases h)
  refine ⟨_, _, retI X104 hx Bd.returns (hb hby d6_46) hr, hrun, hended, _, _, rfl, ?_, ⟨_, rfl⟩, hW, hsame.mono (by decide) (by decide)⟩
  show Qrmkl1 Z a1 a2 k1 k2 c0 h0 n0 _ T104.heap _
  rw [e104]
  refine ⟨?_, N104, K108, Vn109⟩
  rfl
theorem pd_2 : parseMethodDescriptor "([CI[BII)I" = some ⟨[(.array .char), .int, (.array .byte), .int, .int], some .int⟩ := by decide +kernel
theorem d5_0 : decode jdk_52_method_16_code 0 = .ok (.iload_n 2, 1) := by decide +kernel
theorem d5_1 : decode jdk_52_method_16_code 1 = .ok (.newarray .byte, 2) := by decide +kernel
theorem d5_3 : decode jdk_52_method_16_code 3 = .ok (.astore_n 3, 1) := by decide +kernel
theorem d5_4 : decode jdk_52_method_16_code 4 = .ok (.aload_n 0, 1) := by decide +kernel
theorem d5_5 : decode jdk_52_method_16_code 5 = .ok (.iload_n 1, 1) := by decide +kernel
theorem d5_6 : decode jdk_52_method_16_code 6 = .ok (.aload_n 3, 1) := by decide +kernel
theorem d5_7 : decode jdk_52_method_16_code 7 = .ok (.iconst 0, 1) := by decide +kernel
theorem d5_8 : decode jdk_52_method_16_code 8 = .ok (.iload_n 2, 1) := by decide +kernel
theorem d5_9 : decode jdk_52_method_16_code 9 = .ok (.invokestatic 115, 3) := by decide +kernel
theorem d5_12 : decode jdk_52_method_16_code 12 = .ok (.istore 4, 2) := by decide +kernel
theorem d5_14 : decode jdk_52_method_16_code 14 = .ok (.iload 4, 2) := by decide +kernel
theorem d5_16 : decode jdk_52_method_16_code 16 = .ok (.iload_n 2, 1) := by decide +kernel
theorem d5_17 : decode jdk_52_method_16_code 17 = .ok (.if_icmp .eq 40, 3) := by decide +kernel
theorem d5_57 : decode jdk_52_method_16_code 57 = .ok (.aload_n 3, 1) := by decide +kernel
theorem d5_58 : decode jdk_52_method_16_code 58 = .ok (.areturn, 1) := by decide +kernel
theorem ef_rmk1 (m : MethodId) (a1 : Addr) (k1 : ClassId) (c0 : Int32) : entryFrame m #[(.ref a1), (.int (0 : Int32)), (.int (1 : Int32))] 6 = mkF m 0 #[.val (.ref a1), .val (.int (0 : Int32)), .val (.int (1 : Int32)), .unset, .unset, .unset] [] := by first | (simp [entryFrame, mkF, argsToLocals, Value.category]; done) | rfl
def Qrmk1 (Z : State) (a1 : Addr) (k1 : ClassId) (c0 : Int32) (h0 : Heap) (n0 : Nat) (v : Option Value) (h : Heap) (L : List Loc) : Prop := ∃ r : Addr, ∃ kr : ClassId, v = some (.ref r) ∧ Fr n0 L ∧ Keep h0 h [] ∧ Arv Z h r kr .byte (1 : Int32) [(.int (own_by c0))] (.int (0 : Int32)) ∧ n0 ≤ r ∧ h0.size ≤ r
set_option maxRecDepth 65536 in
set_option maxHeartbeats 40000000 in
theorem rmk1 (l : Launch) (Z : State) (a0 : Array Value) (hw : ∀ d ∈ tables_1, d.before a0 Z = true) (ws : List Jvm.Cond) (a1 : Addr) (k1 : ClassId) (c0 : Int32) (h0 : Heap) (n0 : Nat) (Z0 : n0 ≤ h0.size) (V1 : Arv Z h0 a1 k1 .char (1 : Int32) [(.int c0)] (.int (0 : Int32))) (hb0 : ¬ c0 < 0 ∧ ¬ (255 : Int32) < c0) :
    MetFree l (⟨"java/lang/StringUTF16", "compress", "([CII)[B"⟩ : MethodName) (head1 (Jvm.Cond.code (⟨"java/lang/StringUTF16", "compress", "([CII)[B"⟩ : MethodName) jdk_52_method_16_code 6 (some (.array .byte)) :: ws) ({ frames := 1, cells := 1, slots := 1, locals := 18 } : Room)) (fun a U => a = #[(.ref a1), (.int (0 : Int32)), (.int (1 : Int32))] ∧ Z.Warmed39 U.vm ∧ U.heap = h0) (fun _ _ _ _ _ => True) (fun _ U o U' => ∃ v L, o = .returned v ∧ Qrmk1 Z a1 k1 c0 h0 n0 v U'.heap L ∧ FrameEnd U o U' L ({ frames := 1, cells := 1, slots := 1, locals := 18 } : Room).cells ({ frames := 1, cells := 1, slots := 1, locals := 18 } : Room).slots) := by
  refine MetFree.of_bodySF (plainFor_of_name pn_1) hisR ?_
  intro p e s m args below meth c s₁ Bd hml0 hP hK
  obtain ⟨rfl, hZ, hh⟩ := hP
  have hx := Bd.exec
  have hby := Bd.bytes
  have hml : c.maxLocals = 6 := hml0
  have hown : s.vm.findClass "java/lang/StringUTF16" = some m.cls := findClass_of_methodNamed Bd.named
  have hnm := (name_of_methodNamed Bd.named Bd.method).1
  have X0 : Stand p l e ({ frames := 1, cells := 1, slots := 1, locals := 18 } : Room) s m #[(.ref a1), (.int (0 : Int32)), (.int (1 : Int32))] below meth c s₁ [] 0 0 := Stand.of_body Bd
  have e0 : s₁.heap = h0 := by rw [← hh, Bd.state]; rfl
  have N0 := Fr.nil n0
  show Go p.tables e below (fun o U' => ∃ v L, o = .returned v ∧ Qrmk1 Z a1 k1 c0 h0 n0 v U'.heap L ∧ FrameEnd s o U' L ({ frames := 1, cells := 1, slots := 1, locals := 18 } : Room).cells ({ frames := 1, cells := 1, slots := 1, locals := 18 } : Room).slots) _
  refine Go.step (fun t kt => castTop (ef_rmk1 m a1 k1 c0) kt) ?_
  show Go p.tables e below _ (s₁.setTop (mkF m 0 #[.val (.ref a1), .val (.int (0 : Int32)), .val (.int (1 : Int32)), .unset, .unset, .unset] []))
  have K101 : Keep h0 h0 [] := (Keep.refl h0 [])
  refine Go.step (fun _ kt => XS.iloadN X0.here hx rfl (hb hby d5_0) rfl kt) ?_
  show Go p.tables e below _ (s₁.setTop (mkF m 1 #[.val (.ref a1), .val (.int (0 : Int32)), .val (.int (1 : Int32)), .unset, .unset, .unset] [(.int (1 : Int32))]))
  obtain ⟨T102, h102, k102, X102, e102, E102, A102, st102⟩ := newP X0 hx hZ (hw _ (List.mem_of_getElem? (i := 22) rfl)) e0 (g := (mkF m 1 #[.val (.ref a1), .val (.int (0 : Int32)), .val (.int (1 : Int32)), .unset, .unset, .unset] [(.int (1 : Int32))])) rfl (hb hby d5_1) rfl (by decide) (cap := 1) (by decide) (by decide) (by decide) (by decide)
  obtain ⟨b102, g102⟩ : ∃ z, z = h0.size := ⟨_, rfl⟩
  rw [← g102] at A102 st102
  refine Go.step st102 ?_
  have ne_a1_b102 : a1 ≠ b102 := Nat.ne_of_lt (Nat.lt_of_lt_of_le V1.lt (Nat.le_of_eq g102.symm))
  have g_b102 : n0 ≤ b102 := Nat.le_trans Z0 (Nat.le_of_eq g102.symm)
  have sz_b102 : h0.size ≤ b102 := Nat.le_trans K101.1 (Nat.le_of_eq g102.symm)
  have F103 : Arv Z h102 a1 k1 .char (1 : Int32) [(.int c0)] (.int (0 : Int32)) := (V1.ext E102)
  have Z104 : n0 ≤ h102.size := (Nat.le_trans Z0 E102.1)
  have K105 : Keep h0 h102 [] := (K101.ext E102)
  have V106 : Arv Z h102 b102 k102 .byte (1 : Int32) [(.int (0 : Int32))] (.int (0 : Int32)) := (Arv.new A102 (by decide)).pad (pad_rep [] (.int (0 : Int32)) 1)
  show Go p.tables e below _ (T102.setTop (mkF m 3 #[.val (.ref a1), .val (.int (0 : Int32)), .val (.int (1 : Int32)), .unset, .unset, .unset] [(.ref b102)]))
  refine Go.step (fun _ kt => XS.astoreN X102.here hx rfl (hb hby d5_3) rfl rfl (l' := #[.val (.ref a1), .val (.int (0 : Int32)), .val (.int (1 : Int32)), .val (.ref b102), .unset, .unset]) rfl (XS.aloadN X102.here hx rfl (hb hby d5_4) rfl rfl (XS.iloadN X102.here hx rfl (hb hby d5_5) rfl (XS.aloadN X102.here hx rfl (hb hby d5_6) rfl rfl (XS.iconst X102.here hx rfl (hb hby d5_7) (XS.iloadN X102.here hx rfl (hb hby d5_8) rfl kt)))))) ?_
  show Go p.tables e below _ (T102.setTop (mkF m 9 #[.val (.ref a1), .val (.int (0 : Int32)), .val (.int (1 : Int32)), .val (.ref b102), .unset, .unset] [(.int (1 : Int32)), (.int (0 : Int32)), (.ref b102), (.int (0 : Int32)), (.ref a1)]))
  obtain ⟨_, _, ⟨T107, L107, k107, n107⟩, -, X107, ⟨Lc107, hQ107, l107, y107, z107⟩, st107⟩ := Jvm.LawKit.callS X102 hx (y := (⟨"java/lang/StringUTF16", "compress", "([CI[BII)I"⟩ : MethodName)) hown (mvT hZ (hw _ (List.mem_of_getElem? (i := 34) rfl))) (mvT hZ (hw _ (List.mem_of_getElem? (i := 35) rfl))) (mvT hZ (hw _ (List.mem_of_getElem? (i := 32) rfl))) (mvT hZ (hw _ (List.mem_of_getElem? (i := 36) rfl))) (by decide) (backOf (W := 0) (rmkl1 l Z a0 hw [] a1 b102 k1 k102 c0 h102 n0 Z104 F103 V106 g_b102 ne_a1_b102 hb0) hZ (hw _ (List.mem_of_getElem? (i := 36) rfl)) (hw _ (List.mem_of_getElem? (i := 32) rfl)) (by decide) (by decide)) (g := (mkF m 9 #[.val (.ref a1), .val (.int (0 : Int32)), .val (.int (1 : Int32)), .val (.ref b102), .unset, .unset] [(.int (1 : Int32)), (.int (0 : Int32)), (.ref b102), (.int (0 : Int32)), (.ref a1)])) rfl (by rw [hml]; rfl) (argsL := [(.ref a1), (.int (0 : Int32)), (.ref b102), (.int (0 : Int32)), (.int (1 : Int32))]) (rest := []) (lenOf pd_2 rfl) rfl (by show 2 * 0 + _ ≤ _; exact Nat.le_of_eq rfl) (hb hby d5_9) (fun _ _ => ⟨rfl, e102, (by decide : 1 + 0 ≤ _), (by decide : 1 + 0 ≤ _)⟩)
  dsimp only [Pt.U, Pt.locs, Pt.cells, Pt.slots] at X107 l107 y107 z107 st107 hQ107
  subst l107 y107 z107
  obtain ⟨rfl, N107q, Kq107, P108⟩ := hQ107
  have F109 : Arv Z T107.heap a1 k1 .char (1 : Int32) [(.int c0)] (.int (0 : Int32)) := (F103.keep Kq107 (fun q => ne_a1_b102 (List.mem_singleton.mp q)))
  have Z110 : n0 ≤ T107.heap.size := (Nat.le_trans Z104 Kq107.1)
  have K111 : Keep h0 T107.heap [] := (K105.trans Kq107 (by intro x hx; cases List.mem_singleton.mp hx; exact (Or.inr sz_b102)))
  have N107 := Fr.app N0 N107q
  refine Go.step st107 ?_
  show Go p.tables e below _ (T107.setTop (mkF m 12 #[.val (.ref a1), .val (.int (0 : Int32)), .val (.int (1 : Int32)), .val (.ref b102), .unset, .unset] [(.int (1 : Int32))]))
  refine Go.step (fun _ kt => XS.istore X107.here hx rfl (hb hby d5_12) rfl (l' := #[.val (.ref a1), .val (.int (0 : Int32)), .val (.int (1 : Int32)), .val (.ref b102), .val (.int (1 : Int32)), .unset]) rfl (XS.iload X107.here hx rfl (hb hby d5_14) rfl (XS.iloadN X107.here hx rfl (hb hby d5_16) rfl (XS.icmpYes X107.here hx rfl (pc0 := 17) (pc' := 57) rfl (hb hby d5_17) rfl (teq (by decide : (1 : Int32) = (1 : Int32))).1 (by decide) (by decide) (XS.aloadN X107.here hx rfl (hb hby d5_57) rfl rfl kt))))) ?_
  show Go p.tables e below _ (T107.setTop (mkF m 58 #[.val (.ref a1), .val (.int (0 : Int32)), .val (.int (1 : Int32)), .val (.ref b102), .val (.int (1 : Int32)), .unset] [(.ref b102)]))
  obtain ⟨fs, hr, hrun, hended, hW, hsame⟩ := X107.leave (v := some (.ref b102)) (fun h => by rw [Bd.returns] at h; cases h)
  refine ⟨_, _, retOut X107 hx Bd.returns rfl (Or.inr (Or.inr (Or.inr (Or.inr ⟨rfl, rfl, rfl⟩)))) (hb hby d5_58) hr, hrun, hended, _, _, rfl, ?_, ⟨_, rfl⟩, hW, hsame.mono (by decide) (by decide)⟩
  show Qrmk1 Z a1 k1 c0 h0 n0 _ T107.heap _
  refine ⟨b102, k102, ?_, N107, K111, P108, g_b102, sz_b102⟩
  rfl
theorem pd_3 : parseMethodDescriptor "([CII)[B" = some ⟨[(.array .char), .int, .int], some (.array .byte)⟩ := by decide +kernel
theorem d7_0 : decode jdk_52_method_15_code 0 = .ok (.iload_n 1, 1) := by decide +kernel
theorem d7_1 : decode jdk_52_method_15_code 1 = .ok (.aload_n 0, 1) := by decide +kernel
theorem d7_2 : decode jdk_52_method_15_code 2 = .ok (.arraylength, 1) := by decide +kernel
theorem d7_3 : decode jdk_52_method_15_code 3 = .ok (.isub, 1) := by decide +kernel
theorem d7_4 : decode jdk_52_method_15_code 4 = .ok (.bipush 31, 2) := by decide +kernel
theorem d7_6 : decode jdk_52_method_15_code 6 = .ok (.iushr, 1) := by decide +kernel
theorem d7_7 : decode jdk_52_method_15_code 7 = .ok (.i2b, 1) := by decide +kernel
theorem d7_8 : decode jdk_52_method_15_code 8 = .ok (.ireturn, 1) := by decide +kernel
theorem ef_rmcf1 (m : MethodId) (a1 : Addr) (k1 : ClassId) (c0 : Int32) : entryFrame m #[(.ref a1), (.int (1 : Int32))] 2 = mkF m 0 #[.val (.ref a1), .val (.int (1 : Int32))] [] := by first | (simp [entryFrame, mkF, argsToLocals, Value.category]; done) | rfl
def Qrmcf1 (Z : State) (a1 : Addr) (k1 : ClassId) (c0 : Int32) (h0 : Heap) (n0 : Nat) (v : Option Value) (h : Heap) (L : List Loc) : Prop := v = some (.int (0 : Int32)) ∧ Fr n0 L ∧ h = h0
set_option maxRecDepth 65536 in
set_option maxHeartbeats 40000000 in
theorem rmcf1 (l : Launch) (Z : State) (a0 : Array Value) (hw : ∀ d ∈ tables_1, d.before a0 Z = true) (ws : List Jvm.Cond) (a1 : Addr) (k1 : ClassId) (c0 : Int32) (h0 : Heap) (n0 : Nat) (Z0 : n0 ≤ h0.size) (V1 : Arv Z h0 a1 k1 .byte (1 : Int32) [(.int (own_by c0))] (.int (0 : Int32))) :
    MetFree l (⟨"java/lang/StringUTF16", "coderFromArrayLen", "([BI)B"⟩ : MethodName) (head1 (Jvm.Cond.code (⟨"java/lang/StringUTF16", "coderFromArrayLen", "([BI)B"⟩ : MethodName) jdk_52_method_15_code 2 (some .byte) :: ws) ({ frames := 0, cells := 0, slots := 0, locals := 0 } : Room)) (fun a U => a = #[(.ref a1), (.int (1 : Int32))] ∧ Z.Warmed39 U.vm ∧ U.heap = h0) (fun _ _ _ _ _ => True) (fun _ U o U' => ∃ v L, o = .returned v ∧ Qrmcf1 Z a1 k1 c0 h0 n0 v U'.heap L ∧ FrameEnd U o U' L ({ frames := 0, cells := 0, slots := 0, locals := 0 } : Room).cells ({ frames := 0, cells := 0, slots := 0, locals := 0 } : Room).slots) := by
  refine MetFree.of_bodySF (plainFor_of_name pn_1) hisR ?_
  intro p e s m args below meth c s₁ Bd hml0 hP hK
  obtain ⟨rfl, hZ, hh⟩ := hP
  have hx := Bd.exec
  have hby := Bd.bytes
  have hml : c.maxLocals = 2 := hml0
  have hown : s.vm.findClass "java/lang/StringUTF16" = some m.cls := findClass_of_methodNamed Bd.named
  have hnm := (name_of_methodNamed Bd.named Bd.method).1
  have X0 : Stand p l e ({ frames := 0, cells := 0, slots := 0, locals := 0 } : Room) s m #[(.ref a1), (.int (1 : Int32))] below meth c s₁ [] 0 0 := Stand.of_body Bd
  have e0 : s₁.heap = h0 := by rw [← hh, Bd.state]; rfl
  have N0 := Fr.nil n0
  show Go p.tables e below (fun o U' => ∃ v L, o = .returned v ∧ Qrmcf1 Z a1 k1 c0 h0 n0 v U'.heap L ∧ FrameEnd s o U' L ({ frames := 0, cells := 0, slots := 0, locals := 0 } : Room).cells ({ frames := 0, cells := 0, slots := 0, locals := 0 } : Room).slots) _
  refine Go.step (fun t kt => castTop (ef_rmcf1 m a1 k1 c0) kt) ?_
  show Go p.tables e below _ (s₁.setTop (mkF m 0 #[.val (.ref a1), .val (.int (1 : Int32))] []))
  refine Go.step (fun _ kt => XS.iloadN X0.here hx rfl (hb hby d7_0) rfl (XS.aloadN X0.here hx rfl (hb hby d7_1) rfl rfl kt)) ?_
  show Go p.tables e below _ (s₁.setTop (mkF m 2 #[.val (.ref a1), .val (.int (1 : Int32))] [(.ref a1), (.int (1 : Int32))]))
  obtain ⟨cl101, Ar101, qa101, Sa101, Na101, Ha101, Ga101⟩ := (id V1)
  refine Go.step (X0.arraylength hx (by rw [e0]; exact Ar101.1) (State.isArrayOf_alike hZ.alike Ar101.2.1) (g := (mkF m 2 #[.val (.ref a1), .val (.int (1 : Int32))] [(.ref a1), (.int (1 : Int32))])) rfl rfl (hb hby d7_2)) ?_
  rw [len_of Sa101 Na101]
  show Go p.tables e below _ (s₁.setTop (mkF m 3 #[.val (.ref a1), .val (.int (1 : Int32))] [(.int (1 : Int32)), (.int (1 : Int32))]))
  refine Go.step (fun _ kt => XS.isub X0.here hx rfl (hb hby d7_3) rfl kt) ?_
  show Go p.tables e below _ (s₁.setTop (mkF m 4 #[.val (.ref a1), .val (.int (1 : Int32))] [(.int ((1 : Int32) - (1 : Int32)))]))
  have q102 : ((1 : Int32) - (1 : Int32)) = (0 : Int32) := by decide
  rw [q102]
  show Go p.tables e below _ (s₁.setTop (mkF m 4 #[.val (.ref a1), .val (.int (1 : Int32))] [(.int (0 : Int32))]))
  refine Go.step (fun _ kt => XS.bipush X0.here hx rfl (hb hby d7_4) (XS.iushr X0.here hx rfl (hb hby d7_6) rfl kt)) ?_
  show Go p.tables e below _ (s₁.setTop (mkF m 7 #[.val (.ref a1), .val (.int (1 : Int32))] [(.int (((0 : Int32).toUInt32 >>> ((31 : Int32) &&& 31).toUInt32).toInt32))]))
  have q103 : (((0 : Int32).toUInt32 >>> ((31 : Int32) &&& 31).toUInt32).toInt32) = (0 : Int32) := by decide
  rw [q103]
  show Go p.tables e below _ (s₁.setTop (mkF m 7 #[.val (.ref a1), .val (.int (1 : Int32))] [(.int (0 : Int32))]))
  refine Go.step (fun _ kt => XS.i2b X0.here hx rfl (hb hby d7_7) rfl kt) ?_
  show Go p.tables e below _ (s₁.setTop (mkF m 8 #[.val (.ref a1), .val (.int (1 : Int32))] [(.int ((0 : Int32).toInt8.toInt32))]))
  have q104 : ((0 : Int32).toInt8.toInt32) = (0 : Int32) := by decide
  rw [q104]
  show Go p.tables e below _ (s₁.setTop (mkF m 8 #[.val (.ref a1), .val (.int (1 : Int32))] [(.int (0 : Int32))]))
  obtain ⟨fs, hr, hrun, hended, hW, hsame⟩ := X0.leave (v := some (.int (0 : Int32))) (fun h => by rw [Bd.returns] at h; cases h)
  refine ⟨_, _, retN X0 hx (t := .byte) Bd.returns (by simp) (hb hby d7_8) hr, hrun, hended, _, _, rfl, ?_, ⟨_, rfl⟩, hW, hsame.mono (by decide) (by decide)⟩
  show Qrmcf1 Z a1 k1 c0 h0 n0 _ s₁.heap _
  rw [e0]
  refine ⟨?_, N0, rfl⟩
  rfl
theorem pd_4 : parseMethodDescriptor "([BI)B" = some ⟨[(.array .byte), .int], some .byte⟩ := by decide +kernel
theorem d3_27 : decode jdk_42_method_149_code 27 = .ok (.getstatic 38, 3) := by decide +kernel
theorem d3_30 : decode jdk_42_method_149_code 30 = .ok (.ifCond .eq 28, 3) := by decide +kernel
theorem d3_33 : decode jdk_42_method_149_code 33 = .ok (.aload_n 1, 1) := by decide +kernel
theorem d3_34 : decode jdk_42_method_149_code 34 = .ok (.iload_n 2, 1) := by decide +kernel
theorem d3_35 : decode jdk_42_method_149_code 35 = .ok (.iload_n 3, 1) := by decide +kernel
theorem d3_36 : decode jdk_42_method_149_code 36 = .ok (.invokestatic 177, 3) := by decide +kernel
theorem d3_39 : decode jdk_42_method_149_code 39 = .ok (.astore 5, 2) := by decide +kernel
theorem d3_41 : decode jdk_42_method_149_code 41 = .ok (.aload_n 0, 1) := by decide +kernel
theorem d3_42 : decode jdk_42_method_149_code 42 = .ok (.aload 5, 2) := by decide +kernel
theorem d3_44 : decode jdk_42_method_149_code 44 = .ok (.iload_n 3, 1) := by decide +kernel
theorem d3_45 : decode jdk_42_method_149_code 45 = .ok (.invokestatic 47, 3) := by decide +kernel
theorem d3_48 : decode jdk_42_method_149_code 48 = .ok (.putfield 15, 3) := by decide +kernel
theorem d3_51 : decode jdk_42_method_149_code 51 = .ok (.aload_n 0, 1) := by decide +kernel
theorem d3_52 : decode jdk_42_method_149_code 52 = .ok (.aload 5, 2) := by decide +kernel
theorem d3_54 : decode jdk_42_method_149_code 54 = .ok (.putfield 9, 3) := by decide +kernel
theorem d3_57 : decode jdk_42_method_149_code 57 = .ok (.return_, 1) := by decide +kernel
theorem ef_rmct4_1 (m : MethodId) (a1 : Addr) (a2 : Addr) (u1 : Value) (u2 : Value) (k2 : ClassId) (cs : Int32) (c0 : Int32) : entryFrame m #[(.ref a1), (.ref a2), (.int (0 : Int32)), (.int (1 : Int32)), .null] 6 = mkF m 0 #[.val (.ref a1), .val (.ref a2), .val (.int (0 : Int32)), .val (.int (1 : Int32)), .val .null, .unset] [] := by first | (simp [entryFrame, mkF, argsToLocals, Value.category]; done) | rfl
def Qrmct4_1 (Z : State) (a1 : Addr) (a2 : Addr) (u1 : Value) (u2 : Value) (k2 : ClassId) (cs : Int32) (c0 : Int32) (h0 : Heap) (n0 : Nat) (v : Option Value) (h : Heap) (L : List Loc) : Prop := ∃ b : Addr, ∃ kb : ClassId, v = none ∧ Fr n0 L ∧ Keep h0 h [a1] ∧ Exa Z h a1 "java/lang/String" ∧ Fld Z h a1 "java/lang/String" "coder" "B" (.int (0 : Int32)) ∧ Fld Z h a1 "java/lang/String" "value" "[B" (.ref b) ∧ Arv Z h b kb .byte (1 : Int32) [(.int (own_by c0))] (.int (0 : Int32))
set_option maxRecDepth 65536 in
set_option maxHeartbeats 40000000 in
theorem rmct4_1 (l : Launch) (Z : State) (a0 : Array Value) (hw : ∀ d ∈ tables_1, d.before a0 Z = true) (ws : List Jvm.Cond) (a1 : Addr) (a2 : Addr) (u1 : Value) (u2 : Value) (k2 : ClassId) (cs : Int32) (c0 : Int32) (h0 : Heap) (n0 : Nat) (Z0 : n0 ≤ h0.size) (E1 : Exa Z h0 a1 "java/lang/String") (Fc : Fld Z h0 a1 "java/lang/String" "coder" "B" u1) (Fv : Fld Z h0 a1 "java/lang/String" "value" "[B" u2) (V2 : Arv Z h0 a2 k2 .char (1 : Int32) [(.int c0)] (.int (0 : Int32))) (S_cs : Sta Z h0 "java/lang/String" "COMPACT_STRINGS" "Z" (.int cs)) (g_a1 : n0 ≤ a1) (hcs : ¬ cs = 0) (ne21 : a2 ≠ a1) (hb0 : ¬ c0 < 0 ∧ ¬ (255 : Int32) < c0) :
    MetFree l (⟨"java/lang/String", "<init>", "([CIILjava/lang/Void;)V"⟩ : MethodName) (head1 (Jvm.Cond.code (⟨"java/lang/String", "<init>", "([CIILjava/lang/Void;)V"⟩ : MethodName) jdk_42_method_149_code 6 none :: ws) ({ frames := 2, cells := 1, slots := 1, locals := 35 } : Room)) (fun a U => a = #[(.ref a1), (.ref a2), (.int (0 : Int32)), (.int (1 : Int32)), .null] ∧ Z.Warmed39 U.vm ∧ U.heap = h0) (fun _ _ _ _ _ => True) (fun _ U o U' => ∃ v L, o = .returned v ∧ Qrmct4_1 Z a1 a2 u1 u2 k2 cs c0 h0 n0 v U'.heap L ∧ FrameEnd U o U' L ({ frames := 2, cells := 1, slots := 1, locals := 35 } : Room).cells ({ frames := 2, cells := 1, slots := 1, locals := 35 } : Room).slots) := by
  refine MetFree.of_bodySF (plainFor_of_name pn_0) hisR ?_
  intro p e s m args below meth c s₁ Bd hml0 hP hK
  obtain ⟨rfl, hZ, hh⟩ := hP
  have hx := Bd.exec
  have hby := Bd.bytes
  have hml : c.maxLocals = 6 := hml0
  have hown : s.vm.findClass "java/lang/String" = some m.cls := findClass_of_methodNamed Bd.named
  have hnm := (name_of_methodNamed Bd.named Bd.method).1
  have X0 : Stand p l e ({ frames := 2, cells := 1, slots := 1, locals := 35 } : Room) s m #[(.ref a1), (.ref a2), (.int (0 : Int32)), (.int (1 : Int32)), .null] below meth c s₁ [] 0 0 := Stand.of_body Bd
  have e0 : s₁.heap = h0 := by rw [← hh, Bd.state]; rfl
  have N0 := Fr.nil n0
  show Go p.tables e below (fun o U' => ∃ v L, o = .returned v ∧ Qrmct4_1 Z a1 a2 u1 u2 k2 cs c0 h0 n0 v U'.heap L ∧ FrameEnd s o U' L ({ frames := 2, cells := 1, slots := 1, locals := 35 } : Room).cells ({ frames := 2, cells := 1, slots := 1, locals := 35 } : Room).slots) _
  refine Go.step (fun t kt => castTop (ef_rmct4_1 m a1 a2 u1 u2 k2 cs c0) kt) ?_
  show Go p.tables e below _ (s₁.setTop (mkF m 0 #[.val (.ref a1), .val (.ref a2), .val (.int (0 : Int32)), .val (.int (1 : Int32)), .val .null, .unset] []))
  have K101 : Keep h0 h0 [a1] := (Keep.refl h0 [a1])
  refine Go.step (fun _ kt => XS.aloadN X0.here hx rfl (hb hby d3_0) rfl rfl kt) ?_
  show Go p.tables e below _ (s₁.setTop (mkF m 1 #[.val (.ref a1), .val (.ref a2), .val (.int (0 : Int32)), .val (.int (1 : Int32)), .val .null, .unset] [(.ref a1)]))
  obtain ⟨T102, X102, e102, st102⟩ := initO X0 hx hZ hown (hw _ (List.mem_of_getElem? (i := 18) rfl)) (hw _ (List.mem_of_getElem? (i := 19) rfl)) (hw _ (List.mem_of_getElem? (i := 20) rfl)) e0 (g := (mkF m 1 #[.val (.ref a1), .val (.ref a2), .val (.int (0 : Int32)), .val (.int (1 : Int32)), .val .null, .unset] [(.ref a1)])) rfl (by rw [hml]; rfl) rfl (hb hby d3_1) (by decide) (W := 0) (by show 2 * 0 + _ ≤ _; exact Nat.le_of_eq rfl) (by decide)
  refine Go.step st102 ?_
  show Go p.tables e below _ (T102.setTop (mkF m 4 #[.val (.ref a1), .val (.ref a2), .val (.int (0 : Int32)), .val (.int (1 : Int32)), .val .null, .unset] []))
  refine Go.step (fun _ kt => XS.iloadN X102.here hx rfl (hb hby d3_4) rfl (XS.ifYes X102.here hx rfl (pc0 := 5) (pc' := 27) rfl (hb hby d3_5) rfl ((if0 _ _).trans (feq (by decide : ¬ ((1 : Int32) = (0 : Int32)))).2) (by decide) (by decide) kt)) ?_
  show Go p.tables e below _ (T102.setTop (mkF m 27 #[.val (.ref a1), .val (.ref a2), .val (.int (0 : Int32)), .val (.int (1 : Int32)), .val .null, .unset] []))
  obtain ⟨T103, X103, e103, st103⟩ := getS2 X102 hx hZ hown (host := "") (Or.inl (hw _ (List.mem_of_getElem? (i := 29) rfl))) Via.refl e102 S_cs (g := (mkF m 27 #[.val (.ref a1), .val (.ref a2), .val (.int (0 : Int32)), .val (.int (1 : Int32)), .val .null, .unset] [])) rfl (hb hby d3_27)
  refine Go.step st103 ?_
  show Go p.tables e below _ (T103.setTop (mkF m 30 #[.val (.ref a1), .val (.ref a2), .val (.int (0 : Int32)), .val (.int (1 : Int32)), .val .null, .unset] [(.int cs)]))
  refine Go.step (fun _ kt => XS.ifNo X103.here hx rfl (hb hby d3_30) rfl ((if0 _ _).trans (feq hcs).1) (XS.aloadN X103.here hx rfl (hb hby d3_33) rfl rfl (XS.iloadN X103.here hx rfl (hb hby d3_34) rfl (XS.iloadN X103.here hx rfl (hb hby d3_35) rfl kt)))) ?_
  show Go p.tables e below _ (T103.setTop (mkF m 36 #[.val (.ref a1), .val (.ref a2), .val (.int (0 : Int32)), .val (.int (1 : Int32)), .val .null, .unset] [(.int (1 : Int32)), (.int (0 : Int32)), (.ref a2)]))
  obtain ⟨_, _, ⟨T104, L104, k104, n104⟩, -, X104, ⟨Lc104, hQ104, l104, y104, z104⟩, st104⟩ := Jvm.LawKit.callS X103 hx (y := (⟨"java/lang/StringUTF16", "compress", "([CII)[B"⟩ : MethodName)) hown (mvT hZ (hw _ (List.mem_of_getElem? (i := 30) rfl))) (mvT hZ (hw _ (List.mem_of_getElem? (i := 31) rfl))) (mvT hZ (hw _ (List.mem_of_getElem? (i := 32) rfl))) (mvT hZ (hw _ (List.mem_of_getElem? (i := 33) rfl))) (by decide) (backOf (W := 0) (rmk1 l Z a0 hw [] a2 k2 c0 h0 n0 Z0 V2 hb0) hZ (hw _ (List.mem_of_getElem? (i := 33) rfl)) (hw _ (List.mem_of_getElem? (i := 32) rfl)) (by decide) (by decide)) (g := (mkF m 36 #[.val (.ref a1), .val (.ref a2), .val (.int (0 : Int32)), .val (.int (1 : Int32)), .val .null, .unset] [(.int (1 : Int32)), (.int (0 : Int32)), (.ref a2)])) rfl (by rw [hml]; rfl) (argsL := [(.ref a2), (.int (0 : Int32)), (.int (1 : Int32))]) (rest := []) (lenOf pd_3 rfl) rfl (by show 2 * 0 + _ ≤ _; exact Nat.le_of_eq rfl) (hb hby d3_36) (fun _ _ => ⟨rfl, e103, (by decide : 0 + 1 ≤ _), (by decide : 0 + 1 ≤ _)⟩)
  dsimp only [Pt.U, Pt.locs, Pt.cells, Pt.slots] at X104 l104 y104 z104 st104 hQ104
  subst l104 y104 z104
  obtain ⟨b104r, b104kr, rfl, N104q, Kq104, P105, g_b104r, szq_b104r⟩ := hQ104
  have ne_a1_b104r : a1 ≠ b104r := Nat.ne_of_lt (Nat.lt_of_lt_of_le E1.lt szq_b104r)
  have ne_a2_b104r : a2 ≠ b104r := Nat.ne_of_lt (Nat.lt_of_lt_of_le V2.lt szq_b104r)
  have sz_b104r : h0.size ≤ b104r := Nat.le_trans K101.1 szq_b104r
  have F106 : Exa Z T104.heap a1 "java/lang/String" := (E1.keep Kq104)
  have F107 : Fld Z T104.heap a1 "java/lang/String" "coder" "B" u1 := (Fc.keep Kq104 (by simp))
  have F108 : Fld Z T104.heap a1 "java/lang/String" "value" "[B" u2 := (Fv.keep Kq104 (by simp))
  have F109 : Arv Z T104.heap a2 k2 .char (1 : Int32) [(.int c0)] (.int (0 : Int32)) := (V2.keep Kq104 (by simp))
  have F110 : Sta Z T104.heap "java/lang/String" "COMPACT_STRINGS" "Z" (.int cs) := (own_sta_keep0 S_cs Kq104)
  have Z111 : n0 ≤ T104.heap.size := (Nat.le_trans Z0 Kq104.1)
  have K112 : Keep h0 T104.heap [a1] := (K101.trans Kq104 (by intro x hx; cases hx))
  have N104 := Fr.app N0 N104q
  refine Go.step st104 ?_
  show Go p.tables e below _ (T104.setTop (mkF m 39 #[.val (.ref a1), .val (.ref a2), .val (.int (0 : Int32)), .val (.int (1 : Int32)), .val .null, .unset] [(.ref b104r)]))
  refine Go.step (fun _ kt => XS.astore X104.here hx rfl (hb hby d3_39) rfl rfl (l' := #[.val (.ref a1), .val (.ref a2), .val (.int (0 : Int32)), .val (.int (1 : Int32)), .val .null, .val (.ref b104r)]) rfl (XS.aloadN X104.here hx rfl (hb hby d3_41) rfl rfl (XS.aload X104.here hx rfl (hb hby d3_42) rfl rfl (XS.iloadN X104.here hx rfl (hb hby d3_44) rfl kt)))) ?_
  show Go p.tables e below _ (T104.setTop (mkF m 45 #[.val (.ref a1), .val (.ref a2), .val (.int (0 : Int32)), .val (.int (1 : Int32)), .val .null, .val (.ref b104r)] [(.int (1 : Int32)), (.ref b104r), (.ref a1)]))
  obtain ⟨_, _, ⟨T113, L113, k113, n113⟩, -, X113, ⟨Lc113, hQ113, l113, y113, z113⟩, st113⟩ := Jvm.LawKit.callS X104 hx (y := (⟨"java/lang/StringUTF16", "coderFromArrayLen", "([BI)B"⟩ : MethodName)) hown (mvT hZ (hw _ (List.mem_of_getElem? (i := 37) rfl))) (mvT hZ (hw _ (List.mem_of_getElem? (i := 38) rfl))) (mvT hZ (hw _ (List.mem_of_getElem? (i := 32) rfl))) (mvT hZ (hw _ (List.mem_of_getElem? (i := 39) rfl))) (by decide) (backOf (W := 1) (rmcf1 l Z a0 hw [] b104r b104kr c0 T104.heap n0 Z111 P105 ) hZ (hw _ (List.mem_of_getElem? (i := 39) rfl)) (hw _ (List.mem_of_getElem? (i := 32) rfl)) (by decide) (by decide)) (g := (mkF m 45 #[.val (.ref a1), .val (.ref a2), .val (.int (0 : Int32)), .val (.int (1 : Int32)), .val .null, .val (.ref b104r)] [(.int (1 : Int32)), (.ref b104r), (.ref a1)])) rfl (by rw [hml]; rfl) (argsL := [(.ref b104r), (.int (1 : Int32))]) (rest := [(.ref a1)]) (lenOf pd_4 rfl) rfl (by show 2 * 0 + _ ≤ _; exact Nat.le_of_eq rfl) (hb hby d3_45) (fun _ _ => ⟨rfl, rfl, (by decide : 1 + 0 ≤ _), (by decide : 1 + 0 ≤ _)⟩)
  dsimp only [Pt.U, Pt.locs, Pt.cells, Pt.slots] at X113 l113 y113 z113 st113 hQ113
  subst l113 y113 z113
  obtain ⟨rfl, N113q, eh113⟩ := hQ113
  have N113 := Fr.app N104 N113q
  refine Go.step st113 ?_
  show Go p.tables e below _ (T113.setTop (mkF m 48 #[.val (.ref a1), .val (.ref a2), .val (.int (0 : Int32)), .val (.int (1 : Int32)), .val .null, .val (.ref b104r)] [(.int (0 : Int32)), (.ref a1)]))
  obtain ⟨T114, h114, X114, e114, W114, st114⟩ := putFN X113 hx hZ hown (hw _ (List.mem_of_getElem? (i := 28) rfl)) Via.refl eh113 F107 F106 (Or.inr ⟨(hw _ (List.mem_of_getElem? (i := 24) rfl)), rfl, hnm⟩) (hw _ (List.mem_of_getElem? (i := 9) rfl)) (ty := .byte) (v' := (.int (0 : Int32))) (by decide) rfl rfl (g := (mkF m 48 #[.val (.ref a1), .val (.ref a2), .val (.int (0 : Int32)), .val (.int (1 : Int32)), .val .null, .val (.ref b104r)] [(.int (0 : Int32)), (.ref a1)])) rfl rfl (hb hby d3_48)
  refine Go.step st114 ?_
  have N114 := Fr.snoc X114 N113 g_a1
  have F115 : Exa Z h114 a1 "java/lang/String" := (F106.wr W114)
  have F116 : Fld Z h114 a1 "java/lang/String" "coder" "B" (.int (0 : Int32)) := (F107.same W114)
  have F117 : Fld Z h114 a1 "java/lang/String" "value" "[B" u2 := (F108.other W114 (Or.inr (slot_ne (Or.inr (hw _ (List.mem_of_getElem? (i := 23) rfl))) (Or.inr (hw _ (List.mem_of_getElem? (i := 24) rfl))) (by decide) (t := (.array .byte)) (t' := .byte) (by decide) (by decide))))
  have F118 : Arv Z h114 a2 k2 .char (1 : Int32) [(.int c0)] (.int (0 : Int32)) := (F109.other W114 ne21)
  have F119 : Sta Z h114 "java/lang/String" "COMPACT_STRINGS" "Z" (.int cs) := (F110.wr W114)
  have F120 : Arv Z h114 b104r b104kr .byte (1 : Int32) [(.int (own_by c0))] (.int (0 : Int32)) := (P105.other W114 (Ne.symm ne_a1_b104r))
  have Z121 : n0 ≤ h114.size := (Nat.le_trans Z111 (Nat.le_of_eq W114.size.symm))
  have K122 : Keep h0 h114 [a1] := (K112.wr W114 (Or.inl (List.mem_of_getElem? (i := 0) rfl)))
  show Go p.tables e below _ (T114.setTop (mkF m 51 #[.val (.ref a1), .val (.ref a2), .val (.int (0 : Int32)), .val (.int (1 : Int32)), .val .null, .val (.ref b104r)] []))
  refine Go.step (fun _ kt => XS.aloadN X114.here hx rfl (hb hby d3_51) rfl rfl (XS.aload X114.here hx rfl (hb hby d3_52) rfl rfl kt)) ?_
  show Go p.tables e below _ (T114.setTop (mkF m 54 #[.val (.ref a1), .val (.ref a2), .val (.int (0 : Int32)), .val (.int (1 : Int32)), .val .null, .val (.ref b104r)] [(.ref b104r), (.ref a1)]))
  obtain ⟨T123, h123, X123, e123, W123, st123⟩ := putF X114 hx hZ hown (host := "") (Or.inl (hw _ (List.mem_of_getElem? (i := 27) rfl))) Via.refl e114 F117 F115 (Or.inr ⟨(hw _ (List.mem_of_getElem? (i := 23) rfl)), rfl, hnm⟩) (hw _ (List.mem_of_getElem? (i := 9) rfl)) (ty := (.array .byte)) (by decide) rfl rfl (g := (mkF m 54 #[.val (.ref a1), .val (.ref a2), .val (.int (0 : Int32)), .val (.int (1 : Int32)), .val .null, .val (.ref b104r)] [(.ref b104r), (.ref a1)])) rfl rfl (hb hby d3_54)
  refine Go.step st123 ?_
  have N123 := Fr.snoc X123 N114 g_a1
  have F124 : Exa Z h123 a1 "java/lang/String" := (F115.wr W123)
  have F125 : Fld Z h123 a1 "java/lang/String" "coder" "B" (.int (0 : Int32)) := (F116.other W123 (Or.inr (slot_ne (Or.inr (hw _ (List.mem_of_getElem? (i := 24) rfl))) (Or.inr (hw _ (List.mem_of_getElem? (i := 23) rfl))) (by decide) (t := .byte) (t' := (.array .byte)) (by decide) (by decide))))
  have F126 : Fld Z h123 a1 "java/lang/String" "value" "[B" (.ref b104r) := (F117.same W123)
  have F127 : Arv Z h123 a2 k2 .char (1 : Int32) [(.int c0)] (.int (0 : Int32)) := (F118.other W123 ne21)
  have F128 : Sta Z h123 "java/lang/String" "COMPACT_STRINGS" "Z" (.int cs) := (F119.wr W123)
  have F129 : Arv Z h123 b104r b104kr .byte (1 : Int32) [(.int (own_by c0))] (.int (0 : Int32)) := (F120.other W123 (Ne.symm ne_a1_b104r))
  have Z130 : n0 ≤ h123.size := (Nat.le_trans Z121 (Nat.le_of_eq W123.size.symm))
  have K131 : Keep h0 h123 [a1] := (K122.wr W123 (Or.inl (List.mem_of_getElem? (i := 0) rfl)))
  show Go p.tables e below _ (T123.setTop (mkF m 57 #[.val (.ref a1), .val (.ref a2), .val (.int (0 : Int32)), .val (.int (1 : Int32)), .val .null, .val (.ref b104r)] []))
  obtain ⟨fs, hr, hrun, hended, hW, hsame⟩ := X123.leave (v := none) (fun _ => rfl)
  refine ⟨_, _, X123.returnOut hx Bd.returns (hb hby d3_57) hr, hrun, hended, _, _, rfl, ?_, ⟨_, rfl⟩, hW, hsame.mono (by decide) (by decide)⟩
  show Qrmct4_1 Z a1 a2 u1 u2 k2 cs c0 h0 n0 _ T123.heap _
  rw [e123]
  refine ⟨b104r, b104kr, ?_, N123, K131, F124, F125, F126, F129⟩
  rfl
theorem ef_rmct1_1 (m : MethodId) (a1 : Addr) (a2 : Addr) (u1 : Value) (u2 : Value) (k2 : ClassId) (cs : Int32) (c0 : Int32) : entryFrame m #[(.ref a1), (.ref a2)] 2 = mkF m 0 #[.val (.ref a1), .val (.ref a2)] [] := by first | (simp [entryFrame, mkF, argsToLocals, Value.category]; done) | rfl
def Qrmct1_1 (Z : State) (a1 : Addr) (a2 : Addr) (u1 : Value) (u2 : Value) (k2 : ClassId) (cs : Int32) (c0 : Int32) (h0 : Heap) (n0 : Nat) (v : Option Value) (h : Heap) (L : List Loc) : Prop := ∃ b : Addr, ∃ kb : ClassId, v = none ∧ Fr n0 L ∧ Keep h0 h [a1] ∧ Exa Z h a1 "java/lang/String" ∧ Fld Z h a1 "java/lang/String" "coder" "B" (.int (0 : Int32)) ∧ Fld Z h a1 "java/lang/String" "value" "[B" (.ref b) ∧ Arv Z h b kb .byte (1 : Int32) [(.int (own_by c0))] (.int (0 : Int32))
set_option maxRecDepth 65536 in
set_option maxHeartbeats 40000000 in
theorem rmct1_1 (l : Launch) (Z : State) (a0 : Array Value) (hw : ∀ d ∈ tables_1, d.before a0 Z = true) (ws : List Jvm.Cond) (a1 : Addr) (a2 : Addr) (u1 : Value) (u2 : Value) (k2 : ClassId) (cs : Int32) (c0 : Int32) (h0 : Heap) (n0 : Nat) (Z0 : n0 ≤ h0.size) (E1 : Exa Z h0 a1 "java/lang/String") (Fc : Fld Z h0 a1 "java/lang/String" "coder" "B" u1) (Fv : Fld Z h0 a1 "java/lang/String" "value" "[B" u2) (V2 : Arv Z h0 a2 k2 .char (1 : Int32) [(.int c0)] (.int (0 : Int32))) (S_cs : Sta Z h0 "java/lang/String" "COMPACT_STRINGS" "Z" (.int cs)) (g_a1 : n0 ≤ a1) (hcs : ¬ cs = 0) (ne21 : a2 ≠ a1) (hb0 : ¬ c0 < 0 ∧ ¬ (255 : Int32) < c0) :
    MetFree l (⟨"java/lang/String", "<init>", "([C)V"⟩ : MethodName) (head1 (Jvm.Cond.code (⟨"java/lang/String", "<init>", "([C)V"⟩ : MethodName) jdk_42_method_3_code 2 none :: ws) ({ frames := 3, cells := 1, slots := 1, locals := 52 } : Room)) (fun a U => a = #[(.ref a1), (.ref a2)] ∧ Z.Warmed39 U.vm ∧ U.heap = h0) (fun _ _ _ _ _ => True) (fun _ U o U' => ∃ v L, o = .returned v ∧ Qrmct1_1 Z a1 a2 u1 u2 k2 cs c0 h0 n0 v U'.heap L ∧ FrameEnd U o U' L ({ frames := 3, cells := 1, slots := 1, locals := 52 } : Room).cells ({ frames := 3, cells := 1, slots := 1, locals := 52 } : Room).slots) := by
  refine MetFree.of_bodySF (plainFor_of_name pn_0) hisR ?_
  intro p e s m args below meth c s₁ Bd hml0 hP hK
  obtain ⟨rfl, hZ, hh⟩ := hP
  have hx := Bd.exec
  have hby := Bd.bytes
  have hml : c.maxLocals = 2 := hml0
  have hown : s.vm.findClass "java/lang/String" = some m.cls := findClass_of_methodNamed Bd.named
  have hnm := (name_of_methodNamed Bd.named Bd.method).1
  have X0 : Stand p l e ({ frames := 3, cells := 1, slots := 1, locals := 52 } : Room) s m #[(.ref a1), (.ref a2)] below meth c s₁ [] 0 0 := Stand.of_body Bd
  have e0 : s₁.heap = h0 := by rw [← hh, Bd.state]; rfl
  have N0 := Fr.nil n0
  show Go p.tables e below (fun o U' => ∃ v L, o = .returned v ∧ Qrmct1_1 Z a1 a2 u1 u2 k2 cs c0 h0 n0 v U'.heap L ∧ FrameEnd s o U' L ({ frames := 3, cells := 1, slots := 1, locals := 52 } : Room).cells ({ frames := 3, cells := 1, slots := 1, locals := 52 } : Room).slots) _
  refine Go.step (fun t kt => castTop (ef_rmct1_1 m a1 a2 u1 u2 k2 cs c0) kt) ?_
  show Go p.tables e below _ (s₁.setTop (mkF m 0 #[.val (.ref a1), .val (.ref a2)] []))
  have K101 : Keep h0 h0 [a1] := (Keep.refl h0 [a1])
  refine Go.step (fun _ kt => XS.aloadN X0.here hx rfl (hb hby d2_0) rfl rfl (XS.aloadN X0.here hx rfl (hb hby d2_1) rfl rfl (XS.iconst X0.here hx rfl (hb hby d2_2) (XS.aloadN X0.here hx rfl (hb hby d2_3) rfl rfl kt)))) ?_
  show Go p.tables e below _ (s₁.setTop (mkF m 4 #[.val (.ref a1), .val (.ref a2)] [(.ref a2), (.int (0 : Int32)), (.ref a2), (.ref a1)]))
  obtain ⟨cl102, Ar102, qa102, Sa102, Na102, Ha102, Ga102⟩ := (id V2)
  refine Go.step (X0.arraylength hx (by rw [e0]; exact Ar102.1) (State.isArrayOf_alike hZ.alike Ar102.2.1) (g := (mkF m 4 #[.val (.ref a1), .val (.ref a2)] [(.ref a2), (.int (0 : Int32)), (.ref a2), (.ref a1)])) rfl rfl (hb hby d2_4)) ?_
  rw [len_of Sa102 Na102]
  show Go p.tables e below _ (s₁.setTop (mkF m 5 #[.val (.ref a1), .val (.ref a2)] [(.int (1 : Int32)), (.int (0 : Int32)), (.ref a2), (.ref a1)]))
  refine Go.step (fun _ kt => XS.aconstNull X0.here hx rfl (hb hby d2_5) kt) ?_
  show Go p.tables e below _ (s₁.setTop (mkF m 6 #[.val (.ref a1), .val (.ref a2)] [.null, (.int (1 : Int32)), (.int (0 : Int32)), (.ref a2), (.ref a1)]))
  obtain ⟨_, _, ⟨T103, L103, k103, n103⟩, -, X103, ⟨Lc103, hQ103, l103, y103, z103⟩, st103⟩ := X0.specialBack hx (y := (⟨"java/lang/String", "<init>", "([CIILjava/lang/Void;)V"⟩ : MethodName)) rfl hown (mvT hZ (hw _ (List.mem_of_getElem? (i := 14) rfl))) (mvT hZ (hw _ (List.mem_of_getElem? (i := 15) rfl))) (mvT hZ (hw _ (List.mem_of_getElem? (i := 17) rfl))) (by decide) (backOf (W := 0) (rmct4_1 l Z a0 hw [] a1 a2 u1 u2 k2 cs c0 h0 n0 Z0 E1 Fc Fv V2 S_cs g_a1 hcs ne21 hb0) hZ (hw _ (List.mem_of_getElem? (i := 17) rfl)) (hw _ (List.mem_of_getElem? (i := 10) rfl)) (by decide) (by decide)) (g := (mkF m 6 #[.val (.ref a1), .val (.ref a2)] [.null, (.int (1 : Int32)), (.int (0 : Int32)), (.ref a2), (.ref a1)])) rfl (by rw [hml]; rfl) (Steps.refl _) (a := a1) (argsL := [(.ref a2), (.int (0 : Int32)), (.int (1 : Int32)), .null]) (rest := []) (lenOf pd_0 rfl) rfl (by show 2 * 0 + _ ≤ _; exact Nat.le_of_eq rfl) (hb hby d2_6) (fun _ _ => ⟨rfl, e0, (by decide : 0 + 1 ≤ _), (by decide : 0 + 1 ≤ _)⟩)
  dsimp only [Pt.U, Pt.locs, Pt.cells, Pt.slots] at X103 l103 y103 z103 st103 hQ103
  subst l103 y103 z103
  obtain ⟨b103b, b103kb, rfl, N103q, Kq103, P104, P105, P106, P107⟩ := hQ103
  have F108 : Exa Z T103.heap a1 "java/lang/String" := (E1.keep Kq103)
  have F109 : Arv Z T103.heap a2 k2 .char (1 : Int32) [(.int c0)] (.int (0 : Int32)) := (V2.keep Kq103 (fun q => ne21 (List.mem_singleton.mp q)))
  have Z110 : n0 ≤ T103.heap.size := (Nat.le_trans Z0 Kq103.1)
  have K111 : Keep h0 T103.heap [a1] := (K101.trans Kq103 (by intro x hx; cases List.mem_singleton.mp hx; exact (Or.inl (List.mem_of_getElem? (i := 0) rfl))))
  have N103 := Fr.app N0 N103q
  refine Go.step (fun _ kt => st103.trans kt) ?_
  show Go p.tables e below _ (T103.setTop (mkF m 9 #[.val (.ref a1), .val (.ref a2)] []))
  obtain ⟨fs, hr, hrun, hended, hW, hsame⟩ := X103.leave (v := none) (fun _ => rfl)
  refine ⟨_, _, X103.returnOut hx Bd.returns (hb hby d2_9) hr, hrun, hended, _, _, rfl, ?_, ⟨_, rfl⟩, hW, hsame.mono (by decide) (by decide)⟩
  show Qrmct1_1 Z a1 a2 u1 u2 k2 cs c0 h0 n0 _ T103.heap _
  refine ⟨b103b, b103kb, ?_, N103, K111, P104, P105, P106, P107⟩
  rfl
theorem ef_rmkl2 (m : MethodId) (a1 : Addr) (a2 : Addr) (k1 : ClassId) (k2 : ClassId) (c0 : Int32) (c1 : Int32) : entryFrame m #[(.ref a1), (.int (0 : Int32)), (.ref a2), (.int (0 : Int32)), (.int (2 : Int32))] 7 = mkF m 0 #[.val (.ref a1), .val (.int (0 : Int32)), .val (.ref a2), .val (.int (0 : Int32)), .val (.int (2 : Int32)), .unset, .unset] [] := by first | (simp [entryFrame, mkF, argsToLocals, Value.category]; done) | rfl
def Qrmkl2 (Z : State) (a1 : Addr) (a2 : Addr) (k1 : ClassId) (k2 : ClassId) (c0 : Int32) (c1 : Int32) (h0 : Heap) (n0 : Nat) (v : Option Value) (h : Heap) (L : List Loc) : Prop := v = some (.int (2 : Int32)) ∧ Fr n0 L ∧ Keep h0 h [a2] ∧ Arv Z h a2 k2 .byte (2 : Int32) [(.int (own_by c0)), (.int (own_by c1))] (.int (0 : Int32))
set_option maxRecDepth 65536 in
set_option maxHeartbeats 40000000 in
theorem rmkl2 (l : Launch) (Z : State) (a0 : Array Value) (hw : ∀ d ∈ tables_1, d.before a0 Z = true) (ws : List Jvm.Cond) (a1 : Addr) (a2 : Addr) (k1 : ClassId) (k2 : ClassId) (c0 : Int32) (c1 : Int32) (h0 : Heap) (n0 : Nat) (Z0 : n0 ≤ h0.size) (V1 : Arv Z h0 a1 k1 .char (2 : Int32) [(.int c0), (.int c1)] (.int (0 : Int32))) (V2 : Arv Z h0 a2 k2 .byte (2 : Int32) [(.int (0 : Int32)), (.int (0 : Int32))] (.int (0 : Int32))) (g_a2 : n0 ≤ a2) (ne12 : a1 ≠ a2) (hb0 : ¬ c0 < 0 ∧ ¬ (255 : Int32) < c0) (hb1 : ¬ c1 < 0 ∧ ¬ (255 : Int32) < c1) :
    MetFree l (⟨"java/lang/StringUTF16", "compress", "([CI[BII)I"⟩ : MethodName) (head1 (Jvm.Cond.code (⟨"java/lang/StringUTF16", "compress", "([CI[BII)I"⟩ : MethodName) jdk_52_method_21_code 7 (some .int) :: ws) ({ frames := 0, cells := 0, slots := 0, locals := 0 } : Room)) (fun a U => a = #[(.ref a1), (.int (0 : Int32)), (.ref a2), (.int (0 : Int32)), (.int (2 : Int32))] ∧ Z.Warmed39 U.vm ∧ U.heap = h0) (fun _ _ _ _ _ => True) (fun _ U o U' => ∃ v L, o = .returned v ∧ Qrmkl2 Z a1 a2 k1 k2 c0 c1 h0 n0 v U'.heap L ∧ FrameEnd U o U' L ({ frames := 0, cells := 0, slots := 0, locals := 0 } : Room).cells ({ frames := 0, cells := 0, slots := 0, locals := 0 } : Room).slots) := by
  refine MetFree.of_bodySF (plainFor_of_name pn_1) hisR ?_
  intro p e s m args below meth c s₁ Bd hml0 hP hK
  obtain ⟨rfl, hZ, hh⟩ := hP
  have hx := Bd.exec
  have hby := Bd.bytes
  have hml : c.maxLocals = 7 := hml0
  have hown : s.vm.findClass "java/lang/StringUTF16" = some m.cls := findClass_of_methodNamed Bd.named
  have hnm := (name_of_methodNamed Bd.named Bd.method).1
  have X0 : Stand p l e ({ frames := 0, cells := 0, slots := 0, locals := 0 } : Room) s m #[(.ref a1), (.int (0 : Int32)), (.ref a2), (.int (0 : Int32)), (.int (2 : Int32))] below meth c s₁ [] 0 0 := Stand.of_body Bd
  have e0 : s₁.heap = h0 := by rw [← hh, Bd.state]; rfl
  have N0 := Fr.nil n0
  show Go p.tables e below (fun o U' => ∃ v L, o = .returned v ∧ Qrmkl2 Z a1 a2 k1 k2 c0 c1 h0 n0 v U'.heap L ∧ FrameEnd s o U' L ({ frames := 0, cells := 0, slots := 0, locals := 0 } : Room).cells ({ frames := 0, cells := 0, slots := 0, locals := 0 } : Room).slots) _
  refine Go.step (fun t kt => castTop (ef_rmkl2 m a1 a2 k1 k2 c0 c1) kt) ?_
  show Go p.tables e below _ (s₁.setTop (mkF m 0 #[.val (.ref a1), .val (.int (0 : Int32)), .val (.ref a2), .val (.int (0 : Int32)), .val (.int (2 : Int32)), .unset, .unset] []))
  have K101 : Keep h0 h0 [a2] := (Keep.refl h0 [a2])
  refine Go.step (fun _ kt => XS.iconst X0.here hx rfl (hb hby d6_0) (XS.istore X0.here hx rfl (hb hby d6_1) rfl (l' := #[.val (.ref a1), .val (.int (0 : Int32)), .val (.ref a2), .val (.int (0 : Int32)), .val (.int (2 : Int32)), .val (.int (0 : Int32)), .unset]) rfl (XS.iload X0.here hx rfl (hb hby d6_3) rfl (XS.iload X0.here hx rfl (hb hby d6_5) rfl (XS.icmpNo X0.here hx rfl (hb hby d6_7) rfl (tlt (by decide : (0 : Int32) < (2 : Int32))).2.1 (XS.aloadN X0.here hx rfl (hb hby d6_10) rfl rfl (XS.iloadN X0.here hx rfl (hb hby d6_11) rfl kt))))))) ?_
  show Go p.tables e below _ (s₁.setTop (mkF m 12 #[.val (.ref a1), .val (.int (0 : Int32)), .val (.ref a2), .val (.int (0 : Int32)), .val (.int (2 : Int32)), .val (.int (0 : Int32)), .unset] [(.int (0 : Int32)), (.ref a1)]))
  obtain ⟨cl102, Ar102, qa102, Sa102, Na102, Ha102, Ga102⟩ := (id V1)
  have hin102 : ¬ ((0 : Int32) < 0 ∨ cl102.slots.size ≤ ((0 : Int32)).toNatClampNeg) := inb_of Sa102 ⟨by decide, by decide⟩
  have hat102 : cl102.slots[((0 : Int32)).toNatClampNeg]? = some (.int c0) := at_of Ha102 hin102 rfl
  refine Go.step (X0.caload hx (j := (0 : Int32)) (v := (.int c0)) (by rw [e0]; exact Ar102.1) (State.isArrayOf_alike hZ.alike Ar102.2.1) Ar102.2.2 hin102 hat102 (g := (mkF m 12 #[.val (.ref a1), .val (.int (0 : Int32)), .val (.ref a2), .val (.int (0 : Int32)), .val (.int (2 : Int32)), .val (.int (0 : Int32)), .unset] [(.int (0 : Int32)), (.ref a1)])) rfl rfl (hb hby d6_12)) ?_
  show Go p.tables e below _ (s₁.setTop (mkF m 13 #[.val (.ref a1), .val (.int (0 : Int32)), .val (.ref a2), .val (.int (0 : Int32)), .val (.int (2 : Int32)), .val (.int (0 : Int32)), .unset] [(.int c0)]))
  refine Go.step (fun _ kt => XS.istore X0.here hx rfl (hb hby d6_13) rfl (l' := #[.val (.ref a1), .val (.int (0 : Int32)), .val (.ref a2), .val (.int (0 : Int32)), .val (.int (2 : Int32)), .val (.int (0 : Int32)), .val (.int c0)]) rfl (XS.iload X0.here hx rfl (hb hby d6_15) rfl (XS.sipush X0.here hx rfl (hb hby d6_17) (XS.icmpYes X0.here hx rfl (pc0 := 20) (pc' := 26) rfl (hb hby d6_20) rfl (flt hb0.2).2.2.2 (by decide) (by decide) (XS.aloadN X0.here hx rfl (hb hby d6_26) rfl rfl (XS.iloadN X0.here hx rfl (hb hby d6_27) rfl (XS.iload X0.here hx rfl (hb hby d6_28) rfl (XS.i2b X0.here hx rfl (hb hby d6_30) rfl kt)))))))) ?_
  show Go p.tables e below _ (s₁.setTop (mkF m 31 #[.val (.ref a1), .val (.int (0 : Int32)), .val (.ref a2), .val (.int (0 : Int32)), .val (.int (2 : Int32)), .val (.int (0 : Int32)), .val (.int c0)] [(.int (c0.toInt8.toInt32)), (.int (0 : Int32)), (.ref a2)]))
  have q103 : (c0.toInt8.toInt32) = (own_by c0) := rfl
  rw [q103]
  show Go p.tables e below _ (s₁.setTop (mkF m 31 #[.val (.ref a1), .val (.int (0 : Int32)), .val (.ref a2), .val (.int (0 : Int32)), .val (.int (2 : Int32)), .val (.int (0 : Int32)), .val (.int c0)] [(.int (own_by c0)), (.int (0 : Int32)), (.ref a2)]))
  obtain ⟨cl104, Ar104, qa104, Sa104, Na104, Ha104, Ga104⟩ := (id V2)
  have hin104 : ¬ ((0 : Int32) < 0 ∨ cl104.slots.size ≤ ((0 : Int32)).toNatClampNeg) := inb_of Sa104 ⟨by decide, by decide⟩
  obtain ⟨T104, h104, X104, e104, W104, st104⟩ := stB X0 hx hZ e0 Ar104 (j := (0 : Int32)) hin104 (g := (mkF m 31 #[.val (.ref a1), .val (.int (0 : Int32)), .val (.ref a2), .val (.int (0 : Int32)), .val (.int (2 : Int32)), .val (.int (0 : Int32)), .val (.int c0)] [(.int (own_by c0)), (.int (0 : Int32)), (.ref a2)])) rfl rfl (hb hby d6_31)
  refine Go.step st104 ?_
  have V105 := Arv.set Ar104 qa104 Sa104 Na104 Ha104 Ga104 (fits_nar_byte _) W104 0 rfl (Nat.le_of_ble_eq_true rfl)
  have N104 := Fr.snoc X104 N0 g_a2
  have F106 : Arv Z h104 a1 k1 .char (2 : Int32) [(.int c0), (.int c1)] (.int (0 : Int32)) := (V1.other W104 ne12)
  have Z107 : n0 ≤ h104.size := (Nat.le_trans Z0 (Nat.le_of_eq W104.size.symm))
  have K108 : Keep h0 h104 [a2] := (K101.wr W104 (Or.inl (List.mem_of_getElem? (i := 0) rfl)))
  show Go p.tables e below _ (T104.setTop (mkF m 32 #[.val (.ref a1), .val (.int (0 : Int32)), .val (.ref a2), .val (.int (0 : Int32)), .val (.int (2 : Int32)), .val (.int (0 : Int32)), .val (.int c0)] []))
  have Vn109 : Arv Z h104 a2 k2 .byte (2 : Int32) [(.int (own_by c0)), (.int (0 : Int32))] (.int (0 : Int32)) := by have q0 := V105; rw [own_bb] at q0; exact q0
  refine Go.step (fun _ kt => XS.iinc X104.here hx rfl (hb hby d6_32) rfl (l' := #[.val (.ref a1), .val (.int ((0 : Int32) + (1 : Int32))), .val (.ref a2), .val (.int (0 : Int32)), .val (.int (2 : Int32)), .val (.int (0 : Int32)), .val (.int c0)]) rfl kt) ?_
  show Go p.tables e below _ (T104.setTop (mkF m 35 #[.val (.ref a1), .val (.int ((0 : Int32) + (1 : Int32))), .val (.ref a2), .val (.int (0 : Int32)), .val (.int (2 : Int32)), .val (.int (0 : Int32)), .val (.int c0)] []))
  have q110 : ((0 : Int32) + (1 : Int32)) = (1 : Int32) := by decide
  rw [q110]
  show Go p.tables e below _ (T104.setTop (mkF m 35 #[.val (.ref a1), .val (.int (1 : Int32)), .val (.ref a2), .val (.int (0 : Int32)), .val (.int (2 : Int32)), .val (.int (0 : Int32)), .val (.int c0)] []))
  refine Go.step (fun _ kt => XS.iinc X104.here hx rfl (hb hby d6_35) rfl (l' := #[.val (.ref a1), .val (.int (1 : Int32)), .val (.ref a2), .val (.int ((0 : Int32) + (1 : Int32))), .val (.int (2 : Int32)), .val (.int (0 : Int32)), .val (.int c0)]) rfl kt) ?_
  show Go p.tables e below _ (T104.setTop (mkF m 38 #[.val (.ref a1), .val (.int (1 : Int32)), .val (.ref a2), .val (.int ((0 : Int32) + (1 : Int32))), .val (.int (2 : Int32)), .val (.int (0 : Int32)), .val (.int c0)] []))
  have q111 : ((0 : Int32) + (1 : Int32)) = (1 : Int32) := by decide
  rw [q111]
  show Go p.tables e below _ (T104.setTop (mkF m 38 #[.val (.ref a1), .val (.int (1 : Int32)), .val (.ref a2), .val (.int (1 : Int32)), .val (.int (2 : Int32)), .val (.int (0 : Int32)), .val (.int c0)] []))
  refine Go.step (fun _ kt => XS.iinc X104.here hx rfl (hb hby d6_38) rfl (l' := #[.val (.ref a1), .val (.int (1 : Int32)), .val (.ref a2), .val (.int (1 : Int32)), .val (.int (2 : Int32)), .val (.int ((0 : Int32) + (1 : Int32))), .val (.int c0)]) rfl kt) ?_
  show Go p.tables e below _ (T104.setTop (mkF m 41 #[.val (.ref a1), .val (.int (1 : Int32)), .val (.ref a2), .val (.int (1 : Int32)), .val (.int (2 : Int32)), .val (.int ((0 : Int32) + (1 : Int32))), .val (.int c0)] []))
  have q112 : ((0 : Int32) + (1 : Int32)) = (1 : Int32) := by decide
  rw [q112]
  show Go p.tables e below _ (T104.setTop (mkF m 41 #[.val (.ref a1), .val (.int (1 : Int32)), .val (.ref a2), .val (.int (1 : Int32)), .val (.int (2 : Int32)), .val (.int (1 : Int32)), .val (.int c0)] []))
  refine Go.step (fun _ kt => XS.goto X104.here hx rfl (pc0 := 41) (pc' := 3) rfl (hb hby d6_41) (by decide) (by decide) (XS.iload X104.here hx rfl (hb hby d6_3) rfl (XS.iload X104.here hx rfl (hb hby d6_5) rfl (XS.icmpNo X104.here hx rfl (hb hby d6_7) rfl (tlt (by decide : (1 : Int32) < (2 : Int32))).2.1 (XS.aloadN X104.here hx rfl (hb hby d6_10) rfl rfl (XS.iloadN X104.here hx rfl (hb hby d6_11) rfl kt)))))) ?_
  show Go p.tables e below _ (T104.setTop (mkF m 12 #[.val (.ref a1), .val (.int (1 : Int32)), .val (.ref a2), .val (.int (1 : Int32)), .val (.int (2 : Int32)), .val (.int (1 : Int32)), .val (.int c0)] [(.int (1 : Int32)), (.ref a1)]))
  obtain ⟨cl113, Ar113, qa113, Sa113, Na113, Ha113, Ga113⟩ := (id F106)
  have hin113 : ¬ ((1 : Int32) < 0 ∨ cl113.slots.size ≤ ((1 : Int32)).toNatClampNeg) := inb_of Sa113 ⟨by decide, by decide⟩
  have hat113 : cl113.slots[((1 : Int32)).toNatClampNeg]? = some (.int c1) := at_of Ha113 hin113 rfl
  refine Go.step (X104.caload hx (j := (1 : Int32)) (v := (.int c1)) (by rw [e104]; exact Ar113.1) (State.isArrayOf_alike hZ.alike Ar113.2.1) Ar113.2.2 hin113 hat113 (g := (mkF m 12 #[.val (.ref a1), .val (.int (1 : Int32)), .val (.ref a2), .val (.int (1 : Int32)), .val (.int (2 : Int32)), .val (.int (1 : Int32)), .val (.int c0)] [(.int (1 : Int32)), (.ref a1)])) rfl rfl (hb hby d6_12)) ?_
  show Go p.tables e below _ (T104.setTop (mkF m 13 #[.val (.ref a1), .val (.int (1 : Int32)), .val (.ref a2), .val (.int (1 : Int32)), .val (.int (2 : Int32)), .val (.int (1 : Int32)), .val (.int c0)] [(.int c1)]))
  refine Go.step (fun _ kt => XS.istore X104.here hx rfl (hb hby d6_13) rfl (l' := #[.val (.ref a1), .val (.int (1 : Int32)), .val (.ref a2), .val (.int (1 : Int32)), .val (.int (2 : Int32)), .val (.int (1 : Int32)), .val (.int c1)]) rfl (XS.iload X104.here hx rfl (hb hby d6_15) rfl (XS.sipush X104.here hx rfl (hb hby d6_17) (XS.icmpYes X104.here hx rfl (pc0 := 20) (pc' := 26) rfl (hb hby d6_20) rfl (flt hb1.2).2.2.2 (by decide) (by decide) (XS.aloadN X104.here hx rfl (hb hby d6_26) rfl rfl (XS.iloadN X104.here hx rfl (hb hby d6_27) rfl (XS.iload X104.here hx rfl (hb hby d6_28) rfl (XS.i2b X104.here hx rfl (hb hby d6_30) rfl kt)))))))) ?_
  show Go p.tables e below _ (T104.setTop (mkF m 31 #[.val (.ref a1), .val (.int (1 : Int32)), .val (.ref a2), .val (.int (1 : Int32)), .val (.int (2 : Int32)), .val (.int (1 : Int32)), .val (.int c1)] [(.int (c1.toInt8.toInt32)), (.int (1 : Int32)), (.ref a2)]))
  have q114 : (c1.toInt8.toInt32) = (own_by c1) := rfl
  rw [q114]
  show Go p.tables e below _ (T104.setTop (mkF m 31 #[.val (.ref a1), .val (.int (1 : Int32)), .val (.ref a2), .val (.int (1 : Int32)), .val (.int (2 : Int32)), .val (.int (1 : Int32)), .val (.int c1)] [(.int (own_by c1)), (.int (1 : Int32)), (.ref a2)]))
  obtain ⟨cl115, Ar115, qa115, Sa115, Na115, Ha115, Ga115⟩ := (id Vn109)
  have hin115 : ¬ ((1 : Int32) < 0 ∨ cl115.slots.size ≤ ((1 : Int32)).toNatClampNeg) := inb_of Sa115 ⟨by decide, by decide⟩
  obtain ⟨T115, h115, X115, e115, W115, st115⟩ := stB X104 hx hZ e104 Ar115 (j := (1 : Int32)) hin115 (g := (mkF m 31 #[.val (.ref a1), .val (.int (1 : Int32)), .val (.ref a2), .val (.int (1 : Int32)), .val (.int (2 : Int32)), .val (.int (1 : Int32)), .val (.int c1)] [(.int (own_by c1)), (.int (1 : Int32)), (.ref a2)])) rfl rfl (hb hby d6_31)
  refine Go.step st115 ?_
  have V116 := Arv.set Ar115 qa115 Sa115 Na115 Ha115 Ga115 (fits_nar_byte _) W115 1 rfl (Nat.le_of_ble_eq_true rfl)
  have N115 := Fr.snoc X115 N104 g_a2
  have F117 : Arv Z h115 a1 k1 .char (2 : Int32) [(.int c0), (.int c1)] (.int (0 : Int32)) := (F106.other W115 ne12)
  have Z118 : n0 ≤ h115.size := (Nat.le_trans Z107 (Nat.le_of_eq W115.size.symm))
  have K119 : Keep h0 h115 [a2] := (K108.wr W115 (Or.inl (List.mem_of_getElem? (i := 0) rfl)))
  show Go p.tables e below _ (T115.setTop (mkF m 32 #[.val (.ref a1), .val (.int (1 : Int32)), .val (.ref a2), .val (.int (1 : Int32)), .val (.int (2 : Int32)), .val (.int (1 : Int32)), .val (.int c1)] []))
  have Vn120 : Arv Z h115 a2 k2 .byte (2 : Int32) [(.int (own_by c0)), (.int (own_by c1))] (.int (0 : Int32)) := by have q0 := V116; rw [own_bb] at q0; exact q0
  refine Go.step (fun _ kt => XS.iinc X115.here hx rfl (hb hby d6_32) rfl (l' := #[.val (.ref a1), .val (.int ((1 : Int32) + (1 : Int32))), .val (.ref a2), .val (.int (1 : Int32)), .val (.int (2 : Int32)), .val (.int (1 : Int32)), .val (.int c1)]) rfl kt) ?_
  show Go p.tables e below _ (T115.setTop (mkF m 35 #[.val (.ref a1), .val (.int ((1 : Int32) + (1 : Int32))), .val (.ref a2), .val (.int (1 : Int32)), .val (.int (2 : Int32)), .val (.int (1 : Int32)), .val (.int c1)] []))
  have q121 : ((1 : Int32) + (1 : Int32)) = (2 : Int32) := by decide
  rw [q121]
  show Go p.tables e below _ (T115.setTop (mkF m 35 #[.val (.ref a1), .val (.int (2 : Int32)), .val (.ref a2), .val (.int (1 : Int32)), .val (.int (2 : Int32)), .val (.int (1 : Int32)), .val (.int c1)] []))
  refine Go.step (fun _ kt => XS.iinc X115.here hx rfl (hb hby d6_35) rfl (l' := #[.val (.ref a1), .val (.int (2 : Int32)), .val (.ref a2), .val (.int ((1 : Int32) + (1 : Int32))), .val (.int (2 : Int32)), .val (.int (1 : Int32)), .val (.int c1)]) rfl kt) ?_
  show Go p.tables e below _ (T115.setTop (mkF m 38 #[.val (.ref a1), .val (.int (2 : Int32)), .val (.ref a2), .val (.int ((1 : Int32) + (1 : Int32))), .val (.int (2 : Int32)), .val (.int (1 : Int32)), .val (.int c1)] []))
  have q122 : ((1 : Int32) + (1 : Int32)) = (2 : Int32) := by decide
  rw [q122]
  show Go p.tables e below _ (T115.setTop (mkF m 38 #[.val (.ref a1), .val (.int (2 : Int32)), .val (.ref a2), .val (.int (2 : Int32)), .val (.int (2 : Int32)), .val (.int (1 : Int32)), .val (.int c1)] []))
  refine Go.step (fun _ kt => XS.iinc X115.here hx rfl (hb hby d6_38) rfl (l' := #[.val (.ref a1), .val (.int (2 : Int32)), .val (.ref a2), .val (.int (2 : Int32)), .val (.int (2 : Int32)), .val (.int ((1 : Int32) + (1 : Int32))), .val (.int c1)]) rfl kt) ?_
  show Go p.tables e below _ (T115.setTop (mkF m 41 #[.val (.ref a1), .val (.int (2 : Int32)), .val (.ref a2), .val (.int (2 : Int32)), .val (.int (2 : Int32)), .val (.int ((1 : Int32) + (1 : Int32))), .val (.int c1)] []))
  have q123 : ((1 : Int32) + (1 : Int32)) = (2 : Int32) := by decide
  rw [q123]
  show Go p.tables e below _ (T115.setTop (mkF m 41 #[.val (.ref a1), .val (.int (2 : Int32)), .val (.ref a2), .val (.int (2 : Int32)), .val (.int (2 : Int32)), .val (.int (2 : Int32)), .val (.int c1)] []))
  refine Go.step (fun _ kt => XS.goto X115.here hx rfl (pc0 := 41) (pc' := 3) rfl (hb hby d6_41) (by decide) (by decide) (XS.iload X115.here hx rfl (hb hby d6_3) rfl (XS.iload X115.here hx rfl (hb hby d6_5) rfl (XS.icmpYes X115.here hx rfl (pc0 := 7) (pc' := 44) rfl (hb hby d6_7) rfl (flt (by decide : ¬ ((2 : Int32) < (2 : Int32)))).2.1 (by decide) (by decide) (XS.iload X115.here hx rfl (hb hby d6_44) rfl kt))))) ?_
  show Go p.tables e below _ (T115.setTop (mkF m 46 #[.val (.ref a1), .val (.int (2 : Int32)), .val (.ref a2), .val (.int (2 : Int32)), .val (.int (2 : Int32)), .val (.int (2 : Int32)), .val (.int c1)] [(.int (2 : Int32))]))
  obtain ⟨fs, hr, hrun, hended, hW, hsame⟩ := X115.leave (v := some (.int (2 : Int32))) (fun h => by rw [Bd.returns] at h; cases h)
  refine ⟨_, _, retI X115 hx Bd.returns (hb hby d6_46) hr, hrun, hended, _, _, rfl, ?_, ⟨_, rfl⟩, hW, hsame.mono (by decide) (by decide)⟩
  show Qrmkl2 Z a1 a2 k1 k2 c0 c1 h0 n0 _ T115.heap _
  rw [e115]
  refine ⟨?_, N115, K119, Vn120⟩
  rfl
theorem ef_rmk2 (m : MethodId) (a1 : Addr) (k1 : ClassId) (c0 : Int32) (c1 : Int32) : entryFrame m #[(.ref a1), (.int (0 : Int32)), (.int (2 : Int32))] 6 = mkF m 0 #[.val (.ref a1), .val (.int (0 : Int32)), .val (.int (2 : Int32)), .unset, .unset, .unset] [] := by first | (simp [entryFrame, mkF, argsToLocals, Value.category]; done) | rfl
def Qrmk2 (Z : State) (a1 : Addr) (k1 : ClassId) (c0 : Int32) (c1 : Int32) (h0 : Heap) (n0 : Nat) (v : Option Value) (h : Heap) (L : List Loc) : Prop := ∃ r : Addr, ∃ kr : ClassId, v = some (.ref r) ∧ Fr n0 L ∧ Keep h0 h [] ∧ Arv Z h r kr .byte (2 : Int32) [(.int (own_by c0)), (.int (own_by c1))] (.int (0 : Int32)) ∧ n0 ≤ r ∧ h0.size ≤ r
set_option maxRecDepth 65536 in
set_option maxHeartbeats 40000000 in
theorem rmk2 (l : Launch) (Z : State) (a0 : Array Value) (hw : ∀ d ∈ tables_1, d.before a0 Z = true) (ws : List Jvm.Cond) (a1 : Addr) (k1 : ClassId) (c0 : Int32) (c1 : Int32) (h0 : Heap) (n0 : Nat) (Z0 : n0 ≤ h0.size) (V1 : Arv Z h0 a1 k1 .char (2 : Int32) [(.int c0), (.int c1)] (.int (0 : Int32))) (hb0 : ¬ c0 < 0 ∧ ¬ (255 : Int32) < c0) (hb1 : ¬ c1 < 0 ∧ ¬ (255 : Int32) < c1) :
    MetFree l (⟨"java/lang/StringUTF16", "compress", "([CII)[B"⟩ : MethodName) (head1 (Jvm.Cond.code (⟨"java/lang/StringUTF16", "compress", "([CII)[B"⟩ : MethodName) jdk_52_method_16_code 6 (some (.array .byte)) :: ws) ({ frames := 1, cells := 1, slots := 2, locals := 18 } : Room)) (fun a U => a = #[(.ref a1), (.int (0 : Int32)), (.int (2 : Int32))] ∧ Z.Warmed39 U.vm ∧ U.heap = h0) (fun _ _ _ _ _ => True) (fun _ U o U' => ∃ v L, o = .returned v ∧ Qrmk2 Z a1 k1 c0 c1 h0 n0 v U'.heap L ∧ FrameEnd U o U' L ({ frames := 1, cells := 1, slots := 2, locals := 18 } : Room).cells ({ frames := 1, cells := 1, slots := 2, locals := 18 } : Room).slots) := by
  refine MetFree.of_bodySF (plainFor_of_name pn_1) hisR ?_
  intro p e s m args below meth c s₁ Bd hml0 hP hK
  obtain ⟨rfl, hZ, hh⟩ := hP
  have hx := Bd.exec
  have hby := Bd.bytes
  have hml : c.maxLocals = 6 := hml0
  have hown : s.vm.findClass "java/lang/StringUTF16" = some m.cls := findClass_of_methodNamed Bd.named
  have hnm := (name_of_methodNamed Bd.named Bd.method).1
  have X0 : Stand p l e ({ frames := 1, cells := 1, slots := 2, locals := 18 } : Room) s m #[(.ref a1), (.int (0 : Int32)), (.int (2 : Int32))] below meth c s₁ [] 0 0 := Stand.of_body Bd
  have e0 : s₁.heap = h0 := by rw [← hh, Bd.state]; rfl
  have N0 := Fr.nil n0
  show Go p.tables e below (fun o U' => ∃ v L, o = .returned v ∧ Qrmk2 Z a1 k1 c0 c1 h0 n0 v U'.heap L ∧ FrameEnd s o U' L ({ frames := 1, cells := 1, slots := 2, locals := 18 } : Room).cells ({ frames := 1, cells := 1, slots := 2, locals := 18 } : Room).slots) _
  refine Go.step (fun t kt => castTop (ef_rmk2 m a1 k1 c0 c1) kt) ?_
  show Go p.tables e below _ (s₁.setTop (mkF m 0 #[.val (.ref a1), .val (.int (0 : Int32)), .val (.int (2 : Int32)), .unset, .unset, .unset] []))
  have K101 : Keep h0 h0 [] := (Keep.refl h0 [])
  refine Go.step (fun _ kt => XS.iloadN X0.here hx rfl (hb hby d5_0) rfl kt) ?_
  show Go p.tables e below _ (s₁.setTop (mkF m 1 #[.val (.ref a1), .val (.int (0 : Int32)), .val (.int (2 : Int32)), .unset, .unset, .unset] [(.int (2 : Int32))]))
  obtain ⟨T102, h102, k102, X102, e102, E102, A102, st102⟩ := newP X0 hx hZ (hw _ (List.mem_of_getElem? (i := 22) rfl)) e0 (g := (mkF m 1 #[.val (.ref a1), .val (.int (0 : Int32)), .val (.int (2 : Int32)), .unset, .unset, .unset] [(.int (2 : Int32))])) rfl (hb hby d5_1) rfl (by decide) (cap := 2) (by decide) (by decide) (by decide) (by decide)
  obtain ⟨b102, g102⟩ : ∃ z, z = h0.size := ⟨_, rfl⟩
  rw [← g102] at A102 st102
  refine Go.step st102 ?_
  have ne_a1_b102 : a1 ≠ b102 := Nat.ne_of_lt (Nat.lt_of_lt_of_le V1.lt (Nat.le_of_eq g102.symm))
  have g_b102 : n0 ≤ b102 := Nat.le_trans Z0 (Nat.le_of_eq g102.symm)
  have sz_b102 : h0.size ≤ b102 := Nat.le_trans K101.1 (Nat.le_of_eq g102.symm)
  have F103 : Arv Z h102 a1 k1 .char (2 : Int32) [(.int c0), (.int c1)] (.int (0 : Int32)) := (V1.ext E102)
  have Z104 : n0 ≤ h102.size := (Nat.le_trans Z0 E102.1)
  have K105 : Keep h0 h102 [] := (K101.ext E102)
  have V106 : Arv Z h102 b102 k102 .byte (2 : Int32) [(.int (0 : Int32)), (.int (0 : Int32))] (.int (0 : Int32)) := (Arv.new A102 (by decide)).pad (pad_rep [] (.int (0 : Int32)) 2)
  show Go p.tables e below _ (T102.setTop (mkF m 3 #[.val (.ref a1), .val (.int (0 : Int32)), .val (.int (2 : Int32)), .unset, .unset, .unset] [(.ref b102)]))
  refine Go.step (fun _ kt => XS.astoreN X102.here hx rfl (hb hby d5_3) rfl rfl (l' := #[.val (.ref a1), .val (.int (0 : Int32)), .val (.int (2 : Int32)), .val (.ref b102), .unset, .unset]) rfl (XS.aloadN X102.here hx rfl (hb hby d5_4) rfl rfl (XS.iloadN X102.here hx rfl (hb hby d5_5) rfl (XS.aloadN X102.here hx rfl (hb hby d5_6) rfl rfl (XS.iconst X102.here hx rfl (hb hby d5_7) (XS.iloadN X102.here hx rfl (hb hby d5_8) rfl kt)))))) ?_
  show Go p.tables e below _ (T102.setTop (mkF m 9 #[.val (.ref a1), .val (.int (0 : Int32)), .val (.int (2 : Int32)), .val (.ref b102), .unset, .unset] [(.int (2 : Int32)), (.int (0 : Int32)), (.ref b102), (.int (0 : Int32)), (.ref a1)]))
  obtain ⟨_, _, ⟨T107, L107, k107, n107⟩, -, X107, ⟨Lc107, hQ107, l107, y107, z107⟩, st107⟩ := Jvm.LawKit.callS X102 hx (y := (⟨"java/lang/StringUTF16", "compress", "([CI[BII)I"⟩ : MethodName)) hown (mvT hZ (hw _ (List.mem_of_getElem? (i := 34) rfl))) (mvT hZ (hw _ (List.mem_of_getElem? (i := 35) rfl))) (mvT hZ (hw _ (List.mem_of_getElem? (i := 32) rfl))) (mvT hZ (hw _ (List.mem_of_getElem? (i := 36) rfl))) (by decide) (backOf (W := 0) (rmkl2 l Z a0 hw [] a1 b102 k1 k102 c0 c1 h102 n0 Z104 F103 V106 g_b102 ne_a1_b102 hb0 hb1) hZ (hw _ (List.mem_of_getElem? (i := 36) rfl)) (hw _ (List.mem_of_getElem? (i := 32) rfl)) (by decide) (by decide)) (g := (mkF m 9 #[.val (.ref a1), .val (.int (0 : Int32)), .val (.int (2 : Int32)), .val (.ref b102), .unset, .unset] [(.int (2 : Int32)), (.int (0 : Int32)), (.ref b102), (.int (0 : Int32)), (.ref a1)])) rfl (by rw [hml]; rfl) (argsL := [(.ref a1), (.int (0 : Int32)), (.ref b102), (.int (0 : Int32)), (.int (2 : Int32))]) (rest := []) (lenOf pd_2 rfl) rfl (by show 2 * 0 + _ ≤ _; exact Nat.le_of_eq rfl) (hb hby d5_9) (fun _ _ => ⟨rfl, e102, (by decide : 1 + 0 ≤ _), (by decide : 2 + 0 ≤ _)⟩)
  dsimp only [Pt.U, Pt.locs, Pt.cells, Pt.slots] at X107 l107 y107 z107 st107 hQ107
  subst l107 y107 z107
  obtain ⟨rfl, N107q, Kq107, P108⟩ := hQ107
  have F109 : Arv Z T107.heap a1 k1 .char (2 : Int32) [(.int c0), (.int c1)] (.int (0 : Int32)) := (F103.keep Kq107 (fun q => ne_a1_b102 (List.mem_singleton.mp q)))
  have Z110 : n0 ≤ T107.heap.size := (Nat.le_trans Z104 Kq107.1)
  have K111 : Keep h0 T107.heap [] := (K105.trans Kq107 (by intro x hx; cases List.mem_singleton.mp hx; exact (Or.inr sz_b102)))
  have N107 := Fr.app N0 N107q
  refine Go.step st107 ?_
  show Go p.tables e below _ (T107.setTop (mkF m 12 #[.val (.ref a1), .val (.int (0 : Int32)), .val (.int (2 : Int32)), .val (.ref b102), .unset, .unset] [(.int (2 : Int32))]))
  refine Go.step (fun _ kt => XS.istore X107.here hx rfl (hb hby d5_12) rfl (l' := #[.val (.ref a1), .val (.int (0 : Int32)), .val (.int (2 : Int32)), .val (.ref b102), .val (.int (2 : Int32)), .unset]) rfl (XS.iload X107.here hx rfl (hb hby d5_14) rfl (XS.iloadN X107.here hx rfl (hb hby d5_16) rfl (XS.icmpYes X107.here hx rfl (pc0 := 17) (pc' := 57) rfl (hb hby d5_17) rfl (teq (by decide : (2 : Int32) = (2 : Int32))).1 (by decide) (by decide) (XS.aloadN X107.here hx rfl (hb hby d5_57) rfl rfl kt))))) ?_
  show Go p.tables e below _ (T107.setTop (mkF m 58 #[.val (.ref a1), .val (.int (0 : Int32)), .val (.int (2 : Int32)), .val (.ref b102), .val (.int (2 : Int32)), .unset] [(.ref b102)]))
  obtain ⟨fs, hr, hrun, hended, hW, hsame⟩ := X107.leave (v := some (.ref b102)) (fun h => by rw [Bd.returns] at h; cases h)
  refine ⟨_, _, retOut X107 hx Bd.returns rfl (Or.inr (Or.inr (Or.inr (Or.inr ⟨rfl, rfl, rfl⟩)))) (hb hby d5_58) hr, hrun, hended, _, _, rfl, ?_, ⟨_, rfl⟩, hW, hsame.mono (by decide) (by decide)⟩
  show Qrmk2 Z a1 k1 c0 c1 h0 n0 _ T107.heap _
  refine ⟨b102, k102, ?_, N107, K111, P108, g_b102, sz_b102⟩
  rfl
theorem ef_rmcf2 (m : MethodId) (a1 : Addr) (k1 : ClassId) (c0 : Int32) (c1 : Int32) : entryFrame m #[(.ref a1), (.int (2 : Int32))] 2 = mkF m 0 #[.val (.ref a1), .val (.int (2 : Int32))] [] := by first | (simp [entryFrame, mkF, argsToLocals, Value.category]; done) | rfl
def Qrmcf2 (Z : State) (a1 : Addr) (k1 : ClassId) (c0 : Int32) (c1 : Int32) (h0 : Heap) (n0 : Nat) (v : Option Value) (h : Heap) (L : List Loc) : Prop := v = some (.int (0 : Int32)) ∧ Fr n0 L ∧ h = h0
set_option maxRecDepth 65536 in
set_option maxHeartbeats 40000000 in
theorem rmcf2 (l : Launch) (Z : State) (a0 : Array Value) (hw : ∀ d ∈ tables_1, d.before a0 Z = true) (ws : List Jvm.Cond) (a1 : Addr) (k1 : ClassId) (c0 : Int32) (c1 : Int32) (h0 : Heap) (n0 : Nat) (Z0 : n0 ≤ h0.size) (V1 : Arv Z h0 a1 k1 .byte (2 : Int32) [(.int (own_by c0)), (.int (own_by c1))] (.int (0 : Int32))) :
    MetFree l (⟨"java/lang/StringUTF16", "coderFromArrayLen", "([BI)B"⟩ : MethodName) (head1 (Jvm.Cond.code (⟨"java/lang/StringUTF16", "coderFromArrayLen", "([BI)B"⟩ : MethodName) jdk_52_method_15_code 2 (some .byte) :: ws) ({ frames := 0, cells := 0, slots := 0, locals := 0 } : Room)) (fun a U => a = #[(.ref a1), (.int (2 : Int32))] ∧ Z.Warmed39 U.vm ∧ U.heap = h0) (fun _ _ _ _ _ => True) (fun _ U o U' => ∃ v L, o = .returned v ∧ Qrmcf2 Z a1 k1 c0 c1 h0 n0 v U'.heap L ∧ FrameEnd U o U' L ({ frames := 0, cells := 0, slots := 0, locals := 0 } : Room).cells ({ frames := 0, cells := 0, slots := 0, locals := 0 } : Room).slots) := by
  refine MetFree.of_bodySF (plainFor_of_name pn_1) hisR ?_
  intro p e s m args below meth c s₁ Bd hml0 hP hK
  obtain ⟨rfl, hZ, hh⟩ := hP
  have hx := Bd.exec
  have hby := Bd.bytes
  have hml : c.maxLocals = 2 := hml0
  have hown : s.vm.findClass "java/lang/StringUTF16" = some m.cls := findClass_of_methodNamed Bd.named
  have hnm := (name_of_methodNamed Bd.named Bd.method).1
  have X0 : Stand p l e ({ frames := 0, cells := 0, slots := 0, locals := 0 } : Room) s m #[(.ref a1), (.int (2 : Int32))] below meth c s₁ [] 0 0 := Stand.of_body Bd
  have e0 : s₁.heap = h0 := by rw [← hh, Bd.state]; rfl
  have N0 := Fr.nil n0
  show Go p.tables e below (fun o U' => ∃ v L, o = .returned v ∧ Qrmcf2 Z a1 k1 c0 c1 h0 n0 v U'.heap L ∧ FrameEnd s o U' L ({ frames := 0, cells := 0, slots := 0, locals := 0 } : Room).cells ({ frames := 0, cells := 0, slots := 0, locals := 0 } : Room).slots) _
  refine Go.step (fun t kt => castTop (ef_rmcf2 m a1 k1 c0 c1) kt) ?_
  show Go p.tables e below _ (s₁.setTop (mkF m 0 #[.val (.ref a1), .val (.int (2 : Int32))] []))
  refine Go.step (fun _ kt => XS.iloadN X0.here hx rfl (hb hby d7_0) rfl (XS.aloadN X0.here hx rfl (hb hby d7_1) rfl rfl kt)) ?_
  show Go p.tables e below _ (s₁.setTop (mkF m 2 #[.val (.ref a1), .val (.int (2 : Int32))] [(.ref a1), (.int (2 : Int32))]))
  obtain ⟨cl101, Ar101, qa101, Sa101, Na101, Ha101, Ga101⟩ := (id V1)
  refine Go.step (X0.arraylength hx (by rw [e0]; exact Ar101.1) (State.isArrayOf_alike hZ.alike Ar101.2.1) (g := (mkF m 2 #[.val (.ref a1), .val (.int (2 : Int32))] [(.ref a1), (.int (2 : Int32))])) rfl rfl (hb hby d7_2)) ?_
  rw [len_of Sa101 Na101]
  show Go p.tables e below _ (s₁.setTop (mkF m 3 #[.val (.ref a1), .val (.int (2 : Int32))] [(.int (2 : Int32)), (.int (2 : Int32))]))
  refine Go.step (fun _ kt => XS.isub X0.here hx rfl (hb hby d7_3) rfl kt) ?_
  show Go p.tables e below _ (s₁.setTop (mkF m 4 #[.val (.ref a1), .val (.int (2 : Int32))] [(.int ((2 : Int32) - (2 : Int32)))]))
  have q102 : ((2 : Int32) - (2 : Int32)) = (0 : Int32) := by decide
  rw [q102]
  show Go p.tables e below _ (s₁.setTop (mkF m 4 #[.val (.ref a1), .val (.int (2 : Int32))] [(.int (0 : Int32))]))
  refine Go.step (fun _ kt => XS.bipush X0.here hx rfl (hb hby d7_4) (XS.iushr X0.here hx rfl (hb hby d7_6) rfl kt)) ?_
  show Go p.tables e below _ (s₁.setTop (mkF m 7 #[.val (.ref a1), .val (.int (2 : Int32))] [(.int (((0 : Int32).toUInt32 >>> ((31 : Int32) &&& 31).toUInt32).toInt32))]))
  have q103 : (((0 : Int32).toUInt32 >>> ((31 : Int32) &&& 31).toUInt32).toInt32) = (0 : Int32) := by decide
  rw [q103]
  show Go p.tables e below _ (s₁.setTop (mkF m 7 #[.val (.ref a1), .val (.int (2 : Int32))] [(.int (0 : Int32))]))
  refine Go.step (fun _ kt => XS.i2b X0.here hx rfl (hb hby d7_7) rfl kt) ?_
  show Go p.tables e below _ (s₁.setTop (mkF m 8 #[.val (.ref a1), .val (.int (2 : Int32))] [(.int ((0 : Int32).toInt8.toInt32))]))
  have q104 : ((0 : Int32).toInt8.toInt32) = (0 : Int32) := by decide
  rw [q104]
  show Go p.tables e below _ (s₁.setTop (mkF m 8 #[.val (.ref a1), .val (.int (2 : Int32))] [(.int (0 : Int32))]))
  obtain ⟨fs, hr, hrun, hended, hW, hsame⟩ := X0.leave (v := some (.int (0 : Int32))) (fun h => by rw [Bd.returns] at h; cases h)
  refine ⟨_, _, retN X0 hx (t := .byte) Bd.returns (by simp) (hb hby d7_8) hr, hrun, hended, _, _, rfl, ?_, ⟨_, rfl⟩, hW, hsame.mono (by decide) (by decide)⟩
  show Qrmcf2 Z a1 k1 c0 c1 h0 n0 _ s₁.heap _
  rw [e0]
  refine ⟨?_, N0, rfl⟩
  rfl
theorem ef_rmct4_2 (m : MethodId) (a1 : Addr) (a2 : Addr) (u1 : Value) (u2 : Value) (k2 : ClassId) (cs : Int32) (c0 : Int32) (c1 : Int32) : entryFrame m #[(.ref a1), (.ref a2), (.int (0 : Int32)), (.int (2 : Int32)), .null] 6 = mkF m 0 #[.val (.ref a1), .val (.ref a2), .val (.int (0 : Int32)), .val (.int (2 : Int32)), .val .null, .unset] [] := by first | (simp [entryFrame, mkF, argsToLocals, Value.category]; done) | rfl
def Qrmct4_2 (Z : State) (a1 : Addr) (a2 : Addr) (u1 : Value) (u2 : Value) (k2 : ClassId) (cs : Int32) (c0 : Int32) (c1 : Int32) (h0 : Heap) (n0 : Nat) (v : Option Value) (h : Heap) (L : List Loc) : Prop := ∃ b : Addr, ∃ kb : ClassId, v = none ∧ Fr n0 L ∧ Keep h0 h [a1] ∧ Exa Z h a1 "java/lang/String" ∧ Fld Z h a1 "java/lang/String" "coder" "B" (.int (0 : Int32)) ∧ Fld Z h a1 "java/lang/String" "value" "[B" (.ref b) ∧ Arv Z h b kb .byte (2 : Int32) [(.int (own_by c0)), (.int (own_by c1))] (.int (0 : Int32))
set_option maxRecDepth 65536 in
set_option maxHeartbeats 40000000 in
theorem rmct4_2 (l : Launch) (Z : State) (a0 : Array Value) (hw : ∀ d ∈ tables_1, d.before a0 Z = true) (ws : List Jvm.Cond) (a1 : Addr) (a2 : Addr) (u1 : Value) (u2 : Value) (k2 : ClassId) (cs : Int32) (c0 : Int32) (c1 : Int32) (h0 : Heap) (n0 : Nat) (Z0 : n0 ≤ h0.size) (E1 : Exa Z h0 a1 "java/lang/String") (Fc : Fld Z h0 a1 "java/lang/String" "coder" "B" u1) (Fv : Fld Z h0 a1 "java/lang/String" "value" "[B" u2) (V2 : Arv Z h0 a2 k2 .char (2 : Int32) [(.int c0), (.int c1)] (.int (0 : Int32))) (S_cs : Sta Z h0 "java/lang/String" "COMPACT_STRINGS" "Z" (.int cs)) (g_a1 : n0 ≤ a1) (hcs : ¬ cs = 0) (ne21 : a2 ≠ a1) (hb0 : ¬ c0 < 0 ∧ ¬ (255 : Int32) < c0) (hb1 : ¬ c1 < 0 ∧ ¬ (255 : Int32) < c1) :
    MetFree l (⟨"java/lang/String", "<init>", "([CIILjava/lang/Void;)V"⟩ : MethodName) (head1 (Jvm.Cond.code (⟨"java/lang/String", "<init>", "([CIILjava/lang/Void;)V"⟩ : MethodName) jdk_42_method_149_code 6 none :: ws) ({ frames := 2, cells := 1, slots := 2, locals := 35 } : Room)) (fun a U => a = #[(.ref a1), (.ref a2), (.int (0 : Int32)), (.int (2 : Int32)), .null] ∧ Z.Warmed39 U.vm ∧ U.heap = h0) (fun _ _ _ _ _ => True) (fun _ U o U' => ∃ v L, o = .returned v ∧ Qrmct4_2 Z a1 a2 u1 u2 k2 cs c0 c1 h0 n0 v U'.heap L ∧ FrameEnd U o U' L ({ frames := 2, cells := 1, slots := 2, locals := 35 } : Room).cells ({ frames := 2, cells := 1, slots := 2, locals := 35 } : Room).slots) := by
  refine MetFree.of_bodySF (plainFor_of_name pn_0) hisR ?_
  intro p e s m args below meth c s₁ Bd hml0 hP hK
  obtain ⟨rfl, hZ, hh⟩ := hP
  have hx := Bd.exec
  have hby := Bd.bytes
  have hml : c.maxLocals = 6 := hml0
  have hown : s.vm.findClass "java/lang/String" = some m.cls := findClass_of_methodNamed Bd.named
  have hnm := (name_of_methodNamed Bd.named Bd.method).1
  have X0 : Stand p l e ({ frames := 2, cells := 1, slots := 2, locals := 35 } : Room) s m #[(.ref a1), (.ref a2), (.int (0 : Int32)), (.int (2 : Int32)), .null] below meth c s₁ [] 0 0 := Stand.of_body Bd
  have e0 : s₁.heap = h0 := by rw [← hh, Bd.state]; rfl
  have N0 := Fr.nil n0
  show Go p.tables e below (fun o U' => ∃ v L, o = .returned v ∧ Qrmct4_2 Z a1 a2 u1 u2 k2 cs c0 c1 h0 n0 v U'.heap L ∧ FrameEnd s o U' L ({ frames := 2, cells := 1, slots := 2, locals := 35 } : Room).cells ({ frames := 2, cells := 1, slots := 2, locals := 35 } : Room).slots) _
  refine Go.step (fun t kt => castTop (ef_rmct4_2 m a1 a2 u1 u2 k2 cs c0 c1) kt) ?_
  show Go p.tables e below _ (s₁.setTop (mkF m 0 #[.val (.ref a1), .val (.ref a2), .val (.int (0 : Int32)), .val (.int (2 : Int32)), .val .null, .unset] []))
  have K101 : Keep h0 h0 [a1] := (Keep.refl h0 [a1])
  refine Go.step (fun _ kt => XS.aloadN X0.here hx rfl (hb hby d3_0) rfl rfl kt) ?_
  show Go p.tables e below _ (s₁.setTop (mkF m 1 #[.val (.ref a1), .val (.ref a2), .val (.int (0 : Int32)), .val (.int (2 : Int32)), .val .null, .unset] [(.ref a1)]))
  obtain ⟨T102, X102, e102, st102⟩ := initO X0 hx hZ hown (hw _ (List.mem_of_getElem? (i := 18) rfl)) (hw _ (List.mem_of_getElem? (i := 19) rfl)) (hw _ (List.mem_of_getElem? (i := 20) rfl)) e0 (g := (mkF m 1 #[.val (.ref a1), .val (.ref a2), .val (.int (0 : Int32)), .val (.int (2 : Int32)), .val .null, .unset] [(.ref a1)])) rfl (by rw [hml]; rfl) rfl (hb hby d3_1) (by decide) (W := 0) (by show 2 * 0 + _ ≤ _; exact Nat.le_of_eq rfl) (by decide)
  refine Go.step st102 ?_
  show Go p.tables e below _ (T102.setTop (mkF m 4 #[.val (.ref a1), .val (.ref a2), .val (.int (0 : Int32)), .val (.int (2 : Int32)), .val .null, .unset] []))
  refine Go.step (fun _ kt => XS.iloadN X102.here hx rfl (hb hby d3_4) rfl (XS.ifYes X102.here hx rfl (pc0 := 5) (pc' := 27) rfl (hb hby d3_5) rfl ((if0 _ _).trans (feq (by decide : ¬ ((2 : Int32) = (0 : Int32)))).2) (by decide) (by decide) kt)) ?_
  show Go p.tables e below _ (T102.setTop (mkF m 27 #[.val (.ref a1), .val (.ref a2), .val (.int (0 : Int32)), .val (.int (2 : Int32)), .val .null, .unset] []))
  obtain ⟨T103, X103, e103, st103⟩ := getS2 X102 hx hZ hown (host := "") (Or.inl (hw _ (List.mem_of_getElem? (i := 29) rfl))) Via.refl e102 S_cs (g := (mkF m 27 #[.val (.ref a1), .val (.ref a2), .val (.int (0 : Int32)), .val (.int (2 : Int32)), .val .null, .unset] [])) rfl (hb hby d3_27)
  refine Go.step st103 ?_
  show Go p.tables e below _ (T103.setTop (mkF m 30 #[.val (.ref a1), .val (.ref a2), .val (.int (0 : Int32)), .val (.int (2 : Int32)), .val .null, .unset] [(.int cs)]))
  refine Go.step (fun _ kt => XS.ifNo X103.here hx rfl (hb hby d3_30) rfl ((if0 _ _).trans (feq hcs).1) (XS.aloadN X103.here hx rfl (hb hby d3_33) rfl rfl (XS.iloadN X103.here hx rfl (hb hby d3_34) rfl (XS.iloadN X103.here hx rfl (hb hby d3_35) rfl kt)))) ?_
  show Go p.tables e below _ (T103.setTop (mkF m 36 #[.val (.ref a1), .val (.ref a2), .val (.int (0 : Int32)), .val (.int (2 : Int32)), .val .null, .unset] [(.int (2 : Int32)), (.int (0 : Int32)), (.ref a2)]))
  obtain ⟨_, _, ⟨T104, L104, k104, n104⟩, -, X104, ⟨Lc104, hQ104, l104, y104, z104⟩, st104⟩ := Jvm.LawKit.callS X103 hx (y := (⟨"java/lang/StringUTF16", "compress", "([CII)[B"⟩ : MethodName)) hown (mvT hZ (hw _ (List.mem_of_getElem? (i := 30) rfl))) (mvT hZ (hw _ (List.mem_of_getElem? (i := 31) rfl))) (mvT hZ (hw _ (List.mem_of_getElem? (i := 32) rfl))) (mvT hZ (hw _ (List.mem_of_getElem? (i := 33) rfl))) (by decide) (backOf (W := 0) (rmk2 l Z a0 hw [] a2 k2 c0 c1 h0 n0 Z0 V2 hb0 hb1) hZ (hw _ (List.mem_of_getElem? (i := 33) rfl)) (hw _ (List.mem_of_getElem? (i := 32) rfl)) (by decide) (by decide)) (g := (mkF m 36 #[.val (.ref a1), .val (.ref a2), .val (.int (0 : Int32)), .val (.int (2 : Int32)), .val .null, .unset] [(.int (2 : Int32)), (.int (0 : Int32)), (.ref a2)])) rfl (by rw [hml]; rfl) (argsL := [(.ref a2), (.int (0 : Int32)), (.int (2 : Int32))]) (rest := []) (lenOf pd_3 rfl) rfl (by show 2 * 0 + _ ≤ _; exact Nat.le_of_eq rfl) (hb hby d3_36) (fun _ _ => ⟨rfl, e103, (by decide : 0 + 1 ≤ _), (by decide : 0 + 2 ≤ _)⟩)
  dsimp only [Pt.U, Pt.locs, Pt.cells, Pt.slots] at X104 l104 y104 z104 st104 hQ104
  subst l104 y104 z104
  obtain ⟨b104r, b104kr, rfl, N104q, Kq104, P105, g_b104r, szq_b104r⟩ := hQ104
  have ne_a1_b104r : a1 ≠ b104r := Nat.ne_of_lt (Nat.lt_of_lt_of_le E1.lt szq_b104r)
  have ne_a2_b104r : a2 ≠ b104r := Nat.ne_of_lt (Nat.lt_of_lt_of_le V2.lt szq_b104r)
  have sz_b104r : h0.size ≤ b104r := Nat.le_trans K101.1 szq_b104r
  have F106 : Exa Z T104.heap a1 "java/lang/String" := (E1.keep Kq104)
  have F107 : Fld Z T104.heap a1 "java/lang/String" "coder" "B" u1 := (Fc.keep Kq104 (by simp))
  have F108 : Fld Z T104.heap a1 "java/lang/String" "value" "[B" u2 := (Fv.keep Kq104 (by simp))
  have F109 : Arv Z T104.heap a2 k2 .char (2 : Int32) [(.int c0), (.int c1)] (.int (0 : Int32)) := (V2.keep Kq104 (by simp))
  have F110 : Sta Z T104.heap "java/lang/String" "COMPACT_STRINGS" "Z" (.int cs) := (own_sta_keep0 S_cs Kq104)
  have Z111 : n0 ≤ T104.heap.size := (Nat.le_trans Z0 Kq104.1)
  have K112 : Keep h0 T104.heap [a1] := (K101.trans Kq104 (by intro x hx; cases hx))
  have N104 := Fr.app N0 N104q
  refine Go.step st104 ?_
  show Go p.tables e below _ (T104.setTop (mkF m 39 #[.val (.ref a1), .val (.ref a2), .val (.int (0 : Int32)), .val (.int (2 : Int32)), .val .null, .unset] [(.ref b104r)]))
  refine Go.step (fun _ kt => XS.astore X104.here hx rfl (hb hby d3_39) rfl rfl (l' := #[.val (.ref a1), .val (.ref a2), .val (.int (0 : Int32)), .val (.int (2 : Int32)), .val .null, .val (.ref b104r)]) rfl (XS.aloadN X104.here hx rfl (hb hby d3_41) rfl rfl (XS.aload X104.here hx rfl (hb hby d3_42) rfl rfl (XS.iloadN X104.here hx rfl (hb hby d3_44) rfl kt)))) ?_
  show Go p.tables e below _ (T104.setTop (mkF m 45 #[.val (.ref a1), .val (.ref a2), .val (.int (0 : Int32)), .val (.int (2 : Int32)), .val .null, .val (.ref b104r)] [(.int (2 : Int32)), (.ref b104r), (.ref a1)]))
  obtain ⟨_, _, ⟨T113, L113, k113, n113⟩, -, X113, ⟨Lc113, hQ113, l113, y113, z113⟩, st113⟩ := Jvm.LawKit.callS X104 hx (y := (⟨"java/lang/StringUTF16", "coderFromArrayLen", "([BI)B"⟩ : MethodName)) hown (mvT hZ (hw _ (List.mem_of_getElem? (i := 37) rfl))) (mvT hZ (hw _ (List.mem_of_getElem? (i := 38) rfl))) (mvT hZ (hw _ (List.mem_of_getElem? (i := 32) rfl))) (mvT hZ (hw _ (List.mem_of_getElem? (i := 39) rfl))) (by decide) (backOf (W := 1) (rmcf2 l Z a0 hw [] b104r b104kr c0 c1 T104.heap n0 Z111 P105 ) hZ (hw _ (List.mem_of_getElem? (i := 39) rfl)) (hw _ (List.mem_of_getElem? (i := 32) rfl)) (by decide) (by decide)) (g := (mkF m 45 #[.val (.ref a1), .val (.ref a2), .val (.int (0 : Int32)), .val (.int (2 : Int32)), .val .null, .val (.ref b104r)] [(.int (2 : Int32)), (.ref b104r), (.ref a1)])) rfl (by rw [hml]; rfl) (argsL := [(.ref b104r), (.int (2 : Int32))]) (rest := [(.ref a1)]) (lenOf pd_4 rfl) rfl (by show 2 * 0 + _ ≤ _; exact Nat.le_of_eq rfl) (hb hby d3_45) (fun _ _ => ⟨rfl, rfl, (by decide : 1 + 0 ≤ _), (by decide : 2 + 0 ≤ _)⟩)
  dsimp only [Pt.U, Pt.locs, Pt.cells, Pt.slots] at X113 l113 y113 z113 st113 hQ113
  subst l113 y113 z113
  obtain ⟨rfl, N113q, eh113⟩ := hQ113
  have N113 := Fr.app N104 N113q
  refine Go.step st113 ?_
  show Go p.tables e below _ (T113.setTop (mkF m 48 #[.val (.ref a1), .val (.ref a2), .val (.int (0 : Int32)), .val (.int (2 : Int32)), .val .null, .val (.ref b104r)] [(.int (0 : Int32)), (.ref a1)]))
  obtain ⟨T114, h114, X114, e114, W114, st114⟩ := putFN X113 hx hZ hown (hw _ (List.mem_of_getElem? (i := 28) rfl)) Via.refl eh113 F107 F106 (Or.inr ⟨(hw _ (List.mem_of_getElem? (i := 24) rfl)), rfl, hnm⟩) (hw _ (List.mem_of_getElem? (i := 9) rfl)) (ty := .byte) (v' := (.int (0 : Int32))) (by decide) rfl rfl (g := (mkF m 48 #[.val (.ref a1), .val (.ref a2), .val (.int (0 : Int32)), .val (.int (2 : Int32)), .val .null, .val (.ref b104r)] [(.int (0 : Int32)), (.ref a1)])) rfl rfl (hb hby d3_48)
  refine Go.step st114 ?_
  have N114 := Fr.snoc X114 N113 g_a1
  have F115 : Exa Z h114 a1 "java/lang/String" := (F106.wr W114)
  have F116 : Fld Z h114 a1 "java/lang/String" "coder" "B" (.int (0 : Int32)) := (F107.same W114)
  have F117 : Fld Z h114 a1 "java/lang/String" "value" "[B" u2 := (F108.other W114 (Or.inr (slot_ne (Or.inr (hw _ (List.mem_of_getElem? (i := 23) rfl))) (Or.inr (hw _ (List.mem_of_getElem? (i := 24) rfl))) (by decide) (t := (.array .byte)) (t' := .byte) (by decide) (by decide))))
  have F118 : Arv Z h114 a2 k2 .char (2 : Int32) [(.int c0), (.int c1)] (.int (0 : Int32)) := (F109.other W114 ne21)
  have F119 : Sta Z h114 "java/lang/String" "COMPACT_STRINGS" "Z" (.int cs) := (F110.wr W114)
  have F120 : Arv Z h114 b104r b104kr .byte (2 : Int32) [(.int (own_by c0)), (.int (own_by c1))] (.int (0 : Int32)) := (P105.other W114 (Ne.symm ne_a1_b104r))
  have Z121 : n0 ≤ h114.size := (Nat.le_trans Z111 (Nat.le_of_eq W114.size.symm))
  have K122 : Keep h0 h114 [a1] := (K112.wr W114 (Or.inl (List.mem_of_getElem? (i := 0) rfl)))
  show Go p.tables e below _ (T114.setTop (mkF m 51 #[.val (.ref a1), .val (.ref a2), .val (.int (0 : Int32)), .val (.int (2 : Int32)), .val .null, .val (.ref b104r)] []))
  refine Go.step (fun _ kt => XS.aloadN X114.here hx rfl (hb hby d3_51) rfl rfl (XS.aload X114.here hx rfl (hb hby d3_52) rfl rfl kt)) ?_
  show Go p.tables e below _ (T114.setTop (mkF m 54 #[.val (.ref a1), .val (.ref a2), .val (.int (0 : Int32)), .val (.int (2 : Int32)), .val .null, .val (.ref b104r)] [(.ref b104r), (.ref a1)]))
  obtain ⟨T123, h123, X123, e123, W123, st123⟩ := putF X114 hx hZ hown (host := "") (Or.inl (hw _ (List.mem_of_getElem? (i := 27) rfl))) Via.refl e114 F117 F115 (Or.inr ⟨(hw _ (List.mem_of_getElem? (i := 23) rfl)), rfl, hnm⟩) (hw _ (List.mem_of_getElem? (i := 9) rfl)) (ty := (.array .byte)) (by decide) rfl rfl (g := (mkF m 54 #[.val (.ref a1), .val (.ref a2), .val (.int (0 : Int32)), .val (.int (2 : Int32)), .val .null, .val (.ref b104r)] [(.ref b104r), (.ref a1)])) rfl rfl (hb hby d3_54)
  refine Go.step st123 ?_
  have N123 := Fr.snoc X123 N114 g_a1
  have F124 : Exa Z h123 a1 "java/lang/String" := (F115.wr W123)
  have F125 : Fld Z h123 a1 "java/lang/String" "coder" "B" (.int (0 : Int32)) := (F116.other W123 (Or.inr (slot_ne (Or.inr (hw _ (List.mem_of_getElem? (i := 24) rfl))) (Or.inr (hw _ (List.mem_of_getElem? (i := 23) rfl))) (by decide) (t := .byte) (t' := (.array .byte)) (by decide) (by decide))))
  have F126 : Fld Z h123 a1 "java/lang/String" "value" "[B" (.ref b104r) := (F117.same W123)
  have F127 : Arv Z h123 a2 k2 .char (2 : Int32) [(.int c0), (.int c1)] (.int (0 : Int32)) := (F118.other W123 ne21)
  have F128 : Sta Z h123 "java/lang/String" "COMPACT_STRINGS" "Z" (.int cs) := (F119.wr W123)
  have F129 : Arv Z h123 b104r b104kr .byte (2 : Int32) [(.int (own_by c0)), (.int (own_by c1))] (.int (0 : Int32)) := (F120.other W123 (Ne.symm ne_a1_b104r))
  have Z130 : n0 ≤ h123.size := (Nat.le_trans Z121 (Nat.le_of_eq W123.size.symm))
  have K131 : Keep h0 h123 [a1] := (K122.wr W123 (Or.inl (List.mem_of_getElem? (i := 0) rfl)))
  show Go p.tables e below _ (T123.setTop (mkF m 57 #[.val (.ref a1), .val (.ref a2), .val (.int (0 : Int32)), .val (.int (2 : Int32)), .val .null, .val (.ref b104r)] []))
  obtain ⟨fs, hr, hrun, hended, hW, hsame⟩ := X123.leave (v := none) (fun _ => rfl)
  refine ⟨_, _, X123.returnOut hx Bd.returns (hb hby d3_57) hr, hrun, hended, _, _, rfl, ?_, ⟨_, rfl⟩, hW, hsame.mono (by decide) (by decide)⟩
  show Qrmct4_2 Z a1 a2 u1 u2 k2 cs c0 c1 h0 n0 _ T123.heap _
  rw [e123]
  refine ⟨b104r, b104kr, ?_, N123, K131, F124, F125, F126, F129⟩
  rfl
theorem ef_rmct1_2 (m : MethodId) (a1 : Addr) (a2 : Addr) (u1 : Value) (u2 : Value) (k2 : ClassId) (cs : Int32) (c0 : Int32) (c1 : Int32) : entryFrame m #[(.ref a1), (.ref a2)] 2 = mkF m 0 #[.val (.ref a1), .val (.ref a2)] [] := by first | (simp [entryFrame, mkF, argsToLocals, Value.category]; done) | rfl
def Qrmct1_2 (Z : State) (a1 : Addr) (a2 : Addr) (u1 : Value) (u2 : Value) (k2 : ClassId) (cs : Int32) (c0 : Int32) (c1 : Int32) (h0 : Heap) (n0 : Nat) (v : Option Value) (h : Heap) (L : List Loc) : Prop := ∃ b : Addr, ∃ kb : ClassId, v = none ∧ Fr n0 L ∧ Keep h0 h [a1] ∧ Exa Z h a1 "java/lang/String" ∧ Fld Z h a1 "java/lang/String" "coder" "B" (.int (0 : Int32)) ∧ Fld Z h a1 "java/lang/String" "value" "[B" (.ref b) ∧ Arv Z h b kb .byte (2 : Int32) [(.int (own_by c0)), (.int (own_by c1))] (.int (0 : Int32))
set_option maxRecDepth 65536 in
set_option maxHeartbeats 40000000 in
theorem rmct1_2 (l : Launch) (Z : State) (a0 : Array Value) (hw : ∀ d ∈ tables_1, d.before a0 Z = true) (ws : List Jvm.Cond) (a1 : Addr) (a2 : Addr) (u1 : Value) (u2 : Value) (k2 : ClassId) (cs : Int32) (c0 : Int32) (c1 : Int32) (h0 : Heap) (n0 : Nat) (Z0 : n0 ≤ h0.size) (E1 : Exa Z h0 a1 "java/lang/String") (Fc : Fld Z h0 a1 "java/lang/String" "coder" "B" u1) (Fv : Fld Z h0 a1 "java/lang/String" "value" "[B" u2) (V2 : Arv Z h0 a2 k2 .char (2 : Int32) [(.int c0), (.int c1)] (.int (0 : Int32))) (S_cs : Sta Z h0 "java/lang/String" "COMPACT_STRINGS" "Z" (.int cs)) (g_a1 : n0 ≤ a1) (hcs : ¬ cs = 0) (ne21 : a2 ≠ a1) (hb0 : ¬ c0 < 0 ∧ ¬ (255 : Int32) < c0) (hb1 : ¬ c1 < 0 ∧ ¬ (255 : Int32) < c1) :
    MetFree l (⟨"java/lang/String", "<init>", "([C)V"⟩ : MethodName) (head1 (Jvm.Cond.code (⟨"java/lang/String", "<init>", "([C)V"⟩ : MethodName) jdk_42_method_3_code 2 none :: ws) ({ frames := 3, cells := 1, slots := 2, locals := 52 } : Room)) (fun a U => a = #[(.ref a1), (.ref a2)] ∧ Z.Warmed39 U.vm ∧ U.heap = h0) (fun _ _ _ _ _ => True) (fun _ U o U' => ∃ v L, o = .returned v ∧ Qrmct1_2 Z a1 a2 u1 u2 k2 cs c0 c1 h0 n0 v U'.heap L ∧ FrameEnd U o U' L ({ frames := 3, cells := 1, slots := 2, locals := 52 } : Room).cells ({ frames := 3, cells := 1, slots := 2, locals := 52 } : Room).slots) := by
  refine MetFree.of_bodySF (plainFor_of_name pn_0) hisR ?_
  intro p e s m args below meth c s₁ Bd hml0 hP hK
  obtain ⟨rfl, hZ, hh⟩ := hP
  have hx := Bd.exec
  have hby := Bd.bytes
  have hml : c.maxLocals = 2 := hml0
  have hown : s.vm.findClass "java/lang/String" = some m.cls := findClass_of_methodNamed Bd.named
  have hnm := (name_of_methodNamed Bd.named Bd.method).1
  have X0 : Stand p l e ({ frames := 3, cells := 1, slots := 2, locals := 52 } : Room) s m #[(.ref a1), (.ref a2)] below meth c s₁ [] 0 0 := Stand.of_body Bd
  have e0 : s₁.heap = h0 := by rw [← hh, Bd.state]; rfl
  have N0 := Fr.nil n0
  show Go p.tables e below (fun o U' => ∃ v L, o = .returned v ∧ Qrmct1_2 Z a1 a2 u1 u2 k2 cs c0 c1 h0 n0 v U'.heap L ∧ FrameEnd s o U' L ({ frames := 3, cells := 1, slots := 2, locals := 52 } : Room).cells ({ frames := 3, cells := 1, slots := 2, locals := 52 } : Room).slots) _
  refine Go.step (fun t kt => castTop (ef_rmct1_2 m a1 a2 u1 u2 k2 cs c0 c1) kt) ?_
  show Go p.tables e below _ (s₁.setTop (mkF m 0 #[.val (.ref a1), .val (.ref a2)] []))
  have K101 : Keep h0 h0 [a1] := (Keep.refl h0 [a1])
  refine Go.step (fun _ kt => XS.aloadN X0.here hx rfl (hb hby d2_0) rfl rfl (XS.aloadN X0.here hx rfl (hb hby d2_1) rfl rfl (XS.iconst X0.here hx rfl (hb hby d2_2) (XS.aloadN X0.here hx rfl (hb hby d2_3) rfl rfl kt)))) ?_
  show Go p.tables e below _ (s₁.setTop (mkF m 4 #[.val (.ref a1), .val (.ref a2)] [(.ref a2), (.int (0 : Int32)), (.ref a2), (.ref a1)]))
  obtain ⟨cl102, Ar102, qa102, Sa102, Na102, Ha102, Ga102⟩ := (id V2)
  refine Go.step (X0.arraylength hx (by rw [e0]; exact Ar102.1) (State.isArrayOf_alike hZ.alike Ar102.2.1) (g := (mkF m 4 #[.val (.ref a1), .val (.ref a2)] [(.ref a2), (.int (0 : Int32)), (.ref a2), (.ref a1)])) rfl rfl (hb hby d2_4)) ?_
  rw [len_of Sa102 Na102]
  show Go p.tables e below _ (s₁.setTop (mkF m 5 #[.val (.ref a1), .val (.ref a2)] [(.int (2 : Int32)), (.int (0 : Int32)), (.ref a2), (.ref a1)]))
  refine Go.step (fun _ kt => XS.aconstNull X0.here hx rfl (hb hby d2_5) kt) ?_
  show Go p.tables e below _ (s₁.setTop (mkF m 6 #[.val (.ref a1), .val (.ref a2)] [.null, (.int (2 : Int32)), (.int (0 : Int32)), (.ref a2), (.ref a1)]))
  obtain ⟨_, _, ⟨T103, L103, k103, n103⟩, -, X103, ⟨Lc103, hQ103, l103, y103, z103⟩, st103⟩ := X0.specialBack hx (y := (⟨"java/lang/String", "<init>", "([CIILjava/lang/Void;)V"⟩ : MethodName)) rfl hown (mvT hZ (hw _ (List.mem_of_getElem? (i := 14) rfl))) (mvT hZ (hw _ (List.mem_of_getElem? (i := 15) rfl))) (mvT hZ (hw _ (List.mem_of_getElem? (i := 17) rfl))) (by decide) (backOf (W := 0) (rmct4_2 l Z a0 hw [] a1 a2 u1 u2 k2 cs c0 c1 h0 n0 Z0 E1 Fc Fv V2 S_cs g_a1 hcs ne21 hb0 hb1) hZ (hw _ (List.mem_of_getElem? (i := 17) rfl)) (hw _ (List.mem_of_getElem? (i := 10) rfl)) (by decide) (by decide)) (g := (mkF m 6 #[.val (.ref a1), .val (.ref a2)] [.null, (.int (2 : Int32)), (.int (0 : Int32)), (.ref a2), (.ref a1)])) rfl (by rw [hml]; rfl) (Steps.refl _) (a := a1) (argsL := [(.ref a2), (.int (0 : Int32)), (.int (2 : Int32)), .null]) (rest := []) (lenOf pd_0 rfl) rfl (by show 2 * 0 + _ ≤ _; exact Nat.le_of_eq rfl) (hb hby d2_6) (fun _ _ => ⟨rfl, e0, (by decide : 0 + 1 ≤ _), (by decide : 0 + 2 ≤ _)⟩)
  dsimp only [Pt.U, Pt.locs, Pt.cells, Pt.slots] at X103 l103 y103 z103 st103 hQ103
  subst l103 y103 z103
  obtain ⟨b103b, b103kb, rfl, N103q, Kq103, P104, P105, P106, P107⟩ := hQ103
  have F108 : Exa Z T103.heap a1 "java/lang/String" := (E1.keep Kq103)
  have F109 : Arv Z T103.heap a2 k2 .char (2 : Int32) [(.int c0), (.int c1)] (.int (0 : Int32)) := (V2.keep Kq103 (fun q => ne21 (List.mem_singleton.mp q)))
  have Z110 : n0 ≤ T103.heap.size := (Nat.le_trans Z0 Kq103.1)
  have K111 : Keep h0 T103.heap [a1] := (K101.trans Kq103 (by intro x hx; cases List.mem_singleton.mp hx; exact (Or.inl (List.mem_of_getElem? (i := 0) rfl))))
  have N103 := Fr.app N0 N103q
  refine Go.step (fun _ kt => st103.trans kt) ?_
  show Go p.tables e below _ (T103.setTop (mkF m 9 #[.val (.ref a1), .val (.ref a2)] []))
  obtain ⟨fs, hr, hrun, hended, hW, hsame⟩ := X103.leave (v := none) (fun _ => rfl)
  refine ⟨_, _, X103.returnOut hx Bd.returns (hb hby d2_9) hr, hrun, hended, _, _, rfl, ?_, ⟨_, rfl⟩, hW, hsame.mono (by decide) (by decide)⟩
  show Qrmct1_2 Z a1 a2 u1 u2 k2 cs c0 c1 h0 n0 _ T103.heap _
  refine ⟨b103b, b103kb, ?_, N103, K111, P104, P105, P106, P107⟩
  rfl
theorem ef_rmkl3 (m : MethodId) (a1 : Addr) (a2 : Addr) (k1 : ClassId) (k2 : ClassId) (c0 : Int32) (c1 : Int32) (c2 : Int32) : entryFrame m #[(.ref a1), (.int (0 : Int32)), (.ref a2), (.int (0 : Int32)), (.int (3 : Int32))] 7 = mkF m 0 #[.val (.ref a1), .val (.int (0 : Int32)), .val (.ref a2), .val (.int (0 : Int32)), .val (.int (3 : Int32)), .unset, .unset] [] := by first | (simp [entryFrame, mkF, argsToLocals, Value.category]; done) | rfl
def Qrmkl3 (Z : State) (a1 : Addr) (a2 : Addr) (k1 : ClassId) (k2 : ClassId) (c0 : Int32) (c1 : Int32) (c2 : Int32) (h0 : Heap) (n0 : Nat) (v : Option Value) (h : Heap) (L : List Loc) : Prop := v = some (.int (3 : Int32)) ∧ Fr n0 L ∧ Keep h0 h [a2] ∧ Arv Z h a2 k2 .byte (3 : Int32) [(.int (own_by c0)), (.int (own_by c1)), (.int (own_by c2))] (.int (0 : Int32))
set_option maxRecDepth 65536 in
set_option maxHeartbeats 40000000 in
theorem rmkl3 (l : Launch) (Z : State) (a0 : Array Value) (hw : ∀ d ∈ tables_1, d.before a0 Z = true) (ws : List Jvm.Cond) (a1 : Addr) (a2 : Addr) (k1 : ClassId) (k2 : ClassId) (c0 : Int32) (c1 : Int32) (c2 : Int32) (h0 : Heap) (n0 : Nat) (Z0 : n0 ≤ h0.size) (V1 : Arv Z h0 a1 k1 .char (3 : Int32) [(.int c0), (.int c1), (.int c2)] (.int (0 : Int32))) (V2 : Arv Z h0 a2 k2 .byte (3 : Int32) [(.int (0 : Int32)), (.int (0 : Int32)), (.int (0 : Int32))] (.int (0 : Int32))) (g_a2 : n0 ≤ a2) (ne12 : a1 ≠ a2) (hb0 : ¬ c0 < 0 ∧ ¬ (255 : Int32) < c0) (hb1 : ¬ c1 < 0 ∧ ¬ (255 : Int32) < c1) (hb2 : ¬ c2 < 0 ∧ ¬ (255 : Int32) < c2) :
    MetFree l (⟨"java/lang/StringUTF16", "compress", "([CI[BII)I"⟩ : MethodName) (head1 (Jvm.Cond.code (⟨"java/lang/StringUTF16", "compress", "([CI[BII)I"⟩ : MethodName) jdk_52_method_21_code 7 (some .int) :: ws) ({ frames := 0, cells := 0, slots := 0, locals := 0 } : Room)) (fun a U => a = #[(.ref a1), (.int (0 : Int32)), (.ref a2), (.int (0 : Int32)), (.int (3 : Int32))] ∧ Z.Warmed39 U.vm ∧ U.heap = h0) (fun _ _ _ _ _ => True) (fun _ U o U' => ∃ v L, o = .returned v ∧ Qrmkl3 Z a1 a2 k1 k2 c0 c1 c2 h0 n0 v U'.heap L ∧ FrameEnd U o U' L ({ frames := 0, cells := 0, slots := 0, locals := 0 } : Room).cells ({ frames := 0, cells := 0, slots := 0, locals := 0 } : Room).slots) := by
  refine MetFree.of_bodySF (plainFor_of_name pn_1) hisR ?_
  intro p e s m args below meth c s₁ Bd hml0 hP hK
  obtain ⟨rfl, hZ, hh⟩ := hP
  have hx := Bd.exec
  have hby := Bd.bytes
  have hml : c.maxLocals = 7 := hml0
  have hown : s.vm.findClass "java/lang/StringUTF16" = some m.cls := findClass_of_methodNamed Bd.named
  have hnm := (name_of_methodNamed Bd.named Bd.method).1
  have X0 : Stand p l e ({ frames := 0, cells := 0, slots := 0, locals := 0 } : Room) s m #[(.ref a1), (.int (0 : Int32)), (.ref a2), (.int (0 : Int32)), (.int (3 : Int32))] below meth c s₁ [] 0 0 := Stand.of_body Bd
  have e0 : s₁.heap = h0 := by rw [← hh, Bd.state]; rfl
  have N0 := Fr.nil n0
  show Go p.tables e below (fun o U' => ∃ v L, o = .returned v ∧ Qrmkl3 Z a1 a2 k1 k2 c0 c1 c2 h0 n0 v U'.heap L ∧ FrameEnd s o U' L ({ frames := 0, cells := 0, slots := 0, locals := 0 } : Room).cells ({ frames := 0, cells := 0, slots := 0, locals := 0 } : Room).slots) _
  refine Go.step (fun t kt => castTop (ef_rmkl3 m a1 a2 k1 k2 c0 c1 c2) kt) ?_
  show Go p.tables e below _ (s₁.setTop (mkF m 0 #[.val (.ref a1), .val (.int (0 : Int32)), .val (.ref a2), .val (.int (0 : Int32)), .val (.int (3 : Int32)), .unset, .unset] []))
  have K101 : Keep h0 h0 [a2] := (Keep.refl h0 [a2])
  refine Go.step (fun _ kt => XS.iconst X0.here hx rfl (hb hby d6_0) (XS.istore X0.here hx rfl (hb hby d6_1) rfl (l' := #[.val (.ref a1), .val (.int (0 : Int32)), .val (.ref a2), .val (.int (0 : Int32)), .val (.int (3 : Int32)), .val (.int (0 : Int32)), .unset]) rfl (XS.iload X0.here hx rfl (hb hby d6_3) rfl (XS.iload X0.here hx rfl (hb hby d6_5) rfl (XS.icmpNo X0.here hx rfl (hb hby d6_7) rfl (tlt (by decide : (0 : Int32) < (3 : Int32))).2.1 (XS.aloadN X0.here hx rfl (hb hby d6_10) rfl rfl (XS.iloadN X0.here hx rfl (hb hby d6_11) rfl kt))))))) ?_
  show Go p.tables e below _ (s₁.setTop (mkF m 12 #[.val (.ref a1), .val (.int (0 : Int32)), .val (.ref a2), .val (.int (0 : Int32)), .val (.int (3 : Int32)), .val (.int (0 : Int32)), .unset] [(.int (0 : Int32)), (.ref a1)]))
  obtain ⟨cl102, Ar102, qa102, Sa102, Na102, Ha102, Ga102⟩ := (id V1)
  have hin102 : ¬ ((0 : Int32) < 0 ∨ cl102.slots.size ≤ ((0 : Int32)).toNatClampNeg) := inb_of Sa102 ⟨by decide, by decide⟩
  have hat102 : cl102.slots[((0 : Int32)).toNatClampNeg]? = some (.int c0) := at_of Ha102 hin102 rfl
  refine Go.step (X0.caload hx (j := (0 : Int32)) (v := (.int c0)) (by rw [e0]; exact Ar102.1) (State.isArrayOf_alike hZ.alike Ar102.2.1) Ar102.2.2 hin102 hat102 (g := (mkF m 12 #[.val (.ref a1), .val (.int (0 : Int32)), .val (.ref a2), .val (.int (0 : Int32)), .val (.int (3 : Int32)), .val (.int (0 : Int32)), .unset] [(.int (0 : Int32)), (.ref a1)])) rfl rfl (hb hby d6_12)) ?_
  show Go p.tables e below _ (s₁.setTop (mkF m 13 #[.val (.ref a1), .val (.int (0 : Int32)), .val (.ref a2), .val (.int (0 : Int32)), .val (.int (3 : Int32)), .val (.int (0 : Int32)), .unset] [(.int c0)]))
  refine Go.step (fun _ kt => XS.istore X0.here hx rfl (hb hby d6_13) rfl (l' := #[.val (.ref a1), .val (.int (0 : Int32)), .val (.ref a2), .val (.int (0 : Int32)), .val (.int (3 : Int32)), .val (.int (0 : Int32)), .val (.int c0)]) rfl (XS.iload X0.here hx rfl (hb hby d6_15) rfl (XS.sipush X0.here hx rfl (hb hby d6_17) (XS.icmpYes X0.here hx rfl (pc0 := 20) (pc' := 26) rfl (hb hby d6_20) rfl (flt hb0.2).2.2.2 (by decide) (by decide) (XS.aloadN X0.here hx rfl (hb hby d6_26) rfl rfl (XS.iloadN X0.here hx rfl (hb hby d6_27) rfl (XS.iload X0.here hx rfl (hb hby d6_28) rfl (XS.i2b X0.here hx rfl (hb hby d6_30) rfl kt)))))))) ?_
  show Go p.tables e below _ (s₁.setTop (mkF m 31 #[.val (.ref a1), .val (.int (0 : Int32)), .val (.ref a2), .val (.int (0 : Int32)), .val (.int (3 : Int32)), .val (.int (0 : Int32)), .val (.int c0)] [(.int (c0.toInt8.toInt32)), (.int (0 : Int32)), (.ref a2)]))
  have q103 : (c0.toInt8.toInt32) = (own_by c0) := rfl
  rw [q103]
  show Go p.tables e below _ (s₁.setTop (mkF m 31 #[.val (.ref a1), .val (.int (0 : Int32)), .val (.ref a2), .val (.int (0 : Int32)), .val (.int (3 : Int32)), .val (.int (0 : Int32)), .val (.int c0)] [(.int (own_by c0)), (.int (0 : Int32)), (.ref a2)]))
  obtain ⟨cl104, Ar104, qa104, Sa104, Na104, Ha104, Ga104⟩ := (id V2)
  have hin104 : ¬ ((0 : Int32) < 0 ∨ cl104.slots.size ≤ ((0 : Int32)).toNatClampNeg) := inb_of Sa104 ⟨by decide, by decide⟩
  obtain ⟨T104, h104, X104, e104, W104, st104⟩ := stB X0 hx hZ e0 Ar104 (j := (0 : Int32)) hin104 (g := (mkF m 31 #[.val (.ref a1), .val (.int (0 : Int32)), .val (.ref a2), .val (.int (0 : Int32)), .val (.int (3 : Int32)), .val (.int (0 : Int32)), .val (.int c0)] [(.int (own_by c0)), (.int (0 : Int32)), (.ref a2)])) rfl rfl (hb hby d6_31)
  refine Go.step st104 ?_
  have V105 := Arv.set Ar104 qa104 Sa104 Na104 Ha104 Ga104 (fits_nar_byte _) W104 0 rfl (Nat.le_of_ble_eq_true rfl)
  have N104 := Fr.snoc X104 N0 g_a2
  have F106 : Arv Z h104 a1 k1 .char (3 : Int32) [(.int c0), (.int c1), (.int c2)] (.int (0 : Int32)) := (V1.other W104 ne12)
  have Z107 : n0 ≤ h104.size := (Nat.le_trans Z0 (Nat.le_of_eq W104.size.symm))
  have K108 : Keep h0 h104 [a2] := (K101.wr W104 (Or.inl (List.mem_of_getElem? (i := 0) rfl)))
  show Go p.tables e below _ (T104.setTop (mkF m 32 #[.val (.ref a1), .val (.int (0 : Int32)), .val (.ref a2), .val (.int (0 : Int32)), .val (.int (3 : Int32)), .val (.int (0 : Int32)), .val (.int c0)] []))
  have Vn109 : Arv Z h104 a2 k2 .byte (3 : Int32) [(.int (own_by c0)), (.int (0 : Int32)), (.int (0 : Int32))] (.int (0 : Int32)) := by have q0 := V105; rw [own_bb] at q0; exact q0
  refine Go.step (fun _ kt => XS.iinc X104.here hx rfl (hb hby d6_32) rfl (l' := #[.val (.ref a1), .val (.int ((0 : Int32) + (1 : Int32))), .val (.ref a2), .val (.int (0 : Int32)), .val (.int (3 : Int32)), .val (.int (0 : Int32)), .val (.int c0)]) rfl kt) ?_
  show Go p.tables e below _ (T104.setTop (mkF m 35 #[.val (.ref a1), .val (.int ((0 : Int32) + (1 : Int32))), .val (.ref a2), .val (.int (0 : Int32)), .val (.int (3 : Int32)), .val (.int (0 : Int32)), .val (.int c0)] []))
  have q110 : ((0 : Int32) + (1 : Int32)) = (1 : Int32) := by decide
  rw [q110]
  show Go p.tables e below _ (T104.setTop (mkF m 35 #[.val (.ref a1), .val (.int (1 : Int32)), .val (.ref a2), .val (.int (0 : Int32)), .val (.int (3 : Int32)), .val (.int (0 : Int32)), .val (.int c0)] []))
  refine Go.step (fun _ kt => XS.iinc X104.here hx rfl (hb hby d6_35) rfl (l' := #[.val (.ref a1), .val (.int (1 : Int32)), .val (.ref a2), .val (.int ((0 : Int32) + (1 : Int32))), .val (.int (3 : Int32)), .val (.int (0 : Int32)), .val (.int c0)]) rfl kt) ?_
  show Go p.tables e below _ (T104.setTop (mkF m 38 #[.val (.ref a1), .val (.int (1 : Int32)), .val (.ref a2), .val (.int ((0 : Int32) + (1 : Int32))), .val (.int (3 : Int32)), .val (.int (0 : Int32)), .val (.int c0)] []))
  have q111 : ((0 : Int32) + (1 : Int32)) = (1 : Int32) := by decide
  rw [q111]
  show Go p.tables e below _ (T104.setTop (mkF m 38 #[.val (.ref a1), .val (.int (1 : Int32)), .val (.ref a2), .val (.int (1 : Int32)), .val (.int (3 : Int32)), .val (.int (0 : Int32)), .val (.int c0)] []))
  refine Go.step (fun _ kt => XS.iinc X104.here hx rfl (hb hby d6_38) rfl (l' := #[.val (.ref a1), .val (.int (1 : Int32)), .val (.ref a2), .val (.int (1 : Int32)), .val (.int (3 : Int32)), .val (.int ((0 : Int32) + (1 : Int32))), .val (.int c0)]) rfl kt) ?_
  show Go p.tables e below _ (T104.setTop (mkF m 41 #[.val (.ref a1), .val (.int (1 : Int32)), .val (.ref a2), .val (.int (1 : Int32)), .val (.int (3 : Int32)), .val (.int ((0 : Int32) + (1 : Int32))), .val (.int c0)] []))
  have q112 : ((0 : Int32) + (1 : Int32)) = (1 : Int32) := by decide
  rw [q112]
  show Go p.tables e below _ (T104.setTop (mkF m 41 #[.val (.ref a1), .val (.int (1 : Int32)), .val (.ref a2), .val (.int (1 : Int32)), .val (.int (3 : Int32)), .val (.int (1 : Int32)), .val (.int c0)] []))
  refine Go.step (fun _ kt => XS.goto X104.here hx rfl (pc0 := 41) (pc' := 3) rfl (hb hby d6_41) (by decide) (by decide) (XS.iload X104.here hx rfl (hb hby d6_3) rfl (XS.iload X104.here hx rfl (hb hby d6_5) rfl (XS.icmpNo X104.here hx rfl (hb hby d6_7) rfl (tlt (by decide : (1 : Int32) < (3 : Int32))).2.1 (XS.aloadN X104.here hx rfl (hb hby d6_10) rfl rfl (XS.iloadN X104.here hx rfl (hb hby d6_11) rfl kt)))))) ?_
  show Go p.tables e below _ (T104.setTop (mkF m 12 #[.val (.ref a1), .val (.int (1 : Int32)), .val (.ref a2), .val (.int (1 : Int32)), .val (.int (3 : Int32)), .val (.int (1 : Int32)), .val (.int c0)] [(.int (1 : Int32)), (.ref a1)]))
  obtain ⟨cl113, Ar113, qa113, Sa113, Na113, Ha113, Ga113⟩ := (id F106)
  have hin113 : ¬ ((1 : Int32) < 0 ∨ cl113.slots.size ≤ ((1 : Int32)).toNatClampNeg) := inb_of Sa113 ⟨by decide, by decide⟩
  have hat113 : cl113.slots[((1 : Int32)).toNatClampNeg]? = some (.int c1) := at_of Ha113 hin113 rfl
  refine Go.step (X104.caload hx (j := (1 : Int32)) (v := (.int c1)) (by rw [e104]; exact Ar113.1) (State.isArrayOf_alike hZ.alike Ar113.2.1) Ar113.2.2 hin113 hat113 (g := (mkF m 12 #[.val (.ref a1), .val (.int (1 : Int32)), .val (.ref a2), .val (.int (1 : Int32)), .val (.int (3 : Int32)), .val (.int (1 : Int32)), .val (.int c0)] [(.int (1 : Int32)), (.ref a1)])) rfl rfl (hb hby d6_12)) ?_
  show Go p.tables e below _ (T104.setTop (mkF m 13 #[.val (.ref a1), .val (.int (1 : Int32)), .val (.ref a2), .val (.int (1 : Int32)), .val (.int (3 : Int32)), .val (.int (1 : Int32)), .val (.int c0)] [(.int c1)]))
  refine Go.step (fun _ kt => XS.istore X104.here hx rfl (hb hby d6_13) rfl (l' := #[.val (.ref a1), .val (.int (1 : Int32)), .val (.ref a2), .val (.int (1 : Int32)), .val (.int (3 : Int32)), .val (.int (1 : Int32)), .val (.int c1)]) rfl (XS.iload X104.here hx rfl (hb hby d6_15) rfl (XS.sipush X104.here hx rfl (hb hby d6_17) (XS.icmpYes X104.here hx rfl (pc0 := 20) (pc' := 26) rfl (hb hby d6_20) rfl (flt hb1.2).2.2.2 (by decide) (by decide) (XS.aloadN X104.here hx rfl (hb hby d6_26) rfl rfl (XS.iloadN X104.here hx rfl (hb hby d6_27) rfl (XS.iload X104.here hx rfl (hb hby d6_28) rfl (XS.i2b X104.here hx rfl (hb hby d6_30) rfl kt)))))))) ?_
  show Go p.tables e below _ (T104.setTop (mkF m 31 #[.val (.ref a1), .val (.int (1 : Int32)), .val (.ref a2), .val (.int (1 : Int32)), .val (.int (3 : Int32)), .val (.int (1 : Int32)), .val (.int c1)] [(.int (c1.toInt8.toInt32)), (.int (1 : Int32)), (.ref a2)]))
  have q114 : (c1.toInt8.toInt32) = (own_by c1) := rfl
  rw [q114]
  show Go p.tables e below _ (T104.setTop (mkF m 31 #[.val (.ref a1), .val (.int (1 : Int32)), .val (.ref a2), .val (.int (1 : Int32)), .val (.int (3 : Int32)), .val (.int (1 : Int32)), .val (.int c1)] [(.int (own_by c1)), (.int (1 : Int32)), (.ref a2)]))
  obtain ⟨cl115, Ar115, qa115, Sa115, Na115, Ha115, Ga115⟩ := (id Vn109)
  have hin115 : ¬ ((1 : Int32) < 0 ∨ cl115.slots.size ≤ ((1 : Int32)).toNatClampNeg) := inb_of Sa115 ⟨by decide, by decide⟩
  obtain ⟨T115, h115, X115, e115, W115, st115⟩ := stB X104 hx hZ e104 Ar115 (j := (1 : Int32)) hin115 (g := (mkF m 31 #[.val (.ref a1), .val (.int (1 : Int32)), .val (.ref a2), .val (.int (1 : Int32)), .val (.int (3 : Int32)), .val (.int (1 : Int32)), .val (.int c1)] [(.int (own_by c1)), (.int (1 : Int32)), (.ref a2)])) rfl rfl (hb hby d6_31)
  refine Go.step st115 ?_
  have V116 := Arv.set Ar115 qa115 Sa115 Na115 Ha115 Ga115 (fits_nar_byte _) W115 1 rfl (Nat.le_of_ble_eq_true rfl)
  have N115 := Fr.snoc X115 N104 g_a2
  have F117 : Arv Z h115 a1 k1 .char (3 : Int32) [(.int c0), (.int c1), (.int c2)] (.int (0 : Int32)) := (F106.other W115 ne12)
  have Z118 : n0 ≤ h115.size := (Nat.le_trans Z107 (Nat.le_of_eq W115.size.symm))
  have K119 : Keep h0 h115 [a2] := (K108.wr W115 (Or.inl (List.mem_of_getElem? (i := 0) rfl)))
  show Go p.tables e below _ (T115.setTop (mkF m 32 #[.val (.ref a1), .val (.int (1 : Int32)), .val (.ref a2), .val (.int (1 : Int32)), .val (.int (3 : Int32)), .val (.int (1 : Int32)), .val (.int c1)] []))
  have Vn120 : Arv Z h115 a2 k2 .byte (3 : Int32) [(.int (own_by c0)), (.int (own_by c1)), (.int (0 : Int32))] (.int (0 : Int32)) := by have q0 := V116; rw [own_bb] at q0; exact q0
  refine Go.step (fun _ kt => XS.iinc X115.here hx rfl (hb hby d6_32) rfl (l' := #[.val (.ref a1), .val (.int ((1 : Int32) + (1 : Int32))), .val (.ref a2), .val (.int (1 : Int32)), .val (.int (3 : Int32)), .val (.int (1 : Int32)), .val (.int c1)]) rfl kt) ?_
  show Go p.tables e below _ (T115.setTop (mkF m 35 #[.val (.ref a1), .val (.int ((1 : Int32) + (1 : Int32))), .val (.ref a2), .val (.int (1 : Int32)), .val (.int (3 : Int32)), .val (.int (1 : Int32)), .val (.int c1)] []))
  have q121 : ((1 : Int32) + (1 : Int32)) = (2 : Int32) := by decide
  rw [q121]
  show Go p.tables e below _ (T115.setTop (mkF m 35 #[.val (.ref a1), .val (.int (2 : Int32)), .val (.ref a2), .val (.int (1 : Int32)), .val (.int (3 : Int32)), .val (.int (1 : Int32)), .val (.int c1)] []))
  refine Go.step (fun _ kt => XS.iinc X115.here hx rfl (hb hby d6_35) rfl (l' := #[.val (.ref a1), .val (.int (2 : Int32)), .val (.ref a2), .val (.int ((1 : Int32) + (1 : Int32))), .val (.int (3 : Int32)), .val (.int (1 : Int32)), .val (.int c1)]) rfl kt) ?_
  show Go p.tables e below _ (T115.setTop (mkF m 38 #[.val (.ref a1), .val (.int (2 : Int32)), .val (.ref a2), .val (.int ((1 : Int32) + (1 : Int32))), .val (.int (3 : Int32)), .val (.int (1 : Int32)), .val (.int c1)] []))
  have q122 : ((1 : Int32) + (1 : Int32)) = (2 : Int32) := by decide
  rw [q122]
  show Go p.tables e below _ (T115.setTop (mkF m 38 #[.val (.ref a1), .val (.int (2 : Int32)), .val (.ref a2), .val (.int (2 : Int32)), .val (.int (3 : Int32)), .val (.int (1 : Int32)), .val (.int c1)] []))
  refine Go.step (fun _ kt => XS.iinc X115.here hx rfl (hb hby d6_38) rfl (l' := #[.val (.ref a1), .val (.int (2 : Int32)), .val (.ref a2), .val (.int (2 : Int32)), .val (.int (3 : Int32)), .val (.int ((1 : Int32) + (1 : Int32))), .val (.int c1)]) rfl kt) ?_
  show Go p.tables e below _ (T115.setTop (mkF m 41 #[.val (.ref a1), .val (.int (2 : Int32)), .val (.ref a2), .val (.int (2 : Int32)), .val (.int (3 : Int32)), .val (.int ((1 : Int32) + (1 : Int32))), .val (.int c1)] []))
  have q123 : ((1 : Int32) + (1 : Int32)) = (2 : Int32) := by decide
  rw [q123]
  show Go p.tables e below _ (T115.setTop (mkF m 41 #[.val (.ref a1), .val (.int (2 : Int32)), .val (.ref a2), .val (.int (2 : Int32)), .val (.int (3 : Int32)), .val (.int (2 : Int32)), .val (.int c1)] []))
  refine Go.step (fun _ kt => XS.goto X115.here hx rfl (pc0 := 41) (pc' := 3) rfl (hb hby d6_41) (by decide) (by decide) (XS.iload X115.here hx rfl (hb hby d6_3) rfl (XS.iload X115.here hx rfl (hb hby d6_5) rfl (XS.icmpNo X115.here hx rfl (hb hby d6_7) rfl (tlt (by decide : (2 : Int32) < (3 : Int32))).2.1 (XS.aloadN X115.here hx rfl (hb hby d6_10) rfl rfl (XS.iloadN X115.here hx rfl (hb hby d6_11) rfl kt)))))) ?_
  show Go p.tables e below _ (T115.setTop (mkF m 12 #[.val (.ref a1), .val (.int (2 : Int32)), .val (.ref a2), .val (.int (2 : Int32)), .val (.int (3 : Int32)), .val (.int (2 : Int32)), .val (.int c1)] [(.int (2 : Int32)), (.ref a1)]))
  obtain ⟨cl124, Ar124, qa124, Sa124, Na124, Ha124, Ga124⟩ := (id F117)
  have hin124 : ¬ ((2 : Int32) < 0 ∨ cl124.slots.size ≤ ((2 : Int32)).toNatClampNeg) := inb_of Sa124 ⟨by decide, by decide⟩
  have hat124 : cl124.slots[((2 : Int32)).toNatClampNeg]? = some (.int c2) := at_of Ha124 hin124 rfl
  refine Go.step (X115.caload hx (j := (2 : Int32)) (v := (.int c2)) (by rw [e115]; exact Ar124.1) (State.isArrayOf_alike hZ.alike Ar124.2.1) Ar124.2.2 hin124 hat124 (g := (mkF m 12 #[.val (.ref a1), .val (.int (2 : Int32)), .val (.ref a2), .val (.int (2 : Int32)), .val (.int (3 : Int32)), .val (.int (2 : Int32)), .val (.int c1)] [(.int (2 : Int32)), (.ref a1)])) rfl rfl (hb hby d6_12)) ?_
  show Go p.tables e below _ (T115.setTop (mkF m 13 #[.val (.ref a1), .val (.int (2 : Int32)), .val (.ref a2), .val (.int (2 : Int32)), .val (.int (3 : Int32)), .val (.int (2 : Int32)), .val (.int c1)] [(.int c2)]))
  refine Go.step (fun _ kt => XS.istore X115.here hx rfl (hb hby d6_13) rfl (l' := #[.val (.ref a1), .val (.int (2 : Int32)), .val (.ref a2), .val (.int (2 : Int32)), .val (.int (3 : Int32)), .val (.int (2 : Int32)), .val (.int c2)]) rfl (XS.iload X115.here hx rfl (hb hby d6_15) rfl (XS.sipush X115.here hx rfl (hb hby d6_17) (XS.icmpYes X115.here hx rfl (pc0 := 20) (pc' := 26) rfl (hb hby d6_20) rfl (flt hb2.2).2.2.2 (by decide) (by decide) (XS.aloadN X115.here hx rfl (hb hby d6_26) rfl rfl (XS.iloadN X115.here hx rfl (hb hby d6_27) rfl (XS.iload X115.here hx rfl (hb hby d6_28) rfl (XS.i2b X115.here hx rfl (hb hby d6_30) rfl kt)))))))) ?_
  show Go p.tables e below _ (T115.setTop (mkF m 31 #[.val (.ref a1), .val (.int (2 : Int32)), .val (.ref a2), .val (.int (2 : Int32)), .val (.int (3 : Int32)), .val (.int (2 : Int32)), .val (.int c2)] [(.int (c2.toInt8.toInt32)), (.int (2 : Int32)), (.ref a2)]))
  have q125 : (c2.toInt8.toInt32) = (own_by c2) := rfl
  rw [q125]
  show Go p.tables e below _ (T115.setTop (mkF m 31 #[.val (.ref a1), .val (.int (2 : Int32)), .val (.ref a2), .val (.int (2 : Int32)), .val (.int (3 : Int32)), .val (.int (2 : Int32)), .val (.int c2)] [(.int (own_by c2)), (.int (2 : Int32)), (.ref a2)]))
  obtain ⟨cl126, Ar126, qa126, Sa126, Na126, Ha126, Ga126⟩ := (id Vn120)
  have hin126 : ¬ ((2 : Int32) < 0 ∨ cl126.slots.size ≤ ((2 : Int32)).toNatClampNeg) := inb_of Sa126 ⟨by decide, by decide⟩
  obtain ⟨T126, h126, X126, e126, W126, st126⟩ := stB X115 hx hZ e115 Ar126 (j := (2 : Int32)) hin126 (g := (mkF m 31 #[.val (.ref a1), .val (.int (2 : Int32)), .val (.ref a2), .val (.int (2 : Int32)), .val (.int (3 : Int32)), .val (.int (2 : Int32)), .val (.int c2)] [(.int (own_by c2)), (.int (2 : Int32)), (.ref a2)])) rfl rfl (hb hby d6_31)
  refine Go.step st126 ?_
  have V127 := Arv.set Ar126 qa126 Sa126 Na126 Ha126 Ga126 (fits_nar_byte _) W126 2 rfl (Nat.le_of_ble_eq_true rfl)
  have N126 := Fr.snoc X126 N115 g_a2
  have F128 : Arv Z h126 a1 k1 .char (3 : Int32) [(.int c0), (.int c1), (.int c2)] (.int (0 : Int32)) := (F117.other W126 ne12)
  have Z129 : n0 ≤ h126.size := (Nat.le_trans Z118 (Nat.le_of_eq W126.size.symm))
  have K130 : Keep h0 h126 [a2] := (K119.wr W126 (Or.inl (List.mem_of_getElem? (i := 0) rfl)))
  show Go p.tables e below _ (T126.setTop (mkF m 32 #[.val (.ref a1), .val (.int (2 : Int32)), .val (.ref a2), .val (.int (2 : Int32)), .val (.int (3 : Int32)), .val (.int (2 : Int32)), .val (.int c2)] []))
  have Vn131 : Arv Z h126 a2 k2 .byte (3 : Int32) [(.int (own_by c0)), (.int (own_by c1)), (.int (own_by c2))] (.int (0 : Int32)) := by have q0 := V127; rw [own_bb] at q0; exact q0
  refine Go.step (fun _ kt => XS.iinc X126.here hx rfl (hb hby d6_32) rfl (l' := #[.val (.ref a1), .val (.int ((2 : Int32) + (1 : Int32))), .val (.ref a2), .val (.int (2 : Int32)), .val (.int (3 : Int32)), .val (.int (2 : Int32)), .val (.int c2)]) rfl kt) ?_
  show Go p.tables e below _ (T126.setTop (mkF m 35 #[.val (.ref a1), .val (.int ((2 : Int32) + (1 : Int32))), .val (.ref a2), .val (.int (2 : Int32)), .val (.int (3 : Int32)), .val (.int (2 : Int32)), .val (.int c2)] []))
  have q132 : ((2 : Int32) + (1 : Int32)) = (3 : Int32) := by decide
  rw [q132]
  show Go p.tables e below _ (T126.setTop (mkF m 35 #[.val (.ref a1), .val (.int (3 : Int32)), .val (.ref a2), .val (.int (2 : Int32)), .val (.int (3 : Int32)), .val (.int (2 : Int32)), .val (.int c2)] []))
  refine Go.step (fun _ kt => XS.iinc X126.here hx rfl (hb hby d6_35) rfl (l' := #[.val (.ref a1), .val (.int (3 : Int32)), .val (.ref a2), .val (.int ((2 : Int32) + (1 : Int32))), .val (.int (3 : Int32)), .val (.int (2 : Int32)), .val (.int c2)]) rfl kt) ?_
  show Go p.tables e below _ (T126.setTop (mkF m 38 #[.val (.ref a1), .val (.int (3 : Int32)), .val (.ref a2), .val (.int ((2 : Int32) + (1 : Int32))), .val (.int (3 : Int32)), .val (.int (2 : Int32)), .val (.int c2)] []))
  have q133 : ((2 : Int32) + (1 : Int32)) = (3 : Int32) := by decide
  rw [q133]
  show Go p.tables e below _ (T126.setTop (mkF m 38 #[.val (.ref a1), .val (.int (3 : Int32)), .val (.ref a2), .val (.int (3 : Int32)), .val (.int (3 : Int32)), .val (.int (2 : Int32)), .val (.int c2)] []))
  refine Go.step (fun _ kt => XS.iinc X126.here hx rfl (hb hby d6_38) rfl (l' := #[.val (.ref a1), .val (.int (3 : Int32)), .val (.ref a2), .val (.int (3 : Int32)), .val (.int (3 : Int32)), .val (.int ((2 : Int32) + (1 : Int32))), .val (.int c2)]) rfl kt) ?_
  show Go p.tables e below _ (T126.setTop (mkF m 41 #[.val (.ref a1), .val (.int (3 : Int32)), .val (.ref a2), .val (.int (3 : Int32)), .val (.int (3 : Int32)), .val (.int ((2 : Int32) + (1 : Int32))), .val (.int c2)] []))
  have q134 : ((2 : Int32) + (1 : Int32)) = (3 : Int32) := by decide
  rw [q134]
  show Go p.tables e below _ (T126.setTop (mkF m 41 #[.val (.ref a1), .val (.int (3 : Int32)), .val (.ref a2), .val (.int (3 : Int32)), .val (.int (3 : Int32)), .val (.int (3 : Int32)), .val (.int c2)] []))
  refine Go.step (fun _ kt => XS.goto X126.here hx rfl (pc0 := 41) (pc' := 3) rfl (hb hby d6_41) (by decide) (by decide) (XS.iload X126.here hx rfl (hb hby d6_3) rfl (XS.iload X126.here hx rfl (hb hby d6_5) rfl (XS.icmpYes X126.here hx rfl (pc0 := 7) (pc' := 44) rfl (hb hby d6_7) rfl (flt (by decide : ¬ ((3 : Int32) < (3 : Int32)))).2.1 (by decide) (by decide) (XS.iload X126.here hx rfl (hb hby d6_44) rfl kt))))) ?_
  show Go p.tables e below _ (T126.setTop (mkF m 46 #[.val (.ref a1), .val (.int (3 : Int32)), .val (.ref a2), .val (.int (3 : Int32)), .val (.int (3 : Int32)), .val (.int (3 : Int32)), .val (.int c2)] [(.int (3 : Int32))]))
  obtain ⟨fs, hr, hrun, hended, hW, hsame⟩ := X126.leave (v := some (.int (3 : Int32))) (fun h => by rw [Bd.returns] at h; cases h)
  refine ⟨_, _, retI X126 hx Bd.returns (hb hby d6_46) hr, hrun, hended, _, _, rfl, ?_, ⟨_, rfl⟩, hW, hsame.mono (by decide) (by decide)⟩
  show Qrmkl3 Z a1 a2 k1 k2 c0 c1 c2 h0 n0 _ T126.heap _
  rw [e126]
  refine ⟨?_, N126, K130, Vn131⟩
  rfl
theorem ef_rmk3 (m : MethodId) (a1 : Addr) (k1 : ClassId) (c0 : Int32) (c1 : Int32) (c2 : Int32) : entryFrame m #[(.ref a1), (.int (0 : Int32)), (.int (3 : Int32))] 6 = mkF m 0 #[.val (.ref a1), .val (.int (0 : Int32)), .val (.int (3 : Int32)), .unset, .unset, .unset] [] := by first | (simp [entryFrame, mkF, argsToLocals, Value.category]; done) | rfl
def Qrmk3 (Z : State) (a1 : Addr) (k1 : ClassId) (c0 : Int32) (c1 : Int32) (c2 : Int32) (h0 : Heap) (n0 : Nat) (v : Option Value) (h : Heap) (L : List Loc) : Prop := ∃ r : Addr, ∃ kr : ClassId, v = some (.ref r) ∧ Fr n0 L ∧ Keep h0 h [] ∧ Arv Z h r kr .byte (3 : Int32) [(.int (own_by c0)), (.int (own_by c1)), (.int (own_by c2))] (.int (0 : Int32)) ∧ n0 ≤ r ∧ h0.size ≤ r
set_option maxRecDepth 65536 in
set_option maxHeartbeats 40000000 in
theorem rmk3 (l : Launch) (Z : State) (a0 : Array Value) (hw : ∀ d ∈ tables_1, d.before a0 Z = true) (ws : List Jvm.Cond) (a1 : Addr) (k1 : ClassId) (c0 : Int32) (c1 : Int32) (c2 : Int32) (h0 : Heap) (n0 : Nat) (Z0 : n0 ≤ h0.size) (V1 : Arv Z h0 a1 k1 .char (3 : Int32) [(.int c0), (.int c1), (.int c2)] (.int (0 : Int32))) (hb0 : ¬ c0 < 0 ∧ ¬ (255 : Int32) < c0) (hb1 : ¬ c1 < 0 ∧ ¬ (255 : Int32) < c1) (hb2 : ¬ c2 < 0 ∧ ¬ (255 : Int32) < c2) :
    MetFree l (⟨"java/lang/StringUTF16", "compress", "([CII)[B"⟩ : MethodName) (head1 (Jvm.Cond.code (⟨"java/lang/StringUTF16", "compress", "([CII)[B"⟩ : MethodName) jdk_52_method_16_code 6 (some (.array .byte)) :: ws) ({ frames := 1, cells := 1, slots := 3, locals := 18 } : Room)) (fun a U => a = #[(.ref a1), (.int (0 : Int32)), (.int (3 : Int32))] ∧ Z.Warmed39 U.vm ∧ U.heap = h0) (fun _ _ _ _ _ => True) (fun _ U o U' => ∃ v L, o = .returned v ∧ Qrmk3 Z a1 k1 c0 c1 c2 h0 n0 v U'.heap L ∧ FrameEnd U o U' L ({ frames := 1, cells := 1, slots := 3, locals := 18 } : Room).cells ({ frames := 1, cells := 1, slots := 3, locals := 18 } : Room).slots) := by
  refine MetFree.of_bodySF (plainFor_of_name pn_1) hisR ?_
  intro p e s m args below meth c s₁ Bd hml0 hP hK
  obtain ⟨rfl, hZ, hh⟩ := hP
  have hx := Bd.exec
  have hby := Bd.bytes
  have hml : c.maxLocals = 6 := hml0
  have hown : s.vm.findClass "java/lang/StringUTF16" = some m.cls := findClass_of_methodNamed Bd.named
  have hnm := (name_of_methodNamed Bd.named Bd.method).1
  have X0 : Stand p l e ({ frames := 1, cells := 1, slots := 3, locals := 18 } : Room) s m #[(.ref a1), (.int (0 : Int32)), (.int (3 : Int32))] below meth c s₁ [] 0 0 := Stand.of_body Bd
  have e0 : s₁.heap = h0 := by rw [← hh, Bd.state]; rfl
  have N0 := Fr.nil n0
  show Go p.tables e below (fun o U' => ∃ v L, o = .returned v ∧ Qrmk3 Z a1 k1 c0 c1 c2 h0 n0 v U'.heap L ∧ FrameEnd s o U' L ({ frames := 1, cells := 1, slots := 3, locals := 18 } : Room).cells ({ frames := 1, cells := 1, slots := 3, locals := 18 } : Room).slots) _
  refine Go.step (fun t kt => castTop (ef_rmk3 m a1 k1 c0 c1 c2) kt) ?_
  show Go p.tables e below _ (s₁.setTop (mkF m 0 #[.val (.ref a1), .val (.int (0 : Int32)), .val (.int (3 : Int32)), .unset, .unset, .unset] []))
  have K101 : Keep h0 h0 [] := (Keep.refl h0 [])
  refine Go.step (fun _ kt => XS.iloadN X0.here hx rfl (hb hby d5_0) rfl kt) ?_
  show Go p.tables e below _ (s₁.setTop (mkF m 1 #[.val (.ref a1), .val (.int (0 : Int32)), .val (.int (3 : Int32)), .unset, .unset, .unset] [(.int (3 : Int32))]))
  obtain ⟨T102, h102, k102, X102, e102, E102, A102, st102⟩ := newP X0 hx hZ (hw _ (List.mem_of_getElem? (i := 22) rfl)) e0 (g := (mkF m 1 #[.val (.ref a1), .val (.int (0 : Int32)), .val (.int (3 : Int32)), .unset, .unset, .unset] [(.int (3 : Int32))])) rfl (hb hby d5_1) rfl (by decide) (cap := 3) (by decide) (by decide) (by decide) (by decide)
  obtain ⟨b102, g102⟩ : ∃ z, z = h0.size := ⟨_, rfl⟩
  rw [← g102] at A102 st102
  refine Go.step st102 ?_
  have ne_a1_b102 : a1 ≠ b102 := Nat.ne_of_lt (Nat.lt_of_lt_of_le V1.lt (Nat.le_of_eq g102.symm))
  have g_b102 : n0 ≤ b102 := Nat.le_trans Z0 (Nat.le_of_eq g102.symm)
  have sz_b102 : h0.size ≤ b102 := Nat.le_trans K101.1 (Nat.le_of_eq g102.symm)
  have F103 : Arv Z h102 a1 k1 .char (3 : Int32) [(.int c0), (.int c1), (.int c2)] (.int (0 : Int32)) := (V1.ext E102)
  have Z104 : n0 ≤ h102.size := (Nat.le_trans Z0 E102.1)
  have K105 : Keep h0 h102 [] := (K101.ext E102)
  have V106 : Arv Z h102 b102 k102 .byte (3 : Int32) [(.int (0 : Int32)), (.int (0 : Int32)), (.int (0 : Int32))] (.int (0 : Int32)) := (Arv.new A102 (by decide)).pad (pad_rep [] (.int (0 : Int32)) 3)
  show Go p.tables e below _ (T102.setTop (mkF m 3 #[.val (.ref a1), .val (.int (0 : Int32)), .val (.int (3 : Int32)), .unset, .unset, .unset] [(.ref b102)]))
  refine Go.step (fun _ kt => XS.astoreN X102.here hx rfl (hb hby d5_3) rfl rfl (l' := #[.val (.ref a1), .val (.int (0 : Int32)), .val (.int (3 : Int32)), .val (.ref b102), .unset, .unset]) rfl (XS.aloadN X102.here hx rfl (hb hby d5_4) rfl rfl (XS.iloadN X102.here hx rfl (hb hby d5_5) rfl (XS.aloadN X102.here hx rfl (hb hby d5_6) rfl rfl (XS.iconst X102.here hx rfl (hb hby d5_7) (XS.iloadN X102.here hx rfl (hb hby d5_8) rfl kt)))))) ?_
  show Go p.tables e below _ (T102.setTop (mkF m 9 #[.val (.ref a1), .val (.int (0 : Int32)), .val (.int (3 : Int32)), .val (.ref b102), .unset, .unset] [(.int (3 : Int32)), (.int (0 : Int32)), (.ref b102), (.int (0 : Int32)), (.ref a1)]))
  obtain ⟨_, _, ⟨T107, L107, k107, n107⟩, -, X107, ⟨Lc107, hQ107, l107, y107, z107⟩, st107⟩ := Jvm.LawKit.callS X102 hx (y := (⟨"java/lang/StringUTF16", "compress", "([CI[BII)I"⟩ : MethodName)) hown (mvT hZ (hw _ (List.mem_of_getElem? (i := 34) rfl))) (mvT hZ (hw _ (List.mem_of_getElem? (i := 35) rfl))) (mvT hZ (hw _ (List.mem_of_getElem? (i := 32) rfl))) (mvT hZ (hw _ (List.mem_of_getElem? (i := 36) rfl))) (by decide) (backOf (W := 0) (rmkl3 l Z a0 hw [] a1 b102 k1 k102 c0 c1 c2 h102 n0 Z104 F103 V106 g_b102 ne_a1_b102 hb0 hb1 hb2) hZ (hw _ (List.mem_of_getElem? (i := 36) rfl)) (hw _ (List.mem_of_getElem? (i := 32) rfl)) (by decide) (by decide)) (g := (mkF m 9 #[.val (.ref a1), .val (.int (0 : Int32)), .val (.int (3 : Int32)), .val (.ref b102), .unset, .unset] [(.int (3 : Int32)), (.int (0 : Int32)), (.ref b102), (.int (0 : Int32)), (.ref a1)])) rfl (by rw [hml]; rfl) (argsL := [(.ref a1), (.int (0 : Int32)), (.ref b102), (.int (0 : Int32)), (.int (3 : Int32))]) (rest := []) (lenOf pd_2 rfl) rfl (by show 2 * 0 + _ ≤ _; exact Nat.le_of_eq rfl) (hb hby d5_9) (fun _ _ => ⟨rfl, e102, (by decide : 1 + 0 ≤ _), (by decide : 3 + 0 ≤ _)⟩)
  dsimp only [Pt.U, Pt.locs, Pt.cells, Pt.slots] at X107 l107 y107 z107 st107 hQ107
  subst l107 y107 z107
  obtain ⟨rfl, N107q, Kq107, P108⟩ := hQ107
  have F109 : Arv Z T107.heap a1 k1 .char (3 : Int32) [(.int c0), (.int c1), (.int c2)] (.int (0 : Int32)) := (F103.keep Kq107 (fun q => ne_a1_b102 (List.mem_singleton.mp q)))
  have Z110 : n0 ≤ T107.heap.size := (Nat.le_trans Z104 Kq107.1)
  have K111 : Keep h0 T107.heap [] := (K105.trans Kq107 (by intro x hx; cases List.mem_singleton.mp hx; exact (Or.inr sz_b102)))
  have N107 := Fr.app N0 N107q
  refine Go.step st107 ?_
  show Go p.tables e below _ (T107.setTop (mkF m 12 #[.val (.ref a1), .val (.int (0 : Int32)), .val (.int (3 : Int32)), .val (.ref b102), .unset, .unset] [(.int (3 : Int32))]))
  refine Go.step (fun _ kt => XS.istore X107.here hx rfl (hb hby d5_12) rfl (l' := #[.val (.ref a1), .val (.int (0 : Int32)), .val (.int (3 : Int32)), .val (.ref b102), .val (.int (3 : Int32)), .unset]) rfl (XS.iload X107.here hx rfl (hb hby d5_14) rfl (XS.iloadN X107.here hx rfl (hb hby d5_16) rfl (XS.icmpYes X107.here hx rfl (pc0 := 17) (pc' := 57) rfl (hb hby d5_17) rfl (teq (by decide : (3 : Int32) = (3 : Int32))).1 (by decide) (by decide) (XS.aloadN X107.here hx rfl (hb hby d5_57) rfl rfl kt))))) ?_
  show Go p.tables e below _ (T107.setTop (mkF m 58 #[.val (.ref a1), .val (.int (0 : Int32)), .val (.int (3 : Int32)), .val (.ref b102), .val (.int (3 : Int32)), .unset] [(.ref b102)]))
  obtain ⟨fs, hr, hrun, hended, hW, hsame⟩ := X107.leave (v := some (.ref b102)) (fun h => by rw [Bd.returns] at h; cases h)
  refine ⟨_, _, retOut X107 hx Bd.returns rfl (Or.inr (Or.inr (Or.inr (Or.inr ⟨rfl, rfl, rfl⟩)))) (hb hby d5_58) hr, hrun, hended, _, _, rfl, ?_, ⟨_, rfl⟩, hW, hsame.mono (by decide) (by decide)⟩
  show Qrmk3 Z a1 k1 c0 c1 c2 h0 n0 _ T107.heap _
  refine ⟨b102, k102, ?_, N107, K111, P108, g_b102, sz_b102⟩
  rfl
theorem ef_rmcf3 (m : MethodId) (a1 : Addr) (k1 : ClassId) (c0 : Int32) (c1 : Int32) (c2 : Int32) : entryFrame m #[(.ref a1), (.int (3 : Int32))] 2 = mkF m 0 #[.val (.ref a1), .val (.int (3 : Int32))] [] := by first | (simp [entryFrame, mkF, argsToLocals, Value.category]; done) | rfl
def Qrmcf3 (Z : State) (a1 : Addr) (k1 : ClassId) (c0 : Int32) (c1 : Int32) (c2 : Int32) (h0 : Heap) (n0 : Nat) (v : Option Value) (h : Heap) (L : List Loc) : Prop := v = some (.int (0 : Int32)) ∧ Fr n0 L ∧ h = h0
set_option maxRecDepth 65536 in
set_option maxHeartbeats 40000000 in
theorem rmcf3 (l : Launch) (Z : State) (a0 : Array Value) (hw : ∀ d ∈ tables_1, d.before a0 Z = true) (ws : List Jvm.Cond) (a1 : Addr) (k1 : ClassId) (c0 : Int32) (c1 : Int32) (c2 : Int32) (h0 : Heap) (n0 : Nat) (Z0 : n0 ≤ h0.size) (V1 : Arv Z h0 a1 k1 .byte (3 : Int32) [(.int (own_by c0)), (.int (own_by c1)), (.int (own_by c2))] (.int (0 : Int32))) :
    MetFree l (⟨"java/lang/StringUTF16", "coderFromArrayLen", "([BI)B"⟩ : MethodName) (head1 (Jvm.Cond.code (⟨"java/lang/StringUTF16", "coderFromArrayLen", "([BI)B"⟩ : MethodName) jdk_52_method_15_code 2 (some .byte) :: ws) ({ frames := 0, cells := 0, slots := 0, locals := 0 } : Room)) (fun a U => a = #[(.ref a1), (.int (3 : Int32))] ∧ Z.Warmed39 U.vm ∧ U.heap = h0) (fun _ _ _ _ _ => True) (fun _ U o U' => ∃ v L, o = .returned v ∧ Qrmcf3 Z a1 k1 c0 c1 c2 h0 n0 v U'.heap L ∧ FrameEnd U o U' L ({ frames := 0, cells := 0, slots := 0, locals := 0 } : Room).cells ({ frames := 0, cells := 0, slots := 0, locals := 0 } : Room).slots) := by
  refine MetFree.of_bodySF (plainFor_of_name pn_1) hisR ?_
  intro p e s m args below meth c s₁ Bd hml0 hP hK
  obtain ⟨rfl, hZ, hh⟩ := hP
  have hx := Bd.exec
  have hby := Bd.bytes
  have hml : c.maxLocals = 2 := hml0
  have hown : s.vm.findClass "java/lang/StringUTF16" = some m.cls := findClass_of_methodNamed Bd.named
  have hnm := (name_of_methodNamed Bd.named Bd.method).1
  have X0 : Stand p l e ({ frames := 0, cells := 0, slots := 0, locals := 0 } : Room) s m #[(.ref a1), (.int (3 : Int32))] below meth c s₁ [] 0 0 := Stand.of_body Bd
  have e0 : s₁.heap = h0 := by rw [← hh, Bd.state]; rfl
  have N0 := Fr.nil n0
  show Go p.tables e below (fun o U' => ∃ v L, o = .returned v ∧ Qrmcf3 Z a1 k1 c0 c1 c2 h0 n0 v U'.heap L ∧ FrameEnd s o U' L ({ frames := 0, cells := 0, slots := 0, locals := 0 } : Room).cells ({ frames := 0, cells := 0, slots := 0, locals := 0 } : Room).slots) _
  refine Go.step (fun t kt => castTop (ef_rmcf3 m a1 k1 c0 c1 c2) kt) ?_
  show Go p.tables e below _ (s₁.setTop (mkF m 0 #[.val (.ref a1), .val (.int (3 : Int32))] []))
  refine Go.step (fun _ kt => XS.iloadN X0.here hx rfl (hb hby d7_0) rfl (XS.aloadN X0.here hx rfl (hb hby d7_1) rfl rfl kt)) ?_
  show Go p.tables e below _ (s₁.setTop (mkF m 2 #[.val (.ref a1), .val (.int (3 : Int32))] [(.ref a1), (.int (3 : Int32))]))
  obtain ⟨cl101, Ar101, qa101, Sa101, Na101, Ha101, Ga101⟩ := (id V1)
  refine Go.step (X0.arraylength hx (by rw [e0]; exact Ar101.1) (State.isArrayOf_alike hZ.alike Ar101.2.1) (g := (mkF m 2 #[.val (.ref a1), .val (.int (3 : Int32))] [(.ref a1), (.int (3 : Int32))])) rfl rfl (hb hby d7_2)) ?_
  rw [len_of Sa101 Na101]
  show Go p.tables e below _ (s₁.setTop (mkF m 3 #[.val (.ref a1), .val (.int (3 : Int32))] [(.int (3 : Int32)), (.int (3 : Int32))]))
  refine Go.step (fun _ kt => XS.isub X0.here hx rfl (hb hby d7_3) rfl kt) ?_
  show Go p.tables e below _ (s₁.setTop (mkF m 4 #[.val (.ref a1), .val (.int (3 : Int32))] [(.int ((3 : Int32) - (3 : Int32)))]))
  have q102 : ((3 : Int32) - (3 : Int32)) = (0 : Int32) := by decide
  rw [q102]
  show Go p.tables e below _ (s₁.setTop (mkF m 4 #[.val (.ref a1), .val (.int (3 : Int32))] [(.int (0 : Int32))]))
  refine Go.step (fun _ kt => XS.bipush X0.here hx rfl (hb hby d7_4) (XS.iushr X0.here hx rfl (hb hby d7_6) rfl kt)) ?_
  show Go p.tables e below _ (s₁.setTop (mkF m 7 #[.val (.ref a1), .val (.int (3 : Int32))] [(.int (((0 : Int32).toUInt32 >>> ((31 : Int32) &&& 31).toUInt32).toInt32))]))
  have q103 : (((0 : Int32).toUInt32 >>> ((31 : Int32) &&& 31).toUInt32).toInt32) = (0 : Int32) := by decide
  rw [q103]
  show Go p.tables e below _ (s₁.setTop (mkF m 7 #[.val (.ref a1), .val (.int (3 : Int32))] [(.int (0 : Int32))]))
  refine Go.step (fun _ kt => XS.i2b X0.here hx rfl (hb hby d7_7) rfl kt) ?_
  show Go p.tables e below _ (s₁.setTop (mkF m 8 #[.val (.ref a1), .val (.int (3 : Int32))] [(.int ((0 : Int32).toInt8.toInt32))]))
  have q104 : ((0 : Int32).toInt8.toInt32) = (0 : Int32) := by decide
  rw [q104]
  show Go p.tables e below _ (s₁.setTop (mkF m 8 #[.val (.ref a1), .val (.int (3 : Int32))] [(.int (0 : Int32))]))
  obtain ⟨fs, hr, hrun, hended, hW, hsame⟩ := X0.leave (v := some (.int (0 : Int32))) (fun h => by rw [Bd.returns] at h; cases h)
  refine ⟨_, _, retN X0 hx (t := .byte) Bd.returns (by simp) (hb hby d7_8) hr, hrun, hended, _, _, rfl, ?_, ⟨_, rfl⟩, hW, hsame.mono (by decide) (by decide)⟩
  show Qrmcf3 Z a1 k1 c0 c1 c2 h0 n0 _ s₁.heap _
  rw [e0]
  refine ⟨?_, N0, rfl⟩
  rfl
theorem ef_rmct4_3 (m : MethodId) (a1 : Addr) (a2 : Addr) (u1 : Value) (u2 : Value) (k2 : ClassId) (cs : Int32) (c0 : Int32) (c1 : Int32) (c2 : Int32) : entryFrame m #[(.ref a1), (.ref a2), (.int (0 : Int32)), (.int (3 : Int32)), .null] 6 = mkF m 0 #[.val (.ref a1), .val (.ref a2), .val (.int (0 : Int32)), .val (.int (3 : Int32)), .val .null, .unset] [] := by first | (simp [entryFrame, mkF, argsToLocals, Value.category]; done) | rfl
def Qrmct4_3 (Z : State) (a1 : Addr) (a2 : Addr) (u1 : Value) (u2 : Value) (k2 : ClassId) (cs : Int32) (c0 : Int32) (c1 : Int32) (c2 : Int32) (h0 : Heap) (n0 : Nat) (v : Option Value) (h : Heap) (L : List Loc) : Prop := ∃ b : Addr, ∃ kb : ClassId, v = none ∧ Fr n0 L ∧ Keep h0 h [a1] ∧ Exa Z h a1 "java/lang/String" ∧ Fld Z h a1 "java/lang/String" "coder" "B" (.int (0 : Int32)) ∧ Fld Z h a1 "java/lang/String" "value" "[B" (.ref b) ∧ Arv Z h b kb .byte (3 : Int32) [(.int (own_by c0)), (.int (own_by c1)), (.int (own_by c2))] (.int (0 : Int32))
set_option maxRecDepth 65536 in
set_option maxHeartbeats 40000000 in
theorem rmct4_3 (l : Launch) (Z : State) (a0 : Array Value) (hw : ∀ d ∈ tables_1, d.before a0 Z = true) (ws : List Jvm.Cond) (a1 : Addr) (a2 : Addr) (u1 : Value) (u2 : Value) (k2 : ClassId) (cs : Int32) (c0 : Int32) (c1 : Int32) (c2 : Int32) (h0 : Heap) (n0 : Nat) (Z0 : n0 ≤ h0.size) (E1 : Exa Z h0 a1 "java/lang/String") (Fc : Fld Z h0 a1 "java/lang/String" "coder" "B" u1) (Fv : Fld Z h0 a1 "java/lang/String" "value" "[B" u2) (V2 : Arv Z h0 a2 k2 .char (3 : Int32) [(.int c0), (.int c1), (.int c2)] (.int (0 : Int32))) (S_cs : Sta Z h0 "java/lang/String" "COMPACT_STRINGS" "Z" (.int cs)) (g_a1 : n0 ≤ a1) (hcs : ¬ cs = 0) (ne21 : a2 ≠ a1) (hb0 : ¬ c0 < 0 ∧ ¬ (255 : Int32) < c0) (hb1 : ¬ c1 < 0 ∧ ¬ (255 : Int32) < c1) (hb2 : ¬ c2 < 0 ∧ ¬ (255 : Int32) < c2) :
    MetFree l (⟨"java/lang/String", "<init>", "([CIILjava/lang/Void;)V"⟩ : MethodName) (head1 (Jvm.Cond.code (⟨"java/lang/String", "<init>", "([CIILjava/lang/Void;)V"⟩ : MethodName) jdk_42_method_149_code 6 none :: ws) ({ frames := 2, cells := 1, slots := 3, locals := 35 } : Room)) (fun a U => a = #[(.ref a1), (.ref a2), (.int (0 : Int32)), (.int (3 : Int32)), .null] ∧ Z.Warmed39 U.vm ∧ U.heap = h0) (fun _ _ _ _ _ => True) (fun _ U o U' => ∃ v L, o = .returned v ∧ Qrmct4_3 Z a1 a2 u1 u2 k2 cs c0 c1 c2 h0 n0 v U'.heap L ∧ FrameEnd U o U' L ({ frames := 2, cells := 1, slots := 3, locals := 35 } : Room).cells ({ frames := 2, cells := 1, slots := 3, locals := 35 } : Room).slots) := by
  refine MetFree.of_bodySF (plainFor_of_name pn_0) hisR ?_
  intro p e s m args below meth c s₁ Bd hml0 hP hK
  obtain ⟨rfl, hZ, hh⟩ := hP
  have hx := Bd.exec
  have hby := Bd.bytes
  have hml : c.maxLocals = 6 := hml0
  have hown : s.vm.findClass "java/lang/String" = some m.cls := findClass_of_methodNamed Bd.named
  have hnm := (name_of_methodNamed Bd.named Bd.method).1
  have X0 : Stand p l e ({ frames := 2, cells := 1, slots := 3, locals := 35 } : Room) s m #[(.ref a1), (.ref a2), (.int (0 : Int32)), (.int (3 : Int32)), .null] below meth c s₁ [] 0 0 := Stand.of_body Bd
  have e0 : s₁.heap = h0 := by rw [← hh, Bd.state]; rfl
  have N0 := Fr.nil n0
  show Go p.tables e below (fun o U' => ∃ v L, o = .returned v ∧ Qrmct4_3 Z a1 a2 u1 u2 k2 cs c0 c1 c2 h0 n0 v U'.heap L ∧ FrameEnd s o U' L ({ frames := 2, cells := 1, slots := 3, locals := 35 } : Room).cells ({ frames := 2, cells := 1, slots := 3, locals := 35 } : Room).slots) _
  refine Go.step (fun t kt => castTop (ef_rmct4_3 m a1 a2 u1 u2 k2 cs c0 c1 c2) kt) ?_
  show Go p.tables e below _ (s₁.setTop (mkF m 0 #[.val (.ref a1), .val (.ref a2), .val (.int (0 : Int32)), .val (.int (3 : Int32)), .val .null, .unset] []))
  have K101 : Keep h0 h0 [a1] := (Keep.refl h0 [a1])
  refine Go.step (fun _ kt => XS.aloadN X0.here hx rfl (hb hby d3_0) rfl rfl kt) ?_
  show Go p.tables e below _ (s₁.setTop (mkF m 1 #[.val (.ref a1), .val (.ref a2), .val (.int (0 : Int32)), .val (.int (3 : Int32)), .val .null, .unset] [(.ref a1)]))
  obtain ⟨T102, X102, e102, st102⟩ := initO X0 hx hZ hown (hw _ (List.mem_of_getElem? (i := 18) rfl)) (hw _ (List.mem_of_getElem? (i := 19) rfl)) (hw _ (List.mem_of_getElem? (i := 20) rfl)) e0 (g := (mkF m 1 #[.val (.ref a1), .val (.ref a2), .val (.int (0 : Int32)), .val (.int (3 : Int32)), .val .null, .unset] [(.ref a1)])) rfl (by rw [hml]; rfl) rfl (hb hby d3_1) (by decide) (W := 0) (by show 2 * 0 + _ ≤ _; exact Nat.le_of_eq rfl) (by decide)
  refine Go.step st102 ?_
  show Go p.tables e below _ (T102.setTop (mkF m 4 #[.val (.ref a1), .val (.ref a2), .val (.int (0 : Int32)), .val (.int (3 : Int32)), .val .null, .unset] []))
  refine Go.step (fun _ kt => XS.iloadN X102.here hx rfl (hb hby d3_4) rfl (XS.ifYes X102.here hx rfl (pc0 := 5) (pc' := 27) rfl (hb hby d3_5) rfl ((if0 _ _).trans (feq (by decide : ¬ ((3 : Int32) = (0 : Int32)))).2) (by decide) (by decide) kt)) ?_
  show Go p.tables e below _ (T102.setTop (mkF m 27 #[.val (.ref a1), .val (.ref a2), .val (.int (0 : Int32)), .val (.int (3 : Int32)), .val .null, .unset] []))
  obtain ⟨T103, X103, e103, st103⟩ := getS2 X102 hx hZ hown (host := "") (Or.inl (hw _ (List.mem_of_getElem? (i := 29) rfl))) Via.refl e102 S_cs (g := (mkF m 27 #[.val (.ref a1), .val (.ref a2), .val (.int (0 : Int32)), .val (.int (3 : Int32)), .val .null, .unset] [])) rfl (hb hby d3_27)
  refine Go.step st103 ?_
  show Go p.tables e below _ (T103.setTop (mkF m 30 #[.val (.ref a1), .val (.ref a2), .val (.int (0 : Int32)), .val (.int (3 : Int32)), .val .null, .unset] [(.int cs)]))
  refine Go.step (fun _ kt => XS.ifNo X103.here hx rfl (hb hby d3_30) rfl ((if0 _ _).trans (feq hcs).1) (XS.aloadN X103.here hx rfl (hb hby d3_33) rfl rfl (XS.iloadN X103.here hx rfl (hb hby d3_34) rfl (XS.iloadN X103.here hx rfl (hb hby d3_35) rfl kt)))) ?_
  show Go p.tables e below _ (T103.setTop (mkF m 36 #[.val (.ref a1), .val (.ref a2), .val (.int (0 : Int32)), .val (.int (3 : Int32)), .val .null, .unset] [(.int (3 : Int32)), (.int (0 : Int32)), (.ref a2)]))
  obtain ⟨_, _, ⟨T104, L104, k104, n104⟩, -, X104, ⟨Lc104, hQ104, l104, y104, z104⟩, st104⟩ := Jvm.LawKit.callS X103 hx (y := (⟨"java/lang/StringUTF16", "compress", "([CII)[B"⟩ : MethodName)) hown (mvT hZ (hw _ (List.mem_of_getElem? (i := 30) rfl))) (mvT hZ (hw _ (List.mem_of_getElem? (i := 31) rfl))) (mvT hZ (hw _ (List.mem_of_getElem? (i := 32) rfl))) (mvT hZ (hw _ (List.mem_of_getElem? (i := 33) rfl))) (by decide) (backOf (W := 0) (rmk3 l Z a0 hw [] a2 k2 c0 c1 c2 h0 n0 Z0 V2 hb0 hb1 hb2) hZ (hw _ (List.mem_of_getElem? (i := 33) rfl)) (hw _ (List.mem_of_getElem? (i := 32) rfl)) (by decide) (by decide)) (g := (mkF m 36 #[.val (.ref a1), .val (.ref a2), .val (.int (0 : Int32)), .val (.int (3 : Int32)), .val .null, .unset] [(.int (3 : Int32)), (.int (0 : Int32)), (.ref a2)])) rfl (by rw [hml]; rfl) (argsL := [(.ref a2), (.int (0 : Int32)), (.int (3 : Int32))]) (rest := []) (lenOf pd_3 rfl) rfl (by show 2 * 0 + _ ≤ _; exact Nat.le_of_eq rfl) (hb hby d3_36) (fun _ _ => ⟨rfl, e103, (by decide : 0 + 1 ≤ _), (by decide : 0 + 3 ≤ _)⟩)
  dsimp only [Pt.U, Pt.locs, Pt.cells, Pt.slots] at X104 l104 y104 z104 st104 hQ104
  subst l104 y104 z104
  obtain ⟨b104r, b104kr, rfl, N104q, Kq104, P105, g_b104r, szq_b104r⟩ := hQ104
  have ne_a1_b104r : a1 ≠ b104r := Nat.ne_of_lt (Nat.lt_of_lt_of_le E1.lt szq_b104r)
  have ne_a2_b104r : a2 ≠ b104r := Nat.ne_of_lt (Nat.lt_of_lt_of_le V2.lt szq_b104r)
  have sz_b104r : h0.size ≤ b104r := Nat.le_trans K101.1 szq_b104r
  have F106 : Exa Z T104.heap a1 "java/lang/String" := (E1.keep Kq104)
  have F107 : Fld Z T104.heap a1 "java/lang/String" "coder" "B" u1 := (Fc.keep Kq104 (by simp))
  have F108 : Fld Z T104.heap a1 "java/lang/String" "value" "[B" u2 := (Fv.keep Kq104 (by simp))
  have F109 : Arv Z T104.heap a2 k2 .char (3 : Int32) [(.int c0), (.int c1), (.int c2)] (.int (0 : Int32)) := (V2.keep Kq104 (by simp))
  have F110 : Sta Z T104.heap "java/lang/String" "COMPACT_STRINGS" "Z" (.int cs) := (own_sta_keep0 S_cs Kq104)
  have Z111 : n0 ≤ T104.heap.size := (Nat.le_trans Z0 Kq104.1)
  have K112 : Keep h0 T104.heap [a1] := (K101.trans Kq104 (by intro x hx; cases hx))
  have N104 := Fr.app N0 N104q
  refine Go.step st104 ?_
  show Go p.tables e below _ (T104.setTop (mkF m 39 #[.val (.ref a1), .val (.ref a2), .val (.int (0 : Int32)), .val (.int (3 : Int32)), .val .null, .unset] [(.ref b104r)]))
  refine Go.step (fun _ kt => XS.astore X104.here hx rfl (hb hby d3_39) rfl rfl (l' := #[.val (.ref a1), .val (.ref a2), .val (.int (0 : Int32)), .val (.int (3 : Int32)), .val .null, .val (.ref b104r)]) rfl (XS.aloadN X104.here hx rfl (hb hby d3_41) rfl rfl (XS.aload X104.here hx rfl (hb hby d3_42) rfl rfl (XS.iloadN X104.here hx rfl (hb hby d3_44) rfl kt)))) ?_
  show Go p.tables e below _ (T104.setTop (mkF m 45 #[.val (.ref a1), .val (.ref a2), .val (.int (0 : Int32)), .val (.int (3 : Int32)), .val .null, .val (.ref b104r)] [(.int (3 : Int32)), (.ref b104r), (.ref a1)]))
  obtain ⟨_, _, ⟨T113, L113, k113, n113⟩, -, X113, ⟨Lc113, hQ113, l113, y113, z113⟩, st113⟩ := Jvm.LawKit.callS X104 hx (y := (⟨"java/lang/StringUTF16", "coderFromArrayLen", "([BI)B"⟩ : MethodName)) hown (mvT hZ (hw _ (List.mem_of_getElem? (i := 37) rfl))) (mvT hZ (hw _ (List.mem_of_getElem? (i := 38) rfl))) (mvT hZ (hw _ (List.mem_of_getElem? (i := 32) rfl))) (mvT hZ (hw _ (List.mem_of_getElem? (i := 39) rfl))) (by decide) (backOf (W := 1) (rmcf3 l Z a0 hw [] b104r b104kr c0 c1 c2 T104.heap n0 Z111 P105 ) hZ (hw _ (List.mem_of_getElem? (i := 39) rfl)) (hw _ (List.mem_of_getElem? (i := 32) rfl)) (by decide) (by decide)) (g := (mkF m 45 #[.val (.ref a1), .val (.ref a2), .val (.int (0 : Int32)), .val (.int (3 : Int32)), .val .null, .val (.ref b104r)] [(.int (3 : Int32)), (.ref b104r), (.ref a1)])) rfl (by rw [hml]; rfl) (argsL := [(.ref b104r), (.int (3 : Int32))]) (rest := [(.ref a1)]) (lenOf pd_4 rfl) rfl (by show 2 * 0 + _ ≤ _; exact Nat.le_of_eq rfl) (hb hby d3_45) (fun _ _ => ⟨rfl, rfl, (by decide : 1 + 0 ≤ _), (by decide : 3 + 0 ≤ _)⟩)
  dsimp only [Pt.U, Pt.locs, Pt.cells, Pt.slots] at X113 l113 y113 z113 st113 hQ113
  subst l113 y113 z113
  obtain ⟨rfl, N113q, eh113⟩ := hQ113
  have N113 := Fr.app N104 N113q
  refine Go.step st113 ?_
  show Go p.tables e below _ (T113.setTop (mkF m 48 #[.val (.ref a1), .val (.ref a2), .val (.int (0 : Int32)), .val (.int (3 : Int32)), .val .null, .val (.ref b104r)] [(.int (0 : Int32)), (.ref a1)]))
  obtain ⟨T114, h114, X114, e114, W114, st114⟩ := putFN X113 hx hZ hown (hw _ (List.mem_of_getElem? (i := 28) rfl)) Via.refl eh113 F107 F106 (Or.inr ⟨(hw _ (List.mem_of_getElem? (i := 24) rfl)), rfl, hnm⟩) (hw _ (List.mem_of_getElem? (i := 9) rfl)) (ty := .byte) (v' := (.int (0 : Int32))) (by decide) rfl rfl (g := (mkF m 48 #[.val (.ref a1), .val (.ref a2), .val (.int (0 : Int32)), .val (.int (3 : Int32)), .val .null, .val (.ref b104r)] [(.int (0 : Int32)), (.ref a1)])) rfl rfl (hb hby d3_48)
  refine Go.step st114 ?_
  have N114 := Fr.snoc X114 N113 g_a1
  have F115 : Exa Z h114 a1 "java/lang/String" := (F106.wr W114)
  have F116 : Fld Z h114 a1 "java/lang/String" "coder" "B" (.int (0 : Int32)) := (F107.same W114)
  have F117 : Fld Z h114 a1 "java/lang/String" "value" "[B" u2 := (F108.other W114 (Or.inr (slot_ne (Or.inr (hw _ (List.mem_of_getElem? (i := 23) rfl))) (Or.inr (hw _ (List.mem_of_getElem? (i := 24) rfl))) (by decide) (t := (.array .byte)) (t' := .byte) (by decide) (by decide))))
  have F118 : Arv Z h114 a2 k2 .char (3 : Int32) [(.int c0), (.int c1), (.int c2)] (.int (0 : Int32)) := (F109.other W114 ne21)
  have F119 : Sta Z h114 "java/lang/String" "COMPACT_STRINGS" "Z" (.int cs) := (F110.wr W114)
  have F120 : Arv Z h114 b104r b104kr .byte (3 : Int32) [(.int (own_by c0)), (.int (own_by c1)), (.int (own_by c2))] (.int (0 : Int32)) := (P105.other W114 (Ne.symm ne_a1_b104r))
  have Z121 : n0 ≤ h114.size := (Nat.le_trans Z111 (Nat.le_of_eq W114.size.symm))
  have K122 : Keep h0 h114 [a1] := (K112.wr W114 (Or.inl (List.mem_of_getElem? (i := 0) rfl)))
  show Go p.tables e below _ (T114.setTop (mkF m 51 #[.val (.ref a1), .val (.ref a2), .val (.int (0 : Int32)), .val (.int (3 : Int32)), .val .null, .val (.ref b104r)] []))
  refine Go.step (fun _ kt => XS.aloadN X114.here hx rfl (hb hby d3_51) rfl rfl (XS.aload X114.here hx rfl (hb hby d3_52) rfl rfl kt)) ?_
  show Go p.tables e below _ (T114.setTop (mkF m 54 #[.val (.ref a1), .val (.ref a2), .val (.int (0 : Int32)), .val (.int (3 : Int32)), .val .null, .val (.ref b104r)] [(.ref b104r), (.ref a1)]))
  obtain ⟨T123, h123, X123, e123, W123, st123⟩ := putF X114 hx hZ hown (host := "") (Or.inl (hw _ (List.mem_of_getElem? (i := 27) rfl))) Via.refl e114 F117 F115 (Or.inr ⟨(hw _ (List.mem_of_getElem? (i := 23) rfl)), rfl, hnm⟩) (hw _ (List.mem_of_getElem? (i := 9) rfl)) (ty := (.array .byte)) (by decide) rfl rfl (g := (mkF m 54 #[.val (.ref a1), .val (.ref a2), .val (.int (0 : Int32)), .val (.int (3 : Int32)), .val .null, .val (.ref b104r)] [(.ref b104r), (.ref a1)])) rfl rfl (hb hby d3_54)
  refine Go.step st123 ?_
  have N123 := Fr.snoc X123 N114 g_a1
  have F124 : Exa Z h123 a1 "java/lang/String" := (F115.wr W123)
  have F125 : Fld Z h123 a1 "java/lang/String" "coder" "B" (.int (0 : Int32)) := (F116.other W123 (Or.inr (slot_ne (Or.inr (hw _ (List.mem_of_getElem? (i := 24) rfl))) (Or.inr (hw _ (List.mem_of_getElem? (i := 23) rfl))) (by decide) (t := .byte) (t' := (.array .byte)) (by decide) (by decide))))
  have F126 : Fld Z h123 a1 "java/lang/String" "value" "[B" (.ref b104r) := (F117.same W123)
  have F127 : Arv Z h123 a2 k2 .char (3 : Int32) [(.int c0), (.int c1), (.int c2)] (.int (0 : Int32)) := (F118.other W123 ne21)
  have F128 : Sta Z h123 "java/lang/String" "COMPACT_STRINGS" "Z" (.int cs) := (F119.wr W123)
  have F129 : Arv Z h123 b104r b104kr .byte (3 : Int32) [(.int (own_by c0)), (.int (own_by c1)), (.int (own_by c2))] (.int (0 : Int32)) := (F120.other W123 (Ne.symm ne_a1_b104r))
  have Z130 : n0 ≤ h123.size := (Nat.le_trans Z121 (Nat.le_of_eq W123.size.symm))
  have K131 : Keep h0 h123 [a1] := (K122.wr W123 (Or.inl (List.mem_of_getElem? (i := 0) rfl)))
  show Go p.tables e below _ (T123.setTop (mkF m 57 #[.val (.ref a1), .val (.ref a2), .val (.int (0 : Int32)), .val (.int (3 : Int32)), .val .null, .val (.ref b104r)] []))
  obtain ⟨fs, hr, hrun, hended, hW, hsame⟩ := X123.leave (v := none) (fun _ => rfl)
  refine ⟨_, _, X123.returnOut hx Bd.returns (hb hby d3_57) hr, hrun, hended, _, _, rfl, ?_, ⟨_, rfl⟩, hW, hsame.mono (by decide) (by decide)⟩
  show Qrmct4_3 Z a1 a2 u1 u2 k2 cs c0 c1 c2 h0 n0 _ T123.heap _
  rw [e123]
  refine ⟨b104r, b104kr, ?_, N123, K131, F124, F125, F126, F129⟩
  rfl
theorem ef_rmct1_3 (m : MethodId) (a1 : Addr) (a2 : Addr) (u1 : Value) (u2 : Value) (k2 : ClassId) (cs : Int32) (c0 : Int32) (c1 : Int32) (c2 : Int32) : entryFrame m #[(.ref a1), (.ref a2)] 2 = mkF m 0 #[.val (.ref a1), .val (.ref a2)] [] := by first | (simp [entryFrame, mkF, argsToLocals, Value.category]; done) | rfl
def Qrmct1_3 (Z : State) (a1 : Addr) (a2 : Addr) (u1 : Value) (u2 : Value) (k2 : ClassId) (cs : Int32) (c0 : Int32) (c1 : Int32) (c2 : Int32) (h0 : Heap) (n0 : Nat) (v : Option Value) (h : Heap) (L : List Loc) : Prop := ∃ b : Addr, ∃ kb : ClassId, v = none ∧ Fr n0 L ∧ Keep h0 h [a1] ∧ Exa Z h a1 "java/lang/String" ∧ Fld Z h a1 "java/lang/String" "coder" "B" (.int (0 : Int32)) ∧ Fld Z h a1 "java/lang/String" "value" "[B" (.ref b) ∧ Arv Z h b kb .byte (3 : Int32) [(.int (own_by c0)), (.int (own_by c1)), (.int (own_by c2))] (.int (0 : Int32))
set_option maxRecDepth 65536 in
set_option maxHeartbeats 40000000 in
theorem rmct1_3 (l : Launch) (Z : State) (a0 : Array Value) (hw : ∀ d ∈ tables_1, d.before a0 Z = true) (ws : List Jvm.Cond) (a1 : Addr) (a2 : Addr) (u1 : Value) (u2 : Value) (k2 : ClassId) (cs : Int32) (c0 : Int32) (c1 : Int32) (c2 : Int32) (h0 : Heap) (n0 : Nat) (Z0 : n0 ≤ h0.size) (E1 : Exa Z h0 a1 "java/lang/String") (Fc : Fld Z h0 a1 "java/lang/String" "coder" "B" u1) (Fv : Fld Z h0 a1 "java/lang/String" "value" "[B" u2) (V2 : Arv Z h0 a2 k2 .char (3 : Int32) [(.int c0), (.int c1), (.int c2)] (.int (0 : Int32))) (S_cs : Sta Z h0 "java/lang/String" "COMPACT_STRINGS" "Z" (.int cs)) (g_a1 : n0 ≤ a1) (hcs : ¬ cs = 0) (ne21 : a2 ≠ a1) (hb0 : ¬ c0 < 0 ∧ ¬ (255 : Int32) < c0) (hb1 : ¬ c1 < 0 ∧ ¬ (255 : Int32) < c1) (hb2 : ¬ c2 < 0 ∧ ¬ (255 : Int32) < c2) :
    MetFree l (⟨"java/lang/String", "<init>", "([C)V"⟩ : MethodName) (head1 (Jvm.Cond.code (⟨"java/lang/String", "<init>", "([C)V"⟩ : MethodName) jdk_42_method_3_code 2 none :: ws) ({ frames := 3, cells := 1, slots := 3, locals := 52 } : Room)) (fun a U => a = #[(.ref a1), (.ref a2)] ∧ Z.Warmed39 U.vm ∧ U.heap = h0) (fun _ _ _ _ _ => True) (fun _ U o U' => ∃ v L, o = .returned v ∧ Qrmct1_3 Z a1 a2 u1 u2 k2 cs c0 c1 c2 h0 n0 v U'.heap L ∧ FrameEnd U o U' L ({ frames := 3, cells := 1, slots := 3, locals := 52 } : Room).cells ({ frames := 3, cells := 1, slots := 3, locals := 52 } : Room).slots) := by
  refine MetFree.of_bodySF (plainFor_of_name pn_0) hisR ?_
  intro p e s m args below meth c s₁ Bd hml0 hP hK
  obtain ⟨rfl, hZ, hh⟩ := hP
  have hx := Bd.exec
  have hby := Bd.bytes
  have hml : c.maxLocals = 2 := hml0
  have hown : s.vm.findClass "java/lang/String" = some m.cls := findClass_of_methodNamed Bd.named
  have hnm := (name_of_methodNamed Bd.named Bd.method).1
  have X0 : Stand p l e ({ frames := 3, cells := 1, slots := 3, locals := 52 } : Room) s m #[(.ref a1), (.ref a2)] below meth c s₁ [] 0 0 := Stand.of_body Bd
  have e0 : s₁.heap = h0 := by rw [← hh, Bd.state]; rfl
  have N0 := Fr.nil n0
  show Go p.tables e below (fun o U' => ∃ v L, o = .returned v ∧ Qrmct1_3 Z a1 a2 u1 u2 k2 cs c0 c1 c2 h0 n0 v U'.heap L ∧ FrameEnd s o U' L ({ frames := 3, cells := 1, slots := 3, locals := 52 } : Room).cells ({ frames := 3, cells := 1, slots := 3, locals := 52 } : Room).slots) _
  refine Go.step (fun t kt => castTop (ef_rmct1_3 m a1 a2 u1 u2 k2 cs c0 c1 c2) kt) ?_
  show Go p.tables e below _ (s₁.setTop (mkF m 0 #[.val (.ref a1), .val (.ref a2)] []))
  have K101 : Keep h0 h0 [a1] := (Keep.refl h0 [a1])
  refine Go.step (fun _ kt => XS.aloadN X0.here hx rfl (hb hby d2_0) rfl rfl (XS.aloadN X0.here hx rfl (hb hby d2_1) rfl rfl (XS.iconst X0.here hx rfl (hb hby d2_2) (XS.aloadN X0.here hx rfl (hb hby d2_3) rfl rfl kt)))) ?_
  show Go p.tables e below _ (s₁.setTop (mkF m 4 #[.val (.ref a1), .val (.ref a2)] [(.ref a2), (.int (0 : Int32)), (.ref a2), (.ref a1)]))
  obtain ⟨cl102, Ar102, qa102, Sa102, Na102, Ha102, Ga102⟩ := (id V2)
  refine Go.step (X0.arraylength hx (by rw [e0]; exact Ar102.1) (State.isArrayOf_alike hZ.alike Ar102.2.1) (g := (mkF m 4 #[.val (.ref a1), .val (.ref a2)] [(.ref a2), (.int (0 : Int32)), (.ref a2), (.ref a1)])) rfl rfl (hb hby d2_4)) ?_
  rw [len_of Sa102 Na102]
  show Go p.tables e below _ (s₁.setTop (mkF m 5 #[.val (.ref a1), .val (.ref a2)] [(.int (3 : Int32)), (.int (0 : Int32)), (.ref a2), (.ref a1)]))
  refine Go.step (fun _ kt => XS.aconstNull X0.here hx rfl (hb hby d2_5) kt) ?_
  show Go p.tables e below _ (s₁.setTop (mkF m 6 #[.val (.ref a1), .val (.ref a2)] [.null, (.int (3 : Int32)), (.int (0 : Int32)), (.ref a2), (.ref a1)]))
  obtain ⟨_, _, ⟨T103, L103, k103, n103⟩, -, X103, ⟨Lc103, hQ103, l103, y103, z103⟩, st103⟩ := X0.specialBack hx (y := (⟨"java/lang/String", "<init>", "([CIILjava/lang/Void;)V"⟩ : MethodName)) rfl hown (mvT hZ (hw _ (List.mem_of_getElem? (i := 14) rfl))) (mvT hZ (hw _ (List.mem_of_getElem? (i := 15) rfl))) (mvT hZ (hw _ (List.mem_of_getElem? (i := 17) rfl))) (by decide) (backOf (W := 0) (rmct4_3 l Z a0 hw [] a1 a2 u1 u2 k2 cs c0 c1 c2 h0 n0 Z0 E1 Fc Fv V2 S_cs g_a1 hcs ne21 hb0 hb1 hb2) hZ (hw _ (List.mem_of_getElem? (i := 17) rfl)) (hw _ (List.mem_of_getElem? (i := 10) rfl)) (by decide) (by decide)) (g := (mkF m 6 #[.val (.ref a1), .val (.ref a2)] [.null, (.int (3 : Int32)), (.int (0 : Int32)), (.ref a2), (.ref a1)])) rfl (by rw [hml]; rfl) (Steps.refl _) (a := a1) (argsL := [(.ref a2), (.int (0 : Int32)), (.int (3 : Int32)), .null]) (rest := []) (lenOf pd_0 rfl) rfl (by show 2 * 0 + _ ≤ _; exact Nat.le_of_eq rfl) (hb hby d2_6) (fun _ _ => ⟨rfl, e0, (by decide : 0 + 1 ≤ _), (by decide : 0 + 3 ≤ _)⟩)
  dsimp only [Pt.U, Pt.locs, Pt.cells, Pt.slots] at X103 l103 y103 z103 st103 hQ103
  subst l103 y103 z103
  obtain ⟨b103b, b103kb, rfl, N103q, Kq103, P104, P105, P106, P107⟩ := hQ103
  have F108 : Exa Z T103.heap a1 "java/lang/String" := (E1.keep Kq103)
  have F109 : Arv Z T103.heap a2 k2 .char (3 : Int32) [(.int c0), (.int c1), (.int c2)] (.int (0 : Int32)) := (V2.keep Kq103 (fun q => ne21 (List.mem_singleton.mp q)))
  have Z110 : n0 ≤ T103.heap.size := (Nat.le_trans Z0 Kq103.1)
  have K111 : Keep h0 T103.heap [a1] := (K101.trans Kq103 (by intro x hx; cases List.mem_singleton.mp hx; exact (Or.inl (List.mem_of_getElem? (i := 0) rfl))))
  have N103 := Fr.app N0 N103q
  refine Go.step (fun _ kt => st103.trans kt) ?_
  show Go p.tables e below _ (T103.setTop (mkF m 9 #[.val (.ref a1), .val (.ref a2)] []))
  obtain ⟨fs, hr, hrun, hended, hW, hsame⟩ := X103.leave (v := none) (fun _ => rfl)
  refine ⟨_, _, X103.returnOut hx Bd.returns (hb hby d2_9) hr, hrun, hended, _, _, rfl, ?_, ⟨_, rfl⟩, hW, hsame.mono (by decide) (by decide)⟩
  show Qrmct1_3 Z a1 a2 u1 u2 k2 cs c0 c1 c2 h0 n0 _ T103.heap _
  refine ⟨b103b, b103kb, ?_, N103, K111, P104, P105, P106, P107⟩
  rfl
theorem pn_2 : plainName "com/example/inchworm/inchworm/crawler/PageImageEqualsPinLaw" = true := by first | (simp [plainName, overriddenIn]; done) | decide +kernel
theorem d1_0 : decode method_2_code 0 = .ok (.iload_n 0, 1) := by decide +kernel
theorem d1_1 : decode method_2_code 1 = .ok (.iconst 3, 1) := by decide +kernel
theorem d1_2 : decode method_2_code 2 = .ok (.iand, 1) := by decide +kernel
theorem d1_3 : decode method_2_code 3 = .ok (.istore_n 1, 1) := by decide +kernel
theorem d1_4 : decode method_2_code 4 = .ok (.iload_n 1, 1) := by decide +kernel
theorem d1_5 : decode method_2_code 5 = .ok (.newarray .char, 2) := by decide +kernel
theorem d1_7 : decode method_2_code 7 = .ok (.astore_n 2, 1) := by decide +kernel
theorem d1_8 : decode method_2_code 8 = .ok (.iload_n 1, 1) := by decide +kernel
theorem d1_9 : decode method_2_code 9 = .ok (.ifCond .le 15, 3) := by decide +kernel
theorem d1_12 : decode method_2_code 12 = .ok (.aload_n 2, 1) := by decide +kernel
theorem d1_13 : decode method_2_code 13 = .ok (.iconst 0, 1) := by decide +kernel
theorem d1_14 : decode method_2_code 14 = .ok (.iload_n 0, 1) := by decide +kernel
theorem d1_15 : decode method_2_code 15 = .ok (.bipush 8, 2) := by decide +kernel
theorem d1_17 : decode method_2_code 17 = .ok (.iushr, 1) := by decide +kernel
theorem d1_18 : decode method_2_code 18 = .ok (.sipush 255, 3) := by decide +kernel
theorem d1_21 : decode method_2_code 21 = .ok (.iand, 1) := by decide +kernel
theorem d1_22 : decode method_2_code 22 = .ok (.i2c, 1) := by decide +kernel
theorem d1_23 : decode method_2_code 23 = .ok (.castore, 1) := by decide +kernel
theorem d1_24 : decode method_2_code 24 = .ok (.iload_n 1, 1) := by decide +kernel
theorem d1_25 : decode method_2_code 25 = .ok (.iconst 1, 1) := by decide +kernel
theorem d1_26 : decode method_2_code 26 = .ok (.if_icmp .le 15, 3) := by decide +kernel
theorem d1_29 : decode method_2_code 29 = .ok (.aload_n 2, 1) := by decide +kernel
theorem d1_30 : decode method_2_code 30 = .ok (.iconst 1, 1) := by decide +kernel
theorem d1_31 : decode method_2_code 31 = .ok (.iload_n 0, 1) := by decide +kernel
theorem d1_32 : decode method_2_code 32 = .ok (.bipush 16, 2) := by decide +kernel
theorem d1_34 : decode method_2_code 34 = .ok (.iushr, 1) := by decide +kernel
theorem d1_35 : decode method_2_code 35 = .ok (.sipush 255, 3) := by decide +kernel
theorem d1_38 : decode method_2_code 38 = .ok (.iand, 1) := by decide +kernel
theorem d1_39 : decode method_2_code 39 = .ok (.i2c, 1) := by decide +kernel
theorem d1_40 : decode method_2_code 40 = .ok (.castore, 1) := by decide +kernel
theorem d1_41 : decode method_2_code 41 = .ok (.iload_n 1, 1) := by decide +kernel
theorem d1_42 : decode method_2_code 42 = .ok (.iconst 2, 1) := by decide +kernel
theorem d1_43 : decode method_2_code 43 = .ok (.if_icmp .le 15, 3) := by decide +kernel
theorem d1_46 : decode method_2_code 46 = .ok (.aload_n 2, 1) := by decide +kernel
theorem d1_47 : decode method_2_code 47 = .ok (.iconst 2, 1) := by decide +kernel
theorem d1_48 : decode method_2_code 48 = .ok (.iload_n 0, 1) := by decide +kernel
theorem d1_49 : decode method_2_code 49 = .ok (.bipush 24, 2) := by decide +kernel
theorem d1_51 : decode method_2_code 51 = .ok (.iushr, 1) := by decide +kernel
theorem d1_52 : decode method_2_code 52 = .ok (.sipush 255, 3) := by decide +kernel
theorem d1_55 : decode method_2_code 55 = .ok (.iand, 1) := by decide +kernel
theorem d1_56 : decode method_2_code 56 = .ok (.i2c, 1) := by decide +kernel
theorem d1_57 : decode method_2_code 57 = .ok (.castore, 1) := by decide +kernel
theorem d1_58 : decode method_2_code 58 = .ok (.new 7, 3) := by decide +kernel
theorem d1_61 : decode method_2_code 61 = .ok (.dup, 1) := by decide +kernel
theorem d1_62 : decode method_2_code 62 = .ok (.aload_n 2, 1) := by decide +kernel
theorem d1_63 : decode method_2_code 63 = .ok (.invokespecial 9, 3) := by decide +kernel
theorem d1_66 : decode method_2_code 66 = .ok (.areturn, 1) := by decide +kernel
theorem ef_rm1 (m : MethodId) (p1 : Int32) (cs : Int32) : entryFrame m #[(.int p1)] 3 = mkF m 0 #[.val (.int p1), .unset, .unset] [] := by first | (simp [entryFrame, mkF, argsToLocals, Value.category]; done) | rfl
def Qrm1 (Z : State) (p1 : Int32) (cs : Int32) (h0 : Heap) (n0 : Nat) (v : Option Value) (h : Heap) (L : List Loc) : Prop := ∃ r : Addr, ∃ b : Addr, ∃ kb : ClassId, v = some (.ref r) ∧ Fr n0 L ∧ Keep h0 h [] ∧ Exa Z h r "java/lang/String" ∧ Fld Z h r "java/lang/String" "coder" "B" (.int (0 : Int32)) ∧ Fld Z h r "java/lang/String" "value" "[B" (.ref b) ∧ Arv Z h b kb .byte (own_n p1) [(.int (own_by (own_x0 p1))), (.int (own_by (own_x1 p1))), (.int (own_by (own_x2 p1)))] (.int (0 : Int32)) ∧ n0 ≤ r ∧ h0.size ≤ r
set_option maxRecDepth 65536 in
set_option maxHeartbeats 40000000 in
theorem rm1 (l : Launch) (Z : State) (a0 : Array Value) (hw : ∀ d ∈ tables_1, d.before a0 Z = true) (ws : List Jvm.Cond) (p1 : Int32) (cs : Int32) (h0 : Heap) (n0 : Nat) (Z0 : n0 ≤ h0.size) (S_cs : Sta Z h0 "java/lang/String" "COMPACT_STRINGS" "Z" (.int cs)) (hcs : ¬ cs = 0) :
    MetFree l (⟨"com/example/inchworm/inchworm/crawler/PageImageEqualsPinLaw", "str", "(I)Ljava/lang/String;"⟩ : MethodName) (head1 (Jvm.Cond.code (⟨"com/example/inchworm/inchworm/crawler/PageImageEqualsPinLaw", "str", "(I)Ljava/lang/String;"⟩ : MethodName) method_2_code 3 (some (.object "java/lang/String")) :: ws) ({ frames := 4, cells := 6, slots := 12, locals := 66 } : Room)) (fun a U => a = #[(.int p1)] ∧ Z.Warmed39 U.vm ∧ U.heap = h0 ∧ CHv Z own_EL U.vm h0) (fun _ _ _ _ _ => True) (fun _ U o U' => ∃ v L, o = .returned v ∧ Qrm1 Z p1 cs h0 n0 v U'.heap L ∧ CHr Z own_EL U.vm U.heap U'.vm U'.heap ∧ ReturnedEndW U o U' L ({ frames := 4, cells := 6, slots := 12, locals := 66 } : Room).cells ({ frames := 4, cells := 6, slots := 12, locals := 66 } : Room).slots) := by
  refine MetFree.of_bodySF (plainFor_of_name pn_2) hisR ?_
  intro p e s m args below meth c s₁ Bd hml0 hP hK
  obtain ⟨rfl, hZ, hh, hCH⟩ := hP
  have hx := Bd.exec
  have hby := Bd.bytes
  have hml : c.maxLocals = 3 := hml0
  have hown : s.vm.findClass "com/example/inchworm/inchworm/crawler/PageImageEqualsPinLaw" = some m.cls := findClass_of_methodNamed Bd.named
  have hnm := (name_of_methodNamed Bd.named Bd.method).1
  have X0 : Stand p l e ({ frames := 4, cells := 6, slots := 12, locals := 66 } : Room) (s.setVm s.vm) m #[(.int p1)] below meth c s₁ [] 0 0 := Stand.of_body Bd
  have e0 : s₁.heap = h0 := by rw [← hh, Bd.state]; rfl
  have N0 := Fr.nil n0
  have hS0 : s.Since s.vm s.heap.size := (State.WarmedH.refl s).since _
  have hk0 : s.heap.size ≤ h0.size := Nat.le_of_eq (congrArg Array.size hh)
  have C0 := CHr.refl hCH
  show Go p.tables e below (fun o U' => ∃ v L, o = .returned v ∧ Qrm1 Z p1 cs h0 n0 v U'.heap L ∧ CHr Z own_EL s.vm s.heap U'.vm U'.heap ∧ ReturnedEndW s o U' L ({ frames := 4, cells := 6, slots := 12, locals := 66 } : Room).cells ({ frames := 4, cells := 6, slots := 12, locals := 66 } : Room).slots) _
  refine Go.step (fun t kt => castTop (ef_rm1 m p1 cs) kt) ?_
  show Go p.tables e below _ (s₁.setTop (mkF m 0 #[.val (.int p1), .unset, .unset] []))
  have K101 : Keep h0 h0 [] := (Keep.refl h0 [])
  refine Go.step (fun _ kt => XS.iloadN X0.here hx rfl (hb hby d1_0) rfl (XS.iconst X0.here hx rfl (hb hby d1_1) (XS.iand X0.here hx rfl (hb hby d1_2) rfl (XS.istoreN X0.here hx rfl (hb hby d1_3) rfl (l' := #[.val (.int p1), .val (.int (p1 &&& (3 : Int32))), .unset]) rfl kt)))) ?_
  show Go p.tables e below _ (s₁.setTop (mkF m 4 #[.val (.int p1), .val (.int (p1 &&& (3 : Int32))), .unset] []))
  rcases own_and3 p1 with hk | hk | hk | hk
  · rw [hk]
    show Go p.tables e below _ (s₁.setTop (mkF m 4 #[.val (.int p1), .val (.int (0 : Int32)), .unset] []))
    refine Go.step (fun _ kt => XS.iloadN X0.here hx rfl (hb hby d1_4) rfl kt) ?_
    show Go p.tables e below _ (s₁.setTop (mkF m 5 #[.val (.int p1), .val (.int (0 : Int32)), .unset] [(.int (0 : Int32))]))
    obtain ⟨T102, h102, k102, X102, e102, E102, A102, st102⟩ := newP X0 hx hZ (hw _ (List.mem_of_getElem? (i := 7) rfl)) e0 (g := (mkF m 5 #[.val (.int p1), .val (.int (0 : Int32)), .unset] [(.int (0 : Int32))])) rfl (hb hby d1_5) rfl (by decide) (cap := 0) (by decide) (by decide) (by decide) (by decide)
    obtain ⟨b102, g102⟩ : ∃ z, z = h0.size := ⟨_, rfl⟩
    rw [← g102] at A102 st102
    refine Go.step st102 ?_
    have g_b102 : n0 ≤ b102 := Nat.le_trans Z0 (Nat.le_of_eq g102.symm)
    have sz_b102 : h0.size ≤ b102 := Nat.le_trans K101.1 (Nat.le_of_eq g102.symm)
    have F103 : Sta Z h102 "java/lang/String" "COMPACT_STRINGS" "Z" (.int cs) := (S_cs.ext E102)
    have Z104 : n0 ≤ h102.size := (Nat.le_trans Z0 E102.1)
    have hk105 : _ ≤ h102.size := (Nat.le_trans hk0 E102.1)
    have Sf106 := (Safe.ext E102 C0.1 (Safe.new (EL := own_EL) (Z := Z) (Nat.le_of_eq g102.symm)))
    have C107 := (C0.trans (CHr.ext E102 C0.1))
    have K108 : Keep h0 h102 [] := (K101.ext E102)
    have V109 : Arv Z h102 b102 k102 .char (0 : Int32) [] (.int (0 : Int32)) := Arv.new A102 (by decide)
    show Go p.tables e below _ (T102.setTop (mkF m 7 #[.val (.int p1), .val (.int (0 : Int32)), .unset] [(.ref b102)]))
    refine Go.step (fun _ kt => XS.astoreN X102.here hx rfl (hb hby d1_7) rfl rfl (l' := #[.val (.int p1), .val (.int (0 : Int32)), .val (.ref b102)]) rfl (XS.iloadN X102.here hx rfl (hb hby d1_8) rfl (XS.ifYes X102.here hx rfl (pc0 := 9) (pc' := 24) rfl (hb hby d1_9) rfl ((if0 _ _).trans (flt (by decide : ¬ ((0 : Int32) < (0 : Int32)))).2.2.2) (by decide) (by decide) (XS.iloadN X102.here hx rfl (hb hby d1_24) rfl (XS.iconst X102.here hx rfl (hb hby d1_25) (XS.icmpYes X102.here hx rfl (pc0 := 26) (pc' := 41) rfl (hb hby d1_26) rfl (flt (by decide : ¬ ((1 : Int32) < (0 : Int32)))).2.2.2 (by decide) (by decide) (XS.iloadN X102.here hx rfl (hb hby d1_41) rfl (XS.iconst X102.here hx rfl (hb hby d1_42) (XS.icmpYes X102.here hx rfl (pc0 := 43) (pc' := 58) rfl (hb hby d1_43) rfl (flt (by decide : ¬ ((2 : Int32) < (0 : Int32)))).2.2.2 (by decide) (by decide) kt))))))))) ?_
    show Go p.tables e below _ (T102.setTop (mkF m 58 #[.val (.int p1), .val (.int (0 : Int32)), .val (.ref b102)] []))
    obtain ⟨T110, h110, X110, e110, E110, A110, D110, -, st110⟩ := newO X102 hx hZ hown (hw _ (List.mem_of_getElem? (i := 8) rfl)) (hw _ (List.mem_of_getElem? (i := 9) rfl)) (hw _ (List.mem_of_getElem? (i := 10) rfl)) e102 (g := (mkF m 58 #[.val (.int p1), .val (.int (0 : Int32)), .val (.ref b102)] [])) rfl (hb hby d1_58) (by decide) (by decide)
    obtain ⟨b110, g110⟩ : ∃ z, z = h102.size := ⟨_, rfl⟩
    rw [← g110] at A110 D110 st110
    refine Go.step st110 ?_
    have ne_b102_b110 : b102 ≠ b110 := Nat.ne_of_lt (Nat.lt_of_lt_of_le V109.lt (Nat.le_of_eq g110.symm))
    have g_b110 : n0 ≤ b110 := Nat.le_trans Z104 (Nat.le_of_eq g110.symm)
    have sz_b110 : h0.size ≤ b110 := Nat.le_trans K108.1 (Nat.le_of_eq g110.symm)
    have F111 : Sta Z h110 "java/lang/String" "COMPACT_STRINGS" "Z" (.int cs) := (F103.ext E110)
    have F112 : Arv Z h110 b102 k102 .char (0 : Int32) [] (.int (0 : Int32)) := (V109.ext E110)
    have Z113 : n0 ≤ h110.size := (Nat.le_trans Z104 E110.1)
    have hk114 : _ ≤ h110.size := (Nat.le_trans hk105 E110.1)
    have Sf115 := (Safe.ext E110 C107.1 Sf106)
    have Sf116 := (Safe.ext E110 C107.1 (Safe.new (EL := own_EL) (Z := Z) (Nat.le_of_eq g110.symm)))
    have C117 := (C107.trans (CHr.ext E110 C107.1))
    have K118 : Keep h0 h110 [] := (K108.ext E110)
    have F119 : Fld Z h110 b110 "java/lang/String" "value" "[B" .null := D110 (Or.inr (hw _ (List.mem_of_getElem? (i := 23) rfl))) (ty := (.array .byte)) (by decide)
    have F120 : Fld Z h110 b110 "java/lang/String" "coder" "B" (.int (0 : Int32)) := D110 (Or.inr (hw _ (List.mem_of_getElem? (i := 24) rfl))) (ty := .byte) (by decide)
    show Go p.tables e below _ (T110.setTop (mkF m 61 #[.val (.int p1), .val (.int (0 : Int32)), .val (.ref b102)] [(.ref b110)]))
    refine Go.step (fun _ kt => XS.dup X110.here hx rfl (hb hby d1_61) rfl rfl (XS.aloadN X110.here hx rfl (hb hby d1_62) rfl rfl kt)) ?_
    show Go p.tables e below _ (T110.setTop (mkF m 63 #[.val (.int p1), .val (.int (0 : Int32)), .val (.ref b102)] [(.ref b102), (.ref b110), (.ref b110)]))
    obtain ⟨_, _, ⟨T121, L121, k121, n121⟩, -, X121, hSq121, hgq121, ⟨Lc121, hQ121, l121, y121, z121, Cq121⟩, st121⟩ := X110.specialBackS hx (y := (⟨"java/lang/String", "<init>", "([C)V"⟩ : MethodName)) rfl hown (mvT hZ (hw _ (List.mem_of_getElem? (i := 11) rfl))) (mvT hZ (hw _ (List.mem_of_getElem? (i := 12) rfl))) (mvT hZ (hw _ (List.mem_of_getElem? (i := 13) rfl))) (by decide) (backOfSHx (s := s) (EL := own_EL) (W := 1) (ws := [b110]) (rmct1_0 l Z a0 hw [] b110 b102 (.int (0 : Int32)) .null k102 cs h110 n0 Z113 A110 F120 F119 F112 F111 g_b110 hcs ne_b102_b110) hZ (hw _ (List.mem_of_getElem? (i := 13) rfl)) (hw _ (List.mem_of_getElem? (i := 10) rfl)) (by decide) (by decide) (own_EW hw) C117.1 (by intro x hx; cases List.mem_singleton.mp hx; exact ⟨A110.lt, Sf116⟩)) (g := (mkF m 63 #[.val (.int p1), .val (.int (0 : Int32)), .val (.ref b102)] [(.ref b102), (.ref b110), (.ref b110)])) rfl (by rw [hml]; rfl) (Steps.refl _) (a := b110) (argsL := [(.ref b102)]) (rest := [(.ref b110)]) (lenOf pd_1 rfl) rfl (by show 2 * 0 + _ ≤ _; exact Nat.le_of_eq rfl) (hb hby d1_63) (fun _ _ => ⟨rfl, e110, (by decide : 2 + 4 ≤ _), (by decide : 4 + 8 ≤ _)⟩)
    dsimp only [Pt.U, Pt.locs, Pt.cells, Pt.slots] at X121 l121 y121 z121 st121 hQ121 hSq121 hgq121
    subst l121 y121 z121
    obtain ⟨X121, hS121, hZ, hown⟩ := rebS hS0 (by rw [e110]; exact hk114) X121 hSq121 hgq121 hZ hown
    have hk121 : T121.heap.size ≤ T121.heap.size := Nat.le_refl _
    dsimp only [Pt.U] at Cq121
    obtain ⟨b121b, b121kb, rfl, N121q, Kq121, P122, P123, P124, P125⟩ := hQ121
    have F126 : Sta Z T121.heap "java/lang/String" "COMPACT_STRINGS" "Z" (.int cs) := (own_sta_keep F111 A110 Kq121)
    have F127 : Arv Z T121.heap b102 k102 .char (0 : Int32) [] (.int (0 : Int32)) := (F112.keep Kq121 (fun q => ne_b102_b110 (List.mem_singleton.mp q)))
    have F128 : Exa Z T121.heap b110 "java/lang/String" := (A110.keep Kq121)
    have Z129 : n0 ≤ T121.heap.size := (Nat.le_trans Z113 Kq121.1)
    have Sf130 := (Cq121.safe F112.lt Sf115)
    have Sf131 := (Cq121.safe A110.lt Sf116)
    have C132 := (C117.trans Cq121)
    have K133 : Keep h0 T121.heap [] := (K118.trans Kq121 (by intro x hx; cases List.mem_singleton.mp hx; exact (Or.inr sz_b110)))
    have N121 := Fr.app N0 N121q
    refine Go.step (fun _ kt => st121.trans kt) ?_
    show Go p.tables e below _ (T121.setTop (mkF m 66 #[.val (.int p1), .val (.int (0 : Int32)), .val (.ref b102)] [(.ref b110)]))
    have Vn134 : Arv Z T121.heap b121b b121kb .byte (own_n p1) [(.int (own_by (own_x0 p1))), (.int (own_by (own_x1 p1))), (.int (own_by (own_x2 p1)))] (.int (0 : Int32)) := by
      have e0 : own_n p1 = (0 : Int32) := hk
      rw [e0]
      refine own_arv_more P125 (fun i hi => ?_)
      have hi' : i < 0 := hi
      exact absurd hi' (Nat.not_lt_zero _)
    obtain ⟨fs, hr, hrun, hended, hRW⟩ := X121.leaveW hS121 hk121 (v := some (.ref b110)) (fun h => by rw [Bd.returns] at h; cases h)
    refine ⟨_, _, retOut X121 hx Bd.returns rfl (Or.inr (Or.inr (Or.inr (Or.inr ⟨rfl, rfl, rfl⟩)))) (hb hby d1_66) hr, hrun, hended, _, _, rfl, ?_, (by have q := C132.trans (CHv.at X121 hZ (own_EW hw) C132.1); rw [hh]; exact q), hRW.1, hRW.2.1, hRW.2.2.1, hRW.2.2.2.mono (by decide) (by decide)⟩
    show Qrm1 Z p1 cs h0 n0 _ T121.heap _
    refine ⟨b110, b121b, b121kb, ?_, N121, K133, P122, P123, P124, Vn134, g_b110, sz_b110⟩
    rfl
  · rw [hk]
    show Go p.tables e below _ (s₁.setTop (mkF m 4 #[.val (.int p1), .val (.int (1 : Int32)), .unset] []))
    refine Go.step (fun _ kt => XS.iloadN X0.here hx rfl (hb hby d1_4) rfl kt) ?_
    show Go p.tables e below _ (s₁.setTop (mkF m 5 #[.val (.int p1), .val (.int (1 : Int32)), .unset] [(.int (1 : Int32))]))
    obtain ⟨T135, h135, k135, X135, e135, E135, A135, st135⟩ := newP X0 hx hZ (hw _ (List.mem_of_getElem? (i := 7) rfl)) e0 (g := (mkF m 5 #[.val (.int p1), .val (.int (1 : Int32)), .unset] [(.int (1 : Int32))])) rfl (hb hby d1_5) rfl (by decide) (cap := 1) (by decide) (by decide) (by decide) (by decide)
    obtain ⟨b135, g135⟩ : ∃ z, z = h0.size := ⟨_, rfl⟩
    rw [← g135] at A135 st135
    refine Go.step st135 ?_
    have g_b135 : n0 ≤ b135 := Nat.le_trans Z0 (Nat.le_of_eq g135.symm)
    have sz_b135 : h0.size ≤ b135 := Nat.le_trans K101.1 (Nat.le_of_eq g135.symm)
    have F136 : Sta Z h135 "java/lang/String" "COMPACT_STRINGS" "Z" (.int cs) := (S_cs.ext E135)
    have Z137 : n0 ≤ h135.size := (Nat.le_trans Z0 E135.1)
    have hk138 : _ ≤ h135.size := (Nat.le_trans hk0 E135.1)
    have Sf139 := (Safe.ext E135 C0.1 (Safe.new (EL := own_EL) (Z := Z) (Nat.le_of_eq g135.symm)))
    have C140 := (C0.trans (CHr.ext E135 C0.1))
    have K141 : Keep h0 h135 [] := (K101.ext E135)
    have V142 : Arv Z h135 b135 k135 .char (1 : Int32) [(.int (0 : Int32))] (.int (0 : Int32)) := (Arv.new A135 (by decide)).pad (pad_rep [] (.int (0 : Int32)) 1)
    show Go p.tables e below _ (T135.setTop (mkF m 7 #[.val (.int p1), .val (.int (1 : Int32)), .unset] [(.ref b135)]))
    refine Go.step (fun _ kt => XS.astoreN X135.here hx rfl (hb hby d1_7) rfl rfl (l' := #[.val (.int p1), .val (.int (1 : Int32)), .val (.ref b135)]) rfl (XS.iloadN X135.here hx rfl (hb hby d1_8) rfl (XS.ifNo X135.here hx rfl (hb hby d1_9) rfl ((if0 _ _).trans (tlt (by decide : (0 : Int32) < (1 : Int32))).2.2.2) (XS.aloadN X135.here hx rfl (hb hby d1_12) rfl rfl (XS.iconst X135.here hx rfl (hb hby d1_13) (XS.iloadN X135.here hx rfl (hb hby d1_14) rfl (XS.bipush X135.here hx rfl (hb hby d1_15) (XS.iushr X135.here hx rfl (hb hby d1_17) rfl (XS.sipush X135.here hx rfl (hb hby d1_18) (XS.iand X135.here hx rfl (hb hby d1_21) rfl kt)))))))))) ?_
    show Go p.tables e below _ (T135.setTop (mkF m 22 #[.val (.int p1), .val (.int (1 : Int32)), .val (.ref b135)] [(.int (((p1.toUInt32 >>> ((8 : Int32) &&& 31).toUInt32).toInt32) &&& (255 : Int32))), (.int (0 : Int32)), (.ref b135)]))
    have q143 : (((p1.toUInt32 >>> ((8 : Int32) &&& 31).toUInt32).toInt32) &&& (255 : Int32)) = (own_x0 p1) := rfl
    rw [q143]
    show Go p.tables e below _ (T135.setTop (mkF m 22 #[.val (.int p1), .val (.int (1 : Int32)), .val (.ref b135)] [(.int (own_x0 p1)), (.int (0 : Int32)), (.ref b135)]))
    refine Go.step (fun _ kt => XS.i2c X135.here hx rfl (hb hby d1_22) rfl kt) ?_
    show Go p.tables e below _ (T135.setTop (mkF m 23 #[.val (.int p1), .val (.int (1 : Int32)), .val (.ref b135)] [(.int ((own_x0 p1).toUInt32.toUInt16.toUInt32.toInt32)), (.int (0 : Int32)), (.ref b135)]))
    have q144 : ((own_x0 p1).toUInt32.toUInt16.toUInt32.toInt32) = (own_x0 p1) := own_c _ (own_r0 p1)
    rw [q144]
    show Go p.tables e below _ (T135.setTop (mkF m 23 #[.val (.int p1), .val (.int (1 : Int32)), .val (.ref b135)] [(.int (own_x0 p1)), (.int (0 : Int32)), (.ref b135)]))
    obtain ⟨cl145, Ar145, qa145, Sa145, Na145, Ha145, Ga145⟩ := (id V142)
    have hin145 : ¬ ((0 : Int32) < 0 ∨ cl145.slots.size ≤ ((0 : Int32)).toNatClampNeg) := inb_of Sa145 ⟨by decide, by decide⟩
    obtain ⟨T145, h145, X145, e145, W145, st145⟩ := stC X135 hx hZ e135 Ar145 (j := (0 : Int32)) hin145 (g := (mkF m 23 #[.val (.int p1), .val (.int (1 : Int32)), .val (.ref b135)] [(.int (own_x0 p1)), (.int (0 : Int32)), (.ref b135)])) rfl rfl (hb hby d1_23)
    refine Go.step st145 ?_
    have V146 := Arv.set Ar145 qa145 Sa145 Na145 Ha145 Ga145 (fits_nar_char _) W145 0 rfl (Nat.le_of_ble_eq_true rfl)
    have N145 := Fr.snoc X145 N0 g_b135
    have F147 : Sta Z h145 "java/lang/String" "COMPACT_STRINGS" "Z" (.int cs) := (F136.wr W145)
    have Z148 : n0 ≤ h145.size := (Nat.le_trans Z137 (Nat.le_of_eq W145.size.symm))
    have hk149 : _ ≤ h145.size := (Nat.le_trans hk138 (Nat.le_of_eq W145.size.symm))
    have Sf150 := (Safe.wr W145 (by obtain ⟨_, Ar_, _⟩ := V142; exact Safe.arr hZ.alike Ar_ (by decide)) C140.1 Sf139)
    have C151 := (C140.trans (CHr.wr W145 (by obtain ⟨_, Ar_, _⟩ := V142; exact Safe.arr hZ.alike Ar_ (by decide)) C140.1))
    have K152 : Keep h0 h145 [] := (K141.wr W145 (Or.inr sz_b135))
    show Go p.tables e below _ (T145.setTop (mkF m 24 #[.val (.int p1), .val (.int (1 : Int32)), .val (.ref b135)] []))
    have Vn153 : Arv Z h145 b135 k135 .char (1 : Int32) [(.int (own_x0 p1))] (.int (0 : Int32)) := by have q1 : nar .char (own_x0 p1) = own_x0 p1 := own_c _ (own_r0 p1); have q0 := V146; rw [q1] at q0; exact q0
    refine Go.step (fun _ kt => XS.iloadN X145.here hx rfl (hb hby d1_24) rfl (XS.iconst X145.here hx rfl (hb hby d1_25) (XS.icmpYes X145.here hx rfl (pc0 := 26) (pc' := 41) rfl (hb hby d1_26) rfl (flt (by decide : ¬ ((1 : Int32) < (1 : Int32)))).2.2.2 (by decide) (by decide) (XS.iloadN X145.here hx rfl (hb hby d1_41) rfl (XS.iconst X145.here hx rfl (hb hby d1_42) (XS.icmpYes X145.here hx rfl (pc0 := 43) (pc' := 58) rfl (hb hby d1_43) rfl (flt (by decide : ¬ ((2 : Int32) < (1 : Int32)))).2.2.2 (by decide) (by decide) kt)))))) ?_
    show Go p.tables e below _ (T145.setTop (mkF m 58 #[.val (.int p1), .val (.int (1 : Int32)), .val (.ref b135)] []))
    obtain ⟨T154, h154, X154, e154, E154, A154, D154, -, st154⟩ := newO X145 hx hZ hown (hw _ (List.mem_of_getElem? (i := 8) rfl)) (hw _ (List.mem_of_getElem? (i := 9) rfl)) (hw _ (List.mem_of_getElem? (i := 10) rfl)) e145 (g := (mkF m 58 #[.val (.int p1), .val (.int (1 : Int32)), .val (.ref b135)] [])) rfl (hb hby d1_58) (by decide) (by decide)
    obtain ⟨b154, g154⟩ : ∃ z, z = h145.size := ⟨_, rfl⟩
    rw [← g154] at A154 D154 st154
    refine Go.step st154 ?_
    have ne_b135_b154 : b135 ≠ b154 := Nat.ne_of_lt (Nat.lt_of_lt_of_le Vn153.lt (Nat.le_of_eq g154.symm))
    have g_b154 : n0 ≤ b154 := Nat.le_trans Z148 (Nat.le_of_eq g154.symm)
    have sz_b154 : h0.size ≤ b154 := Nat.le_trans K152.1 (Nat.le_of_eq g154.symm)
    have F155 : Sta Z h154 "java/lang/String" "COMPACT_STRINGS" "Z" (.int cs) := (F147.ext E154)
    have F156 : Arv Z h154 b135 k135 .char (1 : Int32) [(.int (own_x0 p1))] (.int (0 : Int32)) := (Vn153.ext E154)
    have Z157 : n0 ≤ h154.size := (Nat.le_trans Z148 E154.1)
    have hk158 : _ ≤ h154.size := (Nat.le_trans hk149 E154.1)
    have Sf159 := (Safe.ext E154 C151.1 Sf150)
    have Sf160 := (Safe.ext E154 C151.1 (Safe.new (EL := own_EL) (Z := Z) (Nat.le_of_eq g154.symm)))
    have C161 := (C151.trans (CHr.ext E154 C151.1))
    have K162 : Keep h0 h154 [] := (K152.ext E154)
    have F163 : Fld Z h154 b154 "java/lang/String" "value" "[B" .null := D154 (Or.inr (hw _ (List.mem_of_getElem? (i := 23) rfl))) (ty := (.array .byte)) (by decide)
    have F164 : Fld Z h154 b154 "java/lang/String" "coder" "B" (.int (0 : Int32)) := D154 (Or.inr (hw _ (List.mem_of_getElem? (i := 24) rfl))) (ty := .byte) (by decide)
    show Go p.tables e below _ (T154.setTop (mkF m 61 #[.val (.int p1), .val (.int (1 : Int32)), .val (.ref b135)] [(.ref b154)]))
    refine Go.step (fun _ kt => XS.dup X154.here hx rfl (hb hby d1_61) rfl rfl (XS.aloadN X154.here hx rfl (hb hby d1_62) rfl rfl kt)) ?_
    show Go p.tables e below _ (T154.setTop (mkF m 63 #[.val (.int p1), .val (.int (1 : Int32)), .val (.ref b135)] [(.ref b135), (.ref b154), (.ref b154)]))
    obtain ⟨_, _, ⟨T165, L165, k165, n165⟩, -, X165, ⟨Lc165, hQ165, l165, y165, z165⟩, st165⟩ := X154.specialBack hx (y := (⟨"java/lang/String", "<init>", "([C)V"⟩ : MethodName)) rfl hown (mvT hZ (hw _ (List.mem_of_getElem? (i := 11) rfl))) (mvT hZ (hw _ (List.mem_of_getElem? (i := 12) rfl))) (mvT hZ (hw _ (List.mem_of_getElem? (i := 13) rfl))) (by decide) (backOf (W := 1) (rmct1_1 l Z a0 hw [] b154 b135 (.int (0 : Int32)) .null k135 cs (own_x0 p1) h154 n0 Z157 A154 F164 F163 F156 F155 g_b154 hcs ne_b135_b154 (own_r0 p1)) hZ (hw _ (List.mem_of_getElem? (i := 13) rfl)) (hw _ (List.mem_of_getElem? (i := 10) rfl)) (by decide) (by decide)) (g := (mkF m 63 #[.val (.int p1), .val (.int (1 : Int32)), .val (.ref b135)] [(.ref b135), (.ref b154), (.ref b154)])) rfl (by rw [hml]; rfl) (Steps.refl _) (a := b154) (argsL := [(.ref b135)]) (rest := [(.ref b154)]) (lenOf pd_1 rfl) rfl (by show 2 * 0 + _ ≤ _; exact Nat.le_of_eq rfl) (hb hby d1_63) (fun _ _ => ⟨rfl, e154, (by decide : 2 + 1 ≤ _), (by decide : 5 + 1 ≤ _)⟩)
    dsimp only [Pt.U, Pt.locs, Pt.cells, Pt.slots] at X165 l165 y165 z165 st165 hQ165
    subst l165 y165 z165
    obtain ⟨b165b, b165kb, rfl, N165q, Kq165, P166, P167, P168, P169⟩ := hQ165
    have F170 : Sta Z T165.heap "java/lang/String" "COMPACT_STRINGS" "Z" (.int cs) := (own_sta_keep F155 A154 Kq165)
    have F171 : Arv Z T165.heap b135 k135 .char (1 : Int32) [(.int (own_x0 p1))] (.int (0 : Int32)) := (F156.keep Kq165 (fun q => ne_b135_b154 (List.mem_singleton.mp q)))
    have F172 : Exa Z T165.heap b154 "java/lang/String" := (A154.keep Kq165)
    have Z173 : n0 ≤ T165.heap.size := (Nat.le_trans Z157 Kq165.1)
    have hk174 : _ ≤ T165.heap.size := (Nat.le_trans hk158 Kq165.1)
    have Sf175 := (Safe.keep Kq165 (by intro x hx; cases List.mem_singleton.mp hx; exact Sf160) C161.1 Sf159)
    have Sf176 := (Safe.keep Kq165 (by intro x hx; cases List.mem_singleton.mp hx; exact Sf160) C161.1 Sf160)
    have C177 := (C161.trans (CHr.keep Kq165 (by intro x hx; cases List.mem_singleton.mp hx; exact Sf160) C161.1))
    have K178 : Keep h0 T165.heap [] := (K162.trans Kq165 (by intro x hx; cases List.mem_singleton.mp hx; exact (Or.inr sz_b154)))
    have N165 := Fr.app N145 N165q
    refine Go.step (fun _ kt => st165.trans kt) ?_
    show Go p.tables e below _ (T165.setTop (mkF m 66 #[.val (.int p1), .val (.int (1 : Int32)), .val (.ref b135)] [(.ref b154)]))
    have Vn179 : Arv Z T165.heap b165b b165kb .byte (own_n p1) [(.int (own_by (own_x0 p1))), (.int (own_by (own_x1 p1))), (.int (own_by (own_x2 p1)))] (.int (0 : Int32)) := by
      have e0 : own_n p1 = (1 : Int32) := hk
      rw [e0]
      refine own_arv_more P169 (fun i hi => ?_)
      have hi' : i < 1 := hi
      match i, hi' with
      | 0, _ => rfl
    obtain ⟨fs, hr, hrun, hended, hRW⟩ := X165.leaveW hS0 hk174 (v := some (.ref b154)) (fun h => by rw [Bd.returns] at h; cases h)
    refine ⟨_, _, retOut X165 hx Bd.returns rfl (Or.inr (Or.inr (Or.inr (Or.inr ⟨rfl, rfl, rfl⟩)))) (hb hby d1_66) hr, hrun, hended, _, _, rfl, ?_, (by have q := C177.trans (CHv.at X165 hZ (own_EW hw) C177.1); rw [hh]; exact q), hRW.1, hRW.2.1, hRW.2.2.1, hRW.2.2.2.mono (by decide) (by decide)⟩
    show Qrm1 Z p1 cs h0 n0 _ T165.heap _
    refine ⟨b154, b165b, b165kb, ?_, N165, K178, P166, P167, P168, Vn179, g_b154, sz_b154⟩
    rfl
  · rw [hk]
    show Go p.tables e below _ (s₁.setTop (mkF m 4 #[.val (.int p1), .val (.int (2 : Int32)), .unset] []))
    refine Go.step (fun _ kt => XS.iloadN X0.here hx rfl (hb hby d1_4) rfl kt) ?_
    show Go p.tables e below _ (s₁.setTop (mkF m 5 #[.val (.int p1), .val (.int (2 : Int32)), .unset] [(.int (2 : Int32))]))
    obtain ⟨T180, h180, k180, X180, e180, E180, A180, st180⟩ := newP X0 hx hZ (hw _ (List.mem_of_getElem? (i := 7) rfl)) e0 (g := (mkF m 5 #[.val (.int p1), .val (.int (2 : Int32)), .unset] [(.int (2 : Int32))])) rfl (hb hby d1_5) rfl (by decide) (cap := 2) (by decide) (by decide) (by decide) (by decide)
    obtain ⟨b180, g180⟩ : ∃ z, z = h0.size := ⟨_, rfl⟩
    rw [← g180] at A180 st180
    refine Go.step st180 ?_
    have g_b180 : n0 ≤ b180 := Nat.le_trans Z0 (Nat.le_of_eq g180.symm)
    have sz_b180 : h0.size ≤ b180 := Nat.le_trans K101.1 (Nat.le_of_eq g180.symm)
    have F181 : Sta Z h180 "java/lang/String" "COMPACT_STRINGS" "Z" (.int cs) := (S_cs.ext E180)
    have Z182 : n0 ≤ h180.size := (Nat.le_trans Z0 E180.1)
    have hk183 : _ ≤ h180.size := (Nat.le_trans hk0 E180.1)
    have Sf184 := (Safe.ext E180 C0.1 (Safe.new (EL := own_EL) (Z := Z) (Nat.le_of_eq g180.symm)))
    have C185 := (C0.trans (CHr.ext E180 C0.1))
    have K186 : Keep h0 h180 [] := (K101.ext E180)
    have V187 : Arv Z h180 b180 k180 .char (2 : Int32) [(.int (0 : Int32)), (.int (0 : Int32))] (.int (0 : Int32)) := (Arv.new A180 (by decide)).pad (pad_rep [] (.int (0 : Int32)) 2)
    show Go p.tables e below _ (T180.setTop (mkF m 7 #[.val (.int p1), .val (.int (2 : Int32)), .unset] [(.ref b180)]))
    refine Go.step (fun _ kt => XS.astoreN X180.here hx rfl (hb hby d1_7) rfl rfl (l' := #[.val (.int p1), .val (.int (2 : Int32)), .val (.ref b180)]) rfl (XS.iloadN X180.here hx rfl (hb hby d1_8) rfl (XS.ifNo X180.here hx rfl (hb hby d1_9) rfl ((if0 _ _).trans (tlt (by decide : (0 : Int32) < (2 : Int32))).2.2.2) (XS.aloadN X180.here hx rfl (hb hby d1_12) rfl rfl (XS.iconst X180.here hx rfl (hb hby d1_13) (XS.iloadN X180.here hx rfl (hb hby d1_14) rfl (XS.bipush X180.here hx rfl (hb hby d1_15) (XS.iushr X180.here hx rfl (hb hby d1_17) rfl (XS.sipush X180.here hx rfl (hb hby d1_18) (XS.iand X180.here hx rfl (hb hby d1_21) rfl kt)))))))))) ?_
    show Go p.tables e below _ (T180.setTop (mkF m 22 #[.val (.int p1), .val (.int (2 : Int32)), .val (.ref b180)] [(.int (((p1.toUInt32 >>> ((8 : Int32) &&& 31).toUInt32).toInt32) &&& (255 : Int32))), (.int (0 : Int32)), (.ref b180)]))
    have q188 : (((p1.toUInt32 >>> ((8 : Int32) &&& 31).toUInt32).toInt32) &&& (255 : Int32)) = (own_x0 p1) := rfl
    rw [q188]
    show Go p.tables e below _ (T180.setTop (mkF m 22 #[.val (.int p1), .val (.int (2 : Int32)), .val (.ref b180)] [(.int (own_x0 p1)), (.int (0 : Int32)), (.ref b180)]))
    refine Go.step (fun _ kt => XS.i2c X180.here hx rfl (hb hby d1_22) rfl kt) ?_
    show Go p.tables e below _ (T180.setTop (mkF m 23 #[.val (.int p1), .val (.int (2 : Int32)), .val (.ref b180)] [(.int ((own_x0 p1).toUInt32.toUInt16.toUInt32.toInt32)), (.int (0 : Int32)), (.ref b180)]))
    have q189 : ((own_x0 p1).toUInt32.toUInt16.toUInt32.toInt32) = (own_x0 p1) := own_c _ (own_r0 p1)
    rw [q189]
    show Go p.tables e below _ (T180.setTop (mkF m 23 #[.val (.int p1), .val (.int (2 : Int32)), .val (.ref b180)] [(.int (own_x0 p1)), (.int (0 : Int32)), (.ref b180)]))
    obtain ⟨cl190, Ar190, qa190, Sa190, Na190, Ha190, Ga190⟩ := (id V187)
    have hin190 : ¬ ((0 : Int32) < 0 ∨ cl190.slots.size ≤ ((0 : Int32)).toNatClampNeg) := inb_of Sa190 ⟨by decide, by decide⟩
    obtain ⟨T190, h190, X190, e190, W190, st190⟩ := stC X180 hx hZ e180 Ar190 (j := (0 : Int32)) hin190 (g := (mkF m 23 #[.val (.int p1), .val (.int (2 : Int32)), .val (.ref b180)] [(.int (own_x0 p1)), (.int (0 : Int32)), (.ref b180)])) rfl rfl (hb hby d1_23)
    refine Go.step st190 ?_
    have V191 := Arv.set Ar190 qa190 Sa190 Na190 Ha190 Ga190 (fits_nar_char _) W190 0 rfl (Nat.le_of_ble_eq_true rfl)
    have N190 := Fr.snoc X190 N0 g_b180
    have F192 : Sta Z h190 "java/lang/String" "COMPACT_STRINGS" "Z" (.int cs) := (F181.wr W190)
    have Z193 : n0 ≤ h190.size := (Nat.le_trans Z182 (Nat.le_of_eq W190.size.symm))
    have hk194 : _ ≤ h190.size := (Nat.le_trans hk183 (Nat.le_of_eq W190.size.symm))
    have Sf195 := (Safe.wr W190 (by obtain ⟨_, Ar_, _⟩ := V187; exact Safe.arr hZ.alike Ar_ (by decide)) C185.1 Sf184)
    have C196 := (C185.trans (CHr.wr W190 (by obtain ⟨_, Ar_, _⟩ := V187; exact Safe.arr hZ.alike Ar_ (by decide)) C185.1))
    have K197 : Keep h0 h190 [] := (K186.wr W190 (Or.inr sz_b180))
    show Go p.tables e below _ (T190.setTop (mkF m 24 #[.val (.int p1), .val (.int (2 : Int32)), .val (.ref b180)] []))
    have Vn198 : Arv Z h190 b180 k180 .char (2 : Int32) [(.int (own_x0 p1)), (.int (0 : Int32))] (.int (0 : Int32)) := by have q1 : nar .char (own_x0 p1) = own_x0 p1 := own_c _ (own_r0 p1); have q0 := V191; rw [q1] at q0; exact q0
    refine Go.step (fun _ kt => XS.iloadN X190.here hx rfl (hb hby d1_24) rfl (XS.iconst X190.here hx rfl (hb hby d1_25) (XS.icmpNo X190.here hx rfl (hb hby d1_26) rfl (tlt (by decide : (1 : Int32) < (2 : Int32))).2.2.2 (XS.aloadN X190.here hx rfl (hb hby d1_29) rfl rfl (XS.iconst X190.here hx rfl (hb hby d1_30) (XS.iloadN X190.here hx rfl (hb hby d1_31) rfl (XS.bipush X190.here hx rfl (hb hby d1_32) (XS.iushr X190.here hx rfl (hb hby d1_34) rfl (XS.sipush X190.here hx rfl (hb hby d1_35) (XS.iand X190.here hx rfl (hb hby d1_38) rfl kt)))))))))) ?_
    show Go p.tables e below _ (T190.setTop (mkF m 39 #[.val (.int p1), .val (.int (2 : Int32)), .val (.ref b180)] [(.int (((p1.toUInt32 >>> ((16 : Int32) &&& 31).toUInt32).toInt32) &&& (255 : Int32))), (.int (1 : Int32)), (.ref b180)]))
    have q199 : (((p1.toUInt32 >>> ((16 : Int32) &&& 31).toUInt32).toInt32) &&& (255 : Int32)) = (own_x1 p1) := rfl
    rw [q199]
    show Go p.tables e below _ (T190.setTop (mkF m 39 #[.val (.int p1), .val (.int (2 : Int32)), .val (.ref b180)] [(.int (own_x1 p1)), (.int (1 : Int32)), (.ref b180)]))
    refine Go.step (fun _ kt => XS.i2c X190.here hx rfl (hb hby d1_39) rfl kt) ?_
    show Go p.tables e below _ (T190.setTop (mkF m 40 #[.val (.int p1), .val (.int (2 : Int32)), .val (.ref b180)] [(.int ((own_x1 p1).toUInt32.toUInt16.toUInt32.toInt32)), (.int (1 : Int32)), (.ref b180)]))
    have q200 : ((own_x1 p1).toUInt32.toUInt16.toUInt32.toInt32) = (own_x1 p1) := own_c _ (own_r1 p1)
    rw [q200]
    show Go p.tables e below _ (T190.setTop (mkF m 40 #[.val (.int p1), .val (.int (2 : Int32)), .val (.ref b180)] [(.int (own_x1 p1)), (.int (1 : Int32)), (.ref b180)]))
    obtain ⟨cl201, Ar201, qa201, Sa201, Na201, Ha201, Ga201⟩ := (id Vn198)
    have hin201 : ¬ ((1 : Int32) < 0 ∨ cl201.slots.size ≤ ((1 : Int32)).toNatClampNeg) := inb_of Sa201 ⟨by decide, by decide⟩
    obtain ⟨T201, h201, X201, e201, W201, st201⟩ := stC X190 hx hZ e190 Ar201 (j := (1 : Int32)) hin201 (g := (mkF m 40 #[.val (.int p1), .val (.int (2 : Int32)), .val (.ref b180)] [(.int (own_x1 p1)), (.int (1 : Int32)), (.ref b180)])) rfl rfl (hb hby d1_40)
    refine Go.step st201 ?_
    have V202 := Arv.set Ar201 qa201 Sa201 Na201 Ha201 Ga201 (fits_nar_char _) W201 1 rfl (Nat.le_of_ble_eq_true rfl)
    have N201 := Fr.snoc X201 N190 g_b180
    have F203 : Sta Z h201 "java/lang/String" "COMPACT_STRINGS" "Z" (.int cs) := (F192.wr W201)
    have Z204 : n0 ≤ h201.size := (Nat.le_trans Z193 (Nat.le_of_eq W201.size.symm))
    have hk205 : _ ≤ h201.size := (Nat.le_trans hk194 (Nat.le_of_eq W201.size.symm))
    have Sf206 := (Safe.wr W201 (by obtain ⟨_, Ar_, _⟩ := Vn198; exact Safe.arr hZ.alike Ar_ (by decide)) C196.1 Sf195)
    have C207 := (C196.trans (CHr.wr W201 (by obtain ⟨_, Ar_, _⟩ := Vn198; exact Safe.arr hZ.alike Ar_ (by decide)) C196.1))
    have K208 : Keep h0 h201 [] := (K197.wr W201 (Or.inr sz_b180))
    show Go p.tables e below _ (T201.setTop (mkF m 41 #[.val (.int p1), .val (.int (2 : Int32)), .val (.ref b180)] []))
    have Vn209 : Arv Z h201 b180 k180 .char (2 : Int32) [(.int (own_x0 p1)), (.int (own_x1 p1))] (.int (0 : Int32)) := by have q1 : nar .char (own_x1 p1) = own_x1 p1 := own_c _ (own_r1 p1); have q0 := V202; rw [q1] at q0; exact q0
    refine Go.step (fun _ kt => XS.iloadN X201.here hx rfl (hb hby d1_41) rfl (XS.iconst X201.here hx rfl (hb hby d1_42) (XS.icmpYes X201.here hx rfl (pc0 := 43) (pc' := 58) rfl (hb hby d1_43) rfl (flt (by decide : ¬ ((2 : Int32) < (2 : Int32)))).2.2.2 (by decide) (by decide) kt))) ?_
    show Go p.tables e below _ (T201.setTop (mkF m 58 #[.val (.int p1), .val (.int (2 : Int32)), .val (.ref b180)] []))
    obtain ⟨T210, h210, X210, e210, E210, A210, D210, -, st210⟩ := newO X201 hx hZ hown (hw _ (List.mem_of_getElem? (i := 8) rfl)) (hw _ (List.mem_of_getElem? (i := 9) rfl)) (hw _ (List.mem_of_getElem? (i := 10) rfl)) e201 (g := (mkF m 58 #[.val (.int p1), .val (.int (2 : Int32)), .val (.ref b180)] [])) rfl (hb hby d1_58) (by decide) (by decide)
    obtain ⟨b210, g210⟩ : ∃ z, z = h201.size := ⟨_, rfl⟩
    rw [← g210] at A210 D210 st210
    refine Go.step st210 ?_
    have ne_b180_b210 : b180 ≠ b210 := Nat.ne_of_lt (Nat.lt_of_lt_of_le Vn209.lt (Nat.le_of_eq g210.symm))
    have g_b210 : n0 ≤ b210 := Nat.le_trans Z204 (Nat.le_of_eq g210.symm)
    have sz_b210 : h0.size ≤ b210 := Nat.le_trans K208.1 (Nat.le_of_eq g210.symm)
    have F211 : Sta Z h210 "java/lang/String" "COMPACT_STRINGS" "Z" (.int cs) := (F203.ext E210)
    have F212 : Arv Z h210 b180 k180 .char (2 : Int32) [(.int (own_x0 p1)), (.int (own_x1 p1))] (.int (0 : Int32)) := (Vn209.ext E210)
    have Z213 : n0 ≤ h210.size := (Nat.le_trans Z204 E210.1)
    have hk214 : _ ≤ h210.size := (Nat.le_trans hk205 E210.1)
    have Sf215 := (Safe.ext E210 C207.1 Sf206)
    have Sf216 := (Safe.ext E210 C207.1 (Safe.new (EL := own_EL) (Z := Z) (Nat.le_of_eq g210.symm)))
    have C217 := (C207.trans (CHr.ext E210 C207.1))
    have K218 : Keep h0 h210 [] := (K208.ext E210)
    have F219 : Fld Z h210 b210 "java/lang/String" "value" "[B" .null := D210 (Or.inr (hw _ (List.mem_of_getElem? (i := 23) rfl))) (ty := (.array .byte)) (by decide)
    have F220 : Fld Z h210 b210 "java/lang/String" "coder" "B" (.int (0 : Int32)) := D210 (Or.inr (hw _ (List.mem_of_getElem? (i := 24) rfl))) (ty := .byte) (by decide)
    show Go p.tables e below _ (T210.setTop (mkF m 61 #[.val (.int p1), .val (.int (2 : Int32)), .val (.ref b180)] [(.ref b210)]))
    refine Go.step (fun _ kt => XS.dup X210.here hx rfl (hb hby d1_61) rfl rfl (XS.aloadN X210.here hx rfl (hb hby d1_62) rfl rfl kt)) ?_
    show Go p.tables e below _ (T210.setTop (mkF m 63 #[.val (.int p1), .val (.int (2 : Int32)), .val (.ref b180)] [(.ref b180), (.ref b210), (.ref b210)]))
    obtain ⟨_, _, ⟨T221, L221, k221, n221⟩, -, X221, ⟨Lc221, hQ221, l221, y221, z221⟩, st221⟩ := X210.specialBack hx (y := (⟨"java/lang/String", "<init>", "([C)V"⟩ : MethodName)) rfl hown (mvT hZ (hw _ (List.mem_of_getElem? (i := 11) rfl))) (mvT hZ (hw _ (List.mem_of_getElem? (i := 12) rfl))) (mvT hZ (hw _ (List.mem_of_getElem? (i := 13) rfl))) (by decide) (backOf (W := 1) (rmct1_2 l Z a0 hw [] b210 b180 (.int (0 : Int32)) .null k180 cs (own_x0 p1) (own_x1 p1) h210 n0 Z213 A210 F220 F219 F212 F211 g_b210 hcs ne_b180_b210 (own_r0 p1) (own_r1 p1)) hZ (hw _ (List.mem_of_getElem? (i := 13) rfl)) (hw _ (List.mem_of_getElem? (i := 10) rfl)) (by decide) (by decide)) (g := (mkF m 63 #[.val (.int p1), .val (.int (2 : Int32)), .val (.ref b180)] [(.ref b180), (.ref b210), (.ref b210)])) rfl (by rw [hml]; rfl) (Steps.refl _) (a := b210) (argsL := [(.ref b180)]) (rest := [(.ref b210)]) (lenOf pd_1 rfl) rfl (by show 2 * 0 + _ ≤ _; exact Nat.le_of_eq rfl) (hb hby d1_63) (fun _ _ => ⟨rfl, e210, (by decide : 2 + 1 ≤ _), (by decide : 6 + 2 ≤ _)⟩)
    dsimp only [Pt.U, Pt.locs, Pt.cells, Pt.slots] at X221 l221 y221 z221 st221 hQ221
    subst l221 y221 z221
    obtain ⟨b221b, b221kb, rfl, N221q, Kq221, P222, P223, P224, P225⟩ := hQ221
    have F226 : Sta Z T221.heap "java/lang/String" "COMPACT_STRINGS" "Z" (.int cs) := (own_sta_keep F211 A210 Kq221)
    have F227 : Arv Z T221.heap b180 k180 .char (2 : Int32) [(.int (own_x0 p1)), (.int (own_x1 p1))] (.int (0 : Int32)) := (F212.keep Kq221 (fun q => ne_b180_b210 (List.mem_singleton.mp q)))
    have F228 : Exa Z T221.heap b210 "java/lang/String" := (A210.keep Kq221)
    have Z229 : n0 ≤ T221.heap.size := (Nat.le_trans Z213 Kq221.1)
    have hk230 : _ ≤ T221.heap.size := (Nat.le_trans hk214 Kq221.1)
    have Sf231 := (Safe.keep Kq221 (by intro x hx; cases List.mem_singleton.mp hx; exact Sf216) C217.1 Sf215)
    have Sf232 := (Safe.keep Kq221 (by intro x hx; cases List.mem_singleton.mp hx; exact Sf216) C217.1 Sf216)
    have C233 := (C217.trans (CHr.keep Kq221 (by intro x hx; cases List.mem_singleton.mp hx; exact Sf216) C217.1))
    have K234 : Keep h0 T221.heap [] := (K218.trans Kq221 (by intro x hx; cases List.mem_singleton.mp hx; exact (Or.inr sz_b210)))
    have N221 := Fr.app N201 N221q
    refine Go.step (fun _ kt => st221.trans kt) ?_
    show Go p.tables e below _ (T221.setTop (mkF m 66 #[.val (.int p1), .val (.int (2 : Int32)), .val (.ref b180)] [(.ref b210)]))
    have Vn235 : Arv Z T221.heap b221b b221kb .byte (own_n p1) [(.int (own_by (own_x0 p1))), (.int (own_by (own_x1 p1))), (.int (own_by (own_x2 p1)))] (.int (0 : Int32)) := by
      have e0 : own_n p1 = (2 : Int32) := hk
      rw [e0]
      refine own_arv_more P225 (fun i hi => ?_)
      have hi' : i < 2 := hi
      match i, hi' with
      | 0, _ => rfl
      | 1, _ => rfl
    obtain ⟨fs, hr, hrun, hended, hRW⟩ := X221.leaveW hS0 hk230 (v := some (.ref b210)) (fun h => by rw [Bd.returns] at h; cases h)
    refine ⟨_, _, retOut X221 hx Bd.returns rfl (Or.inr (Or.inr (Or.inr (Or.inr ⟨rfl, rfl, rfl⟩)))) (hb hby d1_66) hr, hrun, hended, _, _, rfl, ?_, (by have q := C233.trans (CHv.at X221 hZ (own_EW hw) C233.1); rw [hh]; exact q), hRW.1, hRW.2.1, hRW.2.2.1, hRW.2.2.2.mono (by decide) (by decide)⟩
    show Qrm1 Z p1 cs h0 n0 _ T221.heap _
    refine ⟨b210, b221b, b221kb, ?_, N221, K234, P222, P223, P224, Vn235, g_b210, sz_b210⟩
    rfl
  · rw [hk]
    show Go p.tables e below _ (s₁.setTop (mkF m 4 #[.val (.int p1), .val (.int (3 : Int32)), .unset] []))
    refine Go.step (fun _ kt => XS.iloadN X0.here hx rfl (hb hby d1_4) rfl kt) ?_
    show Go p.tables e below _ (s₁.setTop (mkF m 5 #[.val (.int p1), .val (.int (3 : Int32)), .unset] [(.int (3 : Int32))]))
    obtain ⟨T236, h236, k236, X236, e236, E236, A236, st236⟩ := newP X0 hx hZ (hw _ (List.mem_of_getElem? (i := 7) rfl)) e0 (g := (mkF m 5 #[.val (.int p1), .val (.int (3 : Int32)), .unset] [(.int (3 : Int32))])) rfl (hb hby d1_5) rfl (by decide) (cap := 3) (by decide) (by decide) (by decide) (by decide)
    obtain ⟨b236, g236⟩ : ∃ z, z = h0.size := ⟨_, rfl⟩
    rw [← g236] at A236 st236
    refine Go.step st236 ?_
    have g_b236 : n0 ≤ b236 := Nat.le_trans Z0 (Nat.le_of_eq g236.symm)
    have sz_b236 : h0.size ≤ b236 := Nat.le_trans K101.1 (Nat.le_of_eq g236.symm)
    have F237 : Sta Z h236 "java/lang/String" "COMPACT_STRINGS" "Z" (.int cs) := (S_cs.ext E236)
    have Z238 : n0 ≤ h236.size := (Nat.le_trans Z0 E236.1)
    have hk239 : _ ≤ h236.size := (Nat.le_trans hk0 E236.1)
    have Sf240 := (Safe.ext E236 C0.1 (Safe.new (EL := own_EL) (Z := Z) (Nat.le_of_eq g236.symm)))
    have C241 := (C0.trans (CHr.ext E236 C0.1))
    have K242 : Keep h0 h236 [] := (K101.ext E236)
    have V243 : Arv Z h236 b236 k236 .char (3 : Int32) [(.int (0 : Int32)), (.int (0 : Int32)), (.int (0 : Int32))] (.int (0 : Int32)) := (Arv.new A236 (by decide)).pad (pad_rep [] (.int (0 : Int32)) 3)
    show Go p.tables e below _ (T236.setTop (mkF m 7 #[.val (.int p1), .val (.int (3 : Int32)), .unset] [(.ref b236)]))
    refine Go.step (fun _ kt => XS.astoreN X236.here hx rfl (hb hby d1_7) rfl rfl (l' := #[.val (.int p1), .val (.int (3 : Int32)), .val (.ref b236)]) rfl (XS.iloadN X236.here hx rfl (hb hby d1_8) rfl (XS.ifNo X236.here hx rfl (hb hby d1_9) rfl ((if0 _ _).trans (tlt (by decide : (0 : Int32) < (3 : Int32))).2.2.2) (XS.aloadN X236.here hx rfl (hb hby d1_12) rfl rfl (XS.iconst X236.here hx rfl (hb hby d1_13) (XS.iloadN X236.here hx rfl (hb hby d1_14) rfl (XS.bipush X236.here hx rfl (hb hby d1_15) (XS.iushr X236.here hx rfl (hb hby d1_17) rfl (XS.sipush X236.here hx rfl (hb hby d1_18) (XS.iand X236.here hx rfl (hb hby d1_21) rfl kt)))))))))) ?_
    show Go p.tables e below _ (T236.setTop (mkF m 22 #[.val (.int p1), .val (.int (3 : Int32)), .val (.ref b236)] [(.int (((p1.toUInt32 >>> ((8 : Int32) &&& 31).toUInt32).toInt32) &&& (255 : Int32))), (.int (0 : Int32)), (.ref b236)]))
    have q244 : (((p1.toUInt32 >>> ((8 : Int32) &&& 31).toUInt32).toInt32) &&& (255 : Int32)) = (own_x0 p1) := rfl
    rw [q244]
    show Go p.tables e below _ (T236.setTop (mkF m 22 #[.val (.int p1), .val (.int (3 : Int32)), .val (.ref b236)] [(.int (own_x0 p1)), (.int (0 : Int32)), (.ref b236)]))
    refine Go.step (fun _ kt => XS.i2c X236.here hx rfl (hb hby d1_22) rfl kt) ?_
    show Go p.tables e below _ (T236.setTop (mkF m 23 #[.val (.int p1), .val (.int (3 : Int32)), .val (.ref b236)] [(.int ((own_x0 p1).toUInt32.toUInt16.toUInt32.toInt32)), (.int (0 : Int32)), (.ref b236)]))
    have q245 : ((own_x0 p1).toUInt32.toUInt16.toUInt32.toInt32) = (own_x0 p1) := own_c _ (own_r0 p1)
    rw [q245]
    show Go p.tables e below _ (T236.setTop (mkF m 23 #[.val (.int p1), .val (.int (3 : Int32)), .val (.ref b236)] [(.int (own_x0 p1)), (.int (0 : Int32)), (.ref b236)]))
    obtain ⟨cl246, Ar246, qa246, Sa246, Na246, Ha246, Ga246⟩ := (id V243)
    have hin246 : ¬ ((0 : Int32) < 0 ∨ cl246.slots.size ≤ ((0 : Int32)).toNatClampNeg) := inb_of Sa246 ⟨by decide, by decide⟩
    obtain ⟨T246, h246, X246, e246, W246, st246⟩ := stC X236 hx hZ e236 Ar246 (j := (0 : Int32)) hin246 (g := (mkF m 23 #[.val (.int p1), .val (.int (3 : Int32)), .val (.ref b236)] [(.int (own_x0 p1)), (.int (0 : Int32)), (.ref b236)])) rfl rfl (hb hby d1_23)
    refine Go.step st246 ?_
    have V247 := Arv.set Ar246 qa246 Sa246 Na246 Ha246 Ga246 (fits_nar_char _) W246 0 rfl (Nat.le_of_ble_eq_true rfl)
    have N246 := Fr.snoc X246 N0 g_b236
    have F248 : Sta Z h246 "java/lang/String" "COMPACT_STRINGS" "Z" (.int cs) := (F237.wr W246)
    have Z249 : n0 ≤ h246.size := (Nat.le_trans Z238 (Nat.le_of_eq W246.size.symm))
    have hk250 : _ ≤ h246.size := (Nat.le_trans hk239 (Nat.le_of_eq W246.size.symm))
    have Sf251 := (Safe.wr W246 (by obtain ⟨_, Ar_, _⟩ := V243; exact Safe.arr hZ.alike Ar_ (by decide)) C241.1 Sf240)
    have C252 := (C241.trans (CHr.wr W246 (by obtain ⟨_, Ar_, _⟩ := V243; exact Safe.arr hZ.alike Ar_ (by decide)) C241.1))
    have K253 : Keep h0 h246 [] := (K242.wr W246 (Or.inr sz_b236))
    show Go p.tables e below _ (T246.setTop (mkF m 24 #[.val (.int p1), .val (.int (3 : Int32)), .val (.ref b236)] []))
    have Vn254 : Arv Z h246 b236 k236 .char (3 : Int32) [(.int (own_x0 p1)), (.int (0 : Int32)), (.int (0 : Int32))] (.int (0 : Int32)) := by have q1 : nar .char (own_x0 p1) = own_x0 p1 := own_c _ (own_r0 p1); have q0 := V247; rw [q1] at q0; exact q0
    refine Go.step (fun _ kt => XS.iloadN X246.here hx rfl (hb hby d1_24) rfl (XS.iconst X246.here hx rfl (hb hby d1_25) (XS.icmpNo X246.here hx rfl (hb hby d1_26) rfl (tlt (by decide : (1 : Int32) < (3 : Int32))).2.2.2 (XS.aloadN X246.here hx rfl (hb hby d1_29) rfl rfl (XS.iconst X246.here hx rfl (hb hby d1_30) (XS.iloadN X246.here hx rfl (hb hby d1_31) rfl (XS.bipush X246.here hx rfl (hb hby d1_32) (XS.iushr X246.here hx rfl (hb hby d1_34) rfl (XS.sipush X246.here hx rfl (hb hby d1_35) (XS.iand X246.here hx rfl (hb hby d1_38) rfl kt)))))))))) ?_
    show Go p.tables e below _ (T246.setTop (mkF m 39 #[.val (.int p1), .val (.int (3 : Int32)), .val (.ref b236)] [(.int (((p1.toUInt32 >>> ((16 : Int32) &&& 31).toUInt32).toInt32) &&& (255 : Int32))), (.int (1 : Int32)), (.ref b236)]))
    have q255 : (((p1.toUInt32 >>> ((16 : Int32) &&& 31).toUInt32).toInt32) &&& (255 : Int32)) = (own_x1 p1) := rfl
    rw [q255]
    show Go p.tables e below _ (T246.setTop (mkF m 39 #[.val (.int p1), .val (.int (3 : Int32)), .val (.ref b236)] [(.int (own_x1 p1)), (.int (1 : Int32)), (.ref b236)]))
    refine Go.step (fun _ kt => XS.i2c X246.here hx rfl (hb hby d1_39) rfl kt) ?_
    show Go p.tables e below _ (T246.setTop (mkF m 40 #[.val (.int p1), .val (.int (3 : Int32)), .val (.ref b236)] [(.int ((own_x1 p1).toUInt32.toUInt16.toUInt32.toInt32)), (.int (1 : Int32)), (.ref b236)]))
    have q256 : ((own_x1 p1).toUInt32.toUInt16.toUInt32.toInt32) = (own_x1 p1) := own_c _ (own_r1 p1)
    rw [q256]
    show Go p.tables e below _ (T246.setTop (mkF m 40 #[.val (.int p1), .val (.int (3 : Int32)), .val (.ref b236)] [(.int (own_x1 p1)), (.int (1 : Int32)), (.ref b236)]))
    obtain ⟨cl257, Ar257, qa257, Sa257, Na257, Ha257, Ga257⟩ := (id Vn254)
    have hin257 : ¬ ((1 : Int32) < 0 ∨ cl257.slots.size ≤ ((1 : Int32)).toNatClampNeg) := inb_of Sa257 ⟨by decide, by decide⟩
    obtain ⟨T257, h257, X257, e257, W257, st257⟩ := stC X246 hx hZ e246 Ar257 (j := (1 : Int32)) hin257 (g := (mkF m 40 #[.val (.int p1), .val (.int (3 : Int32)), .val (.ref b236)] [(.int (own_x1 p1)), (.int (1 : Int32)), (.ref b236)])) rfl rfl (hb hby d1_40)
    refine Go.step st257 ?_
    have V258 := Arv.set Ar257 qa257 Sa257 Na257 Ha257 Ga257 (fits_nar_char _) W257 1 rfl (Nat.le_of_ble_eq_true rfl)
    have N257 := Fr.snoc X257 N246 g_b236
    have F259 : Sta Z h257 "java/lang/String" "COMPACT_STRINGS" "Z" (.int cs) := (F248.wr W257)
    have Z260 : n0 ≤ h257.size := (Nat.le_trans Z249 (Nat.le_of_eq W257.size.symm))
    have hk261 : _ ≤ h257.size := (Nat.le_trans hk250 (Nat.le_of_eq W257.size.symm))
    have Sf262 := (Safe.wr W257 (by obtain ⟨_, Ar_, _⟩ := Vn254; exact Safe.arr hZ.alike Ar_ (by decide)) C252.1 Sf251)
    have C263 := (C252.trans (CHr.wr W257 (by obtain ⟨_, Ar_, _⟩ := Vn254; exact Safe.arr hZ.alike Ar_ (by decide)) C252.1))
    have K264 : Keep h0 h257 [] := (K253.wr W257 (Or.inr sz_b236))
    show Go p.tables e below _ (T257.setTop (mkF m 41 #[.val (.int p1), .val (.int (3 : Int32)), .val (.ref b236)] []))
    have Vn265 : Arv Z h257 b236 k236 .char (3 : Int32) [(.int (own_x0 p1)), (.int (own_x1 p1)), (.int (0 : Int32))] (.int (0 : Int32)) := by have q1 : nar .char (own_x1 p1) = own_x1 p1 := own_c _ (own_r1 p1); have q0 := V258; rw [q1] at q0; exact q0
    refine Go.step (fun _ kt => XS.iloadN X257.here hx rfl (hb hby d1_41) rfl (XS.iconst X257.here hx rfl (hb hby d1_42) (XS.icmpNo X257.here hx rfl (hb hby d1_43) rfl (tlt (by decide : (2 : Int32) < (3 : Int32))).2.2.2 (XS.aloadN X257.here hx rfl (hb hby d1_46) rfl rfl (XS.iconst X257.here hx rfl (hb hby d1_47) (XS.iloadN X257.here hx rfl (hb hby d1_48) rfl (XS.bipush X257.here hx rfl (hb hby d1_49) (XS.iushr X257.here hx rfl (hb hby d1_51) rfl (XS.sipush X257.here hx rfl (hb hby d1_52) (XS.iand X257.here hx rfl (hb hby d1_55) rfl kt)))))))))) ?_
    show Go p.tables e below _ (T257.setTop (mkF m 56 #[.val (.int p1), .val (.int (3 : Int32)), .val (.ref b236)] [(.int (((p1.toUInt32 >>> ((24 : Int32) &&& 31).toUInt32).toInt32) &&& (255 : Int32))), (.int (2 : Int32)), (.ref b236)]))
    have q266 : (((p1.toUInt32 >>> ((24 : Int32) &&& 31).toUInt32).toInt32) &&& (255 : Int32)) = (own_x2 p1) := rfl
    rw [q266]
    show Go p.tables e below _ (T257.setTop (mkF m 56 #[.val (.int p1), .val (.int (3 : Int32)), .val (.ref b236)] [(.int (own_x2 p1)), (.int (2 : Int32)), (.ref b236)]))
    refine Go.step (fun _ kt => XS.i2c X257.here hx rfl (hb hby d1_56) rfl kt) ?_
    show Go p.tables e below _ (T257.setTop (mkF m 57 #[.val (.int p1), .val (.int (3 : Int32)), .val (.ref b236)] [(.int ((own_x2 p1).toUInt32.toUInt16.toUInt32.toInt32)), (.int (2 : Int32)), (.ref b236)]))
    have q267 : ((own_x2 p1).toUInt32.toUInt16.toUInt32.toInt32) = (own_x2 p1) := own_c _ (own_r2 p1)
    rw [q267]
    show Go p.tables e below _ (T257.setTop (mkF m 57 #[.val (.int p1), .val (.int (3 : Int32)), .val (.ref b236)] [(.int (own_x2 p1)), (.int (2 : Int32)), (.ref b236)]))
    obtain ⟨cl268, Ar268, qa268, Sa268, Na268, Ha268, Ga268⟩ := (id Vn265)
    have hin268 : ¬ ((2 : Int32) < 0 ∨ cl268.slots.size ≤ ((2 : Int32)).toNatClampNeg) := inb_of Sa268 ⟨by decide, by decide⟩
    obtain ⟨T268, h268, X268, e268, W268, st268⟩ := stC X257 hx hZ e257 Ar268 (j := (2 : Int32)) hin268 (g := (mkF m 57 #[.val (.int p1), .val (.int (3 : Int32)), .val (.ref b236)] [(.int (own_x2 p1)), (.int (2 : Int32)), (.ref b236)])) rfl rfl (hb hby d1_57)
    refine Go.step st268 ?_
    have V269 := Arv.set Ar268 qa268 Sa268 Na268 Ha268 Ga268 (fits_nar_char _) W268 2 rfl (Nat.le_of_ble_eq_true rfl)
    have N268 := Fr.snoc X268 N257 g_b236
    have F270 : Sta Z h268 "java/lang/String" "COMPACT_STRINGS" "Z" (.int cs) := (F259.wr W268)
    have Z271 : n0 ≤ h268.size := (Nat.le_trans Z260 (Nat.le_of_eq W268.size.symm))
    have hk272 : _ ≤ h268.size := (Nat.le_trans hk261 (Nat.le_of_eq W268.size.symm))
    have Sf273 := (Safe.wr W268 (by obtain ⟨_, Ar_, _⟩ := Vn265; exact Safe.arr hZ.alike Ar_ (by decide)) C263.1 Sf262)
    have C274 := (C263.trans (CHr.wr W268 (by obtain ⟨_, Ar_, _⟩ := Vn265; exact Safe.arr hZ.alike Ar_ (by decide)) C263.1))
    have K275 : Keep h0 h268 [] := (K264.wr W268 (Or.inr sz_b236))
    show Go p.tables e below _ (T268.setTop (mkF m 58 #[.val (.int p1), .val (.int (3 : Int32)), .val (.ref b236)] []))
    have Vn276 : Arv Z h268 b236 k236 .char (3 : Int32) [(.int (own_x0 p1)), (.int (own_x1 p1)), (.int (own_x2 p1))] (.int (0 : Int32)) := by have q1 : nar .char (own_x2 p1) = own_x2 p1 := own_c _ (own_r2 p1); have q0 := V269; rw [q1] at q0; exact q0
    obtain ⟨T277, h277, X277, e277, E277, A277, D277, -, st277⟩ := newO X268 hx hZ hown (hw _ (List.mem_of_getElem? (i := 8) rfl)) (hw _ (List.mem_of_getElem? (i := 9) rfl)) (hw _ (List.mem_of_getElem? (i := 10) rfl)) e268 (g := (mkF m 58 #[.val (.int p1), .val (.int (3 : Int32)), .val (.ref b236)] [])) rfl (hb hby d1_58) (by decide) (by decide)
    obtain ⟨b277, g277⟩ : ∃ z, z = h268.size := ⟨_, rfl⟩
    rw [← g277] at A277 D277 st277
    refine Go.step st277 ?_
    have ne_b236_b277 : b236 ≠ b277 := Nat.ne_of_lt (Nat.lt_of_lt_of_le Vn276.lt (Nat.le_of_eq g277.symm))
    have g_b277 : n0 ≤ b277 := Nat.le_trans Z271 (Nat.le_of_eq g277.symm)
    have sz_b277 : h0.size ≤ b277 := Nat.le_trans K275.1 (Nat.le_of_eq g277.symm)
    have F278 : Sta Z h277 "java/lang/String" "COMPACT_STRINGS" "Z" (.int cs) := (F270.ext E277)
    have F279 : Arv Z h277 b236 k236 .char (3 : Int32) [(.int (own_x0 p1)), (.int (own_x1 p1)), (.int (own_x2 p1))] (.int (0 : Int32)) := (Vn276.ext E277)
    have Z280 : n0 ≤ h277.size := (Nat.le_trans Z271 E277.1)
    have hk281 : _ ≤ h277.size := (Nat.le_trans hk272 E277.1)
    have Sf282 := (Safe.ext E277 C274.1 Sf273)
    have Sf283 := (Safe.ext E277 C274.1 (Safe.new (EL := own_EL) (Z := Z) (Nat.le_of_eq g277.symm)))
    have C284 := (C274.trans (CHr.ext E277 C274.1))
    have K285 : Keep h0 h277 [] := (K275.ext E277)
    have F286 : Fld Z h277 b277 "java/lang/String" "value" "[B" .null := D277 (Or.inr (hw _ (List.mem_of_getElem? (i := 23) rfl))) (ty := (.array .byte)) (by decide)
    have F287 : Fld Z h277 b277 "java/lang/String" "coder" "B" (.int (0 : Int32)) := D277 (Or.inr (hw _ (List.mem_of_getElem? (i := 24) rfl))) (ty := .byte) (by decide)
    show Go p.tables e below _ (T277.setTop (mkF m 61 #[.val (.int p1), .val (.int (3 : Int32)), .val (.ref b236)] [(.ref b277)]))
    refine Go.step (fun _ kt => XS.dup X277.here hx rfl (hb hby d1_61) rfl rfl (XS.aloadN X277.here hx rfl (hb hby d1_62) rfl rfl kt)) ?_
    show Go p.tables e below _ (T277.setTop (mkF m 63 #[.val (.int p1), .val (.int (3 : Int32)), .val (.ref b236)] [(.ref b236), (.ref b277), (.ref b277)]))
    obtain ⟨_, _, ⟨T288, L288, k288, n288⟩, -, X288, ⟨Lc288, hQ288, l288, y288, z288⟩, st288⟩ := X277.specialBack hx (y := (⟨"java/lang/String", "<init>", "([C)V"⟩ : MethodName)) rfl hown (mvT hZ (hw _ (List.mem_of_getElem? (i := 11) rfl))) (mvT hZ (hw _ (List.mem_of_getElem? (i := 12) rfl))) (mvT hZ (hw _ (List.mem_of_getElem? (i := 13) rfl))) (by decide) (backOf (W := 1) (rmct1_3 l Z a0 hw [] b277 b236 (.int (0 : Int32)) .null k236 cs (own_x0 p1) (own_x1 p1) (own_x2 p1) h277 n0 Z280 A277 F287 F286 F279 F278 g_b277 hcs ne_b236_b277 (own_r0 p1) (own_r1 p1) (own_r2 p1)) hZ (hw _ (List.mem_of_getElem? (i := 13) rfl)) (hw _ (List.mem_of_getElem? (i := 10) rfl)) (by decide) (by decide)) (g := (mkF m 63 #[.val (.int p1), .val (.int (3 : Int32)), .val (.ref b236)] [(.ref b236), (.ref b277), (.ref b277)])) rfl (by rw [hml]; rfl) (Steps.refl _) (a := b277) (argsL := [(.ref b236)]) (rest := [(.ref b277)]) (lenOf pd_1 rfl) rfl (by show 2 * 0 + _ ≤ _; exact Nat.le_of_eq rfl) (hb hby d1_63) (fun _ _ => ⟨rfl, e277, (by decide : 2 + 1 ≤ _), (by decide : 7 + 3 ≤ _)⟩)
    dsimp only [Pt.U, Pt.locs, Pt.cells, Pt.slots] at X288 l288 y288 z288 st288 hQ288
    subst l288 y288 z288
    obtain ⟨b288b, b288kb, rfl, N288q, Kq288, P289, P290, P291, P292⟩ := hQ288
    have F293 : Sta Z T288.heap "java/lang/String" "COMPACT_STRINGS" "Z" (.int cs) := (own_sta_keep F278 A277 Kq288)
    have F294 : Arv Z T288.heap b236 k236 .char (3 : Int32) [(.int (own_x0 p1)), (.int (own_x1 p1)), (.int (own_x2 p1))] (.int (0 : Int32)) := (F279.keep Kq288 (fun q => ne_b236_b277 (List.mem_singleton.mp q)))
    have F295 : Exa Z T288.heap b277 "java/lang/String" := (A277.keep Kq288)
    have Z296 : n0 ≤ T288.heap.size := (Nat.le_trans Z280 Kq288.1)
    have hk297 : _ ≤ T288.heap.size := (Nat.le_trans hk281 Kq288.1)
    have Sf298 := (Safe.keep Kq288 (by intro x hx; cases List.mem_singleton.mp hx; exact Sf283) C284.1 Sf282)
    have Sf299 := (Safe.keep Kq288 (by intro x hx; cases List.mem_singleton.mp hx; exact Sf283) C284.1 Sf283)
    have C300 := (C284.trans (CHr.keep Kq288 (by intro x hx; cases List.mem_singleton.mp hx; exact Sf283) C284.1))
    have K301 : Keep h0 T288.heap [] := (K285.trans Kq288 (by intro x hx; cases List.mem_singleton.mp hx; exact (Or.inr sz_b277)))
    have N288 := Fr.app N268 N288q
    refine Go.step (fun _ kt => st288.trans kt) ?_
    show Go p.tables e below _ (T288.setTop (mkF m 66 #[.val (.int p1), .val (.int (3 : Int32)), .val (.ref b236)] [(.ref b277)]))
    have Vn302 : Arv Z T288.heap b288b b288kb .byte (own_n p1) [(.int (own_by (own_x0 p1))), (.int (own_by (own_x1 p1))), (.int (own_by (own_x2 p1)))] (.int (0 : Int32)) := by
      have e0 : own_n p1 = (3 : Int32) := hk
      rw [e0]
      refine own_arv_more P292 (fun i hi => ?_)
      have hi' : i < 3 := hi
      match i, hi' with
      | 0, _ => rfl
      | 1, _ => rfl
      | 2, _ => rfl
    obtain ⟨fs, hr, hrun, hended, hRW⟩ := X288.leaveW hS0 hk297 (v := some (.ref b277)) (fun h => by rw [Bd.returns] at h; cases h)
    refine ⟨_, _, retOut X288 hx Bd.returns rfl (Or.inr (Or.inr (Or.inr (Or.inr ⟨rfl, rfl, rfl⟩)))) (hb hby d1_66) hr, hrun, hended, _, _, rfl, ?_, (by have q := C300.trans (CHv.at X288 hZ (own_EW hw) C300.1); rw [hh]; exact q), hRW.1, hRW.2.1, hRW.2.2.1, hRW.2.2.2.mono (by decide) (by decide)⟩
    show Qrm1 Z p1 cs h0 n0 _ T288.heap _
    refine ⟨b277, b288b, b288kb, ?_, N288, K301, P289, P290, P291, Vn302, g_b277, sz_b277⟩
    rfl
theorem pn_3 : plainName "com/example/inchworm/inchworm/crawler/PageImage" = true := by first | (simp [plainName, overriddenIn]; done) | decide +kernel
theorem d8_0 : decode prog_20_method_1_code 0 = .ok (.aload_n 0, 1) := by decide +kernel
theorem d8_1 : decode prog_20_method_1_code 1 = .ok (.invokespecial 1, 3) := by decide +kernel
theorem d8_4 : decode prog_20_method_1_code 4 = .ok (.aload_n 0, 1) := by decide +kernel
theorem d8_5 : decode prog_20_method_1_code 5 = .ok (.aload_n 1, 1) := by decide +kernel
theorem d8_6 : decode prog_20_method_1_code 6 = .ok (.putfield 7, 3) := by decide +kernel
theorem d8_9 : decode prog_20_method_1_code 9 = .ok (.aload_n 0, 1) := by decide +kernel
theorem d8_10 : decode prog_20_method_1_code 10 = .ok (.aload_n 2, 1) := by decide +kernel
theorem d8_11 : decode prog_20_method_1_code 11 = .ok (.putfield 13, 3) := by decide +kernel
theorem d8_14 : decode prog_20_method_1_code 14 = .ok (.return_, 1) := by decide +kernel
theorem ef_rm8 (m : MethodId) (a1 : Addr) (a2 : Addr) (a3 : Addr) (u1 : Value) (u2 : Value) : entryFrame m #[(.ref a1), (.ref a2), (.ref a3)] 3 = mkF m 0 #[.val (.ref a1), .val (.ref a2), .val (.ref a3)] [] := by first | (simp [entryFrame, mkF, argsToLocals, Value.category]; done) | rfl
def Qrm8 (Z : State) (a1 : Addr) (a2 : Addr) (a3 : Addr) (u1 : Value) (u2 : Value) (h0 : Heap) (n0 : Nat) (v : Option Value) (h : Heap) (L : List Loc) : Prop := v = none ∧ Fr n0 L ∧ Keep h0 h [a1] ∧ Exa Z h a1 "com/example/inchworm/inchworm/crawler/PageImage" ∧ Fld Z h a1 "com/example/inchworm/inchworm/crawler/PageImage" "address" "Ljava/lang/String;" (.ref a2) ∧ Fld Z h a1 "com/example/inchworm/inchworm/crawler/PageImage" "altText" "Ljava/lang/String;" (.ref a3)
set_option maxRecDepth 65536 in
set_option maxHeartbeats 40000000 in
theorem rm8 (l : Launch) (Z : State) (a0 : Array Value) (hw : ∀ d ∈ tables_1, d.before a0 Z = true) (ws : List Jvm.Cond) (a1 : Addr) (a2 : Addr) (a3 : Addr) (u1 : Value) (u2 : Value) (h0 : Heap) (n0 : Nat) (Z0 : n0 ≤ h0.size) (E1 : Exa Z h0 a1 "com/example/inchworm/inchworm/crawler/PageImage") (F1 : Fld Z h0 a1 "com/example/inchworm/inchworm/crawler/PageImage" "address" "Ljava/lang/String;" u1) (F2 : Fld Z h0 a1 "com/example/inchworm/inchworm/crawler/PageImage" "altText" "Ljava/lang/String;" u2) (g_a1 : n0 ≤ a1) :
    MetFree l (⟨"com/example/inchworm/inchworm/crawler/PageImage", "<init>", "(Ljava/lang/String;Ljava/lang/String;)V"⟩ : MethodName) (head1 (Jvm.Cond.code (⟨"com/example/inchworm/inchworm/crawler/PageImage", "<init>", "(Ljava/lang/String;Ljava/lang/String;)V"⟩ : MethodName) prog_20_method_1_code 3 none :: ws) ({ frames := 1, cells := 0, slots := 0, locals := 12 } : Room)) (fun a U => a = #[(.ref a1), (.ref a2), (.ref a3)] ∧ Z.Warmed39 U.vm ∧ U.heap = h0) (fun _ _ _ _ _ => True) (fun _ U o U' => ∃ v L, o = .returned v ∧ Qrm8 Z a1 a2 a3 u1 u2 h0 n0 v U'.heap L ∧ FrameEnd U o U' L ({ frames := 1, cells := 0, slots := 0, locals := 12 } : Room).cells ({ frames := 1, cells := 0, slots := 0, locals := 12 } : Room).slots) := by
  refine MetFree.of_bodySF (plainFor_of_name pn_3) hisR ?_
  intro p e s m args below meth c s₁ Bd hml0 hP hK
  obtain ⟨rfl, hZ, hh⟩ := hP
  have hx := Bd.exec
  have hby := Bd.bytes
  have hml : c.maxLocals = 3 := hml0
  have hown : s.vm.findClass "com/example/inchworm/inchworm/crawler/PageImage" = some m.cls := findClass_of_methodNamed Bd.named
  have hnm := (name_of_methodNamed Bd.named Bd.method).1
  have X0 : Stand p l e ({ frames := 1, cells := 0, slots := 0, locals := 12 } : Room) s m #[(.ref a1), (.ref a2), (.ref a3)] below meth c s₁ [] 0 0 := Stand.of_body Bd
  have e0 : s₁.heap = h0 := by rw [← hh, Bd.state]; rfl
  have N0 := Fr.nil n0
  show Go p.tables e below (fun o U' => ∃ v L, o = .returned v ∧ Qrm8 Z a1 a2 a3 u1 u2 h0 n0 v U'.heap L ∧ FrameEnd s o U' L ({ frames := 1, cells := 0, slots := 0, locals := 12 } : Room).cells ({ frames := 1, cells := 0, slots := 0, locals := 12 } : Room).slots) _
  refine Go.step (fun t kt => castTop (ef_rm8 m a1 a2 a3 u1 u2) kt) ?_
  show Go p.tables e below _ (s₁.setTop (mkF m 0 #[.val (.ref a1), .val (.ref a2), .val (.ref a3)] []))
  have K101 : Keep h0 h0 [a1] := (Keep.refl h0 [a1])
  refine Go.step (fun _ kt => XS.aloadN X0.here hx rfl (hb hby d8_0) rfl rfl kt) ?_
  show Go p.tables e below _ (s₁.setTop (mkF m 1 #[.val (.ref a1), .val (.ref a2), .val (.ref a3)] [(.ref a1)]))
  obtain ⟨T102, X102, e102, st102⟩ := initO X0 hx hZ hown (hw _ (List.mem_of_getElem? (i := 43) rfl)) (hw _ (List.mem_of_getElem? (i := 19) rfl)) (hw _ (List.mem_of_getElem? (i := 20) rfl)) e0 (g := (mkF m 1 #[.val (.ref a1), .val (.ref a2), .val (.ref a3)] [(.ref a1)])) rfl (by rw [hml]; rfl) rfl (hb hby d8_1) (by decide) (W := 0) (by show 2 * 0 + _ ≤ _; exact Nat.le_of_eq rfl) (by decide)
  refine Go.step st102 ?_
  show Go p.tables e below _ (T102.setTop (mkF m 4 #[.val (.ref a1), .val (.ref a2), .val (.ref a3)] []))
  refine Go.step (fun _ kt => XS.aloadN X102.here hx rfl (hb hby d8_4) rfl rfl (XS.aloadN X102.here hx rfl (hb hby d8_5) rfl rfl kt)) ?_
  show Go p.tables e below _ (T102.setTop (mkF m 6 #[.val (.ref a1), .val (.ref a2), .val (.ref a3)] [(.ref a2), (.ref a1)]))
  obtain ⟨T103, h103, X103, e103, W103, st103⟩ := putF X102 hx hZ hown (host := "") (Or.inl (hw _ (List.mem_of_getElem? (i := 44) rfl))) Via.refl e102 F1 E1 (Or.inr ⟨(hw _ (List.mem_of_getElem? (i := 45) rfl)), rfl, hnm⟩) (hw _ (List.mem_of_getElem? (i := 1) rfl)) (ty := (.object "java/lang/String")) (by decide) rfl rfl (g := (mkF m 6 #[.val (.ref a1), .val (.ref a2), .val (.ref a3)] [(.ref a2), (.ref a1)])) rfl rfl (hb hby d8_6)
  refine Go.step st103 ?_
  have N103 := Fr.snoc X103 N0 g_a1
  have F104 : Exa Z h103 a1 "com/example/inchworm/inchworm/crawler/PageImage" := (E1.wr W103)
  have F105 : Fld Z h103 a1 "com/example/inchworm/inchworm/crawler/PageImage" "address" "Ljava/lang/String;" (.ref a2) := (F1.same W103)
  have F106 : Fld Z h103 a1 "com/example/inchworm/inchworm/crawler/PageImage" "altText" "Ljava/lang/String;" u2 := (F2.other W103 (Or.inr (slot_ne (Or.inr (hw _ (List.mem_of_getElem? (i := 47) rfl))) (Or.inr (hw _ (List.mem_of_getElem? (i := 45) rfl))) (by decide) (t := (.object "java/lang/String")) (t' := (.object "java/lang/String")) (by decide) (by decide))))
  have Z107 : n0 ≤ h103.size := (Nat.le_trans Z0 (Nat.le_of_eq W103.size.symm))
  have K108 : Keep h0 h103 [a1] := (K101.wr W103 (Or.inl (List.mem_of_getElem? (i := 0) rfl)))
  show Go p.tables e below _ (T103.setTop (mkF m 9 #[.val (.ref a1), .val (.ref a2), .val (.ref a3)] []))
  refine Go.step (fun _ kt => XS.aloadN X103.here hx rfl (hb hby d8_9) rfl rfl (XS.aloadN X103.here hx rfl (hb hby d8_10) rfl rfl kt)) ?_
  show Go p.tables e below _ (T103.setTop (mkF m 11 #[.val (.ref a1), .val (.ref a2), .val (.ref a3)] [(.ref a3), (.ref a1)]))
  obtain ⟨T109, h109, X109, e109, W109, st109⟩ := putF X103 hx hZ hown (host := "") (Or.inl (hw _ (List.mem_of_getElem? (i := 46) rfl))) Via.refl e103 F106 F104 (Or.inr ⟨(hw _ (List.mem_of_getElem? (i := 47) rfl)), rfl, hnm⟩) (hw _ (List.mem_of_getElem? (i := 1) rfl)) (ty := (.object "java/lang/String")) (by decide) rfl rfl (g := (mkF m 11 #[.val (.ref a1), .val (.ref a2), .val (.ref a3)] [(.ref a3), (.ref a1)])) rfl rfl (hb hby d8_11)
  refine Go.step st109 ?_
  have N109 := Fr.snoc X109 N103 g_a1
  have F110 : Exa Z h109 a1 "com/example/inchworm/inchworm/crawler/PageImage" := (F104.wr W109)
  have F111 : Fld Z h109 a1 "com/example/inchworm/inchworm/crawler/PageImage" "address" "Ljava/lang/String;" (.ref a2) := (F105.other W109 (Or.inr (slot_ne (Or.inr (hw _ (List.mem_of_getElem? (i := 45) rfl))) (Or.inr (hw _ (List.mem_of_getElem? (i := 47) rfl))) (by decide) (t := (.object "java/lang/String")) (t' := (.object "java/lang/String")) (by decide) (by decide))))
  have F112 : Fld Z h109 a1 "com/example/inchworm/inchworm/crawler/PageImage" "altText" "Ljava/lang/String;" (.ref a3) := (F106.same W109)
  have Z113 : n0 ≤ h109.size := (Nat.le_trans Z107 (Nat.le_of_eq W109.size.symm))
  have K114 : Keep h0 h109 [a1] := (K108.wr W109 (Or.inl (List.mem_of_getElem? (i := 0) rfl)))
  show Go p.tables e below _ (T109.setTop (mkF m 14 #[.val (.ref a1), .val (.ref a2), .val (.ref a3)] []))
  obtain ⟨fs, hr, hrun, hended, hW, hsame⟩ := X109.leave (v := none) (fun _ => rfl)
  refine ⟨_, _, X109.returnOut hx Bd.returns (hb hby d8_14) hr, hrun, hended, _, _, rfl, ?_, ⟨_, rfl⟩, hW, hsame.mono (by decide) (by decide)⟩
  show Qrm8 Z a1 a2 a3 u1 u2 h0 n0 _ T109.heap _
  rw [e109]
  refine ⟨?_, N109, K114, F110, F111, F112⟩
  rfl
theorem d9_0 : decode method_3_code 0 = .ok (.iload_n 0, 1) := by decide +kernel
theorem d9_1 : decode method_3_code 1 = .ok (.iconst 3, 1) := by decide +kernel
theorem d9_2 : decode method_3_code 2 = .ok (.iand, 1) := by decide +kernel
theorem d9_3 : decode method_3_code 3 = .ok (.istore_n 2, 1) := by decide +kernel
theorem d9_4 : decode method_3_code 4 = .ok (.iload_n 1, 1) := by decide +kernel
theorem d9_5 : decode method_3_code 5 = .ok (.iconst 3, 1) := by decide +kernel
theorem d9_6 : decode method_3_code 6 = .ok (.iand, 1) := by decide +kernel
theorem d9_7 : decode method_3_code 7 = .ok (.istore_n 3, 1) := by decide +kernel
theorem d9_8 : decode method_3_code 8 = .ok (.iload_n 2, 1) := by decide +kernel
theorem d9_9 : decode method_3_code 9 = .ok (.iload_n 3, 1) := by decide +kernel
theorem d9_10 : decode method_3_code 10 = .ok (.if_icmp .eq 5, 3) := by decide +kernel
theorem d9_13 : decode method_3_code 13 = .ok (.iconst 0, 1) := by decide +kernel
theorem d9_14 : decode method_3_code 14 = .ok (.ireturn, 1) := by decide +kernel
theorem d9_15 : decode method_3_code 15 = .ok (.iload_n 2, 1) := by decide +kernel
theorem d9_16 : decode method_3_code 16 = .ok (.ifCond .le 24, 3) := by decide +kernel
theorem d9_19 : decode method_3_code 19 = .ok (.iload_n 0, 1) := by decide +kernel
theorem d9_20 : decode method_3_code 20 = .ok (.bipush 8, 2) := by decide +kernel
theorem d9_22 : decode method_3_code 22 = .ok (.iushr, 1) := by decide +kernel
theorem d9_23 : decode method_3_code 23 = .ok (.sipush 255, 3) := by decide +kernel
theorem d9_26 : decode method_3_code 26 = .ok (.iand, 1) := by decide +kernel
theorem d9_27 : decode method_3_code 27 = .ok (.iload_n 1, 1) := by decide +kernel
theorem d9_28 : decode method_3_code 28 = .ok (.bipush 8, 2) := by decide +kernel
theorem d9_30 : decode method_3_code 30 = .ok (.iushr, 1) := by decide +kernel
theorem d9_31 : decode method_3_code 31 = .ok (.sipush 255, 3) := by decide +kernel
theorem d9_34 : decode method_3_code 34 = .ok (.iand, 1) := by decide +kernel
theorem d9_35 : decode method_3_code 35 = .ok (.if_icmp .eq 5, 3) := by decide +kernel
theorem d9_38 : decode method_3_code 38 = .ok (.iconst 0, 1) := by decide +kernel
theorem d9_39 : decode method_3_code 39 = .ok (.ireturn, 1) := by decide +kernel
theorem d9_40 : decode method_3_code 40 = .ok (.iload_n 2, 1) := by decide +kernel
theorem d9_41 : decode method_3_code 41 = .ok (.iconst 1, 1) := by decide +kernel
theorem d9_42 : decode method_3_code 42 = .ok (.if_icmp .le 24, 3) := by decide +kernel
theorem d9_45 : decode method_3_code 45 = .ok (.iload_n 0, 1) := by decide +kernel
theorem d9_46 : decode method_3_code 46 = .ok (.bipush 16, 2) := by decide +kernel
theorem d9_48 : decode method_3_code 48 = .ok (.iushr, 1) := by decide +kernel
theorem d9_49 : decode method_3_code 49 = .ok (.sipush 255, 3) := by decide +kernel
theorem d9_52 : decode method_3_code 52 = .ok (.iand, 1) := by decide +kernel
theorem d9_53 : decode method_3_code 53 = .ok (.iload_n 1, 1) := by decide +kernel
theorem d9_54 : decode method_3_code 54 = .ok (.bipush 16, 2) := by decide +kernel
theorem d9_56 : decode method_3_code 56 = .ok (.iushr, 1) := by decide +kernel
theorem d9_57 : decode method_3_code 57 = .ok (.sipush 255, 3) := by decide +kernel
theorem d9_60 : decode method_3_code 60 = .ok (.iand, 1) := by decide +kernel
theorem d9_61 : decode method_3_code 61 = .ok (.if_icmp .eq 5, 3) := by decide +kernel
theorem d9_64 : decode method_3_code 64 = .ok (.iconst 0, 1) := by decide +kernel
theorem d9_65 : decode method_3_code 65 = .ok (.ireturn, 1) := by decide +kernel
theorem d9_66 : decode method_3_code 66 = .ok (.iload_n 2, 1) := by decide +kernel
theorem d9_67 : decode method_3_code 67 = .ok (.iconst 2, 1) := by decide +kernel
theorem d9_68 : decode method_3_code 68 = .ok (.if_icmp .le 24, 3) := by decide +kernel
theorem d9_71 : decode method_3_code 71 = .ok (.iload_n 0, 1) := by decide +kernel
theorem d9_72 : decode method_3_code 72 = .ok (.bipush 24, 2) := by decide +kernel
theorem d9_74 : decode method_3_code 74 = .ok (.iushr, 1) := by decide +kernel
theorem d9_75 : decode method_3_code 75 = .ok (.sipush 255, 3) := by decide +kernel
theorem d9_78 : decode method_3_code 78 = .ok (.iand, 1) := by decide +kernel
theorem d9_79 : decode method_3_code 79 = .ok (.iload_n 1, 1) := by decide +kernel
theorem d9_80 : decode method_3_code 80 = .ok (.bipush 24, 2) := by decide +kernel
theorem d9_82 : decode method_3_code 82 = .ok (.iushr, 1) := by decide +kernel
theorem d9_83 : decode method_3_code 83 = .ok (.sipush 255, 3) := by decide +kernel
theorem d9_86 : decode method_3_code 86 = .ok (.iand, 1) := by decide +kernel
theorem d9_87 : decode method_3_code 87 = .ok (.if_icmp .eq 5, 3) := by decide +kernel
theorem d9_90 : decode method_3_code 90 = .ok (.iconst 0, 1) := by decide +kernel
theorem d9_91 : decode method_3_code 91 = .ok (.ireturn, 1) := by decide +kernel
theorem d9_92 : decode method_3_code 92 = .ok (.iconst 1, 1) := by decide +kernel
theorem d9_93 : decode method_3_code 93 = .ok (.ireturn, 1) := by decide +kernel
theorem ef_rm9 (m : MethodId) (p1 : Int32) (p2 : Int32) : entryFrame m #[(.int p1), (.int p2)] 4 = mkF m 0 #[.val (.int p1), .val (.int p2), .unset, .unset] [] := by first | (simp [entryFrame, mkF, argsToLocals, Value.category]; done) | rfl
def Qrm9 (Z : State) (p1 : Int32) (p2 : Int32) (h0 : Heap) (n0 : Nat) (v : Option Value) (h : Heap) (L : List Loc) : Prop := v = some (.int (own_same p1 p2)) ∧ Fr n0 L ∧ h = h0
set_option maxRecDepth 65536 in
set_option maxHeartbeats 40000000 in
theorem rm9 (l : Launch) (Z : State) (a0 : Array Value) (hw : ∀ d ∈ tables_1, d.before a0 Z = true) (ws : List Jvm.Cond) (p1 : Int32) (p2 : Int32) (h0 : Heap) (n0 : Nat) (Z0 : n0 ≤ h0.size) :
    MetFree l (⟨"com/example/inchworm/inchworm/crawler/PageImageEqualsPinLaw", "same", "(II)Z"⟩ : MethodName) (head1 (Jvm.Cond.code (⟨"com/example/inchworm/inchworm/crawler/PageImageEqualsPinLaw", "same", "(II)Z"⟩ : MethodName) method_3_code 4 (some .boolean) :: ws) ({ frames := 0, cells := 0, slots := 0, locals := 0 } : Room)) (fun a U => a = #[(.int p1), (.int p2)] ∧ Z.Warmed39 U.vm ∧ U.heap = h0) (fun _ _ _ _ _ => True) (fun _ U o U' => ∃ v L, o = .returned v ∧ Qrm9 Z p1 p2 h0 n0 v U'.heap L ∧ FrameEnd U o U' L ({ frames := 0, cells := 0, slots := 0, locals := 0 } : Room).cells ({ frames := 0, cells := 0, slots := 0, locals := 0 } : Room).slots) := by
  refine MetFree.of_bodySF (plainFor_of_name pn_2) hisR ?_
  intro p e s m args below meth c s₁ Bd hml0 hP hK
  obtain ⟨rfl, hZ, hh⟩ := hP
  have hx := Bd.exec
  have hby := Bd.bytes
  have hml : c.maxLocals = 4 := hml0
  have hown : s.vm.findClass "com/example/inchworm/inchworm/crawler/PageImageEqualsPinLaw" = some m.cls := findClass_of_methodNamed Bd.named
  have hnm := (name_of_methodNamed Bd.named Bd.method).1
  have X0 : Stand p l e ({ frames := 0, cells := 0, slots := 0, locals := 0 } : Room) s m #[(.int p1), (.int p2)] below meth c s₁ [] 0 0 := Stand.of_body Bd
  have e0 : s₁.heap = h0 := by rw [← hh, Bd.state]; rfl
  have N0 := Fr.nil n0
  show Go p.tables e below (fun o U' => ∃ v L, o = .returned v ∧ Qrm9 Z p1 p2 h0 n0 v U'.heap L ∧ FrameEnd s o U' L ({ frames := 0, cells := 0, slots := 0, locals := 0 } : Room).cells ({ frames := 0, cells := 0, slots := 0, locals := 0 } : Room).slots) _
  refine Go.step (fun t kt => castTop (ef_rm9 m p1 p2) kt) ?_
  show Go p.tables e below _ (s₁.setTop (mkF m 0 #[.val (.int p1), .val (.int p2), .unset, .unset] []))
  refine Go.step (fun _ kt => XS.iloadN X0.here hx rfl (hb hby d9_0) rfl (XS.iconst X0.here hx rfl (hb hby d9_1) (XS.iand X0.here hx rfl (hb hby d9_2) rfl kt))) ?_
  show Go p.tables e below _ (s₁.setTop (mkF m 3 #[.val (.int p1), .val (.int p2), .unset, .unset] [(.int (p1 &&& (3 : Int32)))]))
  have q101 : (p1 &&& (3 : Int32)) = (own_n p1) := rfl
  rw [q101]
  show Go p.tables e below _ (s₁.setTop (mkF m 3 #[.val (.int p1), .val (.int p2), .unset, .unset] [(.int (own_n p1))]))
  refine Go.step (fun _ kt => XS.istoreN X0.here hx rfl (hb hby d9_3) rfl (l' := #[.val (.int p1), .val (.int p2), .val (.int (own_n p1)), .unset]) rfl (XS.iloadN X0.here hx rfl (hb hby d9_4) rfl (XS.iconst X0.here hx rfl (hb hby d9_5) (XS.iand X0.here hx rfl (hb hby d9_6) rfl kt)))) ?_
  show Go p.tables e below _ (s₁.setTop (mkF m 7 #[.val (.int p1), .val (.int p2), .val (.int (own_n p1)), .unset] [(.int (p2 &&& (3 : Int32)))]))
  have q102 : (p2 &&& (3 : Int32)) = (own_n p2) := rfl
  rw [q102]
  show Go p.tables e below _ (s₁.setTop (mkF m 7 #[.val (.int p1), .val (.int p2), .val (.int (own_n p1)), .unset] [(.int (own_n p2))]))
  refine Go.step (fun _ kt => XS.istoreN X0.here hx rfl (hb hby d9_7) rfl (l' := #[.val (.int p1), .val (.int p2), .val (.int (own_n p1)), .val (.int (own_n p2))]) rfl (XS.iloadN X0.here hx rfl (hb hby d9_8) rfl (XS.iloadN X0.here hx rfl (hb hby d9_9) rfl kt))) ?_
  show Go p.tables e below _ (s₁.setTop (mkF m 10 #[.val (.int p1), .val (.int p2), .val (.int (own_n p1)), .val (.int (own_n p2))] [(.int (own_n p2)), (.int (own_n p1))]))
  by_cases hc10_103 : (own_n p1) = (own_n p2)
  · refine Go.step (fun _ kt => XS.icmpYes X0.here hx rfl (pc0 := 10) (pc' := 15) rfl (hb hby d9_10) rfl (teq hc10_103).1 (by decide) (by decide) (XS.iloadN X0.here hx rfl (hb hby d9_15) rfl kt)) ?_
    show Go p.tables e below _ (s₁.setTop (mkF m 16 #[.val (.int p1), .val (.int p2), .val (.int (own_n p1)), .val (.int (own_n p2))] [(.int (own_n p1))]))
    by_cases hc16_104 : (0 : Int32) < (own_n p1)
    · refine Go.step (fun _ kt => XS.ifNo X0.here hx rfl (hb hby d9_16) rfl ((if0 _ _).trans (tlt hc16_104).2.2.2) (XS.iloadN X0.here hx rfl (hb hby d9_19) rfl (XS.bipush X0.here hx rfl (hb hby d9_20) (XS.iushr X0.here hx rfl (hb hby d9_22) rfl (XS.sipush X0.here hx rfl (hb hby d9_23) (XS.iand X0.here hx rfl (hb hby d9_26) rfl kt)))))) ?_
      show Go p.tables e below _ (s₁.setTop (mkF m 27 #[.val (.int p1), .val (.int p2), .val (.int (own_n p1)), .val (.int (own_n p2))] [(.int (((p1.toUInt32 >>> ((8 : Int32) &&& 31).toUInt32).toInt32) &&& (255 : Int32)))]))
      have q105 : (((p1.toUInt32 >>> ((8 : Int32) &&& 31).toUInt32).toInt32) &&& (255 : Int32)) = (own_x0 p1) := rfl
      rw [q105]
      show Go p.tables e below _ (s₁.setTop (mkF m 27 #[.val (.int p1), .val (.int p2), .val (.int (own_n p1)), .val (.int (own_n p2))] [(.int (own_x0 p1))]))
      refine Go.step (fun _ kt => XS.iloadN X0.here hx rfl (hb hby d9_27) rfl (XS.bipush X0.here hx rfl (hb hby d9_28) (XS.iushr X0.here hx rfl (hb hby d9_30) rfl (XS.sipush X0.here hx rfl (hb hby d9_31) (XS.iand X0.here hx rfl (hb hby d9_34) rfl kt))))) ?_
      show Go p.tables e below _ (s₁.setTop (mkF m 35 #[.val (.int p1), .val (.int p2), .val (.int (own_n p1)), .val (.int (own_n p2))] [(.int (((p2.toUInt32 >>> ((8 : Int32) &&& 31).toUInt32).toInt32) &&& (255 : Int32))), (.int (own_x0 p1))]))
      have q106 : (((p2.toUInt32 >>> ((8 : Int32) &&& 31).toUInt32).toInt32) &&& (255 : Int32)) = (own_x0 p2) := rfl
      rw [q106]
      show Go p.tables e below _ (s₁.setTop (mkF m 35 #[.val (.int p1), .val (.int p2), .val (.int (own_n p1)), .val (.int (own_n p2))] [(.int (own_x0 p2)), (.int (own_x0 p1))]))
      by_cases hc35_107 : (own_x0 p1) = (own_x0 p2)
      · refine Go.step (fun _ kt => XS.icmpYes X0.here hx rfl (pc0 := 35) (pc' := 40) rfl (hb hby d9_35) rfl (teq hc35_107).1 (by decide) (by decide) (XS.iloadN X0.here hx rfl (hb hby d9_40) rfl (XS.iconst X0.here hx rfl (hb hby d9_41) kt))) ?_
        show Go p.tables e below _ (s₁.setTop (mkF m 42 #[.val (.int p1), .val (.int p2), .val (.int (own_n p1)), .val (.int (own_n p2))] [(.int (1 : Int32)), (.int (own_n p1))]))
        by_cases hc42_108 : (1 : Int32) < (own_n p1)
        · refine Go.step (fun _ kt => XS.icmpNo X0.here hx rfl (hb hby d9_42) rfl (tlt hc42_108).2.2.2 (XS.iloadN X0.here hx rfl (hb hby d9_45) rfl (XS.bipush X0.here hx rfl (hb hby d9_46) (XS.iushr X0.here hx rfl (hb hby d9_48) rfl (XS.sipush X0.here hx rfl (hb hby d9_49) (XS.iand X0.here hx rfl (hb hby d9_52) rfl kt)))))) ?_
          show Go p.tables e below _ (s₁.setTop (mkF m 53 #[.val (.int p1), .val (.int p2), .val (.int (own_n p1)), .val (.int (own_n p2))] [(.int (((p1.toUInt32 >>> ((16 : Int32) &&& 31).toUInt32).toInt32) &&& (255 : Int32)))]))
          have q109 : (((p1.toUInt32 >>> ((16 : Int32) &&& 31).toUInt32).toInt32) &&& (255 : Int32)) = (own_x1 p1) := rfl
          rw [q109]
          show Go p.tables e below _ (s₁.setTop (mkF m 53 #[.val (.int p1), .val (.int p2), .val (.int (own_n p1)), .val (.int (own_n p2))] [(.int (own_x1 p1))]))
          refine Go.step (fun _ kt => XS.iloadN X0.here hx rfl (hb hby d9_53) rfl (XS.bipush X0.here hx rfl (hb hby d9_54) (XS.iushr X0.here hx rfl (hb hby d9_56) rfl (XS.sipush X0.here hx rfl (hb hby d9_57) (XS.iand X0.here hx rfl (hb hby d9_60) rfl kt))))) ?_
          show Go p.tables e below _ (s₁.setTop (mkF m 61 #[.val (.int p1), .val (.int p2), .val (.int (own_n p1)), .val (.int (own_n p2))] [(.int (((p2.toUInt32 >>> ((16 : Int32) &&& 31).toUInt32).toInt32) &&& (255 : Int32))), (.int (own_x1 p1))]))
          have q110 : (((p2.toUInt32 >>> ((16 : Int32) &&& 31).toUInt32).toInt32) &&& (255 : Int32)) = (own_x1 p2) := rfl
          rw [q110]
          show Go p.tables e below _ (s₁.setTop (mkF m 61 #[.val (.int p1), .val (.int p2), .val (.int (own_n p1)), .val (.int (own_n p2))] [(.int (own_x1 p2)), (.int (own_x1 p1))]))
          by_cases hc61_111 : (own_x1 p1) = (own_x1 p2)
          · refine Go.step (fun _ kt => XS.icmpYes X0.here hx rfl (pc0 := 61) (pc' := 66) rfl (hb hby d9_61) rfl (teq hc61_111).1 (by decide) (by decide) (XS.iloadN X0.here hx rfl (hb hby d9_66) rfl (XS.iconst X0.here hx rfl (hb hby d9_67) kt))) ?_
            show Go p.tables e below _ (s₁.setTop (mkF m 68 #[.val (.int p1), .val (.int p2), .val (.int (own_n p1)), .val (.int (own_n p2))] [(.int (2 : Int32)), (.int (own_n p1))]))
            by_cases hc68_112 : (2 : Int32) < (own_n p1)
            · refine Go.step (fun _ kt => XS.icmpNo X0.here hx rfl (hb hby d9_68) rfl (tlt hc68_112).2.2.2 (XS.iloadN X0.here hx rfl (hb hby d9_71) rfl (XS.bipush X0.here hx rfl (hb hby d9_72) (XS.iushr X0.here hx rfl (hb hby d9_74) rfl (XS.sipush X0.here hx rfl (hb hby d9_75) (XS.iand X0.here hx rfl (hb hby d9_78) rfl kt)))))) ?_
              show Go p.tables e below _ (s₁.setTop (mkF m 79 #[.val (.int p1), .val (.int p2), .val (.int (own_n p1)), .val (.int (own_n p2))] [(.int (((p1.toUInt32 >>> ((24 : Int32) &&& 31).toUInt32).toInt32) &&& (255 : Int32)))]))
              have q113 : (((p1.toUInt32 >>> ((24 : Int32) &&& 31).toUInt32).toInt32) &&& (255 : Int32)) = (own_x2 p1) := rfl
              rw [q113]
              show Go p.tables e below _ (s₁.setTop (mkF m 79 #[.val (.int p1), .val (.int p2), .val (.int (own_n p1)), .val (.int (own_n p2))] [(.int (own_x2 p1))]))
              refine Go.step (fun _ kt => XS.iloadN X0.here hx rfl (hb hby d9_79) rfl (XS.bipush X0.here hx rfl (hb hby d9_80) (XS.iushr X0.here hx rfl (hb hby d9_82) rfl (XS.sipush X0.here hx rfl (hb hby d9_83) (XS.iand X0.here hx rfl (hb hby d9_86) rfl kt))))) ?_
              show Go p.tables e below _ (s₁.setTop (mkF m 87 #[.val (.int p1), .val (.int p2), .val (.int (own_n p1)), .val (.int (own_n p2))] [(.int (((p2.toUInt32 >>> ((24 : Int32) &&& 31).toUInt32).toInt32) &&& (255 : Int32))), (.int (own_x2 p1))]))
              have q114 : (((p2.toUInt32 >>> ((24 : Int32) &&& 31).toUInt32).toInt32) &&& (255 : Int32)) = (own_x2 p2) := rfl
              rw [q114]
              show Go p.tables e below _ (s₁.setTop (mkF m 87 #[.val (.int p1), .val (.int p2), .val (.int (own_n p1)), .val (.int (own_n p2))] [(.int (own_x2 p2)), (.int (own_x2 p1))]))
              by_cases hc87_115 : (own_x2 p1) = (own_x2 p2)
              · refine Go.step (fun _ kt => XS.icmpYes X0.here hx rfl (pc0 := 87) (pc' := 92) rfl (hb hby d9_87) rfl (teq hc87_115).1 (by decide) (by decide) (XS.iconst X0.here hx rfl (hb hby d9_92) kt)) ?_
                show Go p.tables e below _ (s₁.setTop (mkF m 93 #[.val (.int p1), .val (.int p2), .val (.int (own_n p1)), .val (.int (own_n p2))] [(.int (1 : Int32))]))
                obtain ⟨fs, hr, hrun, hended, hW, hsame⟩ := X0.leave (v := some (.int (1 : Int32))) (fun h => by rw [Bd.returns] at h; cases h)
                refine ⟨_, _, retN X0 hx (t := .boolean) Bd.returns (by simp) (hb hby d9_93) hr, hrun, hended, _, _, rfl, ?_, ⟨_, rfl⟩, hW, hsame.mono (by decide) (by decide)⟩
                show Qrm9 Z p1 p2 h0 n0 _ s₁.heap _
                rw [e0]
                refine ⟨?_, N0, rfl⟩
                have q : own_same p1 p2 = (1 : Int32) := by simp only [own_same]; simp [hc10_103.symm, hc16_104, hc35_107, hc42_108, hc61_111, hc68_112, hc87_115]
                rw [q]
              · refine Go.step (fun _ kt => XS.icmpNo X0.here hx rfl (hb hby d9_87) rfl (feq hc87_115).1 (XS.iconst X0.here hx rfl (hb hby d9_90) kt)) ?_
                show Go p.tables e below _ (s₁.setTop (mkF m 91 #[.val (.int p1), .val (.int p2), .val (.int (own_n p1)), .val (.int (own_n p2))] [(.int (0 : Int32))]))
                obtain ⟨fs, hr, hrun, hended, hW, hsame⟩ := X0.leave (v := some (.int (0 : Int32))) (fun h => by rw [Bd.returns] at h; cases h)
                refine ⟨_, _, retN X0 hx (t := .boolean) Bd.returns (by simp) (hb hby d9_91) hr, hrun, hended, _, _, rfl, ?_, ⟨_, rfl⟩, hW, hsame.mono (by decide) (by decide)⟩
                show Qrm9 Z p1 p2 h0 n0 _ s₁.heap _
                rw [e0]
                refine ⟨?_, N0, rfl⟩
                have q : own_same p1 p2 = (0 : Int32) := by simp only [own_same]; simp [hc10_103.symm, hc16_104, hc35_107, hc42_108, hc61_111, hc68_112, hc87_115]
                rw [q]
            · refine Go.step (fun _ kt => XS.icmpYes X0.here hx rfl (pc0 := 68) (pc' := 92) rfl (hb hby d9_68) rfl (flt hc68_112).2.2.2 (by decide) (by decide) (XS.iconst X0.here hx rfl (hb hby d9_92) kt)) ?_
              show Go p.tables e below _ (s₁.setTop (mkF m 93 #[.val (.int p1), .val (.int p2), .val (.int (own_n p1)), .val (.int (own_n p2))] [(.int (1 : Int32))]))
              obtain ⟨fs, hr, hrun, hended, hW, hsame⟩ := X0.leave (v := some (.int (1 : Int32))) (fun h => by rw [Bd.returns] at h; cases h)
              refine ⟨_, _, retN X0 hx (t := .boolean) Bd.returns (by simp) (hb hby d9_93) hr, hrun, hended, _, _, rfl, ?_, ⟨_, rfl⟩, hW, hsame.mono (by decide) (by decide)⟩
              show Qrm9 Z p1 p2 h0 n0 _ s₁.heap _
              rw [e0]
              refine ⟨?_, N0, rfl⟩
              have q : own_same p1 p2 = (1 : Int32) := by simp only [own_same]; simp [hc10_103.symm, hc16_104, hc35_107, hc42_108, hc61_111, hc68_112]
              rw [q]
          · refine Go.step (fun _ kt => XS.icmpNo X0.here hx rfl (hb hby d9_61) rfl (feq hc61_111).1 (XS.iconst X0.here hx rfl (hb hby d9_64) kt)) ?_
            show Go p.tables e below _ (s₁.setTop (mkF m 65 #[.val (.int p1), .val (.int p2), .val (.int (own_n p1)), .val (.int (own_n p2))] [(.int (0 : Int32))]))
            obtain ⟨fs, hr, hrun, hended, hW, hsame⟩ := X0.leave (v := some (.int (0 : Int32))) (fun h => by rw [Bd.returns] at h; cases h)
            refine ⟨_, _, retN X0 hx (t := .boolean) Bd.returns (by simp) (hb hby d9_65) hr, hrun, hended, _, _, rfl, ?_, ⟨_, rfl⟩, hW, hsame.mono (by decide) (by decide)⟩
            show Qrm9 Z p1 p2 h0 n0 _ s₁.heap _
            rw [e0]
            refine ⟨?_, N0, rfl⟩
            have q : own_same p1 p2 = (0 : Int32) := by simp only [own_same]; simp [hc10_103.symm, hc16_104, hc35_107, hc42_108, hc61_111]
            rw [q]
        · refine Go.step (fun _ kt => XS.icmpYes X0.here hx rfl (pc0 := 42) (pc' := 66) rfl (hb hby d9_42) rfl (flt hc42_108).2.2.2 (by decide) (by decide) (XS.iloadN X0.here hx rfl (hb hby d9_66) rfl (XS.iconst X0.here hx rfl (hb hby d9_67) kt))) ?_
          show Go p.tables e below _ (s₁.setTop (mkF m 68 #[.val (.int p1), .val (.int p2), .val (.int (own_n p1)), .val (.int (own_n p2))] [(.int (2 : Int32)), (.int (own_n p1))]))
          by_cases hc68_116 : (2 : Int32) < (own_n p1)
          · refine Go.step (fun _ kt => XS.icmpNo X0.here hx rfl (hb hby d9_68) rfl (tlt hc68_116).2.2.2 (XS.iloadN X0.here hx rfl (hb hby d9_71) rfl (XS.bipush X0.here hx rfl (hb hby d9_72) (XS.iushr X0.here hx rfl (hb hby d9_74) rfl (XS.sipush X0.here hx rfl (hb hby d9_75) (XS.iand X0.here hx rfl (hb hby d9_78) rfl kt)))))) ?_
            show Go p.tables e below _ (s₁.setTop (mkF m 79 #[.val (.int p1), .val (.int p2), .val (.int (own_n p1)), .val (.int (own_n p2))] [(.int (((p1.toUInt32 >>> ((24 : Int32) &&& 31).toUInt32).toInt32) &&& (255 : Int32)))]))
            have q117 : (((p1.toUInt32 >>> ((24 : Int32) &&& 31).toUInt32).toInt32) &&& (255 : Int32)) = (own_x2 p1) := rfl
            rw [q117]
            show Go p.tables e below _ (s₁.setTop (mkF m 79 #[.val (.int p1), .val (.int p2), .val (.int (own_n p1)), .val (.int (own_n p2))] [(.int (own_x2 p1))]))
            refine Go.step (fun _ kt => XS.iloadN X0.here hx rfl (hb hby d9_79) rfl (XS.bipush X0.here hx rfl (hb hby d9_80) (XS.iushr X0.here hx rfl (hb hby d9_82) rfl (XS.sipush X0.here hx rfl (hb hby d9_83) (XS.iand X0.here hx rfl (hb hby d9_86) rfl kt))))) ?_
            show Go p.tables e below _ (s₁.setTop (mkF m 87 #[.val (.int p1), .val (.int p2), .val (.int (own_n p1)), .val (.int (own_n p2))] [(.int (((p2.toUInt32 >>> ((24 : Int32) &&& 31).toUInt32).toInt32) &&& (255 : Int32))), (.int (own_x2 p1))]))
            have q118 : (((p2.toUInt32 >>> ((24 : Int32) &&& 31).toUInt32).toInt32) &&& (255 : Int32)) = (own_x2 p2) := rfl
            rw [q118]
            show Go p.tables e below _ (s₁.setTop (mkF m 87 #[.val (.int p1), .val (.int p2), .val (.int (own_n p1)), .val (.int (own_n p2))] [(.int (own_x2 p2)), (.int (own_x2 p1))]))
            by_cases hc87_119 : (own_x2 p1) = (own_x2 p2)
            · refine Go.step (fun _ kt => XS.icmpYes X0.here hx rfl (pc0 := 87) (pc' := 92) rfl (hb hby d9_87) rfl (teq hc87_119).1 (by decide) (by decide) (XS.iconst X0.here hx rfl (hb hby d9_92) kt)) ?_
              show Go p.tables e below _ (s₁.setTop (mkF m 93 #[.val (.int p1), .val (.int p2), .val (.int (own_n p1)), .val (.int (own_n p2))] [(.int (1 : Int32))]))
              obtain ⟨fs, hr, hrun, hended, hW, hsame⟩ := X0.leave (v := some (.int (1 : Int32))) (fun h => by rw [Bd.returns] at h; cases h)
              refine ⟨_, _, retN X0 hx (t := .boolean) Bd.returns (by simp) (hb hby d9_93) hr, hrun, hended, _, _, rfl, ?_, ⟨_, rfl⟩, hW, hsame.mono (by decide) (by decide)⟩
              show Qrm9 Z p1 p2 h0 n0 _ s₁.heap _
              rw [e0]
              refine ⟨?_, N0, rfl⟩
              have q : own_same p1 p2 = (1 : Int32) := by simp only [own_same]; simp [hc10_103.symm, hc16_104, hc35_107, hc42_108, hc68_116, hc87_119]
              rw [q]
            · refine Go.step (fun _ kt => XS.icmpNo X0.here hx rfl (hb hby d9_87) rfl (feq hc87_119).1 (XS.iconst X0.here hx rfl (hb hby d9_90) kt)) ?_
              show Go p.tables e below _ (s₁.setTop (mkF m 91 #[.val (.int p1), .val (.int p2), .val (.int (own_n p1)), .val (.int (own_n p2))] [(.int (0 : Int32))]))
              obtain ⟨fs, hr, hrun, hended, hW, hsame⟩ := X0.leave (v := some (.int (0 : Int32))) (fun h => by rw [Bd.returns] at h; cases h)
              refine ⟨_, _, retN X0 hx (t := .boolean) Bd.returns (by simp) (hb hby d9_91) hr, hrun, hended, _, _, rfl, ?_, ⟨_, rfl⟩, hW, hsame.mono (by decide) (by decide)⟩
              show Qrm9 Z p1 p2 h0 n0 _ s₁.heap _
              rw [e0]
              refine ⟨?_, N0, rfl⟩
              have q : own_same p1 p2 = (0 : Int32) := by simp only [own_same]; simp [hc10_103.symm, hc16_104, hc35_107, hc42_108, hc68_116, hc87_119]
              rw [q]
          · refine Go.step (fun _ kt => XS.icmpYes X0.here hx rfl (pc0 := 68) (pc' := 92) rfl (hb hby d9_68) rfl (flt hc68_116).2.2.2 (by decide) (by decide) (XS.iconst X0.here hx rfl (hb hby d9_92) kt)) ?_
            show Go p.tables e below _ (s₁.setTop (mkF m 93 #[.val (.int p1), .val (.int p2), .val (.int (own_n p1)), .val (.int (own_n p2))] [(.int (1 : Int32))]))
            obtain ⟨fs, hr, hrun, hended, hW, hsame⟩ := X0.leave (v := some (.int (1 : Int32))) (fun h => by rw [Bd.returns] at h; cases h)
            refine ⟨_, _, retN X0 hx (t := .boolean) Bd.returns (by simp) (hb hby d9_93) hr, hrun, hended, _, _, rfl, ?_, ⟨_, rfl⟩, hW, hsame.mono (by decide) (by decide)⟩
            show Qrm9 Z p1 p2 h0 n0 _ s₁.heap _
            rw [e0]
            refine ⟨?_, N0, rfl⟩
            have q : own_same p1 p2 = (1 : Int32) := by simp only [own_same]; simp [hc10_103.symm, hc16_104, hc35_107, hc42_108, hc68_116]
            rw [q]
      · refine Go.step (fun _ kt => XS.icmpNo X0.here hx rfl (hb hby d9_35) rfl (feq hc35_107).1 (XS.iconst X0.here hx rfl (hb hby d9_38) kt)) ?_
        show Go p.tables e below _ (s₁.setTop (mkF m 39 #[.val (.int p1), .val (.int p2), .val (.int (own_n p1)), .val (.int (own_n p2))] [(.int (0 : Int32))]))
        obtain ⟨fs, hr, hrun, hended, hW, hsame⟩ := X0.leave (v := some (.int (0 : Int32))) (fun h => by rw [Bd.returns] at h; cases h)
        refine ⟨_, _, retN X0 hx (t := .boolean) Bd.returns (by simp) (hb hby d9_39) hr, hrun, hended, _, _, rfl, ?_, ⟨_, rfl⟩, hW, hsame.mono (by decide) (by decide)⟩
        show Qrm9 Z p1 p2 h0 n0 _ s₁.heap _
        rw [e0]
        refine ⟨?_, N0, rfl⟩
        have q : own_same p1 p2 = (0 : Int32) := by simp only [own_same]; simp [hc10_103.symm, hc16_104, hc35_107]
        rw [q]
    · refine Go.step (fun _ kt => XS.ifYes X0.here hx rfl (pc0 := 16) (pc' := 40) rfl (hb hby d9_16) rfl ((if0 _ _).trans (flt hc16_104).2.2.2) (by decide) (by decide) (XS.iloadN X0.here hx rfl (hb hby d9_40) rfl (XS.iconst X0.here hx rfl (hb hby d9_41) kt))) ?_
      show Go p.tables e below _ (s₁.setTop (mkF m 42 #[.val (.int p1), .val (.int p2), .val (.int (own_n p1)), .val (.int (own_n p2))] [(.int (1 : Int32)), (.int (own_n p1))]))
      by_cases hc42_120 : (1 : Int32) < (own_n p1)
      · refine Go.step (fun _ kt => XS.icmpNo X0.here hx rfl (hb hby d9_42) rfl (tlt hc42_120).2.2.2 (XS.iloadN X0.here hx rfl (hb hby d9_45) rfl (XS.bipush X0.here hx rfl (hb hby d9_46) (XS.iushr X0.here hx rfl (hb hby d9_48) rfl (XS.sipush X0.here hx rfl (hb hby d9_49) (XS.iand X0.here hx rfl (hb hby d9_52) rfl kt)))))) ?_
        show Go p.tables e below _ (s₁.setTop (mkF m 53 #[.val (.int p1), .val (.int p2), .val (.int (own_n p1)), .val (.int (own_n p2))] [(.int (((p1.toUInt32 >>> ((16 : Int32) &&& 31).toUInt32).toInt32) &&& (255 : Int32)))]))
        have q121 : (((p1.toUInt32 >>> ((16 : Int32) &&& 31).toUInt32).toInt32) &&& (255 : Int32)) = (own_x1 p1) := rfl
        rw [q121]
        show Go p.tables e below _ (s₁.setTop (mkF m 53 #[.val (.int p1), .val (.int p2), .val (.int (own_n p1)), .val (.int (own_n p2))] [(.int (own_x1 p1))]))
        refine Go.step (fun _ kt => XS.iloadN X0.here hx rfl (hb hby d9_53) rfl (XS.bipush X0.here hx rfl (hb hby d9_54) (XS.iushr X0.here hx rfl (hb hby d9_56) rfl (XS.sipush X0.here hx rfl (hb hby d9_57) (XS.iand X0.here hx rfl (hb hby d9_60) rfl kt))))) ?_
        show Go p.tables e below _ (s₁.setTop (mkF m 61 #[.val (.int p1), .val (.int p2), .val (.int (own_n p1)), .val (.int (own_n p2))] [(.int (((p2.toUInt32 >>> ((16 : Int32) &&& 31).toUInt32).toInt32) &&& (255 : Int32))), (.int (own_x1 p1))]))
        have q122 : (((p2.toUInt32 >>> ((16 : Int32) &&& 31).toUInt32).toInt32) &&& (255 : Int32)) = (own_x1 p2) := rfl
        rw [q122]
        show Go p.tables e below _ (s₁.setTop (mkF m 61 #[.val (.int p1), .val (.int p2), .val (.int (own_n p1)), .val (.int (own_n p2))] [(.int (own_x1 p2)), (.int (own_x1 p1))]))
        by_cases hc61_123 : (own_x1 p1) = (own_x1 p2)
        · refine Go.step (fun _ kt => XS.icmpYes X0.here hx rfl (pc0 := 61) (pc' := 66) rfl (hb hby d9_61) rfl (teq hc61_123).1 (by decide) (by decide) (XS.iloadN X0.here hx rfl (hb hby d9_66) rfl (XS.iconst X0.here hx rfl (hb hby d9_67) kt))) ?_
          show Go p.tables e below _ (s₁.setTop (mkF m 68 #[.val (.int p1), .val (.int p2), .val (.int (own_n p1)), .val (.int (own_n p2))] [(.int (2 : Int32)), (.int (own_n p1))]))
          by_cases hc68_124 : (2 : Int32) < (own_n p1)
          · refine Go.step (fun _ kt => XS.icmpNo X0.here hx rfl (hb hby d9_68) rfl (tlt hc68_124).2.2.2 (XS.iloadN X0.here hx rfl (hb hby d9_71) rfl (XS.bipush X0.here hx rfl (hb hby d9_72) (XS.iushr X0.here hx rfl (hb hby d9_74) rfl (XS.sipush X0.here hx rfl (hb hby d9_75) (XS.iand X0.here hx rfl (hb hby d9_78) rfl kt)))))) ?_
            show Go p.tables e below _ (s₁.setTop (mkF m 79 #[.val (.int p1), .val (.int p2), .val (.int (own_n p1)), .val (.int (own_n p2))] [(.int (((p1.toUInt32 >>> ((24 : Int32) &&& 31).toUInt32).toInt32) &&& (255 : Int32)))]))
            have q125 : (((p1.toUInt32 >>> ((24 : Int32) &&& 31).toUInt32).toInt32) &&& (255 : Int32)) = (own_x2 p1) := rfl
            rw [q125]
            show Go p.tables e below _ (s₁.setTop (mkF m 79 #[.val (.int p1), .val (.int p2), .val (.int (own_n p1)), .val (.int (own_n p2))] [(.int (own_x2 p1))]))
            refine Go.step (fun _ kt => XS.iloadN X0.here hx rfl (hb hby d9_79) rfl (XS.bipush X0.here hx rfl (hb hby d9_80) (XS.iushr X0.here hx rfl (hb hby d9_82) rfl (XS.sipush X0.here hx rfl (hb hby d9_83) (XS.iand X0.here hx rfl (hb hby d9_86) rfl kt))))) ?_
            show Go p.tables e below _ (s₁.setTop (mkF m 87 #[.val (.int p1), .val (.int p2), .val (.int (own_n p1)), .val (.int (own_n p2))] [(.int (((p2.toUInt32 >>> ((24 : Int32) &&& 31).toUInt32).toInt32) &&& (255 : Int32))), (.int (own_x2 p1))]))
            have q126 : (((p2.toUInt32 >>> ((24 : Int32) &&& 31).toUInt32).toInt32) &&& (255 : Int32)) = (own_x2 p2) := rfl
            rw [q126]
            show Go p.tables e below _ (s₁.setTop (mkF m 87 #[.val (.int p1), .val (.int p2), .val (.int (own_n p1)), .val (.int (own_n p2))] [(.int (own_x2 p2)), (.int (own_x2 p1))]))
            by_cases hc87_127 : (own_x2 p1) = (own_x2 p2)
            · refine Go.step (fun _ kt => XS.icmpYes X0.here hx rfl (pc0 := 87) (pc' := 92) rfl (hb hby d9_87) rfl (teq hc87_127).1 (by decide) (by decide) (XS.iconst X0.here hx rfl (hb hby d9_92) kt)) ?_
              show Go p.tables e below _ (s₁.setTop (mkF m 93 #[.val (.int p1), .val (.int p2), .val (.int (own_n p1)), .val (.int (own_n p2))] [(.int (1 : Int32))]))
              obtain ⟨fs, hr, hrun, hended, hW, hsame⟩ := X0.leave (v := some (.int (1 : Int32))) (fun h => by rw [Bd.returns] at h; cases h)
              refine ⟨_, _, retN X0 hx (t := .boolean) Bd.returns (by simp) (hb hby d9_93) hr, hrun, hended, _, _, rfl, ?_, ⟨_, rfl⟩, hW, hsame.mono (by decide) (by decide)⟩
              show Qrm9 Z p1 p2 h0 n0 _ s₁.heap _
              rw [e0]
              refine ⟨?_, N0, rfl⟩
              have q : own_same p1 p2 = (1 : Int32) := by simp only [own_same]; simp [hc10_103.symm, hc16_104, hc42_120, hc61_123, hc68_124, hc87_127]
              rw [q]
            · refine Go.step (fun _ kt => XS.icmpNo X0.here hx rfl (hb hby d9_87) rfl (feq hc87_127).1 (XS.iconst X0.here hx rfl (hb hby d9_90) kt)) ?_
              show Go p.tables e below _ (s₁.setTop (mkF m 91 #[.val (.int p1), .val (.int p2), .val (.int (own_n p1)), .val (.int (own_n p2))] [(.int (0 : Int32))]))
              obtain ⟨fs, hr, hrun, hended, hW, hsame⟩ := X0.leave (v := some (.int (0 : Int32))) (fun h => by rw [Bd.returns] at h; cases h)
              refine ⟨_, _, retN X0 hx (t := .boolean) Bd.returns (by simp) (hb hby d9_91) hr, hrun, hended, _, _, rfl, ?_, ⟨_, rfl⟩, hW, hsame.mono (by decide) (by decide)⟩
              show Qrm9 Z p1 p2 h0 n0 _ s₁.heap _
              rw [e0]
              refine ⟨?_, N0, rfl⟩
              have q : own_same p1 p2 = (0 : Int32) := by simp only [own_same]; simp [hc10_103.symm, hc16_104, hc42_120, hc61_123, hc68_124, hc87_127]
              rw [q]
          · refine Go.step (fun _ kt => XS.icmpYes X0.here hx rfl (pc0 := 68) (pc' := 92) rfl (hb hby d9_68) rfl (flt hc68_124).2.2.2 (by decide) (by decide) (XS.iconst X0.here hx rfl (hb hby d9_92) kt)) ?_
            show Go p.tables e below _ (s₁.setTop (mkF m 93 #[.val (.int p1), .val (.int p2), .val (.int (own_n p1)), .val (.int (own_n p2))] [(.int (1 : Int32))]))
            obtain ⟨fs, hr, hrun, hended, hW, hsame⟩ := X0.leave (v := some (.int (1 : Int32))) (fun h => by rw [Bd.returns] at h; cases h)
            refine ⟨_, _, retN X0 hx (t := .boolean) Bd.returns (by simp) (hb hby d9_93) hr, hrun, hended, _, _, rfl, ?_, ⟨_, rfl⟩, hW, hsame.mono (by decide) (by decide)⟩
            show Qrm9 Z p1 p2 h0 n0 _ s₁.heap _
            rw [e0]
            refine ⟨?_, N0, rfl⟩
            have q : own_same p1 p2 = (1 : Int32) := by simp only [own_same]; simp [hc10_103.symm, hc16_104, hc42_120, hc61_123, hc68_124]
            rw [q]
        · refine Go.step (fun _ kt => XS.icmpNo X0.here hx rfl (hb hby d9_61) rfl (feq hc61_123).1 (XS.iconst X0.here hx rfl (hb hby d9_64) kt)) ?_
          show Go p.tables e below _ (s₁.setTop (mkF m 65 #[.val (.int p1), .val (.int p2), .val (.int (own_n p1)), .val (.int (own_n p2))] [(.int (0 : Int32))]))
          obtain ⟨fs, hr, hrun, hended, hW, hsame⟩ := X0.leave (v := some (.int (0 : Int32))) (fun h => by rw [Bd.returns] at h; cases h)
          refine ⟨_, _, retN X0 hx (t := .boolean) Bd.returns (by simp) (hb hby d9_65) hr, hrun, hended, _, _, rfl, ?_, ⟨_, rfl⟩, hW, hsame.mono (by decide) (by decide)⟩
          show Qrm9 Z p1 p2 h0 n0 _ s₁.heap _
          rw [e0]
          refine ⟨?_, N0, rfl⟩
          have q : own_same p1 p2 = (0 : Int32) := by simp only [own_same]; simp [hc10_103.symm, hc16_104, hc42_120, hc61_123]
          rw [q]
      · refine Go.step (fun _ kt => XS.icmpYes X0.here hx rfl (pc0 := 42) (pc' := 66) rfl (hb hby d9_42) rfl (flt hc42_120).2.2.2 (by decide) (by decide) (XS.iloadN X0.here hx rfl (hb hby d9_66) rfl (XS.iconst X0.here hx rfl (hb hby d9_67) kt))) ?_
        show Go p.tables e below _ (s₁.setTop (mkF m 68 #[.val (.int p1), .val (.int p2), .val (.int (own_n p1)), .val (.int (own_n p2))] [(.int (2 : Int32)), (.int (own_n p1))]))
        by_cases hc68_128 : (2 : Int32) < (own_n p1)
        · refine Go.step (fun _ kt => XS.icmpNo X0.here hx rfl (hb hby d9_68) rfl (tlt hc68_128).2.2.2 (XS.iloadN X0.here hx rfl (hb hby d9_71) rfl (XS.bipush X0.here hx rfl (hb hby d9_72) (XS.iushr X0.here hx rfl (hb hby d9_74) rfl (XS.sipush X0.here hx rfl (hb hby d9_75) (XS.iand X0.here hx rfl (hb hby d9_78) rfl kt)))))) ?_
          show Go p.tables e below _ (s₁.setTop (mkF m 79 #[.val (.int p1), .val (.int p2), .val (.int (own_n p1)), .val (.int (own_n p2))] [(.int (((p1.toUInt32 >>> ((24 : Int32) &&& 31).toUInt32).toInt32) &&& (255 : Int32)))]))
          have q129 : (((p1.toUInt32 >>> ((24 : Int32) &&& 31).toUInt32).toInt32) &&& (255 : Int32)) = (own_x2 p1) := rfl
          rw [q129]
          show Go p.tables e below _ (s₁.setTop (mkF m 79 #[.val (.int p1), .val (.int p2), .val (.int (own_n p1)), .val (.int (own_n p2))] [(.int (own_x2 p1))]))
          refine Go.step (fun _ kt => XS.iloadN X0.here hx rfl (hb hby d9_79) rfl (XS.bipush X0.here hx rfl (hb hby d9_80) (XS.iushr X0.here hx rfl (hb hby d9_82) rfl (XS.sipush X0.here hx rfl (hb hby d9_83) (XS.iand X0.here hx rfl (hb hby d9_86) rfl kt))))) ?_
          show Go p.tables e below _ (s₁.setTop (mkF m 87 #[.val (.int p1), .val (.int p2), .val (.int (own_n p1)), .val (.int (own_n p2))] [(.int (((p2.toUInt32 >>> ((24 : Int32) &&& 31).toUInt32).toInt32) &&& (255 : Int32))), (.int (own_x2 p1))]))
          have q130 : (((p2.toUInt32 >>> ((24 : Int32) &&& 31).toUInt32).toInt32) &&& (255 : Int32)) = (own_x2 p2) := rfl
          rw [q130]
          show Go p.tables e below _ (s₁.setTop (mkF m 87 #[.val (.int p1), .val (.int p2), .val (.int (own_n p1)), .val (.int (own_n p2))] [(.int (own_x2 p2)), (.int (own_x2 p1))]))
          by_cases hc87_131 : (own_x2 p1) = (own_x2 p2)
          · refine Go.step (fun _ kt => XS.icmpYes X0.here hx rfl (pc0 := 87) (pc' := 92) rfl (hb hby d9_87) rfl (teq hc87_131).1 (by decide) (by decide) (XS.iconst X0.here hx rfl (hb hby d9_92) kt)) ?_
            show Go p.tables e below _ (s₁.setTop (mkF m 93 #[.val (.int p1), .val (.int p2), .val (.int (own_n p1)), .val (.int (own_n p2))] [(.int (1 : Int32))]))
            obtain ⟨fs, hr, hrun, hended, hW, hsame⟩ := X0.leave (v := some (.int (1 : Int32))) (fun h => by rw [Bd.returns] at h; cases h)
            refine ⟨_, _, retN X0 hx (t := .boolean) Bd.returns (by simp) (hb hby d9_93) hr, hrun, hended, _, _, rfl, ?_, ⟨_, rfl⟩, hW, hsame.mono (by decide) (by decide)⟩
            show Qrm9 Z p1 p2 h0 n0 _ s₁.heap _
            rw [e0]
            refine ⟨?_, N0, rfl⟩
            have q : own_same p1 p2 = (1 : Int32) := by simp only [own_same]; simp [hc10_103.symm, hc16_104, hc42_120, hc68_128, hc87_131]
            rw [q]
          · refine Go.step (fun _ kt => XS.icmpNo X0.here hx rfl (hb hby d9_87) rfl (feq hc87_131).1 (XS.iconst X0.here hx rfl (hb hby d9_90) kt)) ?_
            show Go p.tables e below _ (s₁.setTop (mkF m 91 #[.val (.int p1), .val (.int p2), .val (.int (own_n p1)), .val (.int (own_n p2))] [(.int (0 : Int32))]))
            obtain ⟨fs, hr, hrun, hended, hW, hsame⟩ := X0.leave (v := some (.int (0 : Int32))) (fun h => by rw [Bd.returns] at h; cases h)
            refine ⟨_, _, retN X0 hx (t := .boolean) Bd.returns (by simp) (hb hby d9_91) hr, hrun, hended, _, _, rfl, ?_, ⟨_, rfl⟩, hW, hsame.mono (by decide) (by decide)⟩
            show Qrm9 Z p1 p2 h0 n0 _ s₁.heap _
            rw [e0]
            refine ⟨?_, N0, rfl⟩
            have q : own_same p1 p2 = (0 : Int32) := by simp only [own_same]; simp [hc10_103.symm, hc16_104, hc42_120, hc68_128, hc87_131]
            rw [q]
        · refine Go.step (fun _ kt => XS.icmpYes X0.here hx rfl (pc0 := 68) (pc' := 92) rfl (hb hby d9_68) rfl (flt hc68_128).2.2.2 (by decide) (by decide) (XS.iconst X0.here hx rfl (hb hby d9_92) kt)) ?_
          show Go p.tables e below _ (s₁.setTop (mkF m 93 #[.val (.int p1), .val (.int p2), .val (.int (own_n p1)), .val (.int (own_n p2))] [(.int (1 : Int32))]))
          obtain ⟨fs, hr, hrun, hended, hW, hsame⟩ := X0.leave (v := some (.int (1 : Int32))) (fun h => by rw [Bd.returns] at h; cases h)
          refine ⟨_, _, retN X0 hx (t := .boolean) Bd.returns (by simp) (hb hby d9_93) hr, hrun, hended, _, _, rfl, ?_, ⟨_, rfl⟩, hW, hsame.mono (by decide) (by decide)⟩
          show Qrm9 Z p1 p2 h0 n0 _ s₁.heap _
          rw [e0]
          refine ⟨?_, N0, rfl⟩
          have q : own_same p1 p2 = (1 : Int32) := by simp only [own_same]; simp [hc10_103.symm, hc16_104, hc42_120, hc68_128]
          rw [q]
  · refine Go.step (fun _ kt => XS.icmpNo X0.here hx rfl (hb hby d9_10) rfl (feq hc10_103).1 (XS.iconst X0.here hx rfl (hb hby d9_13) kt)) ?_
    show Go p.tables e below _ (s₁.setTop (mkF m 14 #[.val (.int p1), .val (.int p2), .val (.int (own_n p1)), .val (.int (own_n p2))] [(.int (0 : Int32))]))
    obtain ⟨fs, hr, hrun, hended, hW, hsame⟩ := X0.leave (v := some (.int (0 : Int32))) (fun h => by rw [Bd.returns] at h; cases h)
    refine ⟨_, _, retN X0 hx (t := .boolean) Bd.returns (by simp) (hb hby d9_14) hr, hrun, hended, _, _, rfl, ?_, ⟨_, rfl⟩, hW, hsame.mono (by decide) (by decide)⟩
    show Qrm9 Z p1 p2 h0 n0 _ s₁.heap _
    rw [e0]
    refine ⟨?_, N0, rfl⟩
    have q : own_same p1 p2 = (0 : Int32) := by simp only [own_same]; simp [hc10_103]
    rw [q]
theorem pn_4 : plainName "java/lang/StringLatin1" = true := by first | (simp [plainName, overriddenIn]; done) | decide +kernel
theorem d12_0 : decode jdk_43_method_13_code 0 = .ok (.aload_n 0, 1) := by decide +kernel
theorem d12_1 : decode jdk_43_method_13_code 1 = .ok (.arraylength, 1) := by decide +kernel
theorem d12_2 : decode jdk_43_method_13_code 2 = .ok (.aload_n 1, 1) := by decide +kernel
theorem d12_3 : decode jdk_43_method_13_code 3 = .ok (.arraylength, 1) := by decide +kernel
theorem d12_4 : decode jdk_43_method_13_code 4 = .ok (.if_icmp .ne 30, 3) := by decide +kernel
theorem d12_7 : decode jdk_43_method_13_code 7 = .ok (.iconst 0, 1) := by decide +kernel
theorem d12_8 : decode jdk_43_method_13_code 8 = .ok (.istore_n 2, 1) := by decide +kernel
theorem d12_9 : decode jdk_43_method_13_code 9 = .ok (.iload_n 2, 1) := by decide +kernel
theorem d12_10 : decode jdk_43_method_13_code 10 = .ok (.aload_n 0, 1) := by decide +kernel
theorem d12_11 : decode jdk_43_method_13_code 11 = .ok (.arraylength, 1) := by decide +kernel
theorem d12_12 : decode jdk_43_method_13_code 12 = .ok (.if_icmp .ge 20, 3) := by decide +kernel
theorem d12_15 : decode jdk_43_method_13_code 15 = .ok (.aload_n 0, 1) := by decide +kernel
theorem d12_16 : decode jdk_43_method_13_code 16 = .ok (.iload_n 2, 1) := by decide +kernel
theorem d12_17 : decode jdk_43_method_13_code 17 = .ok (.baload, 1) := by decide +kernel
theorem d12_18 : decode jdk_43_method_13_code 18 = .ok (.aload_n 1, 1) := by decide +kernel
theorem d12_19 : decode jdk_43_method_13_code 19 = .ok (.iload_n 2, 1) := by decide +kernel
theorem d12_20 : decode jdk_43_method_13_code 20 = .ok (.baload, 1) := by decide +kernel
theorem d12_21 : decode jdk_43_method_13_code 21 = .ok (.if_icmp .eq 5, 3) := by decide +kernel
theorem d12_24 : decode jdk_43_method_13_code 24 = .ok (.iconst 0, 1) := by decide +kernel
theorem d12_25 : decode jdk_43_method_13_code 25 = .ok (.ireturn, 1) := by decide +kernel
theorem d12_26 : decode jdk_43_method_13_code 26 = .ok (.iinc 2 1, 3) := by decide +kernel
theorem d12_29 : decode jdk_43_method_13_code 29 = .ok (.goto (-20), 3) := by decide +kernel
theorem d12_32 : decode jdk_43_method_13_code 32 = .ok (.iconst 1, 1) := by decide +kernel
theorem d12_33 : decode jdk_43_method_13_code 33 = .ok (.ireturn, 1) := by decide +kernel
theorem d12_34 : decode jdk_43_method_13_code 34 = .ok (.iconst 0, 1) := by decide +kernel
theorem d12_35 : decode jdk_43_method_13_code 35 = .ok (.ireturn, 1) := by decide +kernel
theorem ef_rm12 (m : MethodId) (a1 : Addr) (a2 : Addr) (k1 : ClassId) (k2 : ClassId) (xa : Int32) (xb : Int32) : entryFrame m #[(.ref a1), (.ref a2)] 3 = mkF m 0 #[.val (.ref a1), .val (.ref a2), .unset] [] := by first | (simp [entryFrame, mkF, argsToLocals, Value.category]; done) | rfl
def Qrm12 (Z : State) (a1 : Addr) (a2 : Addr) (k1 : ClassId) (k2 : ClassId) (xa : Int32) (xb : Int32) (h0 : Heap) (n0 : Nat) (v : Option Value) (h : Heap) (L : List Loc) : Prop := v = some (.int (own_same xa xb)) ∧ Fr n0 L ∧ h = h0
set_option maxRecDepth 65536 in
set_option maxHeartbeats 40000000 in
theorem rm12 (l : Launch) (Z : State) (a0 : Array Value) (hw : ∀ d ∈ tables_1, d.before a0 Z = true) (ws : List Jvm.Cond) (a1 : Addr) (a2 : Addr) (k1 : ClassId) (k2 : ClassId) (xa : Int32) (xb : Int32) (h0 : Heap) (n0 : Nat) (Z0 : n0 ≤ h0.size) (V1 : Arv Z h0 a1 k1 .byte (own_n xa) [(.int (own_by (own_x0 xa))), (.int (own_by (own_x1 xa))), (.int (own_by (own_x2 xa)))] (.int (0 : Int32))) (V2 : Arv Z h0 a2 k2 .byte (own_n xb) [(.int (own_by (own_x0 xb))), (.int (own_by (own_x1 xb))), (.int (own_by (own_x2 xb)))] (.int (0 : Int32))) :
    MetFree l (⟨"java/lang/StringLatin1", "equals", "([B[B)Z"⟩ : MethodName) (head1 (Jvm.Cond.code (⟨"java/lang/StringLatin1", "equals", "([B[B)Z"⟩ : MethodName) jdk_43_method_13_code 3 (some .boolean) :: ws) ({ frames := 0, cells := 0, slots := 0, locals := 0 } : Room)) (fun a U => a = #[(.ref a1), (.ref a2)] ∧ Z.Warmed39 U.vm ∧ U.heap = h0) (fun _ _ _ _ _ => True) (fun _ U o U' => ∃ v L, o = .returned v ∧ Qrm12 Z a1 a2 k1 k2 xa xb h0 n0 v U'.heap L ∧ FrameEnd U o U' L ({ frames := 0, cells := 0, slots := 0, locals := 0 } : Room).cells ({ frames := 0, cells := 0, slots := 0, locals := 0 } : Room).slots) := by
  refine MetFree.of_bodySF (plainFor_of_name pn_4) hisR ?_
  intro p e s m args below meth c s₁ Bd hml0 hP hK
  obtain ⟨rfl, hZ, hh⟩ := hP
  have hx := Bd.exec
  have hby := Bd.bytes
  have hml : c.maxLocals = 3 := hml0
  have hown : s.vm.findClass "java/lang/StringLatin1" = some m.cls := findClass_of_methodNamed Bd.named
  have hnm := (name_of_methodNamed Bd.named Bd.method).1
  have X0 : Stand p l e ({ frames := 0, cells := 0, slots := 0, locals := 0 } : Room) s m #[(.ref a1), (.ref a2)] below meth c s₁ [] 0 0 := Stand.of_body Bd
  have e0 : s₁.heap = h0 := by rw [← hh, Bd.state]; rfl
  have N0 := Fr.nil n0
  show Go p.tables e below (fun o U' => ∃ v L, o = .returned v ∧ Qrm12 Z a1 a2 k1 k2 xa xb h0 n0 v U'.heap L ∧ FrameEnd s o U' L ({ frames := 0, cells := 0, slots := 0, locals := 0 } : Room).cells ({ frames := 0, cells := 0, slots := 0, locals := 0 } : Room).slots) _
  refine Go.step (fun t kt => castTop (ef_rm12 m a1 a2 k1 k2 xa xb) kt) ?_
  show Go p.tables e below _ (s₁.setTop (mkF m 0 #[.val (.ref a1), .val (.ref a2), .unset] []))
  rcases own_and3 xa with hp | hp | hp | hp
  · rcases own_and3 xb with hq | hq | hq | hq
    · have hp' : own_n xa = (0 : Int32) := hp
      have hq' : own_n xb = (0 : Int32) := hq
      have Vn101 : Arv Z h0 a1 k1 .byte (0 : Int32) [(.int (own_by (own_x0 xa))), (.int (own_by (own_x1 xa))), (.int (own_by (own_x2 xa)))] (.int (0 : Int32)) := by have q0 := V1; rw [hp'] at q0; exact q0
      have Vn102 : Arv Z h0 a2 k2 .byte (0 : Int32) [(.int (own_by (own_x0 xb))), (.int (own_by (own_x1 xb))), (.int (own_by (own_x2 xb)))] (.int (0 : Int32)) := by have q0 := V2; rw [hq'] at q0; exact q0
      refine Go.step (fun _ kt => XS.aloadN X0.here hx rfl (hb hby d12_0) rfl rfl kt) ?_
      show Go p.tables e below _ (s₁.setTop (mkF m 1 #[.val (.ref a1), .val (.ref a2), .unset] [(.ref a1)]))
      obtain ⟨cl103, Ar103, qa103, Sa103, Na103, Ha103, Ga103⟩ := (id Vn101)
      refine Go.step (X0.arraylength hx (by rw [e0]; exact Ar103.1) (State.isArrayOf_alike hZ.alike Ar103.2.1) (g := (mkF m 1 #[.val (.ref a1), .val (.ref a2), .unset] [(.ref a1)])) rfl rfl (hb hby d12_1)) ?_
      rw [len_of Sa103 Na103]
      show Go p.tables e below _ (s₁.setTop (mkF m 2 #[.val (.ref a1), .val (.ref a2), .unset] [(.int (0 : Int32))]))
      refine Go.step (fun _ kt => XS.aloadN X0.here hx rfl (hb hby d12_2) rfl rfl kt) ?_
      show Go p.tables e below _ (s₁.setTop (mkF m 3 #[.val (.ref a1), .val (.ref a2), .unset] [(.ref a2), (.int (0 : Int32))]))
      obtain ⟨cl104, Ar104, qa104, Sa104, Na104, Ha104, Ga104⟩ := (id Vn102)
      refine Go.step (X0.arraylength hx (by rw [e0]; exact Ar104.1) (State.isArrayOf_alike hZ.alike Ar104.2.1) (g := (mkF m 3 #[.val (.ref a1), .val (.ref a2), .unset] [(.ref a2), (.int (0 : Int32))])) rfl rfl (hb hby d12_3)) ?_
      rw [len_of Sa104 Na104]
      show Go p.tables e below _ (s₁.setTop (mkF m 4 #[.val (.ref a1), .val (.ref a2), .unset] [(.int (0 : Int32)), (.int (0 : Int32))]))
      refine Go.step (fun _ kt => XS.icmpNo X0.here hx rfl (hb hby d12_4) rfl (teq (by decide : (0 : Int32) = (0 : Int32))).2 (XS.iconst X0.here hx rfl (hb hby d12_7) (XS.istoreN X0.here hx rfl (hb hby d12_8) rfl (l' := #[.val (.ref a1), .val (.ref a2), .val (.int (0 : Int32))]) rfl (XS.iloadN X0.here hx rfl (hb hby d12_9) rfl (XS.aloadN X0.here hx rfl (hb hby d12_10) rfl rfl kt))))) ?_
      show Go p.tables e below _ (s₁.setTop (mkF m 11 #[.val (.ref a1), .val (.ref a2), .val (.int (0 : Int32))] [(.ref a1), (.int (0 : Int32))]))
      obtain ⟨cl105, Ar105, qa105, Sa105, Na105, Ha105, Ga105⟩ := (id Vn101)
      refine Go.step (X0.arraylength hx (by rw [e0]; exact Ar105.1) (State.isArrayOf_alike hZ.alike Ar105.2.1) (g := (mkF m 11 #[.val (.ref a1), .val (.ref a2), .val (.int (0 : Int32))] [(.ref a1), (.int (0 : Int32))])) rfl rfl (hb hby d12_11)) ?_
      rw [len_of Sa105 Na105]
      show Go p.tables e below _ (s₁.setTop (mkF m 12 #[.val (.ref a1), .val (.ref a2), .val (.int (0 : Int32))] [(.int (0 : Int32)), (.int (0 : Int32))]))
      refine Go.step (fun _ kt => XS.icmpYes X0.here hx rfl (pc0 := 12) (pc' := 32) rfl (hb hby d12_12) rfl (flt (by decide : ¬ ((0 : Int32) < (0 : Int32)))).2.1 (by decide) (by decide) (XS.iconst X0.here hx rfl (hb hby d12_32) kt)) ?_
      show Go p.tables e below _ (s₁.setTop (mkF m 33 #[.val (.ref a1), .val (.ref a2), .val (.int (0 : Int32))] [(.int (1 : Int32))]))
      obtain ⟨fs, hr, hrun, hended, hW, hsame⟩ := X0.leave (v := some (.int (1 : Int32))) (fun h => by rw [Bd.returns] at h; cases h)
      refine ⟨_, _, retN X0 hx (t := .boolean) Bd.returns (by simp) (hb hby d12_33) hr, hrun, hended, _, _, rfl, ?_, ⟨_, rfl⟩, hW, hsame.mono (by decide) (by decide)⟩
      show Qrm12 Z a1 a2 k1 k2 xa xb h0 n0 _ s₁.heap _
      rw [e0]
      refine ⟨?_, N0, rfl⟩
      have q0 : own_same xa xb = (1 : Int32) := by simp only [own_same, hp', hq']; simp []
      rw [q0]
    · have hp' : own_n xa = (0 : Int32) := hp
      have hq' : own_n xb = (1 : Int32) := hq
      have Vn106 : Arv Z h0 a1 k1 .byte (0 : Int32) [(.int (own_by (own_x0 xa))), (.int (own_by (own_x1 xa))), (.int (own_by (own_x2 xa)))] (.int (0 : Int32)) := by have q0 := V1; rw [hp'] at q0; exact q0
      have Vn107 : Arv Z h0 a2 k2 .byte (1 : Int32) [(.int (own_by (own_x0 xb))), (.int (own_by (own_x1 xb))), (.int (own_by (own_x2 xb)))] (.int (0 : Int32)) := by have q0 := V2; rw [hq'] at q0; exact q0
      refine Go.step (fun _ kt => XS.aloadN X0.here hx rfl (hb hby d12_0) rfl rfl kt) ?_
      show Go p.tables e below _ (s₁.setTop (mkF m 1 #[.val (.ref a1), .val (.ref a2), .unset] [(.ref a1)]))
      obtain ⟨cl108, Ar108, qa108, Sa108, Na108, Ha108, Ga108⟩ := (id Vn106)
      refine Go.step (X0.arraylength hx (by rw [e0]; exact Ar108.1) (State.isArrayOf_alike hZ.alike Ar108.2.1) (g := (mkF m 1 #[.val (.ref a1), .val (.ref a2), .unset] [(.ref a1)])) rfl rfl (hb hby d12_1)) ?_
      rw [len_of Sa108 Na108]
      show Go p.tables e below _ (s₁.setTop (mkF m 2 #[.val (.ref a1), .val (.ref a2), .unset] [(.int (0 : Int32))]))
      refine Go.step (fun _ kt => XS.aloadN X0.here hx rfl (hb hby d12_2) rfl rfl kt) ?_
      show Go p.tables e below _ (s₁.setTop (mkF m 3 #[.val (.ref a1), .val (.ref a2), .unset] [(.ref a2), (.int (0 : Int32))]))
      obtain ⟨cl109, Ar109, qa109, Sa109, Na109, Ha109, Ga109⟩ := (id Vn107)
      refine Go.step (X0.arraylength hx (by rw [e0]; exact Ar109.1) (State.isArrayOf_alike hZ.alike Ar109.2.1) (g := (mkF m 3 #[.val (.ref a1), .val (.ref a2), .unset] [(.ref a2), (.int (0 : Int32))])) rfl rfl (hb hby d12_3)) ?_
      rw [len_of Sa109 Na109]
      show Go p.tables e below _ (s₁.setTop (mkF m 4 #[.val (.ref a1), .val (.ref a2), .unset] [(.int (1 : Int32)), (.int (0 : Int32))]))
      refine Go.step (fun _ kt => XS.icmpYes X0.here hx rfl (pc0 := 4) (pc' := 34) rfl (hb hby d12_4) rfl (feq (by decide : ¬ ((0 : Int32) = (1 : Int32)))).2 (by decide) (by decide) (XS.iconst X0.here hx rfl (hb hby d12_34) kt)) ?_
      show Go p.tables e below _ (s₁.setTop (mkF m 35 #[.val (.ref a1), .val (.ref a2), .unset] [(.int (0 : Int32))]))
      obtain ⟨fs, hr, hrun, hended, hW, hsame⟩ := X0.leave (v := some (.int (0 : Int32))) (fun h => by rw [Bd.returns] at h; cases h)
      refine ⟨_, _, retN X0 hx (t := .boolean) Bd.returns (by simp) (hb hby d12_35) hr, hrun, hended, _, _, rfl, ?_, ⟨_, rfl⟩, hW, hsame.mono (by decide) (by decide)⟩
      show Qrm12 Z a1 a2 k1 k2 xa xb h0 n0 _ s₁.heap _
      rw [e0]
      refine ⟨?_, N0, rfl⟩
      have q0 : own_same xa xb = (0 : Int32) := by simp only [own_same, hp', hq']; simp
      rw [q0]
    · have hp' : own_n xa = (0 : Int32) := hp
      have hq' : own_n xb = (2 : Int32) := hq
      have Vn110 : Arv Z h0 a1 k1 .byte (0 : Int32) [(.int (own_by (own_x0 xa))), (.int (own_by (own_x1 xa))), (.int (own_by (own_x2 xa)))] (.int (0 : Int32)) := by have q0 := V1; rw [hp'] at q0; exact q0
      have Vn111 : Arv Z h0 a2 k2 .byte (2 : Int32) [(.int (own_by (own_x0 xb))), (.int (own_by (own_x1 xb))), (.int (own_by (own_x2 xb)))] (.int (0 : Int32)) := by have q0 := V2; rw [hq'] at q0; exact q0
      refine Go.step (fun _ kt => XS.aloadN X0.here hx rfl (hb hby d12_0) rfl rfl kt) ?_
      show Go p.tables e below _ (s₁.setTop (mkF m 1 #[.val (.ref a1), .val (.ref a2), .unset] [(.ref a1)]))
      obtain ⟨cl112, Ar112, qa112, Sa112, Na112, Ha112, Ga112⟩ := (id Vn110)
      refine Go.step (X0.arraylength hx (by rw [e0]; exact Ar112.1) (State.isArrayOf_alike hZ.alike Ar112.2.1) (g := (mkF m 1 #[.val (.ref a1), .val (.ref a2), .unset] [(.ref a1)])) rfl rfl (hb hby d12_1)) ?_
      rw [len_of Sa112 Na112]
      show Go p.tables e below _ (s₁.setTop (mkF m 2 #[.val (.ref a1), .val (.ref a2), .unset] [(.int (0 : Int32))]))
      refine Go.step (fun _ kt => XS.aloadN X0.here hx rfl (hb hby d12_2) rfl rfl kt) ?_
      show Go p.tables e below _ (s₁.setTop (mkF m 3 #[.val (.ref a1), .val (.ref a2), .unset] [(.ref a2), (.int (0 : Int32))]))
      obtain ⟨cl113, Ar113, qa113, Sa113, Na113, Ha113, Ga113⟩ := (id Vn111)
      refine Go.step (X0.arraylength hx (by rw [e0]; exact Ar113.1) (State.isArrayOf_alike hZ.alike Ar113.2.1) (g := (mkF m 3 #[.val (.ref a1), .val (.ref a2), .unset] [(.ref a2), (.int (0 : Int32))])) rfl rfl (hb hby d12_3)) ?_
      rw [len_of Sa113 Na113]
      show Go p.tables e below _ (s₁.setTop (mkF m 4 #[.val (.ref a1), .val (.ref a2), .unset] [(.int (2 : Int32)), (.int (0 : Int32))]))
      refine Go.step (fun _ kt => XS.icmpYes X0.here hx rfl (pc0 := 4) (pc' := 34) rfl (hb hby d12_4) rfl (feq (by decide : ¬ ((0 : Int32) = (2 : Int32)))).2 (by decide) (by decide) (XS.iconst X0.here hx rfl (hb hby d12_34) kt)) ?_
      show Go p.tables e below _ (s₁.setTop (mkF m 35 #[.val (.ref a1), .val (.ref a2), .unset] [(.int (0 : Int32))]))
      obtain ⟨fs, hr, hrun, hended, hW, hsame⟩ := X0.leave (v := some (.int (0 : Int32))) (fun h => by rw [Bd.returns] at h; cases h)
      refine ⟨_, _, retN X0 hx (t := .boolean) Bd.returns (by simp) (hb hby d12_35) hr, hrun, hended, _, _, rfl, ?_, ⟨_, rfl⟩, hW, hsame.mono (by decide) (by decide)⟩
      show Qrm12 Z a1 a2 k1 k2 xa xb h0 n0 _ s₁.heap _
      rw [e0]
      refine ⟨?_, N0, rfl⟩
      have q0 : own_same xa xb = (0 : Int32) := by simp only [own_same, hp', hq']; simp
      rw [q0]
    · have hp' : own_n xa = (0 : Int32) := hp
      have hq' : own_n xb = (3 : Int32) := hq
      have Vn114 : Arv Z h0 a1 k1 .byte (0 : Int32) [(.int (own_by (own_x0 xa))), (.int (own_by (own_x1 xa))), (.int (own_by (own_x2 xa)))] (.int (0 : Int32)) := by have q0 := V1; rw [hp'] at q0; exact q0
      have Vn115 : Arv Z h0 a2 k2 .byte (3 : Int32) [(.int (own_by (own_x0 xb))), (.int (own_by (own_x1 xb))), (.int (own_by (own_x2 xb)))] (.int (0 : Int32)) := by have q0 := V2; rw [hq'] at q0; exact q0
      refine Go.step (fun _ kt => XS.aloadN X0.here hx rfl (hb hby d12_0) rfl rfl kt) ?_
      show Go p.tables e below _ (s₁.setTop (mkF m 1 #[.val (.ref a1), .val (.ref a2), .unset] [(.ref a1)]))
      obtain ⟨cl116, Ar116, qa116, Sa116, Na116, Ha116, Ga116⟩ := (id Vn114)
      refine Go.step (X0.arraylength hx (by rw [e0]; exact Ar116.1) (State.isArrayOf_alike hZ.alike Ar116.2.1) (g := (mkF m 1 #[.val (.ref a1), .val (.ref a2), .unset] [(.ref a1)])) rfl rfl (hb hby d12_1)) ?_
      rw [len_of Sa116 Na116]
      show Go p.tables e below _ (s₁.setTop (mkF m 2 #[.val (.ref a1), .val (.ref a2), .unset] [(.int (0 : Int32))]))
      refine Go.step (fun _ kt => XS.aloadN X0.here hx rfl (hb hby d12_2) rfl rfl kt) ?_
      show Go p.tables e below _ (s₁.setTop (mkF m 3 #[.val (.ref a1), .val (.ref a2), .unset] [(.ref a2), (.int (0 : Int32))]))
      obtain ⟨cl117, Ar117, qa117, Sa117, Na117, Ha117, Ga117⟩ := (id Vn115)
      refine Go.step (X0.arraylength hx (by rw [e0]; exact Ar117.1) (State.isArrayOf_alike hZ.alike Ar117.2.1) (g := (mkF m 3 #[.val (.ref a1), .val (.ref a2), .unset] [(.ref a2), (.int (0 : Int32))])) rfl rfl (hb hby d12_3)) ?_
      rw [len_of Sa117 Na117]
      show Go p.tables e below _ (s₁.setTop (mkF m 4 #[.val (.ref a1), .val (.ref a2), .unset] [(.int (3 : Int32)), (.int (0 : Int32))]))
      refine Go.step (fun _ kt => XS.icmpYes X0.here hx rfl (pc0 := 4) (pc' := 34) rfl (hb hby d12_4) rfl (feq (by decide : ¬ ((0 : Int32) = (3 : Int32)))).2 (by decide) (by decide) (XS.iconst X0.here hx rfl (hb hby d12_34) kt)) ?_
      show Go p.tables e below _ (s₁.setTop (mkF m 35 #[.val (.ref a1), .val (.ref a2), .unset] [(.int (0 : Int32))]))
      obtain ⟨fs, hr, hrun, hended, hW, hsame⟩ := X0.leave (v := some (.int (0 : Int32))) (fun h => by rw [Bd.returns] at h; cases h)
      refine ⟨_, _, retN X0 hx (t := .boolean) Bd.returns (by simp) (hb hby d12_35) hr, hrun, hended, _, _, rfl, ?_, ⟨_, rfl⟩, hW, hsame.mono (by decide) (by decide)⟩
      show Qrm12 Z a1 a2 k1 k2 xa xb h0 n0 _ s₁.heap _
      rw [e0]
      refine ⟨?_, N0, rfl⟩
      have q0 : own_same xa xb = (0 : Int32) := by simp only [own_same, hp', hq']; simp
      rw [q0]
  · rcases own_and3 xb with hq | hq | hq | hq
    · have hp' : own_n xa = (1 : Int32) := hp
      have hq' : own_n xb = (0 : Int32) := hq
      have Vn118 : Arv Z h0 a1 k1 .byte (1 : Int32) [(.int (own_by (own_x0 xa))), (.int (own_by (own_x1 xa))), (.int (own_by (own_x2 xa)))] (.int (0 : Int32)) := by have q0 := V1; rw [hp'] at q0; exact q0
      have Vn119 : Arv Z h0 a2 k2 .byte (0 : Int32) [(.int (own_by (own_x0 xb))), (.int (own_by (own_x1 xb))), (.int (own_by (own_x2 xb)))] (.int (0 : Int32)) := by have q0 := V2; rw [hq'] at q0; exact q0
      refine Go.step (fun _ kt => XS.aloadN X0.here hx rfl (hb hby d12_0) rfl rfl kt) ?_
      show Go p.tables e below _ (s₁.setTop (mkF m 1 #[.val (.ref a1), .val (.ref a2), .unset] [(.ref a1)]))
      obtain ⟨cl120, Ar120, qa120, Sa120, Na120, Ha120, Ga120⟩ := (id Vn118)
      refine Go.step (X0.arraylength hx (by rw [e0]; exact Ar120.1) (State.isArrayOf_alike hZ.alike Ar120.2.1) (g := (mkF m 1 #[.val (.ref a1), .val (.ref a2), .unset] [(.ref a1)])) rfl rfl (hb hby d12_1)) ?_
      rw [len_of Sa120 Na120]
      show Go p.tables e below _ (s₁.setTop (mkF m 2 #[.val (.ref a1), .val (.ref a2), .unset] [(.int (1 : Int32))]))
      refine Go.step (fun _ kt => XS.aloadN X0.here hx rfl (hb hby d12_2) rfl rfl kt) ?_
      show Go p.tables e below _ (s₁.setTop (mkF m 3 #[.val (.ref a1), .val (.ref a2), .unset] [(.ref a2), (.int (1 : Int32))]))
      obtain ⟨cl121, Ar121, qa121, Sa121, Na121, Ha121, Ga121⟩ := (id Vn119)
      refine Go.step (X0.arraylength hx (by rw [e0]; exact Ar121.1) (State.isArrayOf_alike hZ.alike Ar121.2.1) (g := (mkF m 3 #[.val (.ref a1), .val (.ref a2), .unset] [(.ref a2), (.int (1 : Int32))])) rfl rfl (hb hby d12_3)) ?_
      rw [len_of Sa121 Na121]
      show Go p.tables e below _ (s₁.setTop (mkF m 4 #[.val (.ref a1), .val (.ref a2), .unset] [(.int (0 : Int32)), (.int (1 : Int32))]))
      refine Go.step (fun _ kt => XS.icmpYes X0.here hx rfl (pc0 := 4) (pc' := 34) rfl (hb hby d12_4) rfl (feq (by decide : ¬ ((1 : Int32) = (0 : Int32)))).2 (by decide) (by decide) (XS.iconst X0.here hx rfl (hb hby d12_34) kt)) ?_
      show Go p.tables e below _ (s₁.setTop (mkF m 35 #[.val (.ref a1), .val (.ref a2), .unset] [(.int (0 : Int32))]))
      obtain ⟨fs, hr, hrun, hended, hW, hsame⟩ := X0.leave (v := some (.int (0 : Int32))) (fun h => by rw [Bd.returns] at h; cases h)
      refine ⟨_, _, retN X0 hx (t := .boolean) Bd.returns (by simp) (hb hby d12_35) hr, hrun, hended, _, _, rfl, ?_, ⟨_, rfl⟩, hW, hsame.mono (by decide) (by decide)⟩
      show Qrm12 Z a1 a2 k1 k2 xa xb h0 n0 _ s₁.heap _
      rw [e0]
      refine ⟨?_, N0, rfl⟩
      have q0 : own_same xa xb = (0 : Int32) := by simp only [own_same, hp', hq']; simp
      rw [q0]
    · have hp' : own_n xa = (1 : Int32) := hp
      have hq' : own_n xb = (1 : Int32) := hq
      have Vn122 : Arv Z h0 a1 k1 .byte (1 : Int32) [(.int (own_by (own_x0 xa))), (.int (own_by (own_x1 xa))), (.int (own_by (own_x2 xa)))] (.int (0 : Int32)) := by have q0 := V1; rw [hp'] at q0; exact q0
      have Vn123 : Arv Z h0 a2 k2 .byte (1 : Int32) [(.int (own_by (own_x0 xb))), (.int (own_by (own_x1 xb))), (.int (own_by (own_x2 xb)))] (.int (0 : Int32)) := by have q0 := V2; rw [hq'] at q0; exact q0
      refine Go.step (fun _ kt => XS.aloadN X0.here hx rfl (hb hby d12_0) rfl rfl kt) ?_
      show Go p.tables e below _ (s₁.setTop (mkF m 1 #[.val (.ref a1), .val (.ref a2), .unset] [(.ref a1)]))
      obtain ⟨cl124, Ar124, qa124, Sa124, Na124, Ha124, Ga124⟩ := (id Vn122)
      refine Go.step (X0.arraylength hx (by rw [e0]; exact Ar124.1) (State.isArrayOf_alike hZ.alike Ar124.2.1) (g := (mkF m 1 #[.val (.ref a1), .val (.ref a2), .unset] [(.ref a1)])) rfl rfl (hb hby d12_1)) ?_
      rw [len_of Sa124 Na124]
      show Go p.tables e below _ (s₁.setTop (mkF m 2 #[.val (.ref a1), .val (.ref a2), .unset] [(.int (1 : Int32))]))
      refine Go.step (fun _ kt => XS.aloadN X0.here hx rfl (hb hby d12_2) rfl rfl kt) ?_
      show Go p.tables e below _ (s₁.setTop (mkF m 3 #[.val (.ref a1), .val (.ref a2), .unset] [(.ref a2), (.int (1 : Int32))]))
      obtain ⟨cl125, Ar125, qa125, Sa125, Na125, Ha125, Ga125⟩ := (id Vn123)
      refine Go.step (X0.arraylength hx (by rw [e0]; exact Ar125.1) (State.isArrayOf_alike hZ.alike Ar125.2.1) (g := (mkF m 3 #[.val (.ref a1), .val (.ref a2), .unset] [(.ref a2), (.int (1 : Int32))])) rfl rfl (hb hby d12_3)) ?_
      rw [len_of Sa125 Na125]
      show Go p.tables e below _ (s₁.setTop (mkF m 4 #[.val (.ref a1), .val (.ref a2), .unset] [(.int (1 : Int32)), (.int (1 : Int32))]))
      refine Go.step (fun _ kt => XS.icmpNo X0.here hx rfl (hb hby d12_4) rfl (teq (by decide : (1 : Int32) = (1 : Int32))).2 (XS.iconst X0.here hx rfl (hb hby d12_7) (XS.istoreN X0.here hx rfl (hb hby d12_8) rfl (l' := #[.val (.ref a1), .val (.ref a2), .val (.int (0 : Int32))]) rfl (XS.iloadN X0.here hx rfl (hb hby d12_9) rfl (XS.aloadN X0.here hx rfl (hb hby d12_10) rfl rfl kt))))) ?_
      show Go p.tables e below _ (s₁.setTop (mkF m 11 #[.val (.ref a1), .val (.ref a2), .val (.int (0 : Int32))] [(.ref a1), (.int (0 : Int32))]))
      obtain ⟨cl126, Ar126, qa126, Sa126, Na126, Ha126, Ga126⟩ := (id Vn122)
      refine Go.step (X0.arraylength hx (by rw [e0]; exact Ar126.1) (State.isArrayOf_alike hZ.alike Ar126.2.1) (g := (mkF m 11 #[.val (.ref a1), .val (.ref a2), .val (.int (0 : Int32))] [(.ref a1), (.int (0 : Int32))])) rfl rfl (hb hby d12_11)) ?_
      rw [len_of Sa126 Na126]
      show Go p.tables e below _ (s₁.setTop (mkF m 12 #[.val (.ref a1), .val (.ref a2), .val (.int (0 : Int32))] [(.int (1 : Int32)), (.int (0 : Int32))]))
      refine Go.step (fun _ kt => XS.icmpNo X0.here hx rfl (hb hby d12_12) rfl (tlt (by decide : (0 : Int32) < (1 : Int32))).2.1 (XS.aloadN X0.here hx rfl (hb hby d12_15) rfl rfl (XS.iloadN X0.here hx rfl (hb hby d12_16) rfl kt))) ?_
      show Go p.tables e below _ (s₁.setTop (mkF m 17 #[.val (.ref a1), .val (.ref a2), .val (.int (0 : Int32))] [(.int (0 : Int32)), (.ref a1)]))
      obtain ⟨cl127, Ar127, qa127, Sa127, Na127, Ha127, Ga127⟩ := (id Vn122)
      have hin127 : ¬ ((0 : Int32) < 0 ∨ cl127.slots.size ≤ ((0 : Int32)).toNatClampNeg) := inb_of Sa127 ⟨by decide, by decide⟩
      have hat127 : cl127.slots[((0 : Int32)).toNatClampNeg]? = some (.int (own_by (own_x0 xa))) := at_of Ha127 hin127 rfl
      refine Go.step (X0.baloadBytes hx (j := (0 : Int32)) (v := (.int (own_by (own_x0 xa)))) (by rw [e0]; exact Ar127.1) (State.isArrayOf_alike hZ.alike Ar127.2.1) Ar127.2.2 hin127 hat127 (g := (mkF m 17 #[.val (.ref a1), .val (.ref a2), .val (.int (0 : Int32))] [(.int (0 : Int32)), (.ref a1)])) rfl rfl (hb hby d12_17)) ?_
      show Go p.tables e below _ (s₁.setTop (mkF m 18 #[.val (.ref a1), .val (.ref a2), .val (.int (0 : Int32))] [(.int (own_by (own_x0 xa)))]))
      refine Go.step (fun _ kt => XS.aloadN X0.here hx rfl (hb hby d12_18) rfl rfl (XS.iloadN X0.here hx rfl (hb hby d12_19) rfl kt)) ?_
      show Go p.tables e below _ (s₁.setTop (mkF m 20 #[.val (.ref a1), .val (.ref a2), .val (.int (0 : Int32))] [(.int (0 : Int32)), (.ref a2), (.int (own_by (own_x0 xa)))]))
      obtain ⟨cl128, Ar128, qa128, Sa128, Na128, Ha128, Ga128⟩ := (id Vn123)
      have hin128 : ¬ ((0 : Int32) < 0 ∨ cl128.slots.size ≤ ((0 : Int32)).toNatClampNeg) := inb_of Sa128 ⟨by decide, by decide⟩
      have hat128 : cl128.slots[((0 : Int32)).toNatClampNeg]? = some (.int (own_by (own_x0 xb))) := at_of Ha128 hin128 rfl
      refine Go.step (X0.baloadBytes hx (j := (0 : Int32)) (v := (.int (own_by (own_x0 xb)))) (by rw [e0]; exact Ar128.1) (State.isArrayOf_alike hZ.alike Ar128.2.1) Ar128.2.2 hin128 hat128 (g := (mkF m 20 #[.val (.ref a1), .val (.ref a2), .val (.int (0 : Int32))] [(.int (0 : Int32)), (.ref a2), (.int (own_by (own_x0 xa)))])) rfl rfl (hb hby d12_20)) ?_
      show Go p.tables e below _ (s₁.setTop (mkF m 21 #[.val (.ref a1), .val (.ref a2), .val (.int (0 : Int32))] [(.int (own_by (own_x0 xb))), (.int (own_by (own_x0 xa)))]))
      by_cases hc21_129 : (own_by (own_x0 xa)) = (own_by (own_x0 xb))
      · refine Go.step (fun _ kt => XS.icmpYes X0.here hx rfl (pc0 := 21) (pc' := 26) rfl (hb hby d12_21) rfl (teq hc21_129).1 (by decide) (by decide) (XS.iinc X0.here hx rfl (hb hby d12_26) rfl (l' := #[.val (.ref a1), .val (.ref a2), .val (.int ((0 : Int32) + (1 : Int32)))]) rfl kt)) ?_
        show Go p.tables e below _ (s₁.setTop (mkF m 29 #[.val (.ref a1), .val (.ref a2), .val (.int ((0 : Int32) + (1 : Int32)))] []))
        have q130 : ((0 : Int32) + (1 : Int32)) = (1 : Int32) := by decide
        rw [q130]
        show Go p.tables e below _ (s₁.setTop (mkF m 29 #[.val (.ref a1), .val (.ref a2), .val (.int (1 : Int32))] []))
        refine Go.step (fun _ kt => XS.goto X0.here hx rfl (pc0 := 29) (pc' := 9) rfl (hb hby d12_29) (by decide) (by decide) (XS.iloadN X0.here hx rfl (hb hby d12_9) rfl (XS.aloadN X0.here hx rfl (hb hby d12_10) rfl rfl kt))) ?_
        show Go p.tables e below _ (s₁.setTop (mkF m 11 #[.val (.ref a1), .val (.ref a2), .val (.int (1 : Int32))] [(.ref a1), (.int (1 : Int32))]))
        obtain ⟨cl131, Ar131, qa131, Sa131, Na131, Ha131, Ga131⟩ := (id Vn122)
        refine Go.step (X0.arraylength hx (by rw [e0]; exact Ar131.1) (State.isArrayOf_alike hZ.alike Ar131.2.1) (g := (mkF m 11 #[.val (.ref a1), .val (.ref a2), .val (.int (1 : Int32))] [(.ref a1), (.int (1 : Int32))])) rfl rfl (hb hby d12_11)) ?_
        rw [len_of Sa131 Na131]
        show Go p.tables e below _ (s₁.setTop (mkF m 12 #[.val (.ref a1), .val (.ref a2), .val (.int (1 : Int32))] [(.int (1 : Int32)), (.int (1 : Int32))]))
        refine Go.step (fun _ kt => XS.icmpYes X0.here hx rfl (pc0 := 12) (pc' := 32) rfl (hb hby d12_12) rfl (flt (by decide : ¬ ((1 : Int32) < (1 : Int32)))).2.1 (by decide) (by decide) (XS.iconst X0.here hx rfl (hb hby d12_32) kt)) ?_
        show Go p.tables e below _ (s₁.setTop (mkF m 33 #[.val (.ref a1), .val (.ref a2), .val (.int (1 : Int32))] [(.int (1 : Int32))]))
        obtain ⟨fs, hr, hrun, hended, hW, hsame⟩ := X0.leave (v := some (.int (1 : Int32))) (fun h => by rw [Bd.returns] at h; cases h)
        refine ⟨_, _, retN X0 hx (t := .boolean) Bd.returns (by simp) (hb hby d12_33) hr, hrun, hended, _, _, rfl, ?_, ⟨_, rfl⟩, hW, hsame.mono (by decide) (by decide)⟩
        show Qrm12 Z a1 a2 k1 k2 xa xb h0 n0 _ s₁.heap _
        rw [e0]
        refine ⟨?_, N0, rfl⟩
        have d0 : own_x0 xa = own_x0 xb := own_byi _ _ (own_r0 xa) (own_r0 xb) hc21_129
        have q0 : own_same xa xb = (1 : Int32) := by simp only [own_same, hp', hq']; simp [d0]
        rw [q0]
      · refine Go.step (fun _ kt => XS.icmpNo X0.here hx rfl (hb hby d12_21) rfl (feq hc21_129).1 (XS.iconst X0.here hx rfl (hb hby d12_24) kt)) ?_
        show Go p.tables e below _ (s₁.setTop (mkF m 25 #[.val (.ref a1), .val (.ref a2), .val (.int (0 : Int32))] [(.int (0 : Int32))]))
        obtain ⟨fs, hr, hrun, hended, hW, hsame⟩ := X0.leave (v := some (.int (0 : Int32))) (fun h => by rw [Bd.returns] at h; cases h)
        refine ⟨_, _, retN X0 hx (t := .boolean) Bd.returns (by simp) (hb hby d12_25) hr, hrun, hended, _, _, rfl, ?_, ⟨_, rfl⟩, hW, hsame.mono (by decide) (by decide)⟩
        show Qrm12 Z a1 a2 k1 k2 xa xb h0 n0 _ s₁.heap _
        rw [e0]
        refine ⟨?_, N0, rfl⟩
        have d0 : ¬ own_x0 xa = own_x0 xb := fun q1 => hc21_129 (congrArg own_by q1)
        have q0 : own_same xa xb = (0 : Int32) := by simp only [own_same, hp', hq']; simp [d0]
        rw [q0]
    · have hp' : own_n xa = (1 : Int32) := hp
      have hq' : own_n xb = (2 : Int32) := hq
      have Vn132 : Arv Z h0 a1 k1 .byte (1 : Int32) [(.int (own_by (own_x0 xa))), (.int (own_by (own_x1 xa))), (.int (own_by (own_x2 xa)))] (.int (0 : Int32)) := by have q0 := V1; rw [hp'] at q0; exact q0
      have Vn133 : Arv Z h0 a2 k2 .byte (2 : Int32) [(.int (own_by (own_x0 xb))), (.int (own_by (own_x1 xb))), (.int (own_by (own_x2 xb)))] (.int (0 : Int32)) := by have q0 := V2; rw [hq'] at q0; exact q0
      refine Go.step (fun _ kt => XS.aloadN X0.here hx rfl (hb hby d12_0) rfl rfl kt) ?_
      show Go p.tables e below _ (s₁.setTop (mkF m 1 #[.val (.ref a1), .val (.ref a2), .unset] [(.ref a1)]))
      obtain ⟨cl134, Ar134, qa134, Sa134, Na134, Ha134, Ga134⟩ := (id Vn132)
      refine Go.step (X0.arraylength hx (by rw [e0]; exact Ar134.1) (State.isArrayOf_alike hZ.alike Ar134.2.1) (g := (mkF m 1 #[.val (.ref a1), .val (.ref a2), .unset] [(.ref a1)])) rfl rfl (hb hby d12_1)) ?_
      rw [len_of Sa134 Na134]
      show Go p.tables e below _ (s₁.setTop (mkF m 2 #[.val (.ref a1), .val (.ref a2), .unset] [(.int (1 : Int32))]))
      refine Go.step (fun _ kt => XS.aloadN X0.here hx rfl (hb hby d12_2) rfl rfl kt) ?_
      show Go p.tables e below _ (s₁.setTop (mkF m 3 #[.val (.ref a1), .val (.ref a2), .unset] [(.ref a2), (.int (1 : Int32))]))
      obtain ⟨cl135, Ar135, qa135, Sa135, Na135, Ha135, Ga135⟩ := (id Vn133)
      refine Go.step (X0.arraylength hx (by rw [e0]; exact Ar135.1) (State.isArrayOf_alike hZ.alike Ar135.2.1) (g := (mkF m 3 #[.val (.ref a1), .val (.ref a2), .unset] [(.ref a2), (.int (1 : Int32))])) rfl rfl (hb hby d12_3)) ?_
      rw [len_of Sa135 Na135]
      show Go p.tables e below _ (s₁.setTop (mkF m 4 #[.val (.ref a1), .val (.ref a2), .unset] [(.int (2 : Int32)), (.int (1 : Int32))]))
      refine Go.step (fun _ kt => XS.icmpYes X0.here hx rfl (pc0 := 4) (pc' := 34) rfl (hb hby d12_4) rfl (feq (by decide : ¬ ((1 : Int32) = (2 : Int32)))).2 (by decide) (by decide) (XS.iconst X0.here hx rfl (hb hby d12_34) kt)) ?_
      show Go p.tables e below _ (s₁.setTop (mkF m 35 #[.val (.ref a1), .val (.ref a2), .unset] [(.int (0 : Int32))]))
      obtain ⟨fs, hr, hrun, hended, hW, hsame⟩ := X0.leave (v := some (.int (0 : Int32))) (fun h => by rw [Bd.returns] at h; cases h)
      refine ⟨_, _, retN X0 hx (t := .boolean) Bd.returns (by simp) (hb hby d12_35) hr, hrun, hended, _, _, rfl, ?_, ⟨_, rfl⟩, hW, hsame.mono (by decide) (by decide)⟩
      show Qrm12 Z a1 a2 k1 k2 xa xb h0 n0 _ s₁.heap _
      rw [e0]
      refine ⟨?_, N0, rfl⟩
      have q0 : own_same xa xb = (0 : Int32) := by simp only [own_same, hp', hq']; simp
      rw [q0]
    · have hp' : own_n xa = (1 : Int32) := hp
      have hq' : own_n xb = (3 : Int32) := hq
      have Vn136 : Arv Z h0 a1 k1 .byte (1 : Int32) [(.int (own_by (own_x0 xa))), (.int (own_by (own_x1 xa))), (.int (own_by (own_x2 xa)))] (.int (0 : Int32)) := by have q0 := V1; rw [hp'] at q0; exact q0
      have Vn137 : Arv Z h0 a2 k2 .byte (3 : Int32) [(.int (own_by (own_x0 xb))), (.int (own_by (own_x1 xb))), (.int (own_by (own_x2 xb)))] (.int (0 : Int32)) := by have q0 := V2; rw [hq'] at q0; exact q0
      refine Go.step (fun _ kt => XS.aloadN X0.here hx rfl (hb hby d12_0) rfl rfl kt) ?_
      show Go p.tables e below _ (s₁.setTop (mkF m 1 #[.val (.ref a1), .val (.ref a2), .unset] [(.ref a1)]))
      obtain ⟨cl138, Ar138, qa138, Sa138, Na138, Ha138, Ga138⟩ := (id Vn136)
      refine Go.step (X0.arraylength hx (by rw [e0]; exact Ar138.1) (State.isArrayOf_alike hZ.alike Ar138.2.1) (g := (mkF m 1 #[.val (.ref a1), .val (.ref a2), .unset] [(.ref a1)])) rfl rfl (hb hby d12_1)) ?_
      rw [len_of Sa138 Na138]
      show Go p.tables e below _ (s₁.setTop (mkF m 2 #[.val (.ref a1), .val (.ref a2), .unset] [(.int (1 : Int32))]))
      refine Go.step (fun _ kt => XS.aloadN X0.here hx rfl (hb hby d12_2) rfl rfl kt) ?_
      show Go p.tables e below _ (s₁.setTop (mkF m 3 #[.val (.ref a1), .val (.ref a2), .unset] [(.ref a2), (.int (1 : Int32))]))
      obtain ⟨cl139, Ar139, qa139, Sa139, Na139, Ha139, Ga139⟩ := (id Vn137)
      refine Go.step (X0.arraylength hx (by rw [e0]; exact Ar139.1) (State.isArrayOf_alike hZ.alike Ar139.2.1) (g := (mkF m 3 #[.val (.ref a1), .val (.ref a2), .unset] [(.ref a2), (.int (1 : Int32))])) rfl rfl (hb hby d12_3)) ?_
      rw [len_of Sa139 Na139]
      show Go p.tables e below _ (s₁.setTop (mkF m 4 #[.val (.ref a1), .val (.ref a2), .unset] [(.int (3 : Int32)), (.int (1 : Int32))]))
      refine Go.step (fun _ kt => XS.icmpYes X0.here hx rfl (pc0 := 4) (pc' := 34) rfl (hb hby d12_4) rfl (feq (by decide : ¬ ((1 : Int32) = (3 : Int32)))).2 (by decide) (by decide) (XS.iconst X0.here hx rfl (hb hby d12_34) kt)) ?_
      show Go p.tables e below _ (s₁.setTop (mkF m 35 #[.val (.ref a1), .val (.ref a2), .unset] [(.int (0 : Int32))]))
      obtain ⟨fs, hr, hrun, hended, hW, hsame⟩ := X0.leave (v := some (.int (0 : Int32))) (fun h => by rw [Bd.returns] at h; cases h)
      refine ⟨_, _, retN X0 hx (t := .boolean) Bd.returns (by simp) (hb hby d12_35) hr, hrun, hended, _, _, rfl, ?_, ⟨_, rfl⟩, hW, hsame.mono (by decide) (by decide)⟩
      show Qrm12 Z a1 a2 k1 k2 xa xb h0 n0 _ s₁.heap _
      rw [e0]
      refine ⟨?_, N0, rfl⟩
      have q0 : own_same xa xb = (0 : Int32) := by simp only [own_same, hp', hq']; simp
      rw [q0]
  · rcases own_and3 xb with hq | hq | hq | hq
    · have hp' : own_n xa = (2 : Int32) := hp
      have hq' : own_n xb = (0 : Int32) := hq
      have Vn140 : Arv Z h0 a1 k1 .byte (2 : Int32) [(.int (own_by (own_x0 xa))), (.int (own_by (own_x1 xa))), (.int (own_by (own_x2 xa)))] (.int (0 : Int32)) := by have q0 := V1; rw [hp'] at q0; exact q0
      have Vn141 : Arv Z h0 a2 k2 .byte (0 : Int32) [(.int (own_by (own_x0 xb))), (.int (own_by (own_x1 xb))), (.int (own_by (own_x2 xb)))] (.int (0 : Int32)) := by have q0 := V2; rw [hq'] at q0; exact q0
      refine Go.step (fun _ kt => XS.aloadN X0.here hx rfl (hb hby d12_0) rfl rfl kt) ?_
      show Go p.tables e below _ (s₁.setTop (mkF m 1 #[.val (.ref a1), .val (.ref a2), .unset] [(.ref a1)]))
      obtain ⟨cl142, Ar142, qa142, Sa142, Na142, Ha142, Ga142⟩ := (id Vn140)
      refine Go.step (X0.arraylength hx (by rw [e0]; exact Ar142.1) (State.isArrayOf_alike hZ.alike Ar142.2.1) (g := (mkF m 1 #[.val (.ref a1), .val (.ref a2), .unset] [(.ref a1)])) rfl rfl (hb hby d12_1)) ?_
      rw [len_of Sa142 Na142]
      show Go p.tables e below _ (s₁.setTop (mkF m 2 #[.val (.ref a1), .val (.ref a2), .unset] [(.int (2 : Int32))]))
      refine Go.step (fun _ kt => XS.aloadN X0.here hx rfl (hb hby d12_2) rfl rfl kt) ?_
      show Go p.tables e below _ (s₁.setTop (mkF m 3 #[.val (.ref a1), .val (.ref a2), .unset] [(.ref a2), (.int (2 : Int32))]))
      obtain ⟨cl143, Ar143, qa143, Sa143, Na143, Ha143, Ga143⟩ := (id Vn141)
      refine Go.step (X0.arraylength hx (by rw [e0]; exact Ar143.1) (State.isArrayOf_alike hZ.alike Ar143.2.1) (g := (mkF m 3 #[.val (.ref a1), .val (.ref a2), .unset] [(.ref a2), (.int (2 : Int32))])) rfl rfl (hb hby d12_3)) ?_
      rw [len_of Sa143 Na143]
      show Go p.tables e below _ (s₁.setTop (mkF m 4 #[.val (.ref a1), .val (.ref a2), .unset] [(.int (0 : Int32)), (.int (2 : Int32))]))
      refine Go.step (fun _ kt => XS.icmpYes X0.here hx rfl (pc0 := 4) (pc' := 34) rfl (hb hby d12_4) rfl (feq (by decide : ¬ ((2 : Int32) = (0 : Int32)))).2 (by decide) (by decide) (XS.iconst X0.here hx rfl (hb hby d12_34) kt)) ?_
      show Go p.tables e below _ (s₁.setTop (mkF m 35 #[.val (.ref a1), .val (.ref a2), .unset] [(.int (0 : Int32))]))
      obtain ⟨fs, hr, hrun, hended, hW, hsame⟩ := X0.leave (v := some (.int (0 : Int32))) (fun h => by rw [Bd.returns] at h; cases h)
      refine ⟨_, _, retN X0 hx (t := .boolean) Bd.returns (by simp) (hb hby d12_35) hr, hrun, hended, _, _, rfl, ?_, ⟨_, rfl⟩, hW, hsame.mono (by decide) (by decide)⟩
      show Qrm12 Z a1 a2 k1 k2 xa xb h0 n0 _ s₁.heap _
      rw [e0]
      refine ⟨?_, N0, rfl⟩
      have q0 : own_same xa xb = (0 : Int32) := by simp only [own_same, hp', hq']; simp
      rw [q0]
    · have hp' : own_n xa = (2 : Int32) := hp
      have hq' : own_n xb = (1 : Int32) := hq
      have Vn144 : Arv Z h0 a1 k1 .byte (2 : Int32) [(.int (own_by (own_x0 xa))), (.int (own_by (own_x1 xa))), (.int (own_by (own_x2 xa)))] (.int (0 : Int32)) := by have q0 := V1; rw [hp'] at q0; exact q0
      have Vn145 : Arv Z h0 a2 k2 .byte (1 : Int32) [(.int (own_by (own_x0 xb))), (.int (own_by (own_x1 xb))), (.int (own_by (own_x2 xb)))] (.int (0 : Int32)) := by have q0 := V2; rw [hq'] at q0; exact q0
      refine Go.step (fun _ kt => XS.aloadN X0.here hx rfl (hb hby d12_0) rfl rfl kt) ?_
      show Go p.tables e below _ (s₁.setTop (mkF m 1 #[.val (.ref a1), .val (.ref a2), .unset] [(.ref a1)]))
      obtain ⟨cl146, Ar146, qa146, Sa146, Na146, Ha146, Ga146⟩ := (id Vn144)
      refine Go.step (X0.arraylength hx (by rw [e0]; exact Ar146.1) (State.isArrayOf_alike hZ.alike Ar146.2.1) (g := (mkF m 1 #[.val (.ref a1), .val (.ref a2), .unset] [(.ref a1)])) rfl rfl (hb hby d12_1)) ?_
      rw [len_of Sa146 Na146]
      show Go p.tables e below _ (s₁.setTop (mkF m 2 #[.val (.ref a1), .val (.ref a2), .unset] [(.int (2 : Int32))]))
      refine Go.step (fun _ kt => XS.aloadN X0.here hx rfl (hb hby d12_2) rfl rfl kt) ?_
      show Go p.tables e below _ (s₁.setTop (mkF m 3 #[.val (.ref a1), .val (.ref a2), .unset] [(.ref a2), (.int (2 : Int32))]))
      obtain ⟨cl147, Ar147, qa147, Sa147, Na147, Ha147, Ga147⟩ := (id Vn145)
      refine Go.step (X0.arraylength hx (by rw [e0]; exact Ar147.1) (State.isArrayOf_alike hZ.alike Ar147.2.1) (g := (mkF m 3 #[.val (.ref a1), .val (.ref a2), .unset] [(.ref a2), (.int (2 : Int32))])) rfl rfl (hb hby d12_3)) ?_
      rw [len_of Sa147 Na147]
      show Go p.tables e below _ (s₁.setTop (mkF m 4 #[.val (.ref a1), .val (.ref a2), .unset] [(.int (1 : Int32)), (.int (2 : Int32))]))
      refine Go.step (fun _ kt => XS.icmpYes X0.here hx rfl (pc0 := 4) (pc' := 34) rfl (hb hby d12_4) rfl (feq (by decide : ¬ ((2 : Int32) = (1 : Int32)))).2 (by decide) (by decide) (XS.iconst X0.here hx rfl (hb hby d12_34) kt)) ?_
      show Go p.tables e below _ (s₁.setTop (mkF m 35 #[.val (.ref a1), .val (.ref a2), .unset] [(.int (0 : Int32))]))
      obtain ⟨fs, hr, hrun, hended, hW, hsame⟩ := X0.leave (v := some (.int (0 : Int32))) (fun h => by rw [Bd.returns] at h; cases h)
      refine ⟨_, _, retN X0 hx (t := .boolean) Bd.returns (by simp) (hb hby d12_35) hr, hrun, hended, _, _, rfl, ?_, ⟨_, rfl⟩, hW, hsame.mono (by decide) (by decide)⟩
      show Qrm12 Z a1 a2 k1 k2 xa xb h0 n0 _ s₁.heap _
      rw [e0]
      refine ⟨?_, N0, rfl⟩
      have q0 : own_same xa xb = (0 : Int32) := by simp only [own_same, hp', hq']; simp
      rw [q0]
    · have hp' : own_n xa = (2 : Int32) := hp
      have hq' : own_n xb = (2 : Int32) := hq
      have Vn148 : Arv Z h0 a1 k1 .byte (2 : Int32) [(.int (own_by (own_x0 xa))), (.int (own_by (own_x1 xa))), (.int (own_by (own_x2 xa)))] (.int (0 : Int32)) := by have q0 := V1; rw [hp'] at q0; exact q0
      have Vn149 : Arv Z h0 a2 k2 .byte (2 : Int32) [(.int (own_by (own_x0 xb))), (.int (own_by (own_x1 xb))), (.int (own_by (own_x2 xb)))] (.int (0 : Int32)) := by have q0 := V2; rw [hq'] at q0; exact q0
      refine Go.step (fun _ kt => XS.aloadN X0.here hx rfl (hb hby d12_0) rfl rfl kt) ?_
      show Go p.tables e below _ (s₁.setTop (mkF m 1 #[.val (.ref a1), .val (.ref a2), .unset] [(.ref a1)]))
      obtain ⟨cl150, Ar150, qa150, Sa150, Na150, Ha150, Ga150⟩ := (id Vn148)
      refine Go.step (X0.arraylength hx (by rw [e0]; exact Ar150.1) (State.isArrayOf_alike hZ.alike Ar150.2.1) (g := (mkF m 1 #[.val (.ref a1), .val (.ref a2), .unset] [(.ref a1)])) rfl rfl (hb hby d12_1)) ?_
      rw [len_of Sa150 Na150]
      show Go p.tables e below _ (s₁.setTop (mkF m 2 #[.val (.ref a1), .val (.ref a2), .unset] [(.int (2 : Int32))]))
      refine Go.step (fun _ kt => XS.aloadN X0.here hx rfl (hb hby d12_2) rfl rfl kt) ?_
      show Go p.tables e below _ (s₁.setTop (mkF m 3 #[.val (.ref a1), .val (.ref a2), .unset] [(.ref a2), (.int (2 : Int32))]))
      obtain ⟨cl151, Ar151, qa151, Sa151, Na151, Ha151, Ga151⟩ := (id Vn149)
      refine Go.step (X0.arraylength hx (by rw [e0]; exact Ar151.1) (State.isArrayOf_alike hZ.alike Ar151.2.1) (g := (mkF m 3 #[.val (.ref a1), .val (.ref a2), .unset] [(.ref a2), (.int (2 : Int32))])) rfl rfl (hb hby d12_3)) ?_
      rw [len_of Sa151 Na151]
      show Go p.tables e below _ (s₁.setTop (mkF m 4 #[.val (.ref a1), .val (.ref a2), .unset] [(.int (2 : Int32)), (.int (2 : Int32))]))
      refine Go.step (fun _ kt => XS.icmpNo X0.here hx rfl (hb hby d12_4) rfl (teq (by decide : (2 : Int32) = (2 : Int32))).2 (XS.iconst X0.here hx rfl (hb hby d12_7) (XS.istoreN X0.here hx rfl (hb hby d12_8) rfl (l' := #[.val (.ref a1), .val (.ref a2), .val (.int (0 : Int32))]) rfl (XS.iloadN X0.here hx rfl (hb hby d12_9) rfl (XS.aloadN X0.here hx rfl (hb hby d12_10) rfl rfl kt))))) ?_
      show Go p.tables e below _ (s₁.setTop (mkF m 11 #[.val (.ref a1), .val (.ref a2), .val (.int (0 : Int32))] [(.ref a1), (.int (0 : Int32))]))
      obtain ⟨cl152, Ar152, qa152, Sa152, Na152, Ha152, Ga152⟩ := (id Vn148)
      refine Go.step (X0.arraylength hx (by rw [e0]; exact Ar152.1) (State.isArrayOf_alike hZ.alike Ar152.2.1) (g := (mkF m 11 #[.val (.ref a1), .val (.ref a2), .val (.int (0 : Int32))] [(.ref a1), (.int (0 : Int32))])) rfl rfl (hb hby d12_11)) ?_
      rw [len_of Sa152 Na152]
      show Go p.tables e below _ (s₁.setTop (mkF m 12 #[.val (.ref a1), .val (.ref a2), .val (.int (0 : Int32))] [(.int (2 : Int32)), (.int (0 : Int32))]))
      refine Go.step (fun _ kt => XS.icmpNo X0.here hx rfl (hb hby d12_12) rfl (tlt (by decide : (0 : Int32) < (2 : Int32))).2.1 (XS.aloadN X0.here hx rfl (hb hby d12_15) rfl rfl (XS.iloadN X0.here hx rfl (hb hby d12_16) rfl kt))) ?_
      show Go p.tables e below _ (s₁.setTop (mkF m 17 #[.val (.ref a1), .val (.ref a2), .val (.int (0 : Int32))] [(.int (0 : Int32)), (.ref a1)]))
      obtain ⟨cl153, Ar153, qa153, Sa153, Na153, Ha153, Ga153⟩ := (id Vn148)
      have hin153 : ¬ ((0 : Int32) < 0 ∨ cl153.slots.size ≤ ((0 : Int32)).toNatClampNeg) := inb_of Sa153 ⟨by decide, by decide⟩
      have hat153 : cl153.slots[((0 : Int32)).toNatClampNeg]? = some (.int (own_by (own_x0 xa))) := at_of Ha153 hin153 rfl
      refine Go.step (X0.baloadBytes hx (j := (0 : Int32)) (v := (.int (own_by (own_x0 xa)))) (by rw [e0]; exact Ar153.1) (State.isArrayOf_alike hZ.alike Ar153.2.1) Ar153.2.2 hin153 hat153 (g := (mkF m 17 #[.val (.ref a1), .val (.ref a2), .val (.int (0 : Int32))] [(.int (0 : Int32)), (.ref a1)])) rfl rfl (hb hby d12_17)) ?_
      show Go p.tables e below _ (s₁.setTop (mkF m 18 #[.val (.ref a1), .val (.ref a2), .val (.int (0 : Int32))] [(.int (own_by (own_x0 xa)))]))
      refine Go.step (fun _ kt => XS.aloadN X0.here hx rfl (hb hby d12_18) rfl rfl (XS.iloadN X0.here hx rfl (hb hby d12_19) rfl kt)) ?_
      show Go p.tables e below _ (s₁.setTop (mkF m 20 #[.val (.ref a1), .val (.ref a2), .val (.int (0 : Int32))] [(.int (0 : Int32)), (.ref a2), (.int (own_by (own_x0 xa)))]))
      obtain ⟨cl154, Ar154, qa154, Sa154, Na154, Ha154, Ga154⟩ := (id Vn149)
      have hin154 : ¬ ((0 : Int32) < 0 ∨ cl154.slots.size ≤ ((0 : Int32)).toNatClampNeg) := inb_of Sa154 ⟨by decide, by decide⟩
      have hat154 : cl154.slots[((0 : Int32)).toNatClampNeg]? = some (.int (own_by (own_x0 xb))) := at_of Ha154 hin154 rfl
      refine Go.step (X0.baloadBytes hx (j := (0 : Int32)) (v := (.int (own_by (own_x0 xb)))) (by rw [e0]; exact Ar154.1) (State.isArrayOf_alike hZ.alike Ar154.2.1) Ar154.2.2 hin154 hat154 (g := (mkF m 20 #[.val (.ref a1), .val (.ref a2), .val (.int (0 : Int32))] [(.int (0 : Int32)), (.ref a2), (.int (own_by (own_x0 xa)))])) rfl rfl (hb hby d12_20)) ?_
      show Go p.tables e below _ (s₁.setTop (mkF m 21 #[.val (.ref a1), .val (.ref a2), .val (.int (0 : Int32))] [(.int (own_by (own_x0 xb))), (.int (own_by (own_x0 xa)))]))
      by_cases hc21_155 : (own_by (own_x0 xa)) = (own_by (own_x0 xb))
      · refine Go.step (fun _ kt => XS.icmpYes X0.here hx rfl (pc0 := 21) (pc' := 26) rfl (hb hby d12_21) rfl (teq hc21_155).1 (by decide) (by decide) (XS.iinc X0.here hx rfl (hb hby d12_26) rfl (l' := #[.val (.ref a1), .val (.ref a2), .val (.int ((0 : Int32) + (1 : Int32)))]) rfl kt)) ?_
        show Go p.tables e below _ (s₁.setTop (mkF m 29 #[.val (.ref a1), .val (.ref a2), .val (.int ((0 : Int32) + (1 : Int32)))] []))
        have q156 : ((0 : Int32) + (1 : Int32)) = (1 : Int32) := by decide
        rw [q156]
        show Go p.tables e below _ (s₁.setTop (mkF m 29 #[.val (.ref a1), .val (.ref a2), .val (.int (1 : Int32))] []))
        refine Go.step (fun _ kt => XS.goto X0.here hx rfl (pc0 := 29) (pc' := 9) rfl (hb hby d12_29) (by decide) (by decide) (XS.iloadN X0.here hx rfl (hb hby d12_9) rfl (XS.aloadN X0.here hx rfl (hb hby d12_10) rfl rfl kt))) ?_
        show Go p.tables e below _ (s₁.setTop (mkF m 11 #[.val (.ref a1), .val (.ref a2), .val (.int (1 : Int32))] [(.ref a1), (.int (1 : Int32))]))
        obtain ⟨cl157, Ar157, qa157, Sa157, Na157, Ha157, Ga157⟩ := (id Vn148)
        refine Go.step (X0.arraylength hx (by rw [e0]; exact Ar157.1) (State.isArrayOf_alike hZ.alike Ar157.2.1) (g := (mkF m 11 #[.val (.ref a1), .val (.ref a2), .val (.int (1 : Int32))] [(.ref a1), (.int (1 : Int32))])) rfl rfl (hb hby d12_11)) ?_
        rw [len_of Sa157 Na157]
        show Go p.tables e below _ (s₁.setTop (mkF m 12 #[.val (.ref a1), .val (.ref a2), .val (.int (1 : Int32))] [(.int (2 : Int32)), (.int (1 : Int32))]))
        refine Go.step (fun _ kt => XS.icmpNo X0.here hx rfl (hb hby d12_12) rfl (tlt (by decide : (1 : Int32) < (2 : Int32))).2.1 (XS.aloadN X0.here hx rfl (hb hby d12_15) rfl rfl (XS.iloadN X0.here hx rfl (hb hby d12_16) rfl kt))) ?_
        show Go p.tables e below _ (s₁.setTop (mkF m 17 #[.val (.ref a1), .val (.ref a2), .val (.int (1 : Int32))] [(.int (1 : Int32)), (.ref a1)]))
        obtain ⟨cl158, Ar158, qa158, Sa158, Na158, Ha158, Ga158⟩ := (id Vn148)
        have hin158 : ¬ ((1 : Int32) < 0 ∨ cl158.slots.size ≤ ((1 : Int32)).toNatClampNeg) := inb_of Sa158 ⟨by decide, by decide⟩
        have hat158 : cl158.slots[((1 : Int32)).toNatClampNeg]? = some (.int (own_by (own_x1 xa))) := at_of Ha158 hin158 rfl
        refine Go.step (X0.baloadBytes hx (j := (1 : Int32)) (v := (.int (own_by (own_x1 xa)))) (by rw [e0]; exact Ar158.1) (State.isArrayOf_alike hZ.alike Ar158.2.1) Ar158.2.2 hin158 hat158 (g := (mkF m 17 #[.val (.ref a1), .val (.ref a2), .val (.int (1 : Int32))] [(.int (1 : Int32)), (.ref a1)])) rfl rfl (hb hby d12_17)) ?_
        show Go p.tables e below _ (s₁.setTop (mkF m 18 #[.val (.ref a1), .val (.ref a2), .val (.int (1 : Int32))] [(.int (own_by (own_x1 xa)))]))
        refine Go.step (fun _ kt => XS.aloadN X0.here hx rfl (hb hby d12_18) rfl rfl (XS.iloadN X0.here hx rfl (hb hby d12_19) rfl kt)) ?_
        show Go p.tables e below _ (s₁.setTop (mkF m 20 #[.val (.ref a1), .val (.ref a2), .val (.int (1 : Int32))] [(.int (1 : Int32)), (.ref a2), (.int (own_by (own_x1 xa)))]))
        obtain ⟨cl159, Ar159, qa159, Sa159, Na159, Ha159, Ga159⟩ := (id Vn149)
        have hin159 : ¬ ((1 : Int32) < 0 ∨ cl159.slots.size ≤ ((1 : Int32)).toNatClampNeg) := inb_of Sa159 ⟨by decide, by decide⟩
        have hat159 : cl159.slots[((1 : Int32)).toNatClampNeg]? = some (.int (own_by (own_x1 xb))) := at_of Ha159 hin159 rfl
        refine Go.step (X0.baloadBytes hx (j := (1 : Int32)) (v := (.int (own_by (own_x1 xb)))) (by rw [e0]; exact Ar159.1) (State.isArrayOf_alike hZ.alike Ar159.2.1) Ar159.2.2 hin159 hat159 (g := (mkF m 20 #[.val (.ref a1), .val (.ref a2), .val (.int (1 : Int32))] [(.int (1 : Int32)), (.ref a2), (.int (own_by (own_x1 xa)))])) rfl rfl (hb hby d12_20)) ?_
        show Go p.tables e below _ (s₁.setTop (mkF m 21 #[.val (.ref a1), .val (.ref a2), .val (.int (1 : Int32))] [(.int (own_by (own_x1 xb))), (.int (own_by (own_x1 xa)))]))
        by_cases hc21_160 : (own_by (own_x1 xa)) = (own_by (own_x1 xb))
        · refine Go.step (fun _ kt => XS.icmpYes X0.here hx rfl (pc0 := 21) (pc' := 26) rfl (hb hby d12_21) rfl (teq hc21_160).1 (by decide) (by decide) (XS.iinc X0.here hx rfl (hb hby d12_26) rfl (l' := #[.val (.ref a1), .val (.ref a2), .val (.int ((1 : Int32) + (1 : Int32)))]) rfl kt)) ?_
          show Go p.tables e below _ (s₁.setTop (mkF m 29 #[.val (.ref a1), .val (.ref a2), .val (.int ((1 : Int32) + (1 : Int32)))] []))
          have q161 : ((1 : Int32) + (1 : Int32)) = (2 : Int32) := by decide
          rw [q161]
          show Go p.tables e below _ (s₁.setTop (mkF m 29 #[.val (.ref a1), .val (.ref a2), .val (.int (2 : Int32))] []))
          refine Go.step (fun _ kt => XS.goto X0.here hx rfl (pc0 := 29) (pc' := 9) rfl (hb hby d12_29) (by decide) (by decide) (XS.iloadN X0.here hx rfl (hb hby d12_9) rfl (XS.aloadN X0.here hx rfl (hb hby d12_10) rfl rfl kt))) ?_
          show Go p.tables e below _ (s₁.setTop (mkF m 11 #[.val (.ref a1), .val (.ref a2), .val (.int (2 : Int32))] [(.ref a1), (.int (2 : Int32))]))
          obtain ⟨cl162, Ar162, qa162, Sa162, Na162, Ha162, Ga162⟩ := (id Vn148)
          refine Go.step (X0.arraylength hx (by rw [e0]; exact Ar162.1) (State.isArrayOf_alike hZ.alike Ar162.2.1) (g := (mkF m 11 #[.val (.ref a1), .val (.ref a2), .val (.int (2 : Int32))] [(.ref a1), (.int (2 : Int32))])) rfl rfl (hb hby d12_11)) ?_
          rw [len_of Sa162 Na162]
          show Go p.tables e below _ (s₁.setTop (mkF m 12 #[.val (.ref a1), .val (.ref a2), .val (.int (2 : Int32))] [(.int (2 : Int32)), (.int (2 : Int32))]))
          refine Go.step (fun _ kt => XS.icmpYes X0.here hx rfl (pc0 := 12) (pc' := 32) rfl (hb hby d12_12) rfl (flt (by decide : ¬ ((2 : Int32) < (2 : Int32)))).2.1 (by decide) (by decide) (XS.iconst X0.here hx rfl (hb hby d12_32) kt)) ?_
          show Go p.tables e below _ (s₁.setTop (mkF m 33 #[.val (.ref a1), .val (.ref a2), .val (.int (2 : Int32))] [(.int (1 : Int32))]))
          obtain ⟨fs, hr, hrun, hended, hW, hsame⟩ := X0.leave (v := some (.int (1 : Int32))) (fun h => by rw [Bd.returns] at h; cases h)
          refine ⟨_, _, retN X0 hx (t := .boolean) Bd.returns (by simp) (hb hby d12_33) hr, hrun, hended, _, _, rfl, ?_, ⟨_, rfl⟩, hW, hsame.mono (by decide) (by decide)⟩
          show Qrm12 Z a1 a2 k1 k2 xa xb h0 n0 _ s₁.heap _
          rw [e0]
          refine ⟨?_, N0, rfl⟩
          have d0 : own_x0 xa = own_x0 xb := own_byi _ _ (own_r0 xa) (own_r0 xb) hc21_155
          have d1 : own_x1 xa = own_x1 xb := own_byi _ _ (own_r1 xa) (own_r1 xb) hc21_160
          have q0 : own_same xa xb = (1 : Int32) := by simp only [own_same, hp', hq']; simp [d0, d1]
          rw [q0]
        · refine Go.step (fun _ kt => XS.icmpNo X0.here hx rfl (hb hby d12_21) rfl (feq hc21_160).1 (XS.iconst X0.here hx rfl (hb hby d12_24) kt)) ?_
          show Go p.tables e below _ (s₁.setTop (mkF m 25 #[.val (.ref a1), .val (.ref a2), .val (.int (1 : Int32))] [(.int (0 : Int32))]))
          obtain ⟨fs, hr, hrun, hended, hW, hsame⟩ := X0.leave (v := some (.int (0 : Int32))) (fun h => by rw [Bd.returns] at h; cases h)
          refine ⟨_, _, retN X0 hx (t := .boolean) Bd.returns (by simp) (hb hby d12_25) hr, hrun, hended, _, _, rfl, ?_, ⟨_, rfl⟩, hW, hsame.mono (by decide) (by decide)⟩
          show Qrm12 Z a1 a2 k1 k2 xa xb h0 n0 _ s₁.heap _
          rw [e0]
          refine ⟨?_, N0, rfl⟩
          have d0 : own_x0 xa = own_x0 xb := own_byi _ _ (own_r0 xa) (own_r0 xb) hc21_155
          have d1 : ¬ own_x1 xa = own_x1 xb := fun q1 => hc21_160 (congrArg own_by q1)
          have q0 : own_same xa xb = (0 : Int32) := by simp only [own_same, hp', hq']; simp [d0, d1]
          rw [q0]
      · refine Go.step (fun _ kt => XS.icmpNo X0.here hx rfl (hb hby d12_21) rfl (feq hc21_155).1 (XS.iconst X0.here hx rfl (hb hby d12_24) kt)) ?_
        show Go p.tables e below _ (s₁.setTop (mkF m 25 #[.val (.ref a1), .val (.ref a2), .val (.int (0 : Int32))] [(.int (0 : Int32))]))
        obtain ⟨fs, hr, hrun, hended, hW, hsame⟩ := X0.leave (v := some (.int (0 : Int32))) (fun h => by rw [Bd.returns] at h; cases h)
        refine ⟨_, _, retN X0 hx (t := .boolean) Bd.returns (by simp) (hb hby d12_25) hr, hrun, hended, _, _, rfl, ?_, ⟨_, rfl⟩, hW, hsame.mono (by decide) (by decide)⟩
        show Qrm12 Z a1 a2 k1 k2 xa xb h0 n0 _ s₁.heap _
        rw [e0]
        refine ⟨?_, N0, rfl⟩
        have d0 : ¬ own_x0 xa = own_x0 xb := fun q1 => hc21_155 (congrArg own_by q1)
        have q0 : own_same xa xb = (0 : Int32) := by simp only [own_same, hp', hq']; simp [d0]
        rw [q0]
    · have hp' : own_n xa = (2 : Int32) := hp
      have hq' : own_n xb = (3 : Int32) := hq
      have Vn163 : Arv Z h0 a1 k1 .byte (2 : Int32) [(.int (own_by (own_x0 xa))), (.int (own_by (own_x1 xa))), (.int (own_by (own_x2 xa)))] (.int (0 : Int32)) := by have q0 := V1; rw [hp'] at q0; exact q0
      have Vn164 : Arv Z h0 a2 k2 .byte (3 : Int32) [(.int (own_by (own_x0 xb))), (.int (own_by (own_x1 xb))), (.int (own_by (own_x2 xb)))] (.int (0 : Int32)) := by have q0 := V2; rw [hq'] at q0; exact q0
      refine Go.step (fun _ kt => XS.aloadN X0.here hx rfl (hb hby d12_0) rfl rfl kt) ?_
      show Go p.tables e below _ (s₁.setTop (mkF m 1 #[.val (.ref a1), .val (.ref a2), .unset] [(.ref a1)]))
      obtain ⟨cl165, Ar165, qa165, Sa165, Na165, Ha165, Ga165⟩ := (id Vn163)
      refine Go.step (X0.arraylength hx (by rw [e0]; exact Ar165.1) (State.isArrayOf_alike hZ.alike Ar165.2.1) (g := (mkF m 1 #[.val (.ref a1), .val (.ref a2), .unset] [(.ref a1)])) rfl rfl (hb hby d12_1)) ?_
      rw [len_of Sa165 Na165]
      show Go p.tables e below _ (s₁.setTop (mkF m 2 #[.val (.ref a1), .val (.ref a2), .unset] [(.int (2 : Int32))]))
      refine Go.step (fun _ kt => XS.aloadN X0.here hx rfl (hb hby d12_2) rfl rfl kt) ?_
      show Go p.tables e below _ (s₁.setTop (mkF m 3 #[.val (.ref a1), .val (.ref a2), .unset] [(.ref a2), (.int (2 : Int32))]))
      obtain ⟨cl166, Ar166, qa166, Sa166, Na166, Ha166, Ga166⟩ := (id Vn164)
      refine Go.step (X0.arraylength hx (by rw [e0]; exact Ar166.1) (State.isArrayOf_alike hZ.alike Ar166.2.1) (g := (mkF m 3 #[.val (.ref a1), .val (.ref a2), .unset] [(.ref a2), (.int (2 : Int32))])) rfl rfl (hb hby d12_3)) ?_
      rw [len_of Sa166 Na166]
      show Go p.tables e below _ (s₁.setTop (mkF m 4 #[.val (.ref a1), .val (.ref a2), .unset] [(.int (3 : Int32)), (.int (2 : Int32))]))
      refine Go.step (fun _ kt => XS.icmpYes X0.here hx rfl (pc0 := 4) (pc' := 34) rfl (hb hby d12_4) rfl (feq (by decide : ¬ ((2 : Int32) = (3 : Int32)))).2 (by decide) (by decide) (XS.iconst X0.here hx rfl (hb hby d12_34) kt)) ?_
      show Go p.tables e below _ (s₁.setTop (mkF m 35 #[.val (.ref a1), .val (.ref a2), .unset] [(.int (0 : Int32))]))
      obtain ⟨fs, hr, hrun, hended, hW, hsame⟩ := X0.leave (v := some (.int (0 : Int32))) (fun h => by rw [Bd.returns] at h; cases h)
      refine ⟨_, _, retN X0 hx (t := .boolean) Bd.returns (by simp) (hb hby d12_35) hr, hrun, hended, _, _, rfl, ?_, ⟨_, rfl⟩, hW, hsame.mono (by decide) (by decide)⟩
      show Qrm12 Z a1 a2 k1 k2 xa xb h0 n0 _ s₁.heap _
      rw [e0]
      refine ⟨?_, N0, rfl⟩
      have q0 : own_same xa xb = (0 : Int32) := by simp only [own_same, hp', hq']; simp
      rw [q0]
  · rcases own_and3 xb with hq | hq | hq | hq
    · have hp' : own_n xa = (3 : Int32) := hp
      have hq' : own_n xb = (0 : Int32) := hq
      have Vn167 : Arv Z h0 a1 k1 .byte (3 : Int32) [(.int (own_by (own_x0 xa))), (.int (own_by (own_x1 xa))), (.int (own_by (own_x2 xa)))] (.int (0 : Int32)) := by have q0 := V1; rw [hp'] at q0; exact q0
      have Vn168 : Arv Z h0 a2 k2 .byte (0 : Int32) [(.int (own_by (own_x0 xb))), (.int (own_by (own_x1 xb))), (.int (own_by (own_x2 xb)))] (.int (0 : Int32)) := by have q0 := V2; rw [hq'] at q0; exact q0
      refine Go.step (fun _ kt => XS.aloadN X0.here hx rfl (hb hby d12_0) rfl rfl kt) ?_
      show Go p.tables e below _ (s₁.setTop (mkF m 1 #[.val (.ref a1), .val (.ref a2), .unset] [(.ref a1)]))
      obtain ⟨cl169, Ar169, qa169, Sa169, Na169, Ha169, Ga169⟩ := (id Vn167)
      refine Go.step (X0.arraylength hx (by rw [e0]; exact Ar169.1) (State.isArrayOf_alike hZ.alike Ar169.2.1) (g := (mkF m 1 #[.val (.ref a1), .val (.ref a2), .unset] [(.ref a1)])) rfl rfl (hb hby d12_1)) ?_
      rw [len_of Sa169 Na169]
      show Go p.tables e below _ (s₁.setTop (mkF m 2 #[.val (.ref a1), .val (.ref a2), .unset] [(.int (3 : Int32))]))
      refine Go.step (fun _ kt => XS.aloadN X0.here hx rfl (hb hby d12_2) rfl rfl kt) ?_
      show Go p.tables e below _ (s₁.setTop (mkF m 3 #[.val (.ref a1), .val (.ref a2), .unset] [(.ref a2), (.int (3 : Int32))]))
      obtain ⟨cl170, Ar170, qa170, Sa170, Na170, Ha170, Ga170⟩ := (id Vn168)
      refine Go.step (X0.arraylength hx (by rw [e0]; exact Ar170.1) (State.isArrayOf_alike hZ.alike Ar170.2.1) (g := (mkF m 3 #[.val (.ref a1), .val (.ref a2), .unset] [(.ref a2), (.int (3 : Int32))])) rfl rfl (hb hby d12_3)) ?_
      rw [len_of Sa170 Na170]
      show Go p.tables e below _ (s₁.setTop (mkF m 4 #[.val (.ref a1), .val (.ref a2), .unset] [(.int (0 : Int32)), (.int (3 : Int32))]))
      refine Go.step (fun _ kt => XS.icmpYes X0.here hx rfl (pc0 := 4) (pc' := 34) rfl (hb hby d12_4) rfl (feq (by decide : ¬ ((3 : Int32) = (0 : Int32)))).2 (by decide) (by decide) (XS.iconst X0.here hx rfl (hb hby d12_34) kt)) ?_
      show Go p.tables e below _ (s₁.setTop (mkF m 35 #[.val (.ref a1), .val (.ref a2), .unset] [(.int (0 : Int32))]))
      obtain ⟨fs, hr, hrun, hended, hW, hsame⟩ := X0.leave (v := some (.int (0 : Int32))) (fun h => by rw [Bd.returns] at h; cases h)
      refine ⟨_, _, retN X0 hx (t := .boolean) Bd.returns (by simp) (hb hby d12_35) hr, hrun, hended, _, _, rfl, ?_, ⟨_, rfl⟩, hW, hsame.mono (by decide) (by decide)⟩
      show Qrm12 Z a1 a2 k1 k2 xa xb h0 n0 _ s₁.heap _
      rw [e0]
      refine ⟨?_, N0, rfl⟩
      have q0 : own_same xa xb = (0 : Int32) := by simp only [own_same, hp', hq']; simp
      rw [q0]
    · have hp' : own_n xa = (3 : Int32) := hp
      have hq' : own_n xb = (1 : Int32) := hq
      have Vn171 : Arv Z h0 a1 k1 .byte (3 : Int32) [(.int (own_by (own_x0 xa))), (.int (own_by (own_x1 xa))), (.int (own_by (own_x2 xa)))] (.int (0 : Int32)) := by have q0 := V1; rw [hp'] at q0; exact q0
      have Vn172 : Arv Z h0 a2 k2 .byte (1 : Int32) [(.int (own_by (own_x0 xb))), (.int (own_by (own_x1 xb))), (.int (own_by (own_x2 xb)))] (.int (0 : Int32)) := by have q0 := V2; rw [hq'] at q0; exact q0
      refine Go.step (fun _ kt => XS.aloadN X0.here hx rfl (hb hby d12_0) rfl rfl kt) ?_
      show Go p.tables e below _ (s₁.setTop (mkF m 1 #[.val (.ref a1), .val (.ref a2), .unset] [(.ref a1)]))
      obtain ⟨cl173, Ar173, qa173, Sa173, Na173, Ha173, Ga173⟩ := (id Vn171)
      refine Go.step (X0.arraylength hx (by rw [e0]; exact Ar173.1) (State.isArrayOf_alike hZ.alike Ar173.2.1) (g := (mkF m 1 #[.val (.ref a1), .val (.ref a2), .unset] [(.ref a1)])) rfl rfl (hb hby d12_1)) ?_
      rw [len_of Sa173 Na173]
      show Go p.tables e below _ (s₁.setTop (mkF m 2 #[.val (.ref a1), .val (.ref a2), .unset] [(.int (3 : Int32))]))
      refine Go.step (fun _ kt => XS.aloadN X0.here hx rfl (hb hby d12_2) rfl rfl kt) ?_
      show Go p.tables e below _ (s₁.setTop (mkF m 3 #[.val (.ref a1), .val (.ref a2), .unset] [(.ref a2), (.int (3 : Int32))]))
      obtain ⟨cl174, Ar174, qa174, Sa174, Na174, Ha174, Ga174⟩ := (id Vn172)
      refine Go.step (X0.arraylength hx (by rw [e0]; exact Ar174.1) (State.isArrayOf_alike hZ.alike Ar174.2.1) (g := (mkF m 3 #[.val (.ref a1), .val (.ref a2), .unset] [(.ref a2), (.int (3 : Int32))])) rfl rfl (hb hby d12_3)) ?_
      rw [len_of Sa174 Na174]
      show Go p.tables e below _ (s₁.setTop (mkF m 4 #[.val (.ref a1), .val (.ref a2), .unset] [(.int (1 : Int32)), (.int (3 : Int32))]))
      refine Go.step (fun _ kt => XS.icmpYes X0.here hx rfl (pc0 := 4) (pc' := 34) rfl (hb hby d12_4) rfl (feq (by decide : ¬ ((3 : Int32) = (1 : Int32)))).2 (by decide) (by decide) (XS.iconst X0.here hx rfl (hb hby d12_34) kt)) ?_
      show Go p.tables e below _ (s₁.setTop (mkF m 35 #[.val (.ref a1), .val (.ref a2), .unset] [(.int (0 : Int32))]))
      obtain ⟨fs, hr, hrun, hended, hW, hsame⟩ := X0.leave (v := some (.int (0 : Int32))) (fun h => by rw [Bd.returns] at h; cases h)
      refine ⟨_, _, retN X0 hx (t := .boolean) Bd.returns (by simp) (hb hby d12_35) hr, hrun, hended, _, _, rfl, ?_, ⟨_, rfl⟩, hW, hsame.mono (by decide) (by decide)⟩
      show Qrm12 Z a1 a2 k1 k2 xa xb h0 n0 _ s₁.heap _
      rw [e0]
      refine ⟨?_, N0, rfl⟩
      have q0 : own_same xa xb = (0 : Int32) := by simp only [own_same, hp', hq']; simp
      rw [q0]
    · have hp' : own_n xa = (3 : Int32) := hp
      have hq' : own_n xb = (2 : Int32) := hq
      have Vn175 : Arv Z h0 a1 k1 .byte (3 : Int32) [(.int (own_by (own_x0 xa))), (.int (own_by (own_x1 xa))), (.int (own_by (own_x2 xa)))] (.int (0 : Int32)) := by have q0 := V1; rw [hp'] at q0; exact q0
      have Vn176 : Arv Z h0 a2 k2 .byte (2 : Int32) [(.int (own_by (own_x0 xb))), (.int (own_by (own_x1 xb))), (.int (own_by (own_x2 xb)))] (.int (0 : Int32)) := by have q0 := V2; rw [hq'] at q0; exact q0
      refine Go.step (fun _ kt => XS.aloadN X0.here hx rfl (hb hby d12_0) rfl rfl kt) ?_
      show Go p.tables e below _ (s₁.setTop (mkF m 1 #[.val (.ref a1), .val (.ref a2), .unset] [(.ref a1)]))
      obtain ⟨cl177, Ar177, qa177, Sa177, Na177, Ha177, Ga177⟩ := (id Vn175)
      refine Go.step (X0.arraylength hx (by rw [e0]; exact Ar177.1) (State.isArrayOf_alike hZ.alike Ar177.2.1) (g := (mkF m 1 #[.val (.ref a1), .val (.ref a2), .unset] [(.ref a1)])) rfl rfl (hb hby d12_1)) ?_
      rw [len_of Sa177 Na177]
      show Go p.tables e below _ (s₁.setTop (mkF m 2 #[.val (.ref a1), .val (.ref a2), .unset] [(.int (3 : Int32))]))
      refine Go.step (fun _ kt => XS.aloadN X0.here hx rfl (hb hby d12_2) rfl rfl kt) ?_
      show Go p.tables e below _ (s₁.setTop (mkF m 3 #[.val (.ref a1), .val (.ref a2), .unset] [(.ref a2), (.int (3 : Int32))]))
      obtain ⟨cl178, Ar178, qa178, Sa178, Na178, Ha178, Ga178⟩ := (id Vn176)
      refine Go.step (X0.arraylength hx (by rw [e0]; exact Ar178.1) (State.isArrayOf_alike hZ.alike Ar178.2.1) (g := (mkF m 3 #[.val (.ref a1), .val (.ref a2), .unset] [(.ref a2), (.int (3 : Int32))])) rfl rfl (hb hby d12_3)) ?_
      rw [len_of Sa178 Na178]
      show Go p.tables e below _ (s₁.setTop (mkF m 4 #[.val (.ref a1), .val (.ref a2), .unset] [(.int (2 : Int32)), (.int (3 : Int32))]))
      refine Go.step (fun _ kt => XS.icmpYes X0.here hx rfl (pc0 := 4) (pc' := 34) rfl (hb hby d12_4) rfl (feq (by decide : ¬ ((3 : Int32) = (2 : Int32)))).2 (by decide) (by decide) (XS.iconst X0.here hx rfl (hb hby d12_34) kt)) ?_
      show Go p.tables e below _ (s₁.setTop (mkF m 35 #[.val (.ref a1), .val (.ref a2), .unset] [(.int (0 : Int32))]))
      obtain ⟨fs, hr, hrun, hended, hW, hsame⟩ := X0.leave (v := some (.int (0 : Int32))) (fun h => by rw [Bd.returns] at h; cases h)
      refine ⟨_, _, retN X0 hx (t := .boolean) Bd.returns (by simp) (hb hby d12_35) hr, hrun, hended, _, _, rfl, ?_, ⟨_, rfl⟩, hW, hsame.mono (by decide) (by decide)⟩
      show Qrm12 Z a1 a2 k1 k2 xa xb h0 n0 _ s₁.heap _
      rw [e0]
      refine ⟨?_, N0, rfl⟩
      have q0 : own_same xa xb = (0 : Int32) := by simp only [own_same, hp', hq']; simp
      rw [q0]
    · have hp' : own_n xa = (3 : Int32) := hp
      have hq' : own_n xb = (3 : Int32) := hq
      have Vn179 : Arv Z h0 a1 k1 .byte (3 : Int32) [(.int (own_by (own_x0 xa))), (.int (own_by (own_x1 xa))), (.int (own_by (own_x2 xa)))] (.int (0 : Int32)) := by have q0 := V1; rw [hp'] at q0; exact q0
      have Vn180 : Arv Z h0 a2 k2 .byte (3 : Int32) [(.int (own_by (own_x0 xb))), (.int (own_by (own_x1 xb))), (.int (own_by (own_x2 xb)))] (.int (0 : Int32)) := by have q0 := V2; rw [hq'] at q0; exact q0
      refine Go.step (fun _ kt => XS.aloadN X0.here hx rfl (hb hby d12_0) rfl rfl kt) ?_
      show Go p.tables e below _ (s₁.setTop (mkF m 1 #[.val (.ref a1), .val (.ref a2), .unset] [(.ref a1)]))
      obtain ⟨cl181, Ar181, qa181, Sa181, Na181, Ha181, Ga181⟩ := (id Vn179)
      refine Go.step (X0.arraylength hx (by rw [e0]; exact Ar181.1) (State.isArrayOf_alike hZ.alike Ar181.2.1) (g := (mkF m 1 #[.val (.ref a1), .val (.ref a2), .unset] [(.ref a1)])) rfl rfl (hb hby d12_1)) ?_
      rw [len_of Sa181 Na181]
      show Go p.tables e below _ (s₁.setTop (mkF m 2 #[.val (.ref a1), .val (.ref a2), .unset] [(.int (3 : Int32))]))
      refine Go.step (fun _ kt => XS.aloadN X0.here hx rfl (hb hby d12_2) rfl rfl kt) ?_
      show Go p.tables e below _ (s₁.setTop (mkF m 3 #[.val (.ref a1), .val (.ref a2), .unset] [(.ref a2), (.int (3 : Int32))]))
      obtain ⟨cl182, Ar182, qa182, Sa182, Na182, Ha182, Ga182⟩ := (id Vn180)
      refine Go.step (X0.arraylength hx (by rw [e0]; exact Ar182.1) (State.isArrayOf_alike hZ.alike Ar182.2.1) (g := (mkF m 3 #[.val (.ref a1), .val (.ref a2), .unset] [(.ref a2), (.int (3 : Int32))])) rfl rfl (hb hby d12_3)) ?_
      rw [len_of Sa182 Na182]
      show Go p.tables e below _ (s₁.setTop (mkF m 4 #[.val (.ref a1), .val (.ref a2), .unset] [(.int (3 : Int32)), (.int (3 : Int32))]))
      refine Go.step (fun _ kt => XS.icmpNo X0.here hx rfl (hb hby d12_4) rfl (teq (by decide : (3 : Int32) = (3 : Int32))).2 (XS.iconst X0.here hx rfl (hb hby d12_7) (XS.istoreN X0.here hx rfl (hb hby d12_8) rfl (l' := #[.val (.ref a1), .val (.ref a2), .val (.int (0 : Int32))]) rfl (XS.iloadN X0.here hx rfl (hb hby d12_9) rfl (XS.aloadN X0.here hx rfl (hb hby d12_10) rfl rfl kt))))) ?_
      show Go p.tables e below _ (s₁.setTop (mkF m 11 #[.val (.ref a1), .val (.ref a2), .val (.int (0 : Int32))] [(.ref a1), (.int (0 : Int32))]))
      obtain ⟨cl183, Ar183, qa183, Sa183, Na183, Ha183, Ga183⟩ := (id Vn179)
      refine Go.step (X0.arraylength hx (by rw [e0]; exact Ar183.1) (State.isArrayOf_alike hZ.alike Ar183.2.1) (g := (mkF m 11 #[.val (.ref a1), .val (.ref a2), .val (.int (0 : Int32))] [(.ref a1), (.int (0 : Int32))])) rfl rfl (hb hby d12_11)) ?_
      rw [len_of Sa183 Na183]
      show Go p.tables e below _ (s₁.setTop (mkF m 12 #[.val (.ref a1), .val (.ref a2), .val (.int (0 : Int32))] [(.int (3 : Int32)), (.int (0 : Int32))]))
      refine Go.step (fun _ kt => XS.icmpNo X0.here hx rfl (hb hby d12_12) rfl (tlt (by decide : (0 : Int32) < (3 : Int32))).2.1 (XS.aloadN X0.here hx rfl (hb hby d12_15) rfl rfl (XS.iloadN X0.here hx rfl (hb hby d12_16) rfl kt))) ?_
      show Go p.tables e below _ (s₁.setTop (mkF m 17 #[.val (.ref a1), .val (.ref a2), .val (.int (0 : Int32))] [(.int (0 : Int32)), (.ref a1)]))
      obtain ⟨cl184, Ar184, qa184, Sa184, Na184, Ha184, Ga184⟩ := (id Vn179)
      have hin184 : ¬ ((0 : Int32) < 0 ∨ cl184.slots.size ≤ ((0 : Int32)).toNatClampNeg) := inb_of Sa184 ⟨by decide, by decide⟩
      have hat184 : cl184.slots[((0 : Int32)).toNatClampNeg]? = some (.int (own_by (own_x0 xa))) := at_of Ha184 hin184 rfl
      refine Go.step (X0.baloadBytes hx (j := (0 : Int32)) (v := (.int (own_by (own_x0 xa)))) (by rw [e0]; exact Ar184.1) (State.isArrayOf_alike hZ.alike Ar184.2.1) Ar184.2.2 hin184 hat184 (g := (mkF m 17 #[.val (.ref a1), .val (.ref a2), .val (.int (0 : Int32))] [(.int (0 : Int32)), (.ref a1)])) rfl rfl (hb hby d12_17)) ?_
      show Go p.tables e below _ (s₁.setTop (mkF m 18 #[.val (.ref a1), .val (.ref a2), .val (.int (0 : Int32))] [(.int (own_by (own_x0 xa)))]))
      refine Go.step (fun _ kt => XS.aloadN X0.here hx rfl (hb hby d12_18) rfl rfl (XS.iloadN X0.here hx rfl (hb hby d12_19) rfl kt)) ?_
      show Go p.tables e below _ (s₁.setTop (mkF m 20 #[.val (.ref a1), .val (.ref a2), .val (.int (0 : Int32))] [(.int (0 : Int32)), (.ref a2), (.int (own_by (own_x0 xa)))]))
      obtain ⟨cl185, Ar185, qa185, Sa185, Na185, Ha185, Ga185⟩ := (id Vn180)
      have hin185 : ¬ ((0 : Int32) < 0 ∨ cl185.slots.size ≤ ((0 : Int32)).toNatClampNeg) := inb_of Sa185 ⟨by decide, by decide⟩
      have hat185 : cl185.slots[((0 : Int32)).toNatClampNeg]? = some (.int (own_by (own_x0 xb))) := at_of Ha185 hin185 rfl
      refine Go.step (X0.baloadBytes hx (j := (0 : Int32)) (v := (.int (own_by (own_x0 xb)))) (by rw [e0]; exact Ar185.1) (State.isArrayOf_alike hZ.alike Ar185.2.1) Ar185.2.2 hin185 hat185 (g := (mkF m 20 #[.val (.ref a1), .val (.ref a2), .val (.int (0 : Int32))] [(.int (0 : Int32)), (.ref a2), (.int (own_by (own_x0 xa)))])) rfl rfl (hb hby d12_20)) ?_
      show Go p.tables e below _ (s₁.setTop (mkF m 21 #[.val (.ref a1), .val (.ref a2), .val (.int (0 : Int32))] [(.int (own_by (own_x0 xb))), (.int (own_by (own_x0 xa)))]))
      by_cases hc21_186 : (own_by (own_x0 xa)) = (own_by (own_x0 xb))
      · refine Go.step (fun _ kt => XS.icmpYes X0.here hx rfl (pc0 := 21) (pc' := 26) rfl (hb hby d12_21) rfl (teq hc21_186).1 (by decide) (by decide) (XS.iinc X0.here hx rfl (hb hby d12_26) rfl (l' := #[.val (.ref a1), .val (.ref a2), .val (.int ((0 : Int32) + (1 : Int32)))]) rfl kt)) ?_
        show Go p.tables e below _ (s₁.setTop (mkF m 29 #[.val (.ref a1), .val (.ref a2), .val (.int ((0 : Int32) + (1 : Int32)))] []))
        have q187 : ((0 : Int32) + (1 : Int32)) = (1 : Int32) := by decide
        rw [q187]
        show Go p.tables e below _ (s₁.setTop (mkF m 29 #[.val (.ref a1), .val (.ref a2), .val (.int (1 : Int32))] []))
        refine Go.step (fun _ kt => XS.goto X0.here hx rfl (pc0 := 29) (pc' := 9) rfl (hb hby d12_29) (by decide) (by decide) (XS.iloadN X0.here hx rfl (hb hby d12_9) rfl (XS.aloadN X0.here hx rfl (hb hby d12_10) rfl rfl kt))) ?_
        show Go p.tables e below _ (s₁.setTop (mkF m 11 #[.val (.ref a1), .val (.ref a2), .val (.int (1 : Int32))] [(.ref a1), (.int (1 : Int32))]))
        obtain ⟨cl188, Ar188, qa188, Sa188, Na188, Ha188, Ga188⟩ := (id Vn179)
        refine Go.step (X0.arraylength hx (by rw [e0]; exact Ar188.1) (State.isArrayOf_alike hZ.alike Ar188.2.1) (g := (mkF m 11 #[.val (.ref a1), .val (.ref a2), .val (.int (1 : Int32))] [(.ref a1), (.int (1 : Int32))])) rfl rfl (hb hby d12_11)) ?_
        rw [len_of Sa188 Na188]
        show Go p.tables e below _ (s₁.setTop (mkF m 12 #[.val (.ref a1), .val (.ref a2), .val (.int (1 : Int32))] [(.int (3 : Int32)), (.int (1 : Int32))]))
        refine Go.step (fun _ kt => XS.icmpNo X0.here hx rfl (hb hby d12_12) rfl (tlt (by decide : (1 : Int32) < (3 : Int32))).2.1 (XS.aloadN X0.here hx rfl (hb hby d12_15) rfl rfl (XS.iloadN X0.here hx rfl (hb hby d12_16) rfl kt))) ?_
        show Go p.tables e below _ (s₁.setTop (mkF m 17 #[.val (.ref a1), .val (.ref a2), .val (.int (1 : Int32))] [(.int (1 : Int32)), (.ref a1)]))
        obtain ⟨cl189, Ar189, qa189, Sa189, Na189, Ha189, Ga189⟩ := (id Vn179)
        have hin189 : ¬ ((1 : Int32) < 0 ∨ cl189.slots.size ≤ ((1 : Int32)).toNatClampNeg) := inb_of Sa189 ⟨by decide, by decide⟩
        have hat189 : cl189.slots[((1 : Int32)).toNatClampNeg]? = some (.int (own_by (own_x1 xa))) := at_of Ha189 hin189 rfl
        refine Go.step (X0.baloadBytes hx (j := (1 : Int32)) (v := (.int (own_by (own_x1 xa)))) (by rw [e0]; exact Ar189.1) (State.isArrayOf_alike hZ.alike Ar189.2.1) Ar189.2.2 hin189 hat189 (g := (mkF m 17 #[.val (.ref a1), .val (.ref a2), .val (.int (1 : Int32))] [(.int (1 : Int32)), (.ref a1)])) rfl rfl (hb hby d12_17)) ?_
        show Go p.tables e below _ (s₁.setTop (mkF m 18 #[.val (.ref a1), .val (.ref a2), .val (.int (1 : Int32))] [(.int (own_by (own_x1 xa)))]))
        refine Go.step (fun _ kt => XS.aloadN X0.here hx rfl (hb hby d12_18) rfl rfl (XS.iloadN X0.here hx rfl (hb hby d12_19) rfl kt)) ?_
        show Go p.tables e below _ (s₁.setTop (mkF m 20 #[.val (.ref a1), .val (.ref a2), .val (.int (1 : Int32))] [(.int (1 : Int32)), (.ref a2), (.int (own_by (own_x1 xa)))]))
        obtain ⟨cl190, Ar190, qa190, Sa190, Na190, Ha190, Ga190⟩ := (id Vn180)
        have hin190 : ¬ ((1 : Int32) < 0 ∨ cl190.slots.size ≤ ((1 : Int32)).toNatClampNeg) := inb_of Sa190 ⟨by decide, by decide⟩
        have hat190 : cl190.slots[((1 : Int32)).toNatClampNeg]? = some (.int (own_by (own_x1 xb))) := at_of Ha190 hin190 rfl
        refine Go.step (X0.baloadBytes hx (j := (1 : Int32)) (v := (.int (own_by (own_x1 xb)))) (by rw [e0]; exact Ar190.1) (State.isArrayOf_alike hZ.alike Ar190.2.1) Ar190.2.2 hin190 hat190 (g := (mkF m 20 #[.val (.ref a1), .val (.ref a2), .val (.int (1 : Int32))] [(.int (1 : Int32)), (.ref a2), (.int (own_by (own_x1 xa)))])) rfl rfl (hb hby d12_20)) ?_
        show Go p.tables e below _ (s₁.setTop (mkF m 21 #[.val (.ref a1), .val (.ref a2), .val (.int (1 : Int32))] [(.int (own_by (own_x1 xb))), (.int (own_by (own_x1 xa)))]))
        by_cases hc21_191 : (own_by (own_x1 xa)) = (own_by (own_x1 xb))
        · refine Go.step (fun _ kt => XS.icmpYes X0.here hx rfl (pc0 := 21) (pc' := 26) rfl (hb hby d12_21) rfl (teq hc21_191).1 (by decide) (by decide) (XS.iinc X0.here hx rfl (hb hby d12_26) rfl (l' := #[.val (.ref a1), .val (.ref a2), .val (.int ((1 : Int32) + (1 : Int32)))]) rfl kt)) ?_
          show Go p.tables e below _ (s₁.setTop (mkF m 29 #[.val (.ref a1), .val (.ref a2), .val (.int ((1 : Int32) + (1 : Int32)))] []))
          have q192 : ((1 : Int32) + (1 : Int32)) = (2 : Int32) := by decide
          rw [q192]
          show Go p.tables e below _ (s₁.setTop (mkF m 29 #[.val (.ref a1), .val (.ref a2), .val (.int (2 : Int32))] []))
          refine Go.step (fun _ kt => XS.goto X0.here hx rfl (pc0 := 29) (pc' := 9) rfl (hb hby d12_29) (by decide) (by decide) (XS.iloadN X0.here hx rfl (hb hby d12_9) rfl (XS.aloadN X0.here hx rfl (hb hby d12_10) rfl rfl kt))) ?_
          show Go p.tables e below _ (s₁.setTop (mkF m 11 #[.val (.ref a1), .val (.ref a2), .val (.int (2 : Int32))] [(.ref a1), (.int (2 : Int32))]))
          obtain ⟨cl193, Ar193, qa193, Sa193, Na193, Ha193, Ga193⟩ := (id Vn179)
          refine Go.step (X0.arraylength hx (by rw [e0]; exact Ar193.1) (State.isArrayOf_alike hZ.alike Ar193.2.1) (g := (mkF m 11 #[.val (.ref a1), .val (.ref a2), .val (.int (2 : Int32))] [(.ref a1), (.int (2 : Int32))])) rfl rfl (hb hby d12_11)) ?_
          rw [len_of Sa193 Na193]
          show Go p.tables e below _ (s₁.setTop (mkF m 12 #[.val (.ref a1), .val (.ref a2), .val (.int (2 : Int32))] [(.int (3 : Int32)), (.int (2 : Int32))]))
          refine Go.step (fun _ kt => XS.icmpNo X0.here hx rfl (hb hby d12_12) rfl (tlt (by decide : (2 : Int32) < (3 : Int32))).2.1 (XS.aloadN X0.here hx rfl (hb hby d12_15) rfl rfl (XS.iloadN X0.here hx rfl (hb hby d12_16) rfl kt))) ?_
          show Go p.tables e below _ (s₁.setTop (mkF m 17 #[.val (.ref a1), .val (.ref a2), .val (.int (2 : Int32))] [(.int (2 : Int32)), (.ref a1)]))
          obtain ⟨cl194, Ar194, qa194, Sa194, Na194, Ha194, Ga194⟩ := (id Vn179)
          have hin194 : ¬ ((2 : Int32) < 0 ∨ cl194.slots.size ≤ ((2 : Int32)).toNatClampNeg) := inb_of Sa194 ⟨by decide, by decide⟩
          have hat194 : cl194.slots[((2 : Int32)).toNatClampNeg]? = some (.int (own_by (own_x2 xa))) := at_of Ha194 hin194 rfl
          refine Go.step (X0.baloadBytes hx (j := (2 : Int32)) (v := (.int (own_by (own_x2 xa)))) (by rw [e0]; exact Ar194.1) (State.isArrayOf_alike hZ.alike Ar194.2.1) Ar194.2.2 hin194 hat194 (g := (mkF m 17 #[.val (.ref a1), .val (.ref a2), .val (.int (2 : Int32))] [(.int (2 : Int32)), (.ref a1)])) rfl rfl (hb hby d12_17)) ?_
          show Go p.tables e below _ (s₁.setTop (mkF m 18 #[.val (.ref a1), .val (.ref a2), .val (.int (2 : Int32))] [(.int (own_by (own_x2 xa)))]))
          refine Go.step (fun _ kt => XS.aloadN X0.here hx rfl (hb hby d12_18) rfl rfl (XS.iloadN X0.here hx rfl (hb hby d12_19) rfl kt)) ?_
          show Go p.tables e below _ (s₁.setTop (mkF m 20 #[.val (.ref a1), .val (.ref a2), .val (.int (2 : Int32))] [(.int (2 : Int32)), (.ref a2), (.int (own_by (own_x2 xa)))]))
          obtain ⟨cl195, Ar195, qa195, Sa195, Na195, Ha195, Ga195⟩ := (id Vn180)
          have hin195 : ¬ ((2 : Int32) < 0 ∨ cl195.slots.size ≤ ((2 : Int32)).toNatClampNeg) := inb_of Sa195 ⟨by decide, by decide⟩
          have hat195 : cl195.slots[((2 : Int32)).toNatClampNeg]? = some (.int (own_by (own_x2 xb))) := at_of Ha195 hin195 rfl
          refine Go.step (X0.baloadBytes hx (j := (2 : Int32)) (v := (.int (own_by (own_x2 xb)))) (by rw [e0]; exact Ar195.1) (State.isArrayOf_alike hZ.alike Ar195.2.1) Ar195.2.2 hin195 hat195 (g := (mkF m 20 #[.val (.ref a1), .val (.ref a2), .val (.int (2 : Int32))] [(.int (2 : Int32)), (.ref a2), (.int (own_by (own_x2 xa)))])) rfl rfl (hb hby d12_20)) ?_
          show Go p.tables e below _ (s₁.setTop (mkF m 21 #[.val (.ref a1), .val (.ref a2), .val (.int (2 : Int32))] [(.int (own_by (own_x2 xb))), (.int (own_by (own_x2 xa)))]))
          by_cases hc21_196 : (own_by (own_x2 xa)) = (own_by (own_x2 xb))
          · refine Go.step (fun _ kt => XS.icmpYes X0.here hx rfl (pc0 := 21) (pc' := 26) rfl (hb hby d12_21) rfl (teq hc21_196).1 (by decide) (by decide) (XS.iinc X0.here hx rfl (hb hby d12_26) rfl (l' := #[.val (.ref a1), .val (.ref a2), .val (.int ((2 : Int32) + (1 : Int32)))]) rfl kt)) ?_
            show Go p.tables e below _ (s₁.setTop (mkF m 29 #[.val (.ref a1), .val (.ref a2), .val (.int ((2 : Int32) + (1 : Int32)))] []))
            have q197 : ((2 : Int32) + (1 : Int32)) = (3 : Int32) := by decide
            rw [q197]
            show Go p.tables e below _ (s₁.setTop (mkF m 29 #[.val (.ref a1), .val (.ref a2), .val (.int (3 : Int32))] []))
            refine Go.step (fun _ kt => XS.goto X0.here hx rfl (pc0 := 29) (pc' := 9) rfl (hb hby d12_29) (by decide) (by decide) (XS.iloadN X0.here hx rfl (hb hby d12_9) rfl (XS.aloadN X0.here hx rfl (hb hby d12_10) rfl rfl kt))) ?_
            show Go p.tables e below _ (s₁.setTop (mkF m 11 #[.val (.ref a1), .val (.ref a2), .val (.int (3 : Int32))] [(.ref a1), (.int (3 : Int32))]))
            obtain ⟨cl198, Ar198, qa198, Sa198, Na198, Ha198, Ga198⟩ := (id Vn179)
            refine Go.step (X0.arraylength hx (by rw [e0]; exact Ar198.1) (State.isArrayOf_alike hZ.alike Ar198.2.1) (g := (mkF m 11 #[.val (.ref a1), .val (.ref a2), .val (.int (3 : Int32))] [(.ref a1), (.int (3 : Int32))])) rfl rfl (hb hby d12_11)) ?_
            rw [len_of Sa198 Na198]
            show Go p.tables e below _ (s₁.setTop (mkF m 12 #[.val (.ref a1), .val (.ref a2), .val (.int (3 : Int32))] [(.int (3 : Int32)), (.int (3 : Int32))]))
            refine Go.step (fun _ kt => XS.icmpYes X0.here hx rfl (pc0 := 12) (pc' := 32) rfl (hb hby d12_12) rfl (flt (by decide : ¬ ((3 : Int32) < (3 : Int32)))).2.1 (by decide) (by decide) (XS.iconst X0.here hx rfl (hb hby d12_32) kt)) ?_
            show Go p.tables e below _ (s₁.setTop (mkF m 33 #[.val (.ref a1), .val (.ref a2), .val (.int (3 : Int32))] [(.int (1 : Int32))]))
            obtain ⟨fs, hr, hrun, hended, hW, hsame⟩ := X0.leave (v := some (.int (1 : Int32))) (fun h => by rw [Bd.returns] at h; cases h)
            refine ⟨_, _, retN X0 hx (t := .boolean) Bd.returns (by simp) (hb hby d12_33) hr, hrun, hended, _, _, rfl, ?_, ⟨_, rfl⟩, hW, hsame.mono (by decide) (by decide)⟩
            show Qrm12 Z a1 a2 k1 k2 xa xb h0 n0 _ s₁.heap _
            rw [e0]
            refine ⟨?_, N0, rfl⟩
            have d0 : own_x0 xa = own_x0 xb := own_byi _ _ (own_r0 xa) (own_r0 xb) hc21_186
            have d1 : own_x1 xa = own_x1 xb := own_byi _ _ (own_r1 xa) (own_r1 xb) hc21_191
            have d2 : own_x2 xa = own_x2 xb := own_byi _ _ (own_r2 xa) (own_r2 xb) hc21_196
            have q0 : own_same xa xb = (1 : Int32) := by simp only [own_same, hp', hq']; simp [d0, d1, d2]
            rw [q0]
          · refine Go.step (fun _ kt => XS.icmpNo X0.here hx rfl (hb hby d12_21) rfl (feq hc21_196).1 (XS.iconst X0.here hx rfl (hb hby d12_24) kt)) ?_
            show Go p.tables e below _ (s₁.setTop (mkF m 25 #[.val (.ref a1), .val (.ref a2), .val (.int (2 : Int32))] [(.int (0 : Int32))]))
            obtain ⟨fs, hr, hrun, hended, hW, hsame⟩ := X0.leave (v := some (.int (0 : Int32))) (fun h => by rw [Bd.returns] at h; cases h)
            refine ⟨_, _, retN X0 hx (t := .boolean) Bd.returns (by simp) (hb hby d12_25) hr, hrun, hended, _, _, rfl, ?_, ⟨_, rfl⟩, hW, hsame.mono (by decide) (by decide)⟩
            show Qrm12 Z a1 a2 k1 k2 xa xb h0 n0 _ s₁.heap _
            rw [e0]
            refine ⟨?_, N0, rfl⟩
            have d0 : own_x0 xa = own_x0 xb := own_byi _ _ (own_r0 xa) (own_r0 xb) hc21_186
            have d1 : own_x1 xa = own_x1 xb := own_byi _ _ (own_r1 xa) (own_r1 xb) hc21_191
            have d2 : ¬ own_x2 xa = own_x2 xb := fun q1 => hc21_196 (congrArg own_by q1)
            have q0 : own_same xa xb = (0 : Int32) := by simp only [own_same, hp', hq']; simp [d0, d1, d2]
            rw [q0]
        · refine Go.step (fun _ kt => XS.icmpNo X0.here hx rfl (hb hby d12_21) rfl (feq hc21_191).1 (XS.iconst X0.here hx rfl (hb hby d12_24) kt)) ?_
          show Go p.tables e below _ (s₁.setTop (mkF m 25 #[.val (.ref a1), .val (.ref a2), .val (.int (1 : Int32))] [(.int (0 : Int32))]))
          obtain ⟨fs, hr, hrun, hended, hW, hsame⟩ := X0.leave (v := some (.int (0 : Int32))) (fun h => by rw [Bd.returns] at h; cases h)
          refine ⟨_, _, retN X0 hx (t := .boolean) Bd.returns (by simp) (hb hby d12_25) hr, hrun, hended, _, _, rfl, ?_, ⟨_, rfl⟩, hW, hsame.mono (by decide) (by decide)⟩
          show Qrm12 Z a1 a2 k1 k2 xa xb h0 n0 _ s₁.heap _
          rw [e0]
          refine ⟨?_, N0, rfl⟩
          have d0 : own_x0 xa = own_x0 xb := own_byi _ _ (own_r0 xa) (own_r0 xb) hc21_186
          have d1 : ¬ own_x1 xa = own_x1 xb := fun q1 => hc21_191 (congrArg own_by q1)
          have q0 : own_same xa xb = (0 : Int32) := by simp only [own_same, hp', hq']; simp [d0, d1]
          rw [q0]
      · refine Go.step (fun _ kt => XS.icmpNo X0.here hx rfl (hb hby d12_21) rfl (feq hc21_186).1 (XS.iconst X0.here hx rfl (hb hby d12_24) kt)) ?_
        show Go p.tables e below _ (s₁.setTop (mkF m 25 #[.val (.ref a1), .val (.ref a2), .val (.int (0 : Int32))] [(.int (0 : Int32))]))
        obtain ⟨fs, hr, hrun, hended, hW, hsame⟩ := X0.leave (v := some (.int (0 : Int32))) (fun h => by rw [Bd.returns] at h; cases h)
        refine ⟨_, _, retN X0 hx (t := .boolean) Bd.returns (by simp) (hb hby d12_25) hr, hrun, hended, _, _, rfl, ?_, ⟨_, rfl⟩, hW, hsame.mono (by decide) (by decide)⟩
        show Qrm12 Z a1 a2 k1 k2 xa xb h0 n0 _ s₁.heap _
        rw [e0]
        refine ⟨?_, N0, rfl⟩
        have d0 : ¬ own_x0 xa = own_x0 xb := fun q1 => hc21_186 (congrArg own_by q1)
        have q0 : own_same xa xb = (0 : Int32) := by simp only [own_same, hp', hq']; simp [d0]
        rw [q0]
theorem own_same1 (xa xb : Int32) (h : ¬ own_same xa xb = 0) : own_same xa xb = 1 := by
  unfold own_same at h ⊢
  split at h
  · exact absurd rfl h
  · rename_i h1
    rw [if_neg h1]
    split at h
    · exact absurd rfl h
    · rename_i h2
      rw [if_neg h2]
      split at h
      · exact absurd rfl h
      · rename_i h3
        rw [if_neg h3]
        split at h
        · exact absurd rfl h
        · rename_i h4
          rw [if_neg h4]
theorem pd_5 : parseMethodDescriptor "([B[B)Z" = some ⟨[(.array .byte), (.array .byte)], some .boolean⟩ := by decide +kernel
theorem d11_0 : decode jdk_42_method_66_code 0 = .ok (.aload_n 0, 1) := by decide +kernel
theorem d11_1 : decode jdk_42_method_66_code 1 = .ok (.aload_n 1, 1) := by decide +kernel
theorem d11_2 : decode jdk_42_method_66_code 2 = .ok (.if_acmp .ne 5, 3) := by decide +kernel
theorem d11_7 : decode jdk_42_method_66_code 7 = .ok (.aload_n 1, 1) := by decide +kernel
theorem d11_8 : decode jdk_42_method_66_code 8 = .ok (.instanceof 10, 3) := by decide +kernel
theorem d11_11 : decode jdk_42_method_66_code 11 = .ok (.ifCond .eq 43, 3) := by decide +kernel
theorem d11_14 : decode jdk_42_method_66_code 14 = .ok (.aload_n 1, 1) := by decide +kernel
theorem d11_15 : decode jdk_42_method_66_code 15 = .ok (.checkcast 10, 3) := by decide +kernel
theorem d11_18 : decode jdk_42_method_66_code 18 = .ok (.astore_n 2, 1) := by decide +kernel
theorem d11_19 : decode jdk_42_method_66_code 19 = .ok (.getstatic 38, 3) := by decide +kernel
theorem d11_22 : decode jdk_42_method_66_code 22 = .ok (.ifCond .eq 14, 3) := by decide +kernel
theorem d11_25 : decode jdk_42_method_66_code 25 = .ok (.aload_n 0, 1) := by decide +kernel
theorem d11_26 : decode jdk_42_method_66_code 26 = .ok (.getfield 15, 3) := by decide +kernel
theorem d11_29 : decode jdk_42_method_66_code 29 = .ok (.aload_n 2, 1) := by decide +kernel
theorem d11_30 : decode jdk_42_method_66_code 30 = .ok (.getfield 15, 3) := by decide +kernel
theorem d11_33 : decode jdk_42_method_66_code 33 = .ok (.if_icmp .ne 21, 3) := by decide +kernel
theorem d11_36 : decode jdk_42_method_66_code 36 = .ok (.aload_n 0, 1) := by decide +kernel
theorem d11_37 : decode jdk_42_method_66_code 37 = .ok (.getfield 9, 3) := by decide +kernel
theorem d11_40 : decode jdk_42_method_66_code 40 = .ok (.aload_n 2, 1) := by decide +kernel
theorem d11_41 : decode jdk_42_method_66_code 41 = .ok (.getfield 9, 3) := by decide +kernel
theorem d11_44 : decode jdk_42_method_66_code 44 = .ok (.invokestatic 541, 3) := by decide +kernel
theorem d11_47 : decode jdk_42_method_66_code 47 = .ok (.ifCond .eq 7, 3) := by decide +kernel
theorem d11_50 : decode jdk_42_method_66_code 50 = .ok (.iconst 1, 1) := by decide +kernel
theorem d11_51 : decode jdk_42_method_66_code 51 = .ok (.goto 4, 3) := by decide +kernel
theorem d11_54 : decode jdk_42_method_66_code 54 = .ok (.iconst 0, 1) := by decide +kernel
theorem d11_55 : decode jdk_42_method_66_code 55 = .ok (.ireturn, 1) := by decide +kernel
theorem ef_rmse (m : MethodId) (a1 : Addr) (a2 : Addr) (b1 : Addr) (k1 : ClassId) (b2 : Addr) (k2 : ClassId) (cs : Int32) (xa : Int32) (xb : Int32) : entryFrame m #[(.ref a1), (.ref a2)] 3 = mkF m 0 #[.val (.ref a1), .val (.ref a2), .unset] [] := by first | (simp [entryFrame, mkF, argsToLocals, Value.category]; done) | rfl
def Qrmse (Z : State) (a1 : Addr) (a2 : Addr) (b1 : Addr) (k1 : ClassId) (b2 : Addr) (k2 : ClassId) (cs : Int32) (xa : Int32) (xb : Int32) (h0 : Heap) (n0 : Nat) (v : Option Value) (h : Heap) (L : List Loc) : Prop := v = some (.int (own_same xa xb)) ∧ Fr n0 L ∧ h = h0
set_option maxRecDepth 65536 in
set_option maxHeartbeats 40000000 in
theorem rmse (l : Launch) (Z : State) (a0 : Array Value) (hw : ∀ d ∈ tables_1, d.before a0 Z = true) (ws : List Jvm.Cond) (a1 : Addr) (a2 : Addr) (b1 : Addr) (k1 : ClassId) (b2 : Addr) (k2 : ClassId) (cs : Int32) (xa : Int32) (xb : Int32) (h0 : Heap) (n0 : Nat) (Z0 : n0 ≤ h0.size) (E1 : Exa Z h0 a1 "java/lang/String") (Fc1 : Fld Z h0 a1 "java/lang/String" "coder" "B" (.int (0 : Int32))) (Fv1 : Fld Z h0 a1 "java/lang/String" "value" "[B" (.ref b1)) (V1 : Arv Z h0 b1 k1 .byte (own_n xa) [(.int (own_by (own_x0 xa))), (.int (own_by (own_x1 xa))), (.int (own_by (own_x2 xa)))] (.int (0 : Int32))) (E2 : Exa Z h0 a2 "java/lang/String") (Fc2 : Fld Z h0 a2 "java/lang/String" "coder" "B" (.int (0 : Int32))) (Fv2 : Fld Z h0 a2 "java/lang/String" "value" "[B" (.ref b2)) (V2 : Arv Z h0 b2 k2 .byte (own_n xb) [(.int (own_by (own_x0 xb))), (.int (own_by (own_x1 xb))), (.int (own_by (own_x2 xb)))] (.int (0 : Int32))) (S_cs : Sta Z h0 "java/lang/String" "COMPACT_STRINGS" "Z" (.int cs)) (hcs : ¬ cs = 0) (ne12 : a1 ≠ a2) :
    MetFree l (⟨"java/lang/String", "equals", "(Ljava/lang/Object;)Z"⟩ : MethodName) (head1 (Jvm.Cond.code (⟨"java/lang/String", "equals", "(Ljava/lang/Object;)Z"⟩ : MethodName) jdk_42_method_66_code 3 (some .boolean) :: ws) ({ frames := 1, cells := 0, slots := 0, locals := 14 } : Room)) (fun a U => a = #[(.ref a1), (.ref a2)] ∧ Z.Warmed39 U.vm ∧ U.heap = h0) (fun _ _ _ _ _ => True) (fun _ U o U' => ∃ v L, o = .returned v ∧ Qrmse Z a1 a2 b1 k1 b2 k2 cs xa xb h0 n0 v U'.heap L ∧ FrameEnd U o U' L ({ frames := 1, cells := 0, slots := 0, locals := 14 } : Room).cells ({ frames := 1, cells := 0, slots := 0, locals := 14 } : Room).slots) := by
  refine MetFree.of_bodySF (plainFor_of_name pn_0) hisR ?_
  intro p e s m args below meth c s₁ Bd hml0 hP hK
  obtain ⟨rfl, hZ, hh⟩ := hP
  have hx := Bd.exec
  have hby := Bd.bytes
  have hml : c.maxLocals = 3 := hml0
  have hown : s.vm.findClass "java/lang/String" = some m.cls := findClass_of_methodNamed Bd.named
  have hnm := (name_of_methodNamed Bd.named Bd.method).1
  have X0 : Stand p l e ({ frames := 1, cells := 0, slots := 0, locals := 14 } : Room) s m #[(.ref a1), (.ref a2)] below meth c s₁ [] 0 0 := Stand.of_body Bd
  have e0 : s₁.heap = h0 := by rw [← hh, Bd.state]; rfl
  have N0 := Fr.nil n0
  show Go p.tables e below (fun o U' => ∃ v L, o = .returned v ∧ Qrmse Z a1 a2 b1 k1 b2 k2 cs xa xb h0 n0 v U'.heap L ∧ FrameEnd s o U' L ({ frames := 1, cells := 0, slots := 0, locals := 14 } : Room).cells ({ frames := 1, cells := 0, slots := 0, locals := 14 } : Room).slots) _
  refine Go.step (fun t kt => castTop (ef_rmse m a1 a2 b1 k1 b2 k2 cs xa xb) kt) ?_
  show Go p.tables e below _ (s₁.setTop (mkF m 0 #[.val (.ref a1), .val (.ref a2), .unset] []))
  refine Go.step (fun _ kt => XS.aloadN X0.here hx rfl (hb hby d11_0) rfl rfl (XS.aloadN X0.here hx rfl (hb hby d11_1) rfl rfl kt)) ?_
  show Go p.tables e below _ (s₁.setTop (mkF m 2 #[.val (.ref a1), .val (.ref a2), .unset] [(.ref a2), (.ref a1)]))
  refine Go.step (fun _ kt => Jvm.RoadKit.acmp (g := (mkF m 2 #[.val (.ref a1), .val (.ref a2), .unset] [(.ref a2), (.ref a1)])) X0 hx rfl rfl rfl (pc0 := 2) (pc' := 7) (same := false) rfl (hb hby d11_2) rfl (decide_eq_false fun q => ne12 (Value.ref.inj q)) (by decide) (by decide) kt) ?_
  show Go p.tables e below _ (s₁.setTop (mkF m 7 #[.val (.ref a1), .val (.ref a2), .unset] []))
  refine Go.step (fun _ kt => XS.aloadN X0.here hx rfl (hb hby d11_7) rfl rfl kt) ?_
  show Go p.tables e below _ (s₁.setTop (mkF m 8 #[.val (.ref a1), .val (.ref a2), .unset] [(.ref a2)]))
  obtain ⟨T101, X101, e101, st101⟩ := instY X0 hx hZ hown (hw _ (List.mem_of_getElem? (i := 63) rfl)) e0 (Ins.self E2) (g := (mkF m 8 #[.val (.ref a1), .val (.ref a2), .unset] [(.ref a2)])) rfl rfl (hb hby d11_8)
  refine Go.step st101 ?_
  show Go p.tables e below _ (T101.setTop (mkF m 11 #[.val (.ref a1), .val (.ref a2), .unset] [(.int (1 : Int32))]))
  refine Go.step (fun _ kt => XS.ifNo X101.here hx rfl (hb hby d11_11) rfl ((if0 _ _).trans (feq (by decide : ¬ ((1 : Int32) = (0 : Int32)))).1) (XS.aloadN X101.here hx rfl (hb hby d11_14) rfl rfl kt)) ?_
  show Go p.tables e below _ (T101.setTop (mkF m 15 #[.val (.ref a1), .val (.ref a2), .unset] [(.ref a2)]))
  obtain ⟨T102, X102, e102, st102⟩ := castY X101 hx hZ hown (hw _ (List.mem_of_getElem? (i := 63) rfl)) e101 (Ins.self E2) (g := (mkF m 15 #[.val (.ref a1), .val (.ref a2), .unset] [(.ref a2)])) rfl rfl (hb hby d11_15)
  refine Go.step st102 ?_
  show Go p.tables e below _ (T102.setTop (mkF m 18 #[.val (.ref a1), .val (.ref a2), .unset] [(.ref a2)]))
  refine Go.step (fun _ kt => XS.astoreN X102.here hx rfl (hb hby d11_18) rfl rfl (l' := #[.val (.ref a1), .val (.ref a2), .val (.ref a2)]) rfl kt) ?_
  show Go p.tables e below _ (T102.setTop (mkF m 19 #[.val (.ref a1), .val (.ref a2), .val (.ref a2)] []))
  obtain ⟨T103, X103, e103, st103⟩ := getS2 X102 hx hZ hown (host := "") (Or.inl (hw _ (List.mem_of_getElem? (i := 29) rfl))) Via.refl e102 S_cs (g := (mkF m 19 #[.val (.ref a1), .val (.ref a2), .val (.ref a2)] [])) rfl (hb hby d11_19)
  refine Go.step st103 ?_
  show Go p.tables e below _ (T103.setTop (mkF m 22 #[.val (.ref a1), .val (.ref a2), .val (.ref a2)] [(.int cs)]))
  refine Go.step (fun _ kt => XS.ifNo X103.here hx rfl (hb hby d11_22) rfl ((if0 _ _).trans (feq hcs).1) (XS.aloadN X103.here hx rfl (hb hby d11_25) rfl rfl kt)) ?_
  show Go p.tables e below _ (T103.setTop (mkF m 26 #[.val (.ref a1), .val (.ref a2), .val (.ref a2)] [(.ref a1)]))
  obtain ⟨T104, X104, e104, st104⟩ := getF X103 hx hZ hown (host := "") (Or.inl (hw _ (List.mem_of_getElem? (i := 28) rfl))) Via.refl e103 Fc1 (g := (mkF m 26 #[.val (.ref a1), .val (.ref a2), .val (.ref a2)] [(.ref a1)])) rfl rfl (hb hby d11_26)
  refine Go.step st104 ?_
  show Go p.tables e below _ (T104.setTop (mkF m 29 #[.val (.ref a1), .val (.ref a2), .val (.ref a2)] [(.int (0 : Int32))]))
  refine Go.step (fun _ kt => XS.aloadN X104.here hx rfl (hb hby d11_29) rfl rfl kt) ?_
  show Go p.tables e below _ (T104.setTop (mkF m 30 #[.val (.ref a1), .val (.ref a2), .val (.ref a2)] [(.ref a2), (.int (0 : Int32))]))
  obtain ⟨T105, X105, e105, st105⟩ := getF X104 hx hZ hown (host := "") (Or.inl (hw _ (List.mem_of_getElem? (i := 28) rfl))) Via.refl e104 Fc2 (g := (mkF m 30 #[.val (.ref a1), .val (.ref a2), .val (.ref a2)] [(.ref a2), (.int (0 : Int32))])) rfl rfl (hb hby d11_30)
  refine Go.step st105 ?_
  show Go p.tables e below _ (T105.setTop (mkF m 33 #[.val (.ref a1), .val (.ref a2), .val (.ref a2)] [(.int (0 : Int32)), (.int (0 : Int32))]))
  refine Go.step (fun _ kt => XS.icmpNo X105.here hx rfl (hb hby d11_33) rfl (teq (by decide : (0 : Int32) = (0 : Int32))).2 (XS.aloadN X105.here hx rfl (hb hby d11_36) rfl rfl kt)) ?_
  show Go p.tables e below _ (T105.setTop (mkF m 37 #[.val (.ref a1), .val (.ref a2), .val (.ref a2)] [(.ref a1)]))
  obtain ⟨T106, X106, e106, st106⟩ := getF X105 hx hZ hown (host := "") (Or.inl (hw _ (List.mem_of_getElem? (i := 27) rfl))) Via.refl e105 Fv1 (g := (mkF m 37 #[.val (.ref a1), .val (.ref a2), .val (.ref a2)] [(.ref a1)])) rfl rfl (hb hby d11_37)
  refine Go.step st106 ?_
  show Go p.tables e below _ (T106.setTop (mkF m 40 #[.val (.ref a1), .val (.ref a2), .val (.ref a2)] [(.ref b1)]))
  refine Go.step (fun _ kt => XS.aloadN X106.here hx rfl (hb hby d11_40) rfl rfl kt) ?_
  show Go p.tables e below _ (T106.setTop (mkF m 41 #[.val (.ref a1), .val (.ref a2), .val (.ref a2)] [(.ref a2), (.ref b1)]))
  obtain ⟨T107, X107, e107, st107⟩ := getF X106 hx hZ hown (host := "") (Or.inl (hw _ (List.mem_of_getElem? (i := 27) rfl))) Via.refl e106 Fv2 (g := (mkF m 41 #[.val (.ref a1), .val (.ref a2), .val (.ref a2)] [(.ref a2), (.ref b1)])) rfl rfl (hb hby d11_41)
  refine Go.step st107 ?_
  show Go p.tables e below _ (T107.setTop (mkF m 44 #[.val (.ref a1), .val (.ref a2), .val (.ref a2)] [(.ref b2), (.ref b1)]))
  obtain ⟨_, _, ⟨T108, L108, k108, n108⟩, -, X108, ⟨Lc108, hQ108, l108, y108, z108⟩, st108⟩ := Jvm.LawKit.callS X107 hx (y := (⟨"java/lang/StringLatin1", "equals", "([B[B)Z"⟩ : MethodName)) hown (mvT hZ (hw _ (List.mem_of_getElem? (i := 64) rfl))) (mvT hZ (hw _ (List.mem_of_getElem? (i := 65) rfl))) (mvT hZ (hw _ (List.mem_of_getElem? (i := 66) rfl))) (mvT hZ (hw _ (List.mem_of_getElem? (i := 67) rfl))) (by decide) (backOf (W := 0) (rm12 l Z a0 hw [] b1 b2 k1 k2 xa xb h0 n0 Z0 V1 V2 ) hZ (hw _ (List.mem_of_getElem? (i := 67) rfl)) (hw _ (List.mem_of_getElem? (i := 66) rfl)) (by decide) (by decide)) (g := (mkF m 44 #[.val (.ref a1), .val (.ref a2), .val (.ref a2)] [(.ref b2), (.ref b1)])) rfl (by rw [hml]; rfl) (argsL := [(.ref b1), (.ref b2)]) (rest := []) (lenOf pd_5 rfl) rfl (by show 2 * 0 + _ ≤ _; exact Nat.le_of_eq rfl) (hb hby d11_44) (fun _ _ => ⟨rfl, e107, (by decide : 0 + 0 ≤ _), (by decide : 0 + 0 ≤ _)⟩)
  dsimp only [Pt.U, Pt.locs, Pt.cells, Pt.slots] at X108 l108 y108 z108 st108 hQ108
  subst l108 y108 z108
  obtain ⟨rfl, N108q, eh108⟩ := hQ108
  have N108 := Fr.app N0 N108q
  refine Go.step st108 ?_
  show Go p.tables e below _ (T108.setTop (mkF m 47 #[.val (.ref a1), .val (.ref a2), .val (.ref a2)] [(.int (own_same xa xb))]))
  by_cases hc47_109 : (own_same xa xb) = (0 : Int32)
  · refine Go.step (fun _ kt => XS.ifYes X108.here hx rfl (pc0 := 47) (pc' := 54) rfl (hb hby d11_47) rfl ((if0 _ _).trans (teq hc47_109).1) (by decide) (by decide) (XS.iconst X108.here hx rfl (hb hby d11_54) kt)) ?_
    show Go p.tables e below _ (T108.setTop (mkF m 55 #[.val (.ref a1), .val (.ref a2), .val (.ref a2)] [(.int (0 : Int32))]))
    obtain ⟨fs, hr, hrun, hended, hW, hsame⟩ := X108.leave (v := some (.int (0 : Int32))) (fun h => by rw [Bd.returns] at h; cases h)
    refine ⟨_, _, retN X108 hx (t := .boolean) Bd.returns (by simp) (hb hby d11_55) hr, hrun, hended, _, _, rfl, ?_, ⟨_, rfl⟩, hW, hsame.mono (by decide) (by decide)⟩
    show Qrmse Z a1 a2 b1 k1 b2 k2 cs xa xb h0 n0 _ T108.heap _
    rw [eh108]
    refine ⟨?_, N108, rfl⟩
    have q0 : own_same xa xb = (0 : Int32) := hc47_109
    rw [q0]
  · refine Go.step (fun _ kt => XS.ifNo X108.here hx rfl (hb hby d11_47) rfl ((if0 _ _).trans (feq hc47_109).1) (XS.iconst X108.here hx rfl (hb hby d11_50) (XS.goto X108.here hx rfl (pc0 := 51) (pc' := 55) rfl (hb hby d11_51) (by decide) (by decide) kt))) ?_
    show Go p.tables e below _ (T108.setTop (mkF m 55 #[.val (.ref a1), .val (.ref a2), .val (.ref a2)] [(.int (1 : Int32))]))
    obtain ⟨fs, hr, hrun, hended, hW, hsame⟩ := X108.leave (v := some (.int (1 : Int32))) (fun h => by rw [Bd.returns] at h; cases h)
    refine ⟨_, _, retN X108 hx (t := .boolean) Bd.returns (by simp) (hb hby d11_55) hr, hrun, hended, _, _, rfl, ?_, ⟨_, rfl⟩, hW, hsame.mono (by decide) (by decide)⟩
    show Qrmse Z a1 a2 b1 k1 b2 k2 cs xa xb h0 n0 _ T108.heap _
    rw [eh108]
    refine ⟨?_, N108, rfl⟩
    have q0 : own_same xa xb = (1 : Int32) := own_same1 xa xb hc47_109
    rw [q0]
theorem d11_5 : decode jdk_42_method_66_code 5 = .ok (.iconst 1, 1) := by decide +kernel
theorem d11_6 : decode jdk_42_method_66_code 6 = .ok (.ireturn, 1) := by decide +kernel
theorem ef_rmsx (m : MethodId) (a1 : Addr) : entryFrame m #[(.ref a1), (.ref a1)] 3 = mkF m 0 #[.val (.ref a1), .val (.ref a1), .unset] [] := by first | (simp [entryFrame, mkF, argsToLocals, Value.category]; done) | rfl
def Qrmsx (Z : State) (a1 : Addr) (h0 : Heap) (n0 : Nat) (v : Option Value) (h : Heap) (L : List Loc) : Prop := v = some (.int (1 : Int32)) ∧ Fr n0 L ∧ h = h0
set_option maxRecDepth 65536 in
set_option maxHeartbeats 40000000 in
theorem rmsx (l : Launch) (Z : State) (a0 : Array Value) (hw : ∀ d ∈ tables_1, d.before a0 Z = true) (ws : List Jvm.Cond) (a1 : Addr) (h0 : Heap) (n0 : Nat) (Z0 : n0 ≤ h0.size) (E1 : Exa Z h0 a1 "java/lang/String") :
    MetFree l (⟨"java/lang/String", "equals", "(Ljava/lang/Object;)Z"⟩ : MethodName) (head1 (Jvm.Cond.code (⟨"java/lang/String", "equals", "(Ljava/lang/Object;)Z"⟩ : MethodName) jdk_42_method_66_code 3 (some .boolean) :: ws) ({ frames := 0, cells := 0, slots := 0, locals := 0 } : Room)) (fun a U => a = #[(.ref a1), (.ref a1)] ∧ Z.Warmed39 U.vm ∧ U.heap = h0) (fun _ _ _ _ _ => True) (fun _ U o U' => ∃ v L, o = .returned v ∧ Qrmsx Z a1 h0 n0 v U'.heap L ∧ FrameEnd U o U' L ({ frames := 0, cells := 0, slots := 0, locals := 0 } : Room).cells ({ frames := 0, cells := 0, slots := 0, locals := 0 } : Room).slots) := by
  refine MetFree.of_bodySF (plainFor_of_name pn_0) hisR ?_
  intro p e s m args below meth c s₁ Bd hml0 hP hK
  obtain ⟨rfl, hZ, hh⟩ := hP
  have hx := Bd.exec
  have hby := Bd.bytes
  have hml : c.maxLocals = 3 := hml0
  have hown : s.vm.findClass "java/lang/String" = some m.cls := findClass_of_methodNamed Bd.named
  have hnm := (name_of_methodNamed Bd.named Bd.method).1
  have X0 : Stand p l e ({ frames := 0, cells := 0, slots := 0, locals := 0 } : Room) s m #[(.ref a1), (.ref a1)] below meth c s₁ [] 0 0 := Stand.of_body Bd
  have e0 : s₁.heap = h0 := by rw [← hh, Bd.state]; rfl
  have N0 := Fr.nil n0
  show Go p.tables e below (fun o U' => ∃ v L, o = .returned v ∧ Qrmsx Z a1 h0 n0 v U'.heap L ∧ FrameEnd s o U' L ({ frames := 0, cells := 0, slots := 0, locals := 0 } : Room).cells ({ frames := 0, cells := 0, slots := 0, locals := 0 } : Room).slots) _
  refine Go.step (fun t kt => castTop (ef_rmsx m a1) kt) ?_
  show Go p.tables e below _ (s₁.setTop (mkF m 0 #[.val (.ref a1), .val (.ref a1), .unset] []))
  refine Go.step (fun _ kt => XS.aloadN X0.here hx rfl (hb hby d11_0) rfl rfl (XS.aloadN X0.here hx rfl (hb hby d11_1) rfl rfl kt)) ?_
  show Go p.tables e below _ (s₁.setTop (mkF m 2 #[.val (.ref a1), .val (.ref a1), .unset] [(.ref a1), (.ref a1)]))
  refine Go.step (fun _ kt => Jvm.RoadKit.acmp (g := (mkF m 2 #[.val (.ref a1), .val (.ref a1), .unset] [(.ref a1), (.ref a1)])) X0 hx rfl rfl rfl (pc0 := 2) (pc' := 5) (same := true) rfl (hb hby d11_2) rfl (decide_eq_true rfl) (by decide) (by decide) kt) ?_
  show Go p.tables e below _ (s₁.setTop (mkF m 5 #[.val (.ref a1), .val (.ref a1), .unset] []))
  refine Go.step (fun _ kt => XS.iconst X0.here hx rfl (hb hby d11_5) kt) ?_
  show Go p.tables e below _ (s₁.setTop (mkF m 6 #[.val (.ref a1), .val (.ref a1), .unset] [(.int (1 : Int32))]))
  obtain ⟨fs, hr, hrun, hended, hW, hsame⟩ := X0.leave (v := some (.int (1 : Int32))) (fun h => by rw [Bd.returns] at h; cases h)
  refine ⟨_, _, retN X0 hx (t := .boolean) Bd.returns (by simp) (hb hby d11_6) hr, hrun, hended, _, _, rfl, ?_, ⟨_, rfl⟩, hW, hsame.mono (by decide) (by decide)⟩
  show Qrmsx Z a1 h0 n0 _ s₁.heap _
  rw [e0]
  refine ⟨?_, N0, rfl⟩
  rfl
theorem pd_6 : parseMethodDescriptor "(Ljava/lang/Object;)Z" = some ⟨[(.object "java/lang/Object")], some .boolean⟩ := by decide +kernel
theorem d10_0 : decode prog_20_method_4_code 0 = .ok (.aload_n 1, 1) := by decide +kernel
theorem d10_1 : decode prog_20_method_4_code 1 = .ok (.instanceof 8, 3) := by decide +kernel
theorem d10_4 : decode prog_20_method_4_code 4 = .ok (.ifCond .ne 5, 3) := by decide +kernel
theorem d10_9 : decode prog_20_method_4_code 9 = .ok (.aload_n 1, 1) := by decide +kernel
theorem d10_10 : decode prog_20_method_4_code 10 = .ok (.checkcast 8, 3) := by decide +kernel
theorem d10_13 : decode prog_20_method_4_code 13 = .ok (.astore_n 2, 1) := by decide +kernel
theorem d10_14 : decode prog_20_method_4_code 14 = .ok (.aload_n 0, 1) := by decide +kernel
theorem d10_15 : decode prog_20_method_4_code 15 = .ok (.getfield 7, 3) := by decide +kernel
theorem d10_18 : decode prog_20_method_4_code 18 = .ok (.aload_n 2, 1) := by decide +kernel
theorem d10_19 : decode prog_20_method_4_code 19 = .ok (.getfield 7, 3) := by decide +kernel
theorem d10_22 : decode prog_20_method_4_code 22 = .ok (.invokevirtual 16, 3) := by decide +kernel
theorem d10_25 : decode prog_20_method_4_code 25 = .ok (.ifCond .eq 21, 3) := by decide +kernel
theorem d10_28 : decode prog_20_method_4_code 28 = .ok (.aload_n 0, 1) := by decide +kernel
theorem d10_29 : decode prog_20_method_4_code 29 = .ok (.getfield 13, 3) := by decide +kernel
theorem d10_32 : decode prog_20_method_4_code 32 = .ok (.aload_n 2, 1) := by decide +kernel
theorem d10_33 : decode prog_20_method_4_code 33 = .ok (.getfield 13, 3) := by decide +kernel
theorem d10_36 : decode prog_20_method_4_code 36 = .ok (.invokevirtual 16, 3) := by decide +kernel
theorem d10_39 : decode prog_20_method_4_code 39 = .ok (.ifCond .eq 7, 3) := by decide +kernel
theorem d10_42 : decode prog_20_method_4_code 42 = .ok (.iconst 1, 1) := by decide +kernel
theorem d10_43 : decode prog_20_method_4_code 43 = .ok (.goto 4, 3) := by decide +kernel
theorem d10_46 : decode prog_20_method_4_code 46 = .ok (.iconst 0, 1) := by decide +kernel
theorem d10_47 : decode prog_20_method_4_code 47 = .ok (.ireturn, 1) := by decide +kernel
theorem ef_rmpe (m : MethodId) (a1 : Addr) (a2 : Addr) (x1 : Addr) (y1 : Addr) (x2 : Addr) (y2 : Addr) (b1 : Addr) (k1 : ClassId) (b2 : Addr) (k2 : ClassId) (b3 : Addr) (k3 : ClassId) (b4 : Addr) (k4 : ClassId) (cs : Int32) (xa : Int32) (xb : Int32) (xc : Int32) (xd : Int32) : entryFrame m #[(.ref a1), (.ref a2)] 3 = mkF m 0 #[.val (.ref a1), .val (.ref a2), .unset] [] := by first | (simp [entryFrame, mkF, argsToLocals, Value.category]; done) | rfl
def Qrmpe (Z : State) (a1 : Addr) (a2 : Addr) (x1 : Addr) (y1 : Addr) (x2 : Addr) (y2 : Addr) (b1 : Addr) (k1 : ClassId) (b2 : Addr) (k2 : ClassId) (b3 : Addr) (k3 : ClassId) (b4 : Addr) (k4 : ClassId) (cs : Int32) (xa : Int32) (xb : Int32) (xc : Int32) (xd : Int32) (h0 : Heap) (n0 : Nat) (v : Option Value) (h : Heap) (L : List Loc) : Prop := v = some (.int (own_eqs xa xb xc xd)) ∧ Fr n0 L ∧ h = h0
set_option maxRecDepth 65536 in
set_option maxHeartbeats 40000000 in
theorem rmpe (l : Launch) (Z : State) (a0 : Array Value) (hw : ∀ d ∈ tables_1, d.before a0 Z = true) (ws : List Jvm.Cond) (a1 : Addr) (a2 : Addr) (x1 : Addr) (y1 : Addr) (x2 : Addr) (y2 : Addr) (b1 : Addr) (k1 : ClassId) (b2 : Addr) (k2 : ClassId) (b3 : Addr) (k3 : ClassId) (b4 : Addr) (k4 : ClassId) (cs : Int32) (xa : Int32) (xb : Int32) (xc : Int32) (xd : Int32) (h0 : Heap) (n0 : Nat) (Z0 : n0 ≤ h0.size) (Ep1 : Exa Z h0 a1 "com/example/inchworm/inchworm/crawler/PageImage") (Fx1 : Fld Z h0 a1 "com/example/inchworm/inchworm/crawler/PageImage" "address" "Ljava/lang/String;" (.ref x1)) (Fy1 : Fld Z h0 a1 "com/example/inchworm/inchworm/crawler/PageImage" "altText" "Ljava/lang/String;" (.ref y1)) (Ep2 : Exa Z h0 a2 "com/example/inchworm/inchworm/crawler/PageImage") (Fx2 : Fld Z h0 a2 "com/example/inchworm/inchworm/crawler/PageImage" "address" "Ljava/lang/String;" (.ref x2)) (Fy2 : Fld Z h0 a2 "com/example/inchworm/inchworm/crawler/PageImage" "altText" "Ljava/lang/String;" (.ref y2)) (E3 : Exa Z h0 x1 "java/lang/String") (Fc3 : Fld Z h0 x1 "java/lang/String" "coder" "B" (.int (0 : Int32))) (Fv3 : Fld Z h0 x1 "java/lang/String" "value" "[B" (.ref b1)) (V3 : Arv Z h0 b1 k1 .byte (own_n xa) [(.int (own_by (own_x0 xa))), (.int (own_by (own_x1 xa))), (.int (own_by (own_x2 xa)))] (.int (0 : Int32))) (E4 : Exa Z h0 y1 "java/lang/String") (Fc4 : Fld Z h0 y1 "java/lang/String" "coder" "B" (.int (0 : Int32))) (Fv4 : Fld Z h0 y1 "java/lang/String" "value" "[B" (.ref b2)) (V4 : Arv Z h0 b2 k2 .byte (own_n xb) [(.int (own_by (own_x0 xb))), (.int (own_by (own_x1 xb))), (.int (own_by (own_x2 xb)))] (.int (0 : Int32))) (E5 : Exa Z h0 x2 "java/lang/String") (Fc5 : Fld Z h0 x2 "java/lang/String" "coder" "B" (.int (0 : Int32))) (Fv5 : Fld Z h0 x2 "java/lang/String" "value" "[B" (.ref b3)) (V5 : Arv Z h0 b3 k3 .byte (own_n xc) [(.int (own_by (own_x0 xc))), (.int (own_by (own_x1 xc))), (.int (own_by (own_x2 xc)))] (.int (0 : Int32))) (E6 : Exa Z h0 y2 "java/lang/String") (Fc6 : Fld Z h0 y2 "java/lang/String" "coder" "B" (.int (0 : Int32))) (Fv6 : Fld Z h0 y2 "java/lang/String" "value" "[B" (.ref b4)) (V6 : Arv Z h0 b4 k4 .byte (own_n xd) [(.int (own_by (own_x0 xd))), (.int (own_by (own_x1 xd))), (.int (own_by (own_x2 xd)))] (.int (0 : Int32))) (S_cs : Sta Z h0 "java/lang/String" "COMPACT_STRINGS" "Z" (.int cs)) (hcs : ¬ cs = 0) (nex : x1 ≠ x2) (ney : y1 ≠ y2) :
    MetFree l (⟨"com/example/inchworm/inchworm/crawler/PageImage", "equals", "(Ljava/lang/Object;)Z"⟩ : MethodName) (head1 (Jvm.Cond.code (⟨"com/example/inchworm/inchworm/crawler/PageImage", "equals", "(Ljava/lang/Object;)Z"⟩ : MethodName) prog_20_method_4_code 3 (some .boolean) :: ws) ({ frames := 2, cells := 0, slots := 0, locals := 28 } : Room)) (fun a U => a = #[(.ref a1), (.ref a2)] ∧ Z.Warmed39 U.vm ∧ U.heap = h0) (fun _ _ _ _ _ => True) (fun _ U o U' => ∃ v L, o = .returned v ∧ Qrmpe Z a1 a2 x1 y1 x2 y2 b1 k1 b2 k2 b3 k3 b4 k4 cs xa xb xc xd h0 n0 v U'.heap L ∧ FrameEnd U o U' L ({ frames := 2, cells := 0, slots := 0, locals := 28 } : Room).cells ({ frames := 2, cells := 0, slots := 0, locals := 28 } : Room).slots) := by
  refine MetFree.of_bodySF (plainFor_of_name pn_3) hisR ?_
  intro p e s m args below meth c s₁ Bd hml0 hP hK
  obtain ⟨rfl, hZ, hh⟩ := hP
  have hx := Bd.exec
  have hby := Bd.bytes
  have hml : c.maxLocals = 3 := hml0
  have hown : s.vm.findClass "com/example/inchworm/inchworm/crawler/PageImage" = some m.cls := findClass_of_methodNamed Bd.named
  have hnm := (name_of_methodNamed Bd.named Bd.method).1
  have X0 : Stand p l e ({ frames := 2, cells := 0, slots := 0, locals := 28 } : Room) s m #[(.ref a1), (.ref a2)] below meth c s₁ [] 0 0 := Stand.of_body Bd
  have e0 : s₁.heap = h0 := by rw [← hh, Bd.state]; rfl
  have N0 := Fr.nil n0
  show Go p.tables e below (fun o U' => ∃ v L, o = .returned v ∧ Qrmpe Z a1 a2 x1 y1 x2 y2 b1 k1 b2 k2 b3 k3 b4 k4 cs xa xb xc xd h0 n0 v U'.heap L ∧ FrameEnd s o U' L ({ frames := 2, cells := 0, slots := 0, locals := 28 } : Room).cells ({ frames := 2, cells := 0, slots := 0, locals := 28 } : Room).slots) _
  refine Go.step (fun t kt => castTop (ef_rmpe m a1 a2 x1 y1 x2 y2 b1 k1 b2 k2 b3 k3 b4 k4 cs xa xb xc xd) kt) ?_
  show Go p.tables e below _ (s₁.setTop (mkF m 0 #[.val (.ref a1), .val (.ref a2), .unset] []))
  refine Go.step (fun _ kt => XS.aloadN X0.here hx rfl (hb hby d10_0) rfl rfl kt) ?_
  show Go p.tables e below _ (s₁.setTop (mkF m 1 #[.val (.ref a1), .val (.ref a2), .unset] [(.ref a2)]))
  obtain ⟨T101, X101, e101, st101⟩ := instY X0 hx hZ hown (hw _ (List.mem_of_getElem? (i := 56) rfl)) e0 (Ins.self Ep2) (g := (mkF m 1 #[.val (.ref a1), .val (.ref a2), .unset] [(.ref a2)])) rfl rfl (hb hby d10_1)
  refine Go.step st101 ?_
  show Go p.tables e below _ (T101.setTop (mkF m 4 #[.val (.ref a1), .val (.ref a2), .unset] [(.int (1 : Int32))]))
  refine Go.step (fun _ kt => XS.ifYes X101.here hx rfl (pc0 := 4) (pc' := 9) rfl (hb hby d10_4) rfl ((if0 _ _).trans (feq (by decide : ¬ ((1 : Int32) = (0 : Int32)))).2) (by decide) (by decide) (XS.aloadN X101.here hx rfl (hb hby d10_9) rfl rfl kt)) ?_
  show Go p.tables e below _ (T101.setTop (mkF m 10 #[.val (.ref a1), .val (.ref a2), .unset] [(.ref a2)]))
  obtain ⟨T102, X102, e102, st102⟩ := castY X101 hx hZ hown (hw _ (List.mem_of_getElem? (i := 56) rfl)) e101 (Ins.self Ep2) (g := (mkF m 10 #[.val (.ref a1), .val (.ref a2), .unset] [(.ref a2)])) rfl rfl (hb hby d10_10)
  refine Go.step st102 ?_
  show Go p.tables e below _ (T102.setTop (mkF m 13 #[.val (.ref a1), .val (.ref a2), .unset] [(.ref a2)]))
  refine Go.step (fun _ kt => XS.astoreN X102.here hx rfl (hb hby d10_13) rfl rfl (l' := #[.val (.ref a1), .val (.ref a2), .val (.ref a2)]) rfl (XS.aloadN X102.here hx rfl (hb hby d10_14) rfl rfl kt)) ?_
  show Go p.tables e below _ (T102.setTop (mkF m 15 #[.val (.ref a1), .val (.ref a2), .val (.ref a2)] [(.ref a1)]))
  obtain ⟨T103, X103, e103, st103⟩ := getF X102 hx hZ hown (host := "") (Or.inl (hw _ (List.mem_of_getElem? (i := 44) rfl))) Via.refl e102 Fx1 (g := (mkF m 15 #[.val (.ref a1), .val (.ref a2), .val (.ref a2)] [(.ref a1)])) rfl rfl (hb hby d10_15)
  refine Go.step st103 ?_
  show Go p.tables e below _ (T103.setTop (mkF m 18 #[.val (.ref a1), .val (.ref a2), .val (.ref a2)] [(.ref x1)]))
  refine Go.step (fun _ kt => XS.aloadN X103.here hx rfl (hb hby d10_18) rfl rfl kt) ?_
  show Go p.tables e below _ (T103.setTop (mkF m 19 #[.val (.ref a1), .val (.ref a2), .val (.ref a2)] [(.ref a2), (.ref x1)]))
  obtain ⟨T104, X104, e104, st104⟩ := getF X103 hx hZ hown (host := "") (Or.inl (hw _ (List.mem_of_getElem? (i := 44) rfl))) Via.refl e103 Fx2 (g := (mkF m 19 #[.val (.ref a1), .val (.ref a2), .val (.ref a2)] [(.ref a2), (.ref x1)])) rfl rfl (hb hby d10_19)
  refine Go.step st104 ?_
  show Go p.tables e below _ (T104.setTop (mkF m 22 #[.val (.ref a1), .val (.ref a2), .val (.ref a2)] [(.ref x2), (.ref x1)]))
  obtain ⟨cq105, kq105, q105a, q105b, q105c⟩ := isOf hZ e104 E3
  obtain ⟨_, _, ⟨T105, L105, k105, n105⟩, -, X105, ⟨Lc105, hQ105, l105, y105, z105⟩, st105⟩ := X104.virtualBack hx (y := (⟨"java/lang/String", "equals", "(Ljava/lang/Object;)Z"⟩ : MethodName)) (z := (⟨"java/lang/String", "equals", "(Ljava/lang/Object;)Z"⟩ : MethodName)) hown (mvT hZ (hw _ (List.mem_of_getElem? (i := 58) rfl))) (mvT hZ (hw _ (List.mem_of_getElem? (i := 59) rfl))) (notFace_of_selects (args := #[]) (mvT hZ (hw _ (List.mem_of_getElem? (i := 61) rfl)))) (mvT hZ (hw _ (List.mem_of_getElem? (i := 61) rfl))) (mvT hZ (hw _ (List.mem_of_getElem? (i := 60) rfl))) (by decide) (backOf (W := 0) (rmse l Z a0 hw [] x1 x2 b1 k1 b3 k3 cs xa xc h0 n0 Z0 E3 Fc3 Fv3 V3 E5 Fc5 Fv5 V5 S_cs hcs nex) hZ (hw _ (List.mem_of_getElem? (i := 62) rfl)) (hw _ (List.mem_of_getElem? (i := 10) rfl)) (by decide) (by decide)) q105a q105c (g := (mkF m 22 #[.val (.ref a1), .val (.ref a2), .val (.ref a2)] [(.ref x2), (.ref x1)])) rfl (by rw [hml]; rfl) (Steps.refl _) (argsL := [(.ref x2)]) (rest := []) (lenOf pd_6 rfl) rfl (by show 2 * 0 + _ ≤ _; exact Nat.le_of_eq rfl) (hb hby d10_22) (fun _ _ => ⟨rfl, e104, (by decide : 0 + 0 ≤ _), (by decide : 0 + 0 ≤ _)⟩)
  dsimp only [Pt.U, Pt.locs, Pt.cells, Pt.slots] at X105 l105 y105 z105 st105 hQ105
  subst l105 y105 z105
  obtain ⟨rfl, N105q, eh105⟩ := hQ105
  have N105 := Fr.app N0 N105q
  refine Go.step (fun _ kt => st105.trans kt) ?_
  show Go p.tables e below _ (T105.setTop (mkF m 25 #[.val (.ref a1), .val (.ref a2), .val (.ref a2)] [(.int (own_same xa xc))]))
  by_cases hc25_106 : (own_same xa xc) = (0 : Int32)
  · refine Go.step (fun _ kt => XS.ifYes X105.here hx rfl (pc0 := 25) (pc' := 46) rfl (hb hby d10_25) rfl ((if0 _ _).trans (teq hc25_106).1) (by decide) (by decide) (XS.iconst X105.here hx rfl (hb hby d10_46) kt)) ?_
    show Go p.tables e below _ (T105.setTop (mkF m 47 #[.val (.ref a1), .val (.ref a2), .val (.ref a2)] [(.int (0 : Int32))]))
    obtain ⟨fs, hr, hrun, hended, hW, hsame⟩ := X105.leave (v := some (.int (0 : Int32))) (fun h => by rw [Bd.returns] at h; cases h)
    refine ⟨_, _, retN X105 hx (t := .boolean) Bd.returns (by simp) (hb hby d10_47) hr, hrun, hended, _, _, rfl, ?_, ⟨_, rfl⟩, hW, hsame.mono (by decide) (by decide)⟩
    show Qrmpe Z a1 a2 x1 y1 x2 y2 b1 k1 b2 k2 b3 k3 b4 k4 cs xa xb xc xd h0 n0 _ T105.heap _
    rw [eh105]
    refine ⟨?_, N105, rfl⟩
    have q0 : own_eqs xa xb xc xd = (0 : Int32) := by simp only [own_eqs]; simp [hc25_106]
    rw [q0]
  · refine Go.step (fun _ kt => XS.ifNo X105.here hx rfl (hb hby d10_25) rfl ((if0 _ _).trans (feq hc25_106).1) (XS.aloadN X105.here hx rfl (hb hby d10_28) rfl rfl kt)) ?_
    show Go p.tables e below _ (T105.setTop (mkF m 29 #[.val (.ref a1), .val (.ref a2), .val (.ref a2)] [(.ref a1)]))
    obtain ⟨T107, X107, e107, st107⟩ := getF X105 hx hZ hown (host := "") (Or.inl (hw _ (List.mem_of_getElem? (i := 46) rfl))) Via.refl eh105 Fy1 (g := (mkF m 29 #[.val (.ref a1), .val (.ref a2), .val (.ref a2)] [(.ref a1)])) rfl rfl (hb hby d10_29)
    refine Go.step st107 ?_
    show Go p.tables e below _ (T107.setTop (mkF m 32 #[.val (.ref a1), .val (.ref a2), .val (.ref a2)] [(.ref y1)]))
    refine Go.step (fun _ kt => XS.aloadN X107.here hx rfl (hb hby d10_32) rfl rfl kt) ?_
    show Go p.tables e below _ (T107.setTop (mkF m 33 #[.val (.ref a1), .val (.ref a2), .val (.ref a2)] [(.ref a2), (.ref y1)]))
    obtain ⟨T108, X108, e108, st108⟩ := getF X107 hx hZ hown (host := "") (Or.inl (hw _ (List.mem_of_getElem? (i := 46) rfl))) Via.refl e107 Fy2 (g := (mkF m 33 #[.val (.ref a1), .val (.ref a2), .val (.ref a2)] [(.ref a2), (.ref y1)])) rfl rfl (hb hby d10_33)
    refine Go.step st108 ?_
    show Go p.tables e below _ (T108.setTop (mkF m 36 #[.val (.ref a1), .val (.ref a2), .val (.ref a2)] [(.ref y2), (.ref y1)]))
    obtain ⟨cq109, kq109, q109a, q109b, q109c⟩ := isOf hZ e108 E4
    obtain ⟨_, _, ⟨T109, L109, k109, n109⟩, -, X109, ⟨Lc109, hQ109, l109, y109, z109⟩, st109⟩ := X108.virtualBack hx (y := (⟨"java/lang/String", "equals", "(Ljava/lang/Object;)Z"⟩ : MethodName)) (z := (⟨"java/lang/String", "equals", "(Ljava/lang/Object;)Z"⟩ : MethodName)) hown (mvT hZ (hw _ (List.mem_of_getElem? (i := 58) rfl))) (mvT hZ (hw _ (List.mem_of_getElem? (i := 59) rfl))) (notFace_of_selects (args := #[]) (mvT hZ (hw _ (List.mem_of_getElem? (i := 61) rfl)))) (mvT hZ (hw _ (List.mem_of_getElem? (i := 61) rfl))) (mvT hZ (hw _ (List.mem_of_getElem? (i := 60) rfl))) (by decide) (backOf (W := 0) (rmse l Z a0 hw [] y1 y2 b2 k2 b4 k4 cs xb xd h0 n0 Z0 E4 Fc4 Fv4 V4 E6 Fc6 Fv6 V6 S_cs hcs ney) hZ (hw _ (List.mem_of_getElem? (i := 62) rfl)) (hw _ (List.mem_of_getElem? (i := 10) rfl)) (by decide) (by decide)) q109a q109c (g := (mkF m 36 #[.val (.ref a1), .val (.ref a2), .val (.ref a2)] [(.ref y2), (.ref y1)])) rfl (by rw [hml]; rfl) (Steps.refl _) (argsL := [(.ref y2)]) (rest := []) (lenOf pd_6 rfl) rfl (by show 2 * 0 + _ ≤ _; exact Nat.le_of_eq rfl) (hb hby d10_36) (fun _ _ => ⟨rfl, e108, (by decide : 0 + 0 ≤ _), (by decide : 0 + 0 ≤ _)⟩)
    dsimp only [Pt.U, Pt.locs, Pt.cells, Pt.slots] at X109 l109 y109 z109 st109 hQ109
    subst l109 y109 z109
    obtain ⟨rfl, N109q, eh109⟩ := hQ109
    have N109 := Fr.app N105 N109q
    refine Go.step (fun _ kt => st109.trans kt) ?_
    show Go p.tables e below _ (T109.setTop (mkF m 39 #[.val (.ref a1), .val (.ref a2), .val (.ref a2)] [(.int (own_same xb xd))]))
    by_cases hc39_110 : (own_same xb xd) = (0 : Int32)
    · refine Go.step (fun _ kt => XS.ifYes X109.here hx rfl (pc0 := 39) (pc' := 46) rfl (hb hby d10_39) rfl ((if0 _ _).trans (teq hc39_110).1) (by decide) (by decide) (XS.iconst X109.here hx rfl (hb hby d10_46) kt)) ?_
      show Go p.tables e below _ (T109.setTop (mkF m 47 #[.val (.ref a1), .val (.ref a2), .val (.ref a2)] [(.int (0 : Int32))]))
      obtain ⟨fs, hr, hrun, hended, hW, hsame⟩ := X109.leave (v := some (.int (0 : Int32))) (fun h => by rw [Bd.returns] at h; cases h)
      refine ⟨_, _, retN X109 hx (t := .boolean) Bd.returns (by simp) (hb hby d10_47) hr, hrun, hended, _, _, rfl, ?_, ⟨_, rfl⟩, hW, hsame.mono (by decide) (by decide)⟩
      show Qrmpe Z a1 a2 x1 y1 x2 y2 b1 k1 b2 k2 b3 k3 b4 k4 cs xa xb xc xd h0 n0 _ T109.heap _
      rw [eh109]
      refine ⟨?_, N109, rfl⟩
      have q0 : own_eqs xa xb xc xd = (0 : Int32) := by simp only [own_eqs]; simp [hc25_106, hc39_110]
      rw [q0]
    · refine Go.step (fun _ kt => XS.ifNo X109.here hx rfl (hb hby d10_39) rfl ((if0 _ _).trans (feq hc39_110).1) (XS.iconst X109.here hx rfl (hb hby d10_42) (XS.goto X109.here hx rfl (pc0 := 43) (pc' := 47) rfl (hb hby d10_43) (by decide) (by decide) kt))) ?_
      show Go p.tables e below _ (T109.setTop (mkF m 47 #[.val (.ref a1), .val (.ref a2), .val (.ref a2)] [(.int (1 : Int32))]))
      obtain ⟨fs, hr, hrun, hended, hW, hsame⟩ := X109.leave (v := some (.int (1 : Int32))) (fun h => by rw [Bd.returns] at h; cases h)
      refine ⟨_, _, retN X109 hx (t := .boolean) Bd.returns (by simp) (hb hby d10_47) hr, hrun, hended, _, _, rfl, ?_, ⟨_, rfl⟩, hW, hsame.mono (by decide) (by decide)⟩
      show Qrmpe Z a1 a2 x1 y1 x2 y2 b1 k1 b2 k2 b3 k3 b4 k4 cs xa xb xc xd h0 n0 _ T109.heap _
      rw [eh109]
      refine ⟨?_, N109, rfl⟩
      have q0 : own_eqs xa xb xc xd = (1 : Int32) := by simp only [own_eqs]; simp [hc25_106, hc39_110]
      rw [q0]
theorem ef_rmpx (m : MethodId) (a1 : Addr) (x1 : Addr) (y1 : Addr) : entryFrame m #[(.ref a1), (.ref a1)] 3 = mkF m 0 #[.val (.ref a1), .val (.ref a1), .unset] [] := by first | (simp [entryFrame, mkF, argsToLocals, Value.category]; done) | rfl
def Qrmpx (Z : State) (a1 : Addr) (x1 : Addr) (y1 : Addr) (h0 : Heap) (n0 : Nat) (v : Option Value) (h : Heap) (L : List Loc) : Prop := v = some (.int (1 : Int32)) ∧ Fr n0 L ∧ h = h0
set_option maxRecDepth 65536 in
set_option maxHeartbeats 40000000 in
theorem rmpx (l : Launch) (Z : State) (a0 : Array Value) (hw : ∀ d ∈ tables_1, d.before a0 Z = true) (ws : List Jvm.Cond) (a1 : Addr) (x1 : Addr) (y1 : Addr) (h0 : Heap) (n0 : Nat) (Z0 : n0 ≤ h0.size) (Ep1 : Exa Z h0 a1 "com/example/inchworm/inchworm/crawler/PageImage") (Fx1 : Fld Z h0 a1 "com/example/inchworm/inchworm/crawler/PageImage" "address" "Ljava/lang/String;" (.ref x1)) (Fy1 : Fld Z h0 a1 "com/example/inchworm/inchworm/crawler/PageImage" "altText" "Ljava/lang/String;" (.ref y1)) (E3 : Exa Z h0 x1 "java/lang/String") (E4 : Exa Z h0 y1 "java/lang/String") :
    MetFree l (⟨"com/example/inchworm/inchworm/crawler/PageImage", "equals", "(Ljava/lang/Object;)Z"⟩ : MethodName) (head1 (Jvm.Cond.code (⟨"com/example/inchworm/inchworm/crawler/PageImage", "equals", "(Ljava/lang/Object;)Z"⟩ : MethodName) prog_20_method_4_code 3 (some .boolean) :: ws) ({ frames := 1, cells := 0, slots := 0, locals := 14 } : Room)) (fun a U => a = #[(.ref a1), (.ref a1)] ∧ Z.Warmed39 U.vm ∧ U.heap = h0) (fun _ _ _ _ _ => True) (fun _ U o U' => ∃ v L, o = .returned v ∧ Qrmpx Z a1 x1 y1 h0 n0 v U'.heap L ∧ FrameEnd U o U' L ({ frames := 1, cells := 0, slots := 0, locals := 14 } : Room).cells ({ frames := 1, cells := 0, slots := 0, locals := 14 } : Room).slots) := by
  refine MetFree.of_bodySF (plainFor_of_name pn_3) hisR ?_
  intro p e s m args below meth c s₁ Bd hml0 hP hK
  obtain ⟨rfl, hZ, hh⟩ := hP
  have hx := Bd.exec
  have hby := Bd.bytes
  have hml : c.maxLocals = 3 := hml0
  have hown : s.vm.findClass "com/example/inchworm/inchworm/crawler/PageImage" = some m.cls := findClass_of_methodNamed Bd.named
  have hnm := (name_of_methodNamed Bd.named Bd.method).1
  have X0 : Stand p l e ({ frames := 1, cells := 0, slots := 0, locals := 14 } : Room) s m #[(.ref a1), (.ref a1)] below meth c s₁ [] 0 0 := Stand.of_body Bd
  have e0 : s₁.heap = h0 := by rw [← hh, Bd.state]; rfl
  have N0 := Fr.nil n0
  show Go p.tables e below (fun o U' => ∃ v L, o = .returned v ∧ Qrmpx Z a1 x1 y1 h0 n0 v U'.heap L ∧ FrameEnd s o U' L ({ frames := 1, cells := 0, slots := 0, locals := 14 } : Room).cells ({ frames := 1, cells := 0, slots := 0, locals := 14 } : Room).slots) _
  refine Go.step (fun t kt => castTop (ef_rmpx m a1 x1 y1) kt) ?_
  show Go p.tables e below _ (s₁.setTop (mkF m 0 #[.val (.ref a1), .val (.ref a1), .unset] []))
  refine Go.step (fun _ kt => XS.aloadN X0.here hx rfl (hb hby d10_0) rfl rfl kt) ?_
  show Go p.tables e below _ (s₁.setTop (mkF m 1 #[.val (.ref a1), .val (.ref a1), .unset] [(.ref a1)]))
  obtain ⟨T101, X101, e101, st101⟩ := instY X0 hx hZ hown (hw _ (List.mem_of_getElem? (i := 56) rfl)) e0 (Ins.self Ep1) (g := (mkF m 1 #[.val (.ref a1), .val (.ref a1), .unset] [(.ref a1)])) rfl rfl (hb hby d10_1)
  refine Go.step st101 ?_
  show Go p.tables e below _ (T101.setTop (mkF m 4 #[.val (.ref a1), .val (.ref a1), .unset] [(.int (1 : Int32))]))
  refine Go.step (fun _ kt => XS.ifYes X101.here hx rfl (pc0 := 4) (pc' := 9) rfl (hb hby d10_4) rfl ((if0 _ _).trans (feq (by decide : ¬ ((1 : Int32) = (0 : Int32)))).2) (by decide) (by decide) (XS.aloadN X101.here hx rfl (hb hby d10_9) rfl rfl kt)) ?_
  show Go p.tables e below _ (T101.setTop (mkF m 10 #[.val (.ref a1), .val (.ref a1), .unset] [(.ref a1)]))
  obtain ⟨T102, X102, e102, st102⟩ := castY X101 hx hZ hown (hw _ (List.mem_of_getElem? (i := 56) rfl)) e101 (Ins.self Ep1) (g := (mkF m 10 #[.val (.ref a1), .val (.ref a1), .unset] [(.ref a1)])) rfl rfl (hb hby d10_10)
  refine Go.step st102 ?_
  show Go p.tables e below _ (T102.setTop (mkF m 13 #[.val (.ref a1), .val (.ref a1), .unset] [(.ref a1)]))
  refine Go.step (fun _ kt => XS.astoreN X102.here hx rfl (hb hby d10_13) rfl rfl (l' := #[.val (.ref a1), .val (.ref a1), .val (.ref a1)]) rfl (XS.aloadN X102.here hx rfl (hb hby d10_14) rfl rfl kt)) ?_
  show Go p.tables e below _ (T102.setTop (mkF m 15 #[.val (.ref a1), .val (.ref a1), .val (.ref a1)] [(.ref a1)]))
  obtain ⟨T103, X103, e103, st103⟩ := getF X102 hx hZ hown (host := "") (Or.inl (hw _ (List.mem_of_getElem? (i := 44) rfl))) Via.refl e102 Fx1 (g := (mkF m 15 #[.val (.ref a1), .val (.ref a1), .val (.ref a1)] [(.ref a1)])) rfl rfl (hb hby d10_15)
  refine Go.step st103 ?_
  show Go p.tables e below _ (T103.setTop (mkF m 18 #[.val (.ref a1), .val (.ref a1), .val (.ref a1)] [(.ref x1)]))
  refine Go.step (fun _ kt => XS.aloadN X103.here hx rfl (hb hby d10_18) rfl rfl kt) ?_
  show Go p.tables e below _ (T103.setTop (mkF m 19 #[.val (.ref a1), .val (.ref a1), .val (.ref a1)] [(.ref a1), (.ref x1)]))
  obtain ⟨T104, X104, e104, st104⟩ := getF X103 hx hZ hown (host := "") (Or.inl (hw _ (List.mem_of_getElem? (i := 44) rfl))) Via.refl e103 Fx1 (g := (mkF m 19 #[.val (.ref a1), .val (.ref a1), .val (.ref a1)] [(.ref a1), (.ref x1)])) rfl rfl (hb hby d10_19)
  refine Go.step st104 ?_
  show Go p.tables e below _ (T104.setTop (mkF m 22 #[.val (.ref a1), .val (.ref a1), .val (.ref a1)] [(.ref x1), (.ref x1)]))
  obtain ⟨cq105, kq105, q105a, q105b, q105c⟩ := isOf hZ e104 E3
  obtain ⟨_, _, ⟨T105, L105, k105, n105⟩, -, X105, ⟨Lc105, hQ105, l105, y105, z105⟩, st105⟩ := X104.virtualBack hx (y := (⟨"java/lang/String", "equals", "(Ljava/lang/Object;)Z"⟩ : MethodName)) (z := (⟨"java/lang/String", "equals", "(Ljava/lang/Object;)Z"⟩ : MethodName)) hown (mvT hZ (hw _ (List.mem_of_getElem? (i := 58) rfl))) (mvT hZ (hw _ (List.mem_of_getElem? (i := 59) rfl))) (notFace_of_selects (args := #[]) (mvT hZ (hw _ (List.mem_of_getElem? (i := 61) rfl)))) (mvT hZ (hw _ (List.mem_of_getElem? (i := 61) rfl))) (mvT hZ (hw _ (List.mem_of_getElem? (i := 60) rfl))) (by decide) (backOf (W := 0) (rmsx l Z a0 hw [] x1  h0 n0 Z0 E3 ) hZ (hw _ (List.mem_of_getElem? (i := 62) rfl)) (hw _ (List.mem_of_getElem? (i := 10) rfl)) (by decide) (by decide)) q105a q105c (g := (mkF m 22 #[.val (.ref a1), .val (.ref a1), .val (.ref a1)] [(.ref x1), (.ref x1)])) rfl (by rw [hml]; rfl) (Steps.refl _) (argsL := [(.ref x1)]) (rest := []) (lenOf pd_6 rfl) rfl (by show 2 * 0 + _ ≤ _; exact Nat.le_of_eq rfl) (hb hby d10_22) (fun _ _ => ⟨rfl, e104, (by decide : 0 + 0 ≤ _), (by decide : 0 + 0 ≤ _)⟩)
  dsimp only [Pt.U, Pt.locs, Pt.cells, Pt.slots] at X105 l105 y105 z105 st105 hQ105
  subst l105 y105 z105
  obtain ⟨rfl, N105q, eh105⟩ := hQ105
  have N105 := Fr.app N0 N105q
  refine Go.step (fun _ kt => st105.trans kt) ?_
  show Go p.tables e below _ (T105.setTop (mkF m 25 #[.val (.ref a1), .val (.ref a1), .val (.ref a1)] [(.int (1 : Int32))]))
  refine Go.step (fun _ kt => XS.ifNo X105.here hx rfl (hb hby d10_25) rfl ((if0 _ _).trans (feq (by decide : ¬ ((1 : Int32) = (0 : Int32)))).1) (XS.aloadN X105.here hx rfl (hb hby d10_28) rfl rfl kt)) ?_
  show Go p.tables e below _ (T105.setTop (mkF m 29 #[.val (.ref a1), .val (.ref a1), .val (.ref a1)] [(.ref a1)]))
  obtain ⟨T106, X106, e106, st106⟩ := getF X105 hx hZ hown (host := "") (Or.inl (hw _ (List.mem_of_getElem? (i := 46) rfl))) Via.refl eh105 Fy1 (g := (mkF m 29 #[.val (.ref a1), .val (.ref a1), .val (.ref a1)] [(.ref a1)])) rfl rfl (hb hby d10_29)
  refine Go.step st106 ?_
  show Go p.tables e below _ (T106.setTop (mkF m 32 #[.val (.ref a1), .val (.ref a1), .val (.ref a1)] [(.ref y1)]))
  refine Go.step (fun _ kt => XS.aloadN X106.here hx rfl (hb hby d10_32) rfl rfl kt) ?_
  show Go p.tables e below _ (T106.setTop (mkF m 33 #[.val (.ref a1), .val (.ref a1), .val (.ref a1)] [(.ref a1), (.ref y1)]))
  obtain ⟨T107, X107, e107, st107⟩ := getF X106 hx hZ hown (host := "") (Or.inl (hw _ (List.mem_of_getElem? (i := 46) rfl))) Via.refl e106 Fy1 (g := (mkF m 33 #[.val (.ref a1), .val (.ref a1), .val (.ref a1)] [(.ref a1), (.ref y1)])) rfl rfl (hb hby d10_33)
  refine Go.step st107 ?_
  show Go p.tables e below _ (T107.setTop (mkF m 36 #[.val (.ref a1), .val (.ref a1), .val (.ref a1)] [(.ref y1), (.ref y1)]))
  obtain ⟨cq108, kq108, q108a, q108b, q108c⟩ := isOf hZ e107 E4
  obtain ⟨_, _, ⟨T108, L108, k108, n108⟩, -, X108, ⟨Lc108, hQ108, l108, y108, z108⟩, st108⟩ := X107.virtualBack hx (y := (⟨"java/lang/String", "equals", "(Ljava/lang/Object;)Z"⟩ : MethodName)) (z := (⟨"java/lang/String", "equals", "(Ljava/lang/Object;)Z"⟩ : MethodName)) hown (mvT hZ (hw _ (List.mem_of_getElem? (i := 58) rfl))) (mvT hZ (hw _ (List.mem_of_getElem? (i := 59) rfl))) (notFace_of_selects (args := #[]) (mvT hZ (hw _ (List.mem_of_getElem? (i := 61) rfl)))) (mvT hZ (hw _ (List.mem_of_getElem? (i := 61) rfl))) (mvT hZ (hw _ (List.mem_of_getElem? (i := 60) rfl))) (by decide) (backOf (W := 0) (rmsx l Z a0 hw [] y1  h0 n0 Z0 E4 ) hZ (hw _ (List.mem_of_getElem? (i := 62) rfl)) (hw _ (List.mem_of_getElem? (i := 10) rfl)) (by decide) (by decide)) q108a q108c (g := (mkF m 36 #[.val (.ref a1), .val (.ref a1), .val (.ref a1)] [(.ref y1), (.ref y1)])) rfl (by rw [hml]; rfl) (Steps.refl _) (argsL := [(.ref y1)]) (rest := []) (lenOf pd_6 rfl) rfl (by show 2 * 0 + _ ≤ _; exact Nat.le_of_eq rfl) (hb hby d10_36) (fun _ _ => ⟨rfl, e107, (by decide : 0 + 0 ≤ _), (by decide : 0 + 0 ≤ _)⟩)
  dsimp only [Pt.U, Pt.locs, Pt.cells, Pt.slots] at X108 l108 y108 z108 st108 hQ108
  subst l108 y108 z108
  obtain ⟨rfl, N108q, eh108⟩ := hQ108
  have N108 := Fr.app N105 N108q
  refine Go.step (fun _ kt => st108.trans kt) ?_
  show Go p.tables e below _ (T108.setTop (mkF m 39 #[.val (.ref a1), .val (.ref a1), .val (.ref a1)] [(.int (1 : Int32))]))
  refine Go.step (fun _ kt => XS.ifNo X108.here hx rfl (hb hby d10_39) rfl ((if0 _ _).trans (feq (by decide : ¬ ((1 : Int32) = (0 : Int32)))).1) (XS.iconst X108.here hx rfl (hb hby d10_42) (XS.goto X108.here hx rfl (pc0 := 43) (pc' := 47) rfl (hb hby d10_43) (by decide) (by decide) kt))) ?_
  show Go p.tables e below _ (T108.setTop (mkF m 47 #[.val (.ref a1), .val (.ref a1), .val (.ref a1)] [(.int (1 : Int32))]))
  obtain ⟨fs, hr, hrun, hended, hW, hsame⟩ := X108.leave (v := some (.int (1 : Int32))) (fun h => by rw [Bd.returns] at h; cases h)
  refine ⟨_, _, retN X108 hx (t := .boolean) Bd.returns (by simp) (hb hby d10_47) hr, hrun, hended, _, _, rfl, ?_, ⟨_, rfl⟩, hW, hsame.mono (by decide) (by decide)⟩
  show Qrmpx Z a1 x1 y1 h0 n0 _ T108.heap _
  rw [eh108]
  refine ⟨?_, N108, rfl⟩
  rfl
theorem d10_7 : decode prog_20_method_4_code 7 = .ok (.iconst 0, 1) := by decide +kernel
theorem d10_8 : decode prog_20_method_4_code 8 = .ok (.ireturn, 1) := by decide +kernel
theorem ef_rmpn (m : MethodId) (a1 : Addr) : entryFrame m #[(.ref a1), .null] 3 = mkF m 0 #[.val (.ref a1), .val .null, .unset] [] := by first | (simp [entryFrame, mkF, argsToLocals, Value.category]; done) | rfl
def Qrmpn (Z : State) (a1 : Addr) (h0 : Heap) (n0 : Nat) (v : Option Value) (h : Heap) (L : List Loc) : Prop := v = some (.int (0 : Int32)) ∧ Fr n0 L ∧ h = h0
set_option maxRecDepth 65536 in
set_option maxHeartbeats 40000000 in
theorem rmpn (l : Launch) (Z : State) (a0 : Array Value) (hw : ∀ d ∈ tables_1, d.before a0 Z = true) (ws : List Jvm.Cond) (a1 : Addr) (h0 : Heap) (n0 : Nat) (Z0 : n0 ≤ h0.size) :
    MetFree l (⟨"com/example/inchworm/inchworm/crawler/PageImage", "equals", "(Ljava/lang/Object;)Z"⟩ : MethodName) (head1 (Jvm.Cond.code (⟨"com/example/inchworm/inchworm/crawler/PageImage", "equals", "(Ljava/lang/Object;)Z"⟩ : MethodName) prog_20_method_4_code 3 (some .boolean) :: ws) ({ frames := 0, cells := 0, slots := 0, locals := 0 } : Room)) (fun a U => a = #[(.ref a1), .null] ∧ Z.Warmed39 U.vm ∧ U.heap = h0) (fun _ _ _ _ _ => True) (fun _ U o U' => ∃ v L, o = .returned v ∧ Qrmpn Z a1 h0 n0 v U'.heap L ∧ FrameEnd U o U' L ({ frames := 0, cells := 0, slots := 0, locals := 0 } : Room).cells ({ frames := 0, cells := 0, slots := 0, locals := 0 } : Room).slots) := by
  refine MetFree.of_bodySF (plainFor_of_name pn_3) hisR ?_
  intro p e s m args below meth c s₁ Bd hml0 hP hK
  obtain ⟨rfl, hZ, hh⟩ := hP
  have hx := Bd.exec
  have hby := Bd.bytes
  have hml : c.maxLocals = 3 := hml0
  have hown : s.vm.findClass "com/example/inchworm/inchworm/crawler/PageImage" = some m.cls := findClass_of_methodNamed Bd.named
  have hnm := (name_of_methodNamed Bd.named Bd.method).1
  have X0 : Stand p l e ({ frames := 0, cells := 0, slots := 0, locals := 0 } : Room) s m #[(.ref a1), .null] below meth c s₁ [] 0 0 := Stand.of_body Bd
  have e0 : s₁.heap = h0 := by rw [← hh, Bd.state]; rfl
  have N0 := Fr.nil n0
  show Go p.tables e below (fun o U' => ∃ v L, o = .returned v ∧ Qrmpn Z a1 h0 n0 v U'.heap L ∧ FrameEnd s o U' L ({ frames := 0, cells := 0, slots := 0, locals := 0 } : Room).cells ({ frames := 0, cells := 0, slots := 0, locals := 0 } : Room).slots) _
  refine Go.step (fun t kt => castTop (ef_rmpn m a1) kt) ?_
  show Go p.tables e below _ (s₁.setTop (mkF m 0 #[.val (.ref a1), .val .null, .unset] []))
  refine Go.step (fun _ kt => XS.aloadN X0.here hx rfl (hb hby d10_0) rfl rfl kt) ?_
  show Go p.tables e below _ (s₁.setTop (mkF m 1 #[.val (.ref a1), .val .null, .unset] [.null]))
  refine Go.step (X0.instanceofNull hx (g := (mkF m 1 #[.val (.ref a1), .val .null, .unset] [.null])) rfl rfl (hb hby d10_1)) ?_
  show Go p.tables e below _ (s₁.setTop (mkF m 4 #[.val (.ref a1), .val .null, .unset] [(.int (0 : Int32))]))
  refine Go.step (fun _ kt => XS.ifNo X0.here hx rfl (hb hby d10_4) rfl ((if0 _ _).trans (teq (by decide : (0 : Int32) = (0 : Int32))).2) (XS.iconst X0.here hx rfl (hb hby d10_7) kt)) ?_
  show Go p.tables e below _ (s₁.setTop (mkF m 8 #[.val (.ref a1), .val .null, .unset] [(.int (0 : Int32))]))
  obtain ⟨fs, hr, hrun, hended, hW, hsame⟩ := X0.leave (v := some (.int (0 : Int32))) (fun h => by rw [Bd.returns] at h; cases h)
  refine ⟨_, _, retN X0 hx (t := .boolean) Bd.returns (by simp) (hb hby d10_8) hr, hrun, hended, _, _, rfl, ?_, ⟨_, rfl⟩, hW, hsame.mono (by decide) (by decide)⟩
  show Qrmpn Z a1 h0 n0 _ s₁.heap _
  rw [e0]
  refine ⟨?_, N0, rfl⟩
  rfl
theorem ef_rmps (m : MethodId) (a1 : Addr) (a2 : Addr) : entryFrame m #[(.ref a1), (.ref a2)] 3 = mkF m 0 #[.val (.ref a1), .val (.ref a2), .unset] [] := by first | (simp [entryFrame, mkF, argsToLocals, Value.category]; done) | rfl
def Qrmps (Z : State) (a1 : Addr) (a2 : Addr) (h0 : Heap) (n0 : Nat) (v : Option Value) (h : Heap) (L : List Loc) : Prop := v = some (.int (0 : Int32)) ∧ Fr n0 L ∧ h = h0
set_option maxRecDepth 65536 in
set_option maxHeartbeats 40000000 in
theorem rmps (l : Launch) (Z : State) (a0 : Array Value) (hw : ∀ d ∈ tables_1, d.before a0 Z = true) (ws : List Jvm.Cond) (a1 : Addr) (a2 : Addr) (h0 : Heap) (n0 : Nat) (Z0 : n0 ≤ h0.size) (E2 : Exa Z h0 a2 "java/lang/String") :
    MetFree l (⟨"com/example/inchworm/inchworm/crawler/PageImage", "equals", "(Ljava/lang/Object;)Z"⟩ : MethodName) (head1 (Jvm.Cond.code (⟨"com/example/inchworm/inchworm/crawler/PageImage", "equals", "(Ljava/lang/Object;)Z"⟩ : MethodName) prog_20_method_4_code 3 (some .boolean) :: ws) ({ frames := 0, cells := 0, slots := 0, locals := 0 } : Room)) (fun a U => a = #[(.ref a1), (.ref a2)] ∧ Z.Warmed39 U.vm ∧ U.heap = h0) (fun _ _ _ _ _ => True) (fun _ U o U' => ∃ v L, o = .returned v ∧ Qrmps Z a1 a2 h0 n0 v U'.heap L ∧ FrameEnd U o U' L ({ frames := 0, cells := 0, slots := 0, locals := 0 } : Room).cells ({ frames := 0, cells := 0, slots := 0, locals := 0 } : Room).slots) := by
  refine MetFree.of_bodySF (plainFor_of_name pn_3) hisR ?_
  intro p e s m args below meth c s₁ Bd hml0 hP hK
  obtain ⟨rfl, hZ, hh⟩ := hP
  have hx := Bd.exec
  have hby := Bd.bytes
  have hml : c.maxLocals = 3 := hml0
  have hown : s.vm.findClass "com/example/inchworm/inchworm/crawler/PageImage" = some m.cls := findClass_of_methodNamed Bd.named
  have hnm := (name_of_methodNamed Bd.named Bd.method).1
  have X0 : Stand p l e ({ frames := 0, cells := 0, slots := 0, locals := 0 } : Room) s m #[(.ref a1), (.ref a2)] below meth c s₁ [] 0 0 := Stand.of_body Bd
  have e0 : s₁.heap = h0 := by rw [← hh, Bd.state]; rfl
  have N0 := Fr.nil n0
  show Go p.tables e below (fun o U' => ∃ v L, o = .returned v ∧ Qrmps Z a1 a2 h0 n0 v U'.heap L ∧ FrameEnd s o U' L ({ frames := 0, cells := 0, slots := 0, locals := 0 } : Room).cells ({ frames := 0, cells := 0, slots := 0, locals := 0 } : Room).slots) _
  refine Go.step (fun t kt => castTop (ef_rmps m a1 a2) kt) ?_
  show Go p.tables e below _ (s₁.setTop (mkF m 0 #[.val (.ref a1), .val (.ref a2), .unset] []))
  refine Go.step (fun _ kt => XS.aloadN X0.here hx rfl (hb hby d10_0) rfl rfl kt) ?_
  show Go p.tables e below _ (s₁.setTop (mkF m 1 #[.val (.ref a1), .val (.ref a2), .unset] [(.ref a2)]))
  obtain ⟨T101, X101, e101, st101⟩ := instNo X0 hx hZ hown (hw _ (List.mem_of_getElem? (i := 56) rfl)) e0 E2 (own_noins hw) (g := (mkF m 1 #[.val (.ref a1), .val (.ref a2), .unset] [(.ref a2)])) rfl rfl (hb hby d10_1)
  refine Go.step st101 ?_
  show Go p.tables e below _ (T101.setTop (mkF m 4 #[.val (.ref a1), .val (.ref a2), .unset] [(.int (0 : Int32))]))
  refine Go.step (fun _ kt => XS.ifNo X101.here hx rfl (hb hby d10_4) rfl ((if0 _ _).trans (teq (by decide : (0 : Int32) = (0 : Int32))).2) (XS.iconst X101.here hx rfl (hb hby d10_7) kt)) ?_
  show Go p.tables e below _ (T101.setTop (mkF m 8 #[.val (.ref a1), .val (.ref a2), .unset] [(.int (0 : Int32))]))
  obtain ⟨fs, hr, hrun, hended, hW, hsame⟩ := X101.leave (v := some (.int (0 : Int32))) (fun h => by rw [Bd.returns] at h; cases h)
  refine ⟨_, _, retN X101 hx (t := .boolean) Bd.returns (by simp) (hb hby d10_8) hr, hrun, hended, _, _, rfl, ?_, ⟨_, rfl⟩, hW, hsame.mono (by decide) (by decide)⟩
  show Qrmps Z a1 a2 h0 n0 _ T101.heap _
  rw [e101]
  refine ⟨?_, N0, rfl⟩
  rfl
theorem pd_7 : parseMethodDescriptor "(I)Ljava/lang/String;" = some ⟨[.int], some (.object "java/lang/String")⟩ := by decide +kernel
theorem pd_8 : parseMethodDescriptor "(Ljava/lang/String;Ljava/lang/String;)V" = some ⟨[(.object "java/lang/String"), (.object "java/lang/String")], none⟩ := by decide +kernel
theorem pd_9 : parseMethodDescriptor "(II)Z" = some ⟨[.int, .int], some .boolean⟩ := by decide +kernel
theorem ef_rm0 (m : MethodId) (p1 : Int32) (p2 : Int32) (p3 : Int32) (p4 : Int32) (p5 : Int32) (cs : Int32) : entryFrame m #[(.int p1), (.int p2), (.int p3), (.int p4), (.int p5)] maxLocals = mkF m 0 #[.val (.int p1), .val (.int p2), .val (.int p3), .val (.int p4), .val (.int p5), .unset, .unset, .unset, .unset, .unset, .unset] [] := by first | (simp [entryFrame, mkF, argsToLocals, Value.category, maxLocals]; done) | rfl
def Qrm0 (Z : State) (p1 : Int32) (p2 : Int32) (p3 : Int32) (p4 : Int32) (p5 : Int32) (cs : Int32) (h0 : Heap) (n0 : Nat) (v : Option Value) (h : Heap) (L : List Loc) : Prop := v = some (.int 1) ∧ Fr n0 L
set_option maxRecDepth 65536 in
set_option maxHeartbeats 40000000 in
theorem rm0 (l : Launch) (Z : State) (a0 : Array Value) (hw : ∀ d ∈ tables_1, d.before a0 Z = true) (ws : List Jvm.Cond) (p1 : Int32) (p2 : Int32) (p3 : Int32) (p4 : Int32) (p5 : Int32) (cs : Int32) (h0 : Heap) (n0 : Nat) (Z0 : n0 ≤ h0.size) (S_cs : Sta Z h0 "java/lang/String" "COMPACT_STRINGS" "Z" (.int cs)) (hcs : ¬ cs = 0) :
    MetFree l x (head1 (Jvm.Cond.code x code maxLocals ret :: ws) room_1) (fun a U => a = #[(.int p1), (.int p2), (.int p3), (.int p4), (.int p5)] ∧ Z.Warmed39 U.vm ∧ U.heap = h0 ∧ CHv Z own_EL U.vm h0) (fun _ _ _ _ _ => True) (fun _ U o U' => ∃ v L, o = .returned v ∧ Qrm0 Z p1 p2 p3 p4 p5 cs h0 n0 v U'.heap L ∧ CHr Z own_EL U.vm U.heap U'.vm U'.heap ∧ ReturnedEndW U o U' L room_1.cells room_1.slots) := by
  refine MetFree.of_bodySF (plainFor_of_name pn_2) hisR ?_
  intro p e s m args below meth c s₁ Bd hml0 hP hK
  obtain ⟨rfl, hZ, hh, hCH⟩ := hP
  have hx := Bd.exec
  have hby := Bd.bytes
  have hml : c.maxLocals = 11 := hml0
  have hown : s.vm.findClass "com/example/inchworm/inchworm/crawler/PageImageEqualsPinLaw" = some m.cls := findClass_of_methodNamed Bd.named
  have hnm := (name_of_methodNamed Bd.named Bd.method).1
  have X0 : Stand p l e room_1 (s.setVm s.vm) m #[(.int p1), (.int p2), (.int p3), (.int p4), (.int p5)] below meth c s₁ [] 0 0 := Stand.of_body Bd
  have e0 : s₁.heap = h0 := by rw [← hh, Bd.state]; rfl
  have N0 := Fr.nil n0
  have hS0 : s.Since s.vm s.heap.size := (State.WarmedH.refl s).since _
  have hk0 : s.heap.size ≤ h0.size := Nat.le_of_eq (congrArg Array.size hh)
  have C0 := CHr.refl hCH
  show Go p.tables e below (fun o U' => ∃ v L, o = .returned v ∧ Qrm0 Z p1 p2 p3 p4 p5 cs h0 n0 v U'.heap L ∧ CHr Z own_EL s.vm s.heap U'.vm U'.heap ∧ ReturnedEndW s o U' L room_1.cells room_1.slots) _
  refine Go.step (fun t kt => castTop (ef_rm0 m p1 p2 p3 p4 p5 cs) kt) ?_
  show Go p.tables e below _ (s₁.setTop (mkF m 0 #[.val (.int p1), .val (.int p2), .val (.int p3), .val (.int p4), .val (.int p5), .unset, .unset, .unset, .unset, .unset, .unset] []))
  have J12 : ∀ (ra : Int32), Go p.tables e below (fun o U' => ∃ v L, o = .returned v ∧ Qrm0 Z p1 p2 p3 p4 p5 cs h0 n0 v U'.heap L ∧ CHr Z own_EL s.vm s.heap U'.vm U'.heap ∧ ReturnedEndW s o U' L room_1.cells room_1.slots) (s₁.setTop (mkF m 12 #[.val (.int p1), .val (.int p2), .val (.int p3), .val (.int p4), .val (.int p5), .unset, .unset, .unset, .unset, .unset, .unset] [(.int ra)])) := by
    intro ra
    show Go p.tables e below _ (s₁.setTop (mkF m 12 #[.val (.int p1), .val (.int p2), .val (.int p3), .val (.int p4), .val (.int p5), .unset, .unset, .unset, .unset, .unset, .unset] [(.int ra)]))
    refine Go.step (fun _ kt => XS.istore X0.here hx rfl (hb hby at_12) rfl (l' := #[.val (.int p1), .val (.int p2), .val (.int p3), .val (.int p4), .val (.int p5), .val (.int ra), .unset, .unset, .unset, .unset, .unset]) rfl kt) ?_
    show Go p.tables e below _ (s₁.setTop (mkF m 14 #[.val (.int p1), .val (.int p2), .val (.int p3), .val (.int p4), .val (.int p5), .val (.int ra), .unset, .unset, .unset, .unset, .unset] []))
    have J26 : ∀ (sa : Int32), Go p.tables e below (fun o U' => ∃ v L, o = .returned v ∧ Qrm0 Z p1 p2 p3 p4 p5 cs h0 n0 v U'.heap L ∧ CHr Z own_EL s.vm s.heap U'.vm U'.heap ∧ ReturnedEndW s o U' L room_1.cells room_1.slots) (s₁.setTop (mkF m 26 #[.val (.int p1), .val (.int p2), .val (.int p3), .val (.int p4), .val (.int p5), .val (.int ra), .unset, .unset, .unset, .unset, .unset] [(.int sa)])) := by
      intro sa
      show Go p.tables e below _ (s₁.setTop (mkF m 26 #[.val (.int p1), .val (.int p2), .val (.int p3), .val (.int p4), .val (.int p5), .val (.int ra), .unset, .unset, .unset, .unset, .unset] [(.int sa)]))
      refine Go.step (fun _ kt => XS.istore X0.here hx rfl (hb hby at_26) rfl (l' := #[.val (.int p1), .val (.int p2), .val (.int p3), .val (.int p4), .val (.int p5), .val (.int ra), .val (.int sa), .unset, .unset, .unset, .unset]) rfl (XS.iload X0.here hx rfl (hb hby at_28) rfl (XS.iconst X0.here hx rfl (hb hby at_30) (XS.iushr X0.here hx rfl (hb hby at_31) rfl (XS.iconst X0.here hx rfl (hb hby at_32) (XS.iand X0.here hx rfl (hb hby at_33) rfl kt)))))) ?_
      show Go p.tables e below _ (s₁.setTop (mkF m 34 #[.val (.int p1), .val (.int p2), .val (.int p3), .val (.int p4), .val (.int p5), .val (.int ra), .val (.int sa), .unset, .unset, .unset, .unset] [(.int (((p5.toUInt32 >>> ((2 : Int32) &&& 31).toUInt32).toInt32) &&& (3 : Int32)))]))
      obtain ⟨kd, e_kd⟩ : ∃ nm_, nm_ = (((p5.toUInt32 >>> ((2 : Int32) &&& 31).toUInt32).toInt32) &&& (3 : Int32)) := ⟨_, rfl⟩
      rw [← e_kd]
      show Go p.tables e below _ (s₁.setTop (mkF m 34 #[.val (.int p1), .val (.int p2), .val (.int p3), .val (.int p4), .val (.int p5), .val (.int ra), .val (.int sa), .unset, .unset, .unset, .unset] [(.int kd)]))
      refine Go.step (fun _ kt => XS.istore X0.here hx rfl (hb hby at_34) rfl (l' := #[.val (.int p1), .val (.int p2), .val (.int p3), .val (.int p4), .val (.int p5), .val (.int ra), .val (.int sa), .val (.int kd), .unset, .unset, .unset]) rfl kt) ?_
      show Go p.tables e below _ (s₁.setTop (mkF m 36 #[.val (.int p1), .val (.int p2), .val (.int p3), .val (.int p4), .val (.int p5), .val (.int ra), .val (.int sa), .val (.int kd), .unset, .unset, .unset] []))
      obtain ⟨T101, h101, X101, e101, E101, A101, D101, -, st101⟩ := newO X0 hx hZ hown (hw _ (List.mem_of_getElem? (i := 0) rfl)) (hw _ (List.mem_of_getElem? (i := 1) rfl)) (hw _ (List.mem_of_getElem? (i := 2) rfl)) e0 (g := (mkF m 36 #[.val (.int p1), .val (.int p2), .val (.int p3), .val (.int p4), .val (.int p5), .val (.int ra), .val (.int sa), .val (.int kd), .unset, .unset, .unset] [])) rfl (hb hby at_36) (by decide) (by decide)
      obtain ⟨b101, g101⟩ : ∃ z, z = h0.size := ⟨_, rfl⟩
      rw [← g101] at A101 D101 st101
      refine Go.step st101 ?_
      have g_b101 : n0 ≤ b101 := Nat.le_trans Z0 (Nat.le_of_eq g101.symm)
      have F102 : Sta Z h101 "java/lang/String" "COMPACT_STRINGS" "Z" (.int cs) := (S_cs.ext E101)
      have Z103 : n0 ≤ h101.size := (Nat.le_trans Z0 E101.1)
      have hk104 : _ ≤ h101.size := (Nat.le_trans hk0 E101.1)
      have Sf105 := (Safe.ext E101 C0.1 (Safe.new (EL := own_EL) (Z := Z) (Nat.le_of_eq g101.symm)))
      have C106 := (C0.trans (CHr.ext E101 C0.1))
      have F107 : Fld Z h101 b101 "com/example/inchworm/inchworm/crawler/PageImage" "address" "Ljava/lang/String;" .null := D101 (Or.inr (hw _ (List.mem_of_getElem? (i := 45) rfl))) (ty := (.object "java/lang/String")) (by decide)
      have F108 : Fld Z h101 b101 "com/example/inchworm/inchworm/crawler/PageImage" "altText" "Ljava/lang/String;" .null := D101 (Or.inr (hw _ (List.mem_of_getElem? (i := 47) rfl))) (ty := (.object "java/lang/String")) (by decide)
      show Go p.tables e below _ (T101.setTop (mkF m 39 #[.val (.int p1), .val (.int p2), .val (.int p3), .val (.int p4), .val (.int p5), .val (.int ra), .val (.int sa), .val (.int kd), .unset, .unset, .unset] [(.ref b101)]))
      refine Go.step (fun _ kt => XS.dup X101.here hx rfl (hb hby at_39) rfl rfl (XS.iloadN X101.here hx rfl (hb hby at_40) rfl kt)) ?_
      show Go p.tables e below _ (T101.setTop (mkF m 41 #[.val (.int p1), .val (.int p2), .val (.int p3), .val (.int p4), .val (.int p5), .val (.int ra), .val (.int sa), .val (.int kd), .unset, .unset, .unset] [(.int p1), (.ref b101), (.ref b101)]))
      obtain ⟨_, _, ⟨T109, L109, k109, n109⟩, -, X109, hSq109, hgq109, ⟨Lc109, hQ109, l109, y109, z109, Cq109⟩, st109⟩ := callSS X101 hx (y := (⟨"com/example/inchworm/inchworm/crawler/PageImageEqualsPinLaw", "str", "(I)Ljava/lang/String;"⟩ : MethodName)) hown (mvT hZ (hw _ (List.mem_of_getElem? (i := 3) rfl))) (mvT hZ (hw _ (List.mem_of_getElem? (i := 4) rfl))) (mvT hZ (hw _ (List.mem_of_getElem? (i := 5) rfl))) (mvT hZ (hw _ (List.mem_of_getElem? (i := 6) rfl))) (by decide) (backOfSH (s := s) (EL := own_EL) (W := 2) (rm1 l Z a0 hw [] p1 cs h101 n0 Z103 F102 hcs) hZ (hw _ (List.mem_of_getElem? (i := 6) rfl)) (hw _ (List.mem_of_getElem? (i := 5) rfl)) (by decide) (by decide) (own_EW hw) C106.1) (g := (mkF m 41 #[.val (.int p1), .val (.int p2), .val (.int p3), .val (.int p4), .val (.int p5), .val (.int ra), .val (.int sa), .val (.int kd), .unset, .unset, .unset] [(.int p1), (.ref b101), (.ref b101)])) rfl (by rw [hml]; rfl) (argsL := [(.int p1)]) (rest := [(.ref b101), (.ref b101)]) (lenOf pd_7 rfl) rfl (by show 2 * 0 + _ ≤ _; exact Nat.le_of_eq rfl) (hb hby at_41) (fun _ _ => ⟨rfl, e101, (by decide : 1 + 6 ≤ _), (by decide : 2 + 12 ≤ _)⟩)
      dsimp only [Pt.U, Pt.locs, Pt.cells, Pt.slots] at X109 l109 y109 z109 st109 hQ109 hSq109 hgq109
      subst l109 y109 z109
      obtain ⟨X109, hS109, hZ, hown⟩ := rebS hS0 (by rw [e101]; exact hk104) X109 hSq109 hgq109 hZ hown
      have hk109 : T109.heap.size ≤ T109.heap.size := Nat.le_refl _
      dsimp only [Pt.U] at Cq109
      obtain ⟨b109r, b109b, b109kb, rfl, N109q, Kq109, P110, P111, P112, P113, g_b109r, szq_b109r⟩ := hQ109
      have ne_b101_b109r : b101 ≠ b109r := Nat.ne_of_lt (Nat.lt_of_lt_of_le A101.lt szq_b109r)
      have F114 : Sta Z T109.heap "java/lang/String" "COMPACT_STRINGS" "Z" (.int cs) := (own_sta_keep0 F102 Kq109)
      have F115 : Exa Z T109.heap b101 "com/example/inchworm/inchworm/crawler/PageImage" := (A101.keep Kq109)
      have F116 : Fld Z T109.heap b101 "com/example/inchworm/inchworm/crawler/PageImage" "address" "Ljava/lang/String;" .null := (F107.keep Kq109 (by simp))
      have F117 : Fld Z T109.heap b101 "com/example/inchworm/inchworm/crawler/PageImage" "altText" "Ljava/lang/String;" .null := (F108.keep Kq109 (by simp))
      have Z118 : n0 ≤ T109.heap.size := (Nat.le_trans Z103 Kq109.1)
      have Sf119 := (Cq109.safe A101.lt Sf105)
      have C120 := (C106.trans Cq109)
      have N109 := Fr.app N0 N109q
      refine Go.step (fun _ kt => st109.trans kt) ?_
      show Go p.tables e below _ (T109.setTop (mkF m 44 #[.val (.int p1), .val (.int p2), .val (.int p3), .val (.int p4), .val (.int p5), .val (.int ra), .val (.int sa), .val (.int kd), .unset, .unset, .unset] [(.ref b109r), (.ref b101), (.ref b101)]))
      refine Go.step (fun _ kt => XS.iloadN X109.here hx rfl (hb hby at_44) rfl kt) ?_
      show Go p.tables e below _ (T109.setTop (mkF m 45 #[.val (.int p1), .val (.int p2), .val (.int p3), .val (.int p4), .val (.int p5), .val (.int ra), .val (.int sa), .val (.int kd), .unset, .unset, .unset] [(.int p2), (.ref b109r), (.ref b101), (.ref b101)]))
      obtain ⟨_, _, ⟨T121, L121, k121, n121⟩, -, X121, hSq121, hgq121, ⟨Lc121, hQ121, l121, y121, z121, Cq121⟩, st121⟩ := callSS X109 hx (y := (⟨"com/example/inchworm/inchworm/crawler/PageImageEqualsPinLaw", "str", "(I)Ljava/lang/String;"⟩ : MethodName)) hown (mvT hZ (hw _ (List.mem_of_getElem? (i := 3) rfl))) (mvT hZ (hw _ (List.mem_of_getElem? (i := 4) rfl))) (mvT hZ (hw _ (List.mem_of_getElem? (i := 5) rfl))) (mvT hZ (hw _ (List.mem_of_getElem? (i := 6) rfl))) (by decide) (backOfSH (s := s) (EL := own_EL) (W := 3) (rm1 l Z a0 hw [] p2 cs T109.heap n0 Z118 F114 hcs) hZ (hw _ (List.mem_of_getElem? (i := 6) rfl)) (hw _ (List.mem_of_getElem? (i := 5) rfl)) (by decide) (by decide) (own_EW hw) C120.1) (g := (mkF m 45 #[.val (.int p1), .val (.int p2), .val (.int p3), .val (.int p4), .val (.int p5), .val (.int ra), .val (.int sa), .val (.int kd), .unset, .unset, .unset] [(.int p2), (.ref b109r), (.ref b101), (.ref b101)])) rfl (by rw [hml]; rfl) (argsL := [(.int p2)]) (rest := [(.ref b109r), (.ref b101), (.ref b101)]) (lenOf pd_7 rfl) rfl (by show 2 * 0 + _ ≤ _; exact Nat.le_of_eq rfl) (hb hby at_45) (fun _ _ => ⟨rfl, rfl, (by decide : 7 + 6 ≤ _), (by decide : 14 + 12 ≤ _)⟩)
      dsimp only [Pt.U, Pt.locs, Pt.cells, Pt.slots] at X121 l121 y121 z121 st121 hQ121 hSq121 hgq121
      subst l121 y121 z121
      obtain ⟨X121, hS121, hZ, hown⟩ := rebS hS109 hk109 X121 hSq121 hgq121 hZ hown
      have hk121 : T121.heap.size ≤ T121.heap.size := Nat.le_refl _
      dsimp only [Pt.U] at Cq121
      obtain ⟨b121r, b121b, b121kb, rfl, N121q, Kq121, P122, P123, P124, P125, g_b121r, szq_b121r⟩ := hQ121
      have ne_b101_b121r : b101 ≠ b121r := Nat.ne_of_lt (Nat.lt_of_lt_of_le F115.lt szq_b121r)
      have ne_b109r_b121r : b109r ≠ b121r := Nat.ne_of_lt (Nat.lt_of_lt_of_le P110.lt szq_b121r)
      have ne_b109b_b121r : b109b ≠ b121r := Nat.ne_of_lt (Nat.lt_of_lt_of_le P113.lt szq_b121r)
      have F126 : Sta Z T121.heap "java/lang/String" "COMPACT_STRINGS" "Z" (.int cs) := (own_sta_keep0 F114 Kq121)
      have F127 : Exa Z T121.heap b101 "com/example/inchworm/inchworm/crawler/PageImage" := (F115.keep Kq121)
      have F128 : Fld Z T121.heap b101 "com/example/inchworm/inchworm/crawler/PageImage" "address" "Ljava/lang/String;" .null := (F116.keep Kq121 (by simp))
      have F129 : Fld Z T121.heap b101 "com/example/inchworm/inchworm/crawler/PageImage" "altText" "Ljava/lang/String;" .null := (F117.keep Kq121 (by simp))
      have F130 : Exa Z T121.heap b109r "java/lang/String" := (P110.keep Kq121)
      have F131 : Fld Z T121.heap b109r "java/lang/String" "coder" "B" (.int (0 : Int32)) := (P111.keep Kq121 (by simp))
      have F132 : Fld Z T121.heap b109r "java/lang/String" "value" "[B" (.ref b109b) := (P112.keep Kq121 (by simp))
      have F133 : Arv Z T121.heap b109b b109kb .byte (own_n p1) [(.int (own_by (own_x0 p1))), (.int (own_by (own_x1 p1))), (.int (own_by (own_x2 p1)))] (.int (0 : Int32)) := (P113.keep Kq121 (by simp))
      have Z134 : n0 ≤ T121.heap.size := (Nat.le_trans Z118 Kq121.1)
      have Sf135 := (Cq121.safe F115.lt Sf119)
      have C136 := (C120.trans Cq121)
      have N121 := Fr.app N109 N121q
      refine Go.step (fun _ kt => st121.trans kt) ?_
      show Go p.tables e below _ (T121.setTop (mkF m 48 #[.val (.int p1), .val (.int p2), .val (.int p3), .val (.int p4), .val (.int p5), .val (.int ra), .val (.int sa), .val (.int kd), .unset, .unset, .unset] [(.ref b121r), (.ref b109r), (.ref b101), (.ref b101)]))
      obtain ⟨_, _, ⟨T137, L137, k137, n137⟩, -, X137, ⟨Lc137, hQ137, l137, y137, z137⟩, st137⟩ := X121.specialBack hx (y := (⟨"com/example/inchworm/inchworm/crawler/PageImage", "<init>", "(Ljava/lang/String;Ljava/lang/String;)V"⟩ : MethodName)) rfl hown (mvT hZ (hw _ (List.mem_of_getElem? (i := 40) rfl))) (mvT hZ (hw _ (List.mem_of_getElem? (i := 41) rfl))) (mvT hZ (hw _ (List.mem_of_getElem? (i := 42) rfl))) (by decide) (backOf (W := 1) (rm8 l Z a0 hw [] b101 b109r b121r .null .null T121.heap n0 Z134 F127 F128 F129 g_b101) hZ (hw _ (List.mem_of_getElem? (i := 42) rfl)) (hw _ (List.mem_of_getElem? (i := 2) rfl)) (by decide) (by decide)) (g := (mkF m 48 #[.val (.int p1), .val (.int p2), .val (.int p3), .val (.int p4), .val (.int p5), .val (.int ra), .val (.int sa), .val (.int kd), .unset, .unset, .unset] [(.ref b121r), (.ref b109r), (.ref b101), (.ref b101)])) rfl (by rw [hml]; rfl) (Steps.refl _) (a := b101) (argsL := [(.ref b109r), (.ref b121r)]) (rest := [(.ref b101)]) (lenOf pd_8 rfl) rfl (by show 2 * 0 + _ ≤ _; exact Nat.le_of_eq rfl) (hb hby at_48) (fun _ _ => ⟨rfl, rfl, (by decide : 13 + 0 ≤ _), (by decide : 26 + 0 ≤ _)⟩)
      dsimp only [Pt.U, Pt.locs, Pt.cells, Pt.slots] at X137 l137 y137 z137 st137 hQ137
      subst l137 y137 z137
      obtain ⟨rfl, N137q, Kq137, P138, P139, P140⟩ := hQ137
      have F141 : Sta Z T137.heap "java/lang/String" "COMPACT_STRINGS" "Z" (.int cs) := (own_sta_keep F126 F127 Kq137)
      have F142 : Exa Z T137.heap b101 "com/example/inchworm/inchworm/crawler/PageImage" := (F127.keep Kq137)
      have F143 : Exa Z T137.heap b109r "java/lang/String" := (F130.keep Kq137)
      have F144 : Fld Z T137.heap b109r "java/lang/String" "coder" "B" (.int (0 : Int32)) := (F131.keep Kq137 (fun q => (Ne.symm ne_b101_b109r) (List.mem_singleton.mp q)))
      have F145 : Fld Z T137.heap b109r "java/lang/String" "value" "[B" (.ref b109b) := (F132.keep Kq137 (fun q => (Ne.symm ne_b101_b109r) (List.mem_singleton.mp q)))
      have F146 : Arv Z T137.heap b109b b109kb .byte (own_n p1) [(.int (own_by (own_x0 p1))), (.int (own_by (own_x1 p1))), (.int (own_by (own_x2 p1)))] (.int (0 : Int32)) := (F133.keep Kq137 (fun q => (Ne.symm (Exa.neArv F127 F133 (hw _ (List.mem_of_getElem? (i := 1) rfl)))) (List.mem_singleton.mp q)))
      have F147 : Exa Z T137.heap b121r "java/lang/String" := (P122.keep Kq137)
      have F148 : Fld Z T137.heap b121r "java/lang/String" "coder" "B" (.int (0 : Int32)) := (P123.keep Kq137 (fun q => (Ne.symm ne_b101_b121r) (List.mem_singleton.mp q)))
      have F149 : Fld Z T137.heap b121r "java/lang/String" "value" "[B" (.ref b121b) := (P124.keep Kq137 (fun q => (Ne.symm ne_b101_b121r) (List.mem_singleton.mp q)))
      have F150 : Arv Z T137.heap b121b b121kb .byte (own_n p2) [(.int (own_by (own_x0 p2))), (.int (own_by (own_x1 p2))), (.int (own_by (own_x2 p2)))] (.int (0 : Int32)) := (P125.keep Kq137 (fun q => (Ne.symm (Exa.neArv F127 P125 (hw _ (List.mem_of_getElem? (i := 1) rfl)))) (List.mem_singleton.mp q)))
      have Z151 : n0 ≤ T137.heap.size := (Nat.le_trans Z134 Kq137.1)
      have hk152 : _ ≤ T137.heap.size := (Nat.le_trans hk121 Kq137.1)
      have Sf153 := (Safe.keep Kq137 (by intro x hx; cases List.mem_singleton.mp hx; exact (Safe.exa hZ.alike F127 (by decide) (by decide))) C136.1 Sf135)
      have C154 := (C136.trans (CHr.keep Kq137 (by intro x hx; cases List.mem_singleton.mp hx; exact (Safe.exa hZ.alike F127 (by decide) (by decide))) C136.1))
      have N137 := Fr.app N121 N137q
      refine Go.step (fun _ kt => st137.trans kt) ?_
      show Go p.tables e below _ (T137.setTop (mkF m 51 #[.val (.int p1), .val (.int p2), .val (.int p3), .val (.int p4), .val (.int p5), .val (.int ra), .val (.int sa), .val (.int kd), .unset, .unset, .unset] [(.ref b101)]))
      refine Go.step (fun _ kt => XS.astore X137.here hx rfl (hb hby at_51) rfl rfl (l' := #[.val (.int p1), .val (.int p2), .val (.int p3), .val (.int p4), .val (.int p5), .val (.int ra), .val (.int sa), .val (.int kd), .val (.ref b101), .unset, .unset]) rfl kt) ?_
      show Go p.tables e below _ (T137.setTop (mkF m 53 #[.val (.int p1), .val (.int p2), .val (.int p3), .val (.int p4), .val (.int p5), .val (.int ra), .val (.int sa), .val (.int kd), .val (.ref b101), .unset, .unset] []))
      rcases (show kd = 0 ∨ kd = 1 ∨ kd = 2 ∨ kd = 3 by rw [e_kd]; exact own_and3 _) with hq | hq | hq | hq
      · rw [hq]
        show Go p.tables e below _ (T137.setTop (mkF m 53 #[.val (.int p1), .val (.int p2), .val (.int p3), .val (.int p4), .val (.int p5), .val (.int ra), .val (.int sa), .val (.int (0 : Int32)), .val (.ref b101), .unset, .unset] []))
        refine Go.step (fun _ kt => XS.iload X137.here hx rfl (hb hby at_53) rfl (XS.ifNo X137.here hx rfl (hb hby at_55) rfl ((if0 _ _).trans (teq (by decide : (0 : Int32) = (0 : Int32))).2) kt)) ?_
        show Go p.tables e below _ (T137.setTop (mkF m 58 #[.val (.int p1), .val (.int p2), .val (.int p3), .val (.int p4), .val (.int p5), .val (.int ra), .val (.int sa), .val (.int (0 : Int32)), .val (.ref b101), .unset, .unset] []))
        obtain ⟨T155, h155, X155, e155, E155, A155, D155, -, st155⟩ := newO X137 hx hZ hown (hw _ (List.mem_of_getElem? (i := 0) rfl)) (hw _ (List.mem_of_getElem? (i := 1) rfl)) (hw _ (List.mem_of_getElem? (i := 2) rfl)) rfl (g := (mkF m 58 #[.val (.int p1), .val (.int p2), .val (.int p3), .val (.int p4), .val (.int p5), .val (.int ra), .val (.int sa), .val (.int (0 : Int32)), .val (.ref b101), .unset, .unset] [])) rfl (hb hby at_58) (by decide) (by decide)
        obtain ⟨b155, g155⟩ : ∃ z, z = T137.heap.size := ⟨_, rfl⟩
        rw [← g155] at A155 D155 st155
        refine Go.step st155 ?_
        have ne_b101_b155 : b101 ≠ b155 := Nat.ne_of_lt (Nat.lt_of_lt_of_le P138.lt (Nat.le_of_eq g155.symm))
        have ne_b109r_b155 : b109r ≠ b155 := Nat.ne_of_lt (Nat.lt_of_lt_of_le F143.lt (Nat.le_of_eq g155.symm))
        have ne_b109b_b155 : b109b ≠ b155 := Nat.ne_of_lt (Nat.lt_of_lt_of_le F146.lt (Nat.le_of_eq g155.symm))
        have ne_b121r_b155 : b121r ≠ b155 := Nat.ne_of_lt (Nat.lt_of_lt_of_le F147.lt (Nat.le_of_eq g155.symm))
        have ne_b121b_b155 : b121b ≠ b155 := Nat.ne_of_lt (Nat.lt_of_lt_of_le F150.lt (Nat.le_of_eq g155.symm))
        have g_b155 : n0 ≤ b155 := Nat.le_trans Z151 (Nat.le_of_eq g155.symm)
        have F156 : Sta Z h155 "java/lang/String" "COMPACT_STRINGS" "Z" (.int cs) := (F141.ext E155)
        have F157 : Exa Z h155 b101 "com/example/inchworm/inchworm/crawler/PageImage" := (P138.ext E155)
        have F158 : Exa Z h155 b109r "java/lang/String" := (F143.ext E155)
        have F159 : Fld Z h155 b109r "java/lang/String" "coder" "B" (.int (0 : Int32)) := (F144.ext E155)
        have F160 : Fld Z h155 b109r "java/lang/String" "value" "[B" (.ref b109b) := (F145.ext E155)
        have F161 : Arv Z h155 b109b b109kb .byte (own_n p1) [(.int (own_by (own_x0 p1))), (.int (own_by (own_x1 p1))), (.int (own_by (own_x2 p1)))] (.int (0 : Int32)) := (F146.ext E155)
        have F162 : Exa Z h155 b121r "java/lang/String" := (F147.ext E155)
        have F163 : Fld Z h155 b121r "java/lang/String" "coder" "B" (.int (0 : Int32)) := (F148.ext E155)
        have F164 : Fld Z h155 b121r "java/lang/String" "value" "[B" (.ref b121b) := (F149.ext E155)
        have F165 : Arv Z h155 b121b b121kb .byte (own_n p2) [(.int (own_by (own_x0 p2))), (.int (own_by (own_x1 p2))), (.int (own_by (own_x2 p2)))] (.int (0 : Int32)) := (F150.ext E155)
        have F166 : Fld Z h155 b101 "com/example/inchworm/inchworm/crawler/PageImage" "address" "Ljava/lang/String;" (.ref b109r) := (P139.ext E155)
        have F167 : Fld Z h155 b101 "com/example/inchworm/inchworm/crawler/PageImage" "altText" "Ljava/lang/String;" (.ref b121r) := (P140.ext E155)
        have Z168 : n0 ≤ h155.size := (Nat.le_trans Z151 E155.1)
        have hk169 : _ ≤ h155.size := (Nat.le_trans hk152 E155.1)
        have Sf170 := (Safe.ext E155 C154.1 Sf153)
        have Sf171 := (Safe.ext E155 C154.1 (Safe.new (EL := own_EL) (Z := Z) (Nat.le_of_eq g155.symm)))
        have C172 := (C154.trans (CHr.ext E155 C154.1))
        have F173 : Fld Z h155 b155 "com/example/inchworm/inchworm/crawler/PageImage" "address" "Ljava/lang/String;" .null := D155 (Or.inr (hw _ (List.mem_of_getElem? (i := 45) rfl))) (ty := (.object "java/lang/String")) (by decide)
        have F174 : Fld Z h155 b155 "com/example/inchworm/inchworm/crawler/PageImage" "altText" "Ljava/lang/String;" .null := D155 (Or.inr (hw _ (List.mem_of_getElem? (i := 47) rfl))) (ty := (.object "java/lang/String")) (by decide)
        show Go p.tables e below _ (T155.setTop (mkF m 61 #[.val (.int p1), .val (.int p2), .val (.int p3), .val (.int p4), .val (.int p5), .val (.int ra), .val (.int sa), .val (.int (0 : Int32)), .val (.ref b101), .unset, .unset] [(.ref b155)]))
        refine Go.step (fun _ kt => XS.dup X155.here hx rfl (hb hby at_61) rfl rfl (XS.iload X155.here hx rfl (hb hby at_62) rfl kt)) ?_
        show Go p.tables e below _ (T155.setTop (mkF m 64 #[.val (.int p1), .val (.int p2), .val (.int p3), .val (.int p4), .val (.int p5), .val (.int ra), .val (.int sa), .val (.int (0 : Int32)), .val (.ref b101), .unset, .unset] [(.int ra), (.ref b155), (.ref b155)]))
        obtain ⟨_, _, ⟨T175, L175, k175, n175⟩, -, X175, hSq175, hgq175, ⟨Lc175, hQ175, l175, y175, z175, Cq175⟩, st175⟩ := callSS X155 hx (y := (⟨"com/example/inchworm/inchworm/crawler/PageImageEqualsPinLaw", "str", "(I)Ljava/lang/String;"⟩ : MethodName)) hown (mvT hZ (hw _ (List.mem_of_getElem? (i := 3) rfl))) (mvT hZ (hw _ (List.mem_of_getElem? (i := 4) rfl))) (mvT hZ (hw _ (List.mem_of_getElem? (i := 5) rfl))) (mvT hZ (hw _ (List.mem_of_getElem? (i := 6) rfl))) (by decide) (backOfSH (s := s) (EL := own_EL) (W := 2) (rm1 l Z a0 hw [] ra cs h155 n0 Z168 F156 hcs) hZ (hw _ (List.mem_of_getElem? (i := 6) rfl)) (hw _ (List.mem_of_getElem? (i := 5) rfl)) (by decide) (by decide) (own_EW hw) C172.1) (g := (mkF m 64 #[.val (.int p1), .val (.int p2), .val (.int p3), .val (.int p4), .val (.int p5), .val (.int ra), .val (.int sa), .val (.int (0 : Int32)), .val (.ref b101), .unset, .unset] [(.int ra), (.ref b155), (.ref b155)])) rfl (by rw [hml]; rfl) (argsL := [(.int ra)]) (rest := [(.ref b155), (.ref b155)]) (lenOf pd_7 rfl) rfl (by show 2 * 0 + _ ≤ _; exact Nat.le_of_eq rfl) (hb hby at_64) (fun _ _ => ⟨rfl, e155, (by decide : 14 + 6 ≤ _), (by decide : 28 + 12 ≤ _)⟩)
        dsimp only [Pt.U, Pt.locs, Pt.cells, Pt.slots] at X175 l175 y175 z175 st175 hQ175 hSq175 hgq175
        subst l175 y175 z175
        obtain ⟨X175, hS175, hZ, hown⟩ := rebS hS121 (by rw [e155]; exact hk169) X175 hSq175 hgq175 hZ hown
        have hk175 : T175.heap.size ≤ T175.heap.size := Nat.le_refl _
        dsimp only [Pt.U] at Cq175
        obtain ⟨b175r, b175b, b175kb, rfl, N175q, Kq175, P176, P177, P178, P179, g_b175r, szq_b175r⟩ := hQ175
        have ne_b101_b175r : b101 ≠ b175r := Nat.ne_of_lt (Nat.lt_of_lt_of_le F157.lt szq_b175r)
        have ne_b109r_b175r : b109r ≠ b175r := Nat.ne_of_lt (Nat.lt_of_lt_of_le F158.lt szq_b175r)
        have ne_b109b_b175r : b109b ≠ b175r := Nat.ne_of_lt (Nat.lt_of_lt_of_le F161.lt szq_b175r)
        have ne_b121r_b175r : b121r ≠ b175r := Nat.ne_of_lt (Nat.lt_of_lt_of_le F162.lt szq_b175r)
        have ne_b121b_b175r : b121b ≠ b175r := Nat.ne_of_lt (Nat.lt_of_lt_of_le F165.lt szq_b175r)
        have ne_b155_b175r : b155 ≠ b175r := Nat.ne_of_lt (Nat.lt_of_lt_of_le A155.lt szq_b175r)
        have F180 : Sta Z T175.heap "java/lang/String" "COMPACT_STRINGS" "Z" (.int cs) := (own_sta_keep0 F156 Kq175)
        have F181 : Exa Z T175.heap b101 "com/example/inchworm/inchworm/crawler/PageImage" := (F157.keep Kq175)
        have F182 : Exa Z T175.heap b109r "java/lang/String" := (F158.keep Kq175)
        have F183 : Fld Z T175.heap b109r "java/lang/String" "coder" "B" (.int (0 : Int32)) := (F159.keep Kq175 (by simp))
        have F184 : Fld Z T175.heap b109r "java/lang/String" "value" "[B" (.ref b109b) := (F160.keep Kq175 (by simp))
        have F185 : Arv Z T175.heap b109b b109kb .byte (own_n p1) [(.int (own_by (own_x0 p1))), (.int (own_by (own_x1 p1))), (.int (own_by (own_x2 p1)))] (.int (0 : Int32)) := (F161.keep Kq175 (by simp))
        have F186 : Exa Z T175.heap b121r "java/lang/String" := (F162.keep Kq175)
        have F187 : Fld Z T175.heap b121r "java/lang/String" "coder" "B" (.int (0 : Int32)) := (F163.keep Kq175 (by simp))
        have F188 : Fld Z T175.heap b121r "java/lang/String" "value" "[B" (.ref b121b) := (F164.keep Kq175 (by simp))
        have F189 : Arv Z T175.heap b121b b121kb .byte (own_n p2) [(.int (own_by (own_x0 p2))), (.int (own_by (own_x1 p2))), (.int (own_by (own_x2 p2)))] (.int (0 : Int32)) := (F165.keep Kq175 (by simp))
        have F190 : Fld Z T175.heap b101 "com/example/inchworm/inchworm/crawler/PageImage" "address" "Ljava/lang/String;" (.ref b109r) := (F166.keep Kq175 (by simp))
        have F191 : Fld Z T175.heap b101 "com/example/inchworm/inchworm/crawler/PageImage" "altText" "Ljava/lang/String;" (.ref b121r) := (F167.keep Kq175 (by simp))
        have F192 : Exa Z T175.heap b155 "com/example/inchworm/inchworm/crawler/PageImage" := (A155.keep Kq175)
        have F193 : Fld Z T175.heap b155 "com/example/inchworm/inchworm/crawler/PageImage" "address" "Ljava/lang/String;" .null := (F173.keep Kq175 (by simp))
        have F194 : Fld Z T175.heap b155 "com/example/inchworm/inchworm/crawler/PageImage" "altText" "Ljava/lang/String;" .null := (F174.keep Kq175 (by simp))
        have Z195 : n0 ≤ T175.heap.size := (Nat.le_trans Z168 Kq175.1)
        have Sf196 := (Cq175.safe F157.lt Sf170)
        have Sf197 := (Cq175.safe A155.lt Sf171)
        have C198 := (C172.trans Cq175)
        have N175 := Fr.app N137 N175q
        refine Go.step (fun _ kt => st175.trans kt) ?_
        show Go p.tables e below _ (T175.setTop (mkF m 67 #[.val (.int p1), .val (.int p2), .val (.int p3), .val (.int p4), .val (.int p5), .val (.int ra), .val (.int sa), .val (.int (0 : Int32)), .val (.ref b101), .unset, .unset] [(.ref b175r), (.ref b155), (.ref b155)]))
        refine Go.step (fun _ kt => XS.iload X175.here hx rfl (hb hby at_67) rfl kt) ?_
        show Go p.tables e below _ (T175.setTop (mkF m 69 #[.val (.int p1), .val (.int p2), .val (.int p3), .val (.int p4), .val (.int p5), .val (.int ra), .val (.int sa), .val (.int (0 : Int32)), .val (.ref b101), .unset, .unset] [(.int sa), (.ref b175r), (.ref b155), (.ref b155)]))
        obtain ⟨_, _, ⟨T199, L199, k199, n199⟩, -, X199, hSq199, hgq199, ⟨Lc199, hQ199, l199, y199, z199, Cq199⟩, st199⟩ := callSS X175 hx (y := (⟨"com/example/inchworm/inchworm/crawler/PageImageEqualsPinLaw", "str", "(I)Ljava/lang/String;"⟩ : MethodName)) hown (mvT hZ (hw _ (List.mem_of_getElem? (i := 3) rfl))) (mvT hZ (hw _ (List.mem_of_getElem? (i := 4) rfl))) (mvT hZ (hw _ (List.mem_of_getElem? (i := 5) rfl))) (mvT hZ (hw _ (List.mem_of_getElem? (i := 6) rfl))) (by decide) (backOfSH (s := s) (EL := own_EL) (W := 3) (rm1 l Z a0 hw [] sa cs T175.heap n0 Z195 F180 hcs) hZ (hw _ (List.mem_of_getElem? (i := 6) rfl)) (hw _ (List.mem_of_getElem? (i := 5) rfl)) (by decide) (by decide) (own_EW hw) C198.1) (g := (mkF m 69 #[.val (.int p1), .val (.int p2), .val (.int p3), .val (.int p4), .val (.int p5), .val (.int ra), .val (.int sa), .val (.int (0 : Int32)), .val (.ref b101), .unset, .unset] [(.int sa), (.ref b175r), (.ref b155), (.ref b155)])) rfl (by rw [hml]; rfl) (argsL := [(.int sa)]) (rest := [(.ref b175r), (.ref b155), (.ref b155)]) (lenOf pd_7 rfl) rfl (by show 2 * 0 + _ ≤ _; exact Nat.le_of_eq rfl) (hb hby at_69) (fun _ _ => ⟨rfl, rfl, (by decide : 20 + 6 ≤ _), (by decide : 40 + 12 ≤ _)⟩)
        dsimp only [Pt.U, Pt.locs, Pt.cells, Pt.slots] at X199 l199 y199 z199 st199 hQ199 hSq199 hgq199
        subst l199 y199 z199
        obtain ⟨X199, hS199, hZ, hown⟩ := rebS hS175 hk175 X199 hSq199 hgq199 hZ hown
        have hk199 : T199.heap.size ≤ T199.heap.size := Nat.le_refl _
        dsimp only [Pt.U] at Cq199
        obtain ⟨b199r, b199b, b199kb, rfl, N199q, Kq199, P200, P201, P202, P203, g_b199r, szq_b199r⟩ := hQ199
        have ne_b101_b199r : b101 ≠ b199r := Nat.ne_of_lt (Nat.lt_of_lt_of_le F181.lt szq_b199r)
        have ne_b109r_b199r : b109r ≠ b199r := Nat.ne_of_lt (Nat.lt_of_lt_of_le F182.lt szq_b199r)
        have ne_b109b_b199r : b109b ≠ b199r := Nat.ne_of_lt (Nat.lt_of_lt_of_le F185.lt szq_b199r)
        have ne_b121r_b199r : b121r ≠ b199r := Nat.ne_of_lt (Nat.lt_of_lt_of_le F186.lt szq_b199r)
        have ne_b121b_b199r : b121b ≠ b199r := Nat.ne_of_lt (Nat.lt_of_lt_of_le F189.lt szq_b199r)
        have ne_b155_b199r : b155 ≠ b199r := Nat.ne_of_lt (Nat.lt_of_lt_of_le F192.lt szq_b199r)
        have ne_b175r_b199r : b175r ≠ b199r := Nat.ne_of_lt (Nat.lt_of_lt_of_le P176.lt szq_b199r)
        have ne_b175b_b199r : b175b ≠ b199r := Nat.ne_of_lt (Nat.lt_of_lt_of_le P179.lt szq_b199r)
        have F204 : Sta Z T199.heap "java/lang/String" "COMPACT_STRINGS" "Z" (.int cs) := (own_sta_keep0 F180 Kq199)
        have F205 : Exa Z T199.heap b101 "com/example/inchworm/inchworm/crawler/PageImage" := (F181.keep Kq199)
        have F206 : Exa Z T199.heap b109r "java/lang/String" := (F182.keep Kq199)
        have F207 : Fld Z T199.heap b109r "java/lang/String" "coder" "B" (.int (0 : Int32)) := (F183.keep Kq199 (by simp))
        have F208 : Fld Z T199.heap b109r "java/lang/String" "value" "[B" (.ref b109b) := (F184.keep Kq199 (by simp))
        have F209 : Arv Z T199.heap b109b b109kb .byte (own_n p1) [(.int (own_by (own_x0 p1))), (.int (own_by (own_x1 p1))), (.int (own_by (own_x2 p1)))] (.int (0 : Int32)) := (F185.keep Kq199 (by simp))
        have F210 : Exa Z T199.heap b121r "java/lang/String" := (F186.keep Kq199)
        have F211 : Fld Z T199.heap b121r "java/lang/String" "coder" "B" (.int (0 : Int32)) := (F187.keep Kq199 (by simp))
        have F212 : Fld Z T199.heap b121r "java/lang/String" "value" "[B" (.ref b121b) := (F188.keep Kq199 (by simp))
        have F213 : Arv Z T199.heap b121b b121kb .byte (own_n p2) [(.int (own_by (own_x0 p2))), (.int (own_by (own_x1 p2))), (.int (own_by (own_x2 p2)))] (.int (0 : Int32)) := (F189.keep Kq199 (by simp))
        have F214 : Fld Z T199.heap b101 "com/example/inchworm/inchworm/crawler/PageImage" "address" "Ljava/lang/String;" (.ref b109r) := (F190.keep Kq199 (by simp))
        have F215 : Fld Z T199.heap b101 "com/example/inchworm/inchworm/crawler/PageImage" "altText" "Ljava/lang/String;" (.ref b121r) := (F191.keep Kq199 (by simp))
        have F216 : Exa Z T199.heap b155 "com/example/inchworm/inchworm/crawler/PageImage" := (F192.keep Kq199)
        have F217 : Fld Z T199.heap b155 "com/example/inchworm/inchworm/crawler/PageImage" "address" "Ljava/lang/String;" .null := (F193.keep Kq199 (by simp))
        have F218 : Fld Z T199.heap b155 "com/example/inchworm/inchworm/crawler/PageImage" "altText" "Ljava/lang/String;" .null := (F194.keep Kq199 (by simp))
        have F219 : Exa Z T199.heap b175r "java/lang/String" := (P176.keep Kq199)
        have F220 : Fld Z T199.heap b175r "java/lang/String" "coder" "B" (.int (0 : Int32)) := (P177.keep Kq199 (by simp))
        have F221 : Fld Z T199.heap b175r "java/lang/String" "value" "[B" (.ref b175b) := (P178.keep Kq199 (by simp))
        have F222 : Arv Z T199.heap b175b b175kb .byte (own_n ra) [(.int (own_by (own_x0 ra))), (.int (own_by (own_x1 ra))), (.int (own_by (own_x2 ra)))] (.int (0 : Int32)) := (P179.keep Kq199 (by simp))
        have Z223 : n0 ≤ T199.heap.size := (Nat.le_trans Z195 Kq199.1)
        have Sf224 := (Cq199.safe F181.lt Sf196)
        have Sf225 := (Cq199.safe F192.lt Sf197)
        have C226 := (C198.trans Cq199)
        have N199 := Fr.app N175 N199q
        refine Go.step (fun _ kt => st199.trans kt) ?_
        show Go p.tables e below _ (T199.setTop (mkF m 72 #[.val (.int p1), .val (.int p2), .val (.int p3), .val (.int p4), .val (.int p5), .val (.int ra), .val (.int sa), .val (.int (0 : Int32)), .val (.ref b101), .unset, .unset] [(.ref b199r), (.ref b175r), (.ref b155), (.ref b155)]))
        obtain ⟨_, _, ⟨T227, L227, k227, n227⟩, -, X227, ⟨Lc227, hQ227, l227, y227, z227⟩, st227⟩ := X199.specialBack hx (y := (⟨"com/example/inchworm/inchworm/crawler/PageImage", "<init>", "(Ljava/lang/String;Ljava/lang/String;)V"⟩ : MethodName)) rfl hown (mvT hZ (hw _ (List.mem_of_getElem? (i := 40) rfl))) (mvT hZ (hw _ (List.mem_of_getElem? (i := 41) rfl))) (mvT hZ (hw _ (List.mem_of_getElem? (i := 42) rfl))) (by decide) (backOf (W := 1) (rm8 l Z a0 hw [] b155 b175r b199r .null .null T199.heap n0 Z223 F216 F217 F218 g_b155) hZ (hw _ (List.mem_of_getElem? (i := 42) rfl)) (hw _ (List.mem_of_getElem? (i := 2) rfl)) (by decide) (by decide)) (g := (mkF m 72 #[.val (.int p1), .val (.int p2), .val (.int p3), .val (.int p4), .val (.int p5), .val (.int ra), .val (.int sa), .val (.int (0 : Int32)), .val (.ref b101), .unset, .unset] [(.ref b199r), (.ref b175r), (.ref b155), (.ref b155)])) rfl (by rw [hml]; rfl) (Steps.refl _) (a := b155) (argsL := [(.ref b175r), (.ref b199r)]) (rest := [(.ref b155)]) (lenOf pd_8 rfl) rfl (by show 2 * 0 + _ ≤ _; exact Nat.le_of_eq rfl) (hb hby at_72) (fun _ _ => ⟨rfl, rfl, (by decide : 26 + 0 ≤ _), (by decide : 52 + 0 ≤ _)⟩)
        dsimp only [Pt.U, Pt.locs, Pt.cells, Pt.slots] at X227 l227 y227 z227 st227 hQ227
        subst l227 y227 z227
        obtain ⟨rfl, N227q, Kq227, P228, P229, P230⟩ := hQ227
        have F231 : Sta Z T227.heap "java/lang/String" "COMPACT_STRINGS" "Z" (.int cs) := (own_sta_keep F204 F216 Kq227)
        have F232 : Exa Z T227.heap b101 "com/example/inchworm/inchworm/crawler/PageImage" := (F205.keep Kq227)
        have F233 : Exa Z T227.heap b109r "java/lang/String" := (F206.keep Kq227)
        have F234 : Fld Z T227.heap b109r "java/lang/String" "coder" "B" (.int (0 : Int32)) := (F207.keep Kq227 (fun q => ne_b109r_b155 (List.mem_singleton.mp q)))
        have F235 : Fld Z T227.heap b109r "java/lang/String" "value" "[B" (.ref b109b) := (F208.keep Kq227 (fun q => ne_b109r_b155 (List.mem_singleton.mp q)))
        have F236 : Arv Z T227.heap b109b b109kb .byte (own_n p1) [(.int (own_by (own_x0 p1))), (.int (own_by (own_x1 p1))), (.int (own_by (own_x2 p1)))] (.int (0 : Int32)) := (F209.keep Kq227 (fun q => ne_b109b_b155 (List.mem_singleton.mp q)))
        have F237 : Exa Z T227.heap b121r "java/lang/String" := (F210.keep Kq227)
        have F238 : Fld Z T227.heap b121r "java/lang/String" "coder" "B" (.int (0 : Int32)) := (F211.keep Kq227 (fun q => ne_b121r_b155 (List.mem_singleton.mp q)))
        have F239 : Fld Z T227.heap b121r "java/lang/String" "value" "[B" (.ref b121b) := (F212.keep Kq227 (fun q => ne_b121r_b155 (List.mem_singleton.mp q)))
        have F240 : Arv Z T227.heap b121b b121kb .byte (own_n p2) [(.int (own_by (own_x0 p2))), (.int (own_by (own_x1 p2))), (.int (own_by (own_x2 p2)))] (.int (0 : Int32)) := (F213.keep Kq227 (fun q => ne_b121b_b155 (List.mem_singleton.mp q)))
        have F241 : Fld Z T227.heap b101 "com/example/inchworm/inchworm/crawler/PageImage" "address" "Ljava/lang/String;" (.ref b109r) := (F214.keep Kq227 (fun q => ne_b101_b155 (List.mem_singleton.mp q)))
        have F242 : Fld Z T227.heap b101 "com/example/inchworm/inchworm/crawler/PageImage" "altText" "Ljava/lang/String;" (.ref b121r) := (F215.keep Kq227 (fun q => ne_b101_b155 (List.mem_singleton.mp q)))
        have F243 : Exa Z T227.heap b155 "com/example/inchworm/inchworm/crawler/PageImage" := (F216.keep Kq227)
        have F244 : Exa Z T227.heap b175r "java/lang/String" := (F219.keep Kq227)
        have F245 : Fld Z T227.heap b175r "java/lang/String" "coder" "B" (.int (0 : Int32)) := (F220.keep Kq227 (fun q => (Ne.symm ne_b155_b175r) (List.mem_singleton.mp q)))
        have F246 : Fld Z T227.heap b175r "java/lang/String" "value" "[B" (.ref b175b) := (F221.keep Kq227 (fun q => (Ne.symm ne_b155_b175r) (List.mem_singleton.mp q)))
        have F247 : Arv Z T227.heap b175b b175kb .byte (own_n ra) [(.int (own_by (own_x0 ra))), (.int (own_by (own_x1 ra))), (.int (own_by (own_x2 ra)))] (.int (0 : Int32)) := (F222.keep Kq227 (fun q => (Ne.symm (Exa.neArv F216 F222 (hw _ (List.mem_of_getElem? (i := 1) rfl)))) (List.mem_singleton.mp q)))
        have F248 : Exa Z T227.heap b199r "java/lang/String" := (P200.keep Kq227)
        have F249 : Fld Z T227.heap b199r "java/lang/String" "coder" "B" (.int (0 : Int32)) := (P201.keep Kq227 (fun q => (Ne.symm ne_b155_b199r) (List.mem_singleton.mp q)))
        have F250 : Fld Z T227.heap b199r "java/lang/String" "value" "[B" (.ref b199b) := (P202.keep Kq227 (fun q => (Ne.symm ne_b155_b199r) (List.mem_singleton.mp q)))
        have F251 : Arv Z T227.heap b199b b199kb .byte (own_n sa) [(.int (own_by (own_x0 sa))), (.int (own_by (own_x1 sa))), (.int (own_by (own_x2 sa)))] (.int (0 : Int32)) := (P203.keep Kq227 (fun q => (Ne.symm (Exa.neArv F216 P203 (hw _ (List.mem_of_getElem? (i := 1) rfl)))) (List.mem_singleton.mp q)))
        have Z252 : n0 ≤ T227.heap.size := (Nat.le_trans Z223 Kq227.1)
        have hk253 : _ ≤ T227.heap.size := (Nat.le_trans hk199 Kq227.1)
        have Sf254 := (Safe.keep Kq227 (by intro x hx; cases List.mem_singleton.mp hx; exact (Safe.exa hZ.alike F216 (by decide) (by decide))) C226.1 Sf224)
        have Sf255 := (Safe.keep Kq227 (by intro x hx; cases List.mem_singleton.mp hx; exact (Safe.exa hZ.alike F216 (by decide) (by decide))) C226.1 Sf225)
        have C256 := (C226.trans (CHr.keep Kq227 (by intro x hx; cases List.mem_singleton.mp hx; exact (Safe.exa hZ.alike F216 (by decide) (by decide))) C226.1))
        have N227 := Fr.app N199 N227q
        refine Go.step (fun _ kt => st227.trans kt) ?_
        show Go p.tables e below _ (T227.setTop (mkF m 75 #[.val (.int p1), .val (.int p2), .val (.int p3), .val (.int p4), .val (.int p5), .val (.int ra), .val (.int sa), .val (.int (0 : Int32)), .val (.ref b101), .unset, .unset] [(.ref b155)]))
        refine Go.step (fun _ kt => XS.astore X227.here hx rfl (hb hby at_75) rfl rfl (l' := #[.val (.int p1), .val (.int p2), .val (.int p3), .val (.int p4), .val (.int p5), .val (.int ra), .val (.int sa), .val (.int (0 : Int32)), .val (.ref b101), .val (.ref b155), .unset]) rfl (XS.iloadN X227.here hx rfl (hb hby at_77) rfl (XS.iload X227.here hx rfl (hb hby at_78) rfl kt))) ?_
        show Go p.tables e below _ (T227.setTop (mkF m 80 #[.val (.int p1), .val (.int p2), .val (.int p3), .val (.int p4), .val (.int p5), .val (.int ra), .val (.int sa), .val (.int (0 : Int32)), .val (.ref b101), .val (.ref b155), .unset] [(.int ra), (.int p1)]))
        obtain ⟨_, _, ⟨T257, L257, k257, n257⟩, -, X257, ⟨Lc257, hQ257, l257, y257, z257⟩, st257⟩ := Jvm.LawKit.callS X227 hx (y := (⟨"com/example/inchworm/inchworm/crawler/PageImageEqualsPinLaw", "same", "(II)Z"⟩ : MethodName)) hown (mvT hZ (hw _ (List.mem_of_getElem? (i := 48) rfl))) (mvT hZ (hw _ (List.mem_of_getElem? (i := 49) rfl))) (mvT hZ (hw _ (List.mem_of_getElem? (i := 5) rfl))) (mvT hZ (hw _ (List.mem_of_getElem? (i := 50) rfl))) (by decide) (backOf (W := 0) (rm9 l Z a0 hw [] p1 ra  T227.heap n0 Z252  ) hZ (hw _ (List.mem_of_getElem? (i := 50) rfl)) (hw _ (List.mem_of_getElem? (i := 5) rfl)) (by decide) (by decide)) (g := (mkF m 80 #[.val (.int p1), .val (.int p2), .val (.int p3), .val (.int p4), .val (.int p5), .val (.int ra), .val (.int sa), .val (.int (0 : Int32)), .val (.ref b101), .val (.ref b155), .unset] [(.int ra), (.int p1)])) rfl (by rw [hml]; rfl) (argsL := [(.int p1), (.int ra)]) (rest := []) (lenOf pd_9 rfl) rfl (by show 2 * 0 + _ ≤ _; exact Nat.le_of_eq rfl) (hb hby at_80) (fun _ _ => ⟨rfl, rfl, (by decide : 26 + 0 ≤ _), (by decide : 52 + 0 ≤ _)⟩)
        dsimp only [Pt.U, Pt.locs, Pt.cells, Pt.slots] at X257 l257 y257 z257 st257 hQ257
        subst l257 y257 z257
        obtain ⟨rfl, N257q, eh257⟩ := hQ257
        have N257 := Fr.app N227 N257q
        refine Go.step st257 ?_
        show Go p.tables e below _ (T257.setTop (mkF m 83 #[.val (.int p1), .val (.int p2), .val (.int p3), .val (.int p4), .val (.int p5), .val (.int ra), .val (.int sa), .val (.int (0 : Int32)), .val (.ref b101), .val (.ref b155), .unset] [(.int (own_same p1 ra))]))
        by_cases hc83_258 : (own_same p1 ra) = (0 : Int32)
        · refine Go.step (fun _ kt => XS.ifYes X257.here hx rfl (pc0 := 83) (pc' := 99) rfl (hb hby at_83) rfl ((if0 _ _).trans (teq hc83_258).1) (by decide) (by decide) (XS.iconst X257.here hx rfl (hb hby at_99) (XS.istore X257.here hx rfl (hb hby at_100) rfl (l' := #[.val (.int p1), .val (.int p2), .val (.int p3), .val (.int p4), .val (.int p5), .val (.int ra), .val (.int sa), .val (.int (0 : Int32)), .val (.ref b101), .val (.ref b155), .val (.int (0 : Int32))]) rfl (XS.goto X257.here hx rfl (pc0 := 102) (pc' := 145) rfl (hb hby at_102) (by decide) (by decide) (XS.aload X257.here hx rfl (hb hby at_145) rfl rfl (XS.aload X257.here hx rfl (hb hby at_147) rfl rfl kt)))))) ?_
          show Go p.tables e below _ (T257.setTop (mkF m 149 #[.val (.int p1), .val (.int p2), .val (.int p3), .val (.int p4), .val (.int p5), .val (.int ra), .val (.int sa), .val (.int (0 : Int32)), .val (.ref b101), .val (.ref b155), .val (.int (0 : Int32))] [(.ref b155), (.ref b101)]))
          obtain ⟨cq259, kq259, q259a, q259b, q259c⟩ := isOf hZ eh257 F232
          obtain ⟨_, _, ⟨T259, L259, k259, n259⟩, -, X259, ⟨Lc259, hQ259, l259, y259, z259⟩, st259⟩ := X257.virtualBack hx (y := (⟨"com/example/inchworm/inchworm/crawler/PageImage", "equals", "(Ljava/lang/Object;)Z"⟩ : MethodName)) (z := (⟨"com/example/inchworm/inchworm/crawler/PageImage", "equals", "(Ljava/lang/Object;)Z"⟩ : MethodName)) hown (mvT hZ (hw _ (List.mem_of_getElem? (i := 51) rfl))) (mvT hZ (hw _ (List.mem_of_getElem? (i := 52) rfl))) (notFace_of_selects (args := #[]) (mvT hZ (hw _ (List.mem_of_getElem? (i := 54) rfl)))) (mvT hZ (hw _ (List.mem_of_getElem? (i := 54) rfl))) (mvT hZ (hw _ (List.mem_of_getElem? (i := 53) rfl))) (by decide) (backOf (W := 0) (rmpe l Z a0 hw [] b101 b155 b109r b121r b175r b199r b109b b109kb b121b b121kb b175b b175kb b199b b199kb cs p1 p2 ra sa T227.heap n0 Z252 F232 F241 F242 P228 P229 P230 F233 F234 F235 F236 F237 F238 F239 F240 F244 F245 F246 F247 F248 F249 F250 F251 F231 hcs ne_b109r_b175r ne_b121r_b199r) hZ (hw _ (List.mem_of_getElem? (i := 55) rfl)) (hw _ (List.mem_of_getElem? (i := 2) rfl)) (by decide) (by decide)) q259a q259c (g := (mkF m 149 #[.val (.int p1), .val (.int p2), .val (.int p3), .val (.int p4), .val (.int p5), .val (.int ra), .val (.int sa), .val (.int (0 : Int32)), .val (.ref b101), .val (.ref b155), .val (.int (0 : Int32))] [(.ref b155), (.ref b101)])) rfl (by rw [hml]; rfl) (Steps.refl _) (argsL := [(.ref b155)]) (rest := []) (lenOf pd_6 rfl) rfl (by show 2 * 0 + _ ≤ _; exact Nat.le_of_eq rfl) (hb hby at_149) (fun _ _ => ⟨rfl, eh257, (by decide : 26 + 0 ≤ _), (by decide : 52 + 0 ≤ _)⟩)
          dsimp only [Pt.U, Pt.locs, Pt.cells, Pt.slots] at X259 l259 y259 z259 st259 hQ259
          subst l259 y259 z259
          obtain ⟨rfl, N259q, eh259⟩ := hQ259
          have N259 := Fr.app N257 N259q
          refine Go.step (fun _ kt => st259.trans kt) ?_
          show Go p.tables e below _ (T259.setTop (mkF m 152 #[.val (.int p1), .val (.int p2), .val (.int p3), .val (.int p4), .val (.int p5), .val (.int ra), .val (.int sa), .val (.int (0 : Int32)), .val (.ref b101), .val (.ref b155), .val (.int (0 : Int32))] [(.int (own_eqs p1 p2 ra sa))]))
          have q260 : (own_eqs p1 p2 ra sa) = (0 : Int32) := by simp only [own_eqs]; simp [hc83_258]
          rw [q260]
          show Go p.tables e below _ (T259.setTop (mkF m 152 #[.val (.int p1), .val (.int p2), .val (.int p3), .val (.int p4), .val (.int p5), .val (.int ra), .val (.int sa), .val (.int (0 : Int32)), .val (.ref b101), .val (.ref b155), .val (.int (0 : Int32))] [(.int (0 : Int32))]))
          refine Go.step (fun _ kt => XS.iload X259.here hx rfl (hb hby at_152) rfl (XS.icmpNo X259.here hx rfl (hb hby at_154) rfl (teq (by decide : (0 : Int32) = (0 : Int32))).2 (XS.iconst X259.here hx rfl (hb hby at_157) (XS.goto X259.here hx rfl (pc0 := 158) (pc' := 162) rfl (hb hby at_158) (by decide) (by decide) kt)))) ?_
          show Go p.tables e below _ (T259.setTop (mkF m 162 #[.val (.int p1), .val (.int p2), .val (.int p3), .val (.int p4), .val (.int p5), .val (.int ra), .val (.int sa), .val (.int (0 : Int32)), .val (.ref b101), .val (.ref b155), .val (.int (0 : Int32))] [(.int (1 : Int32))]))
          obtain ⟨fs, hr, hrun, hended, hRW⟩ := X259.leaveW hS199 (by rw [eh259]; exact hk253) (v := some (.int (1 : Int32))) (fun h => by rw [Bd.returns] at h; cases h)
          refine ⟨_, _, retN X259 hx (t := .boolean) Bd.returns (by simp) (hb hby at_162) hr, hrun, hended, _, _, rfl, ?_, (by have q := C256.trans (CHv.at X259 hZ (own_EW hw) C256.1); rw [hh]; rw [← eh259] at q; exact q), hRW.1, hRW.2.1, hRW.2.2.1, hRW.2.2.2.mono (by decide) (by decide)⟩
          show Qrm0 Z p1 p2 p3 p4 p5 cs h0 n0 _ T259.heap _
          rw [eh259]
          exact ⟨rfl, N259⟩
        · refine Go.step (fun _ kt => XS.ifNo X257.here hx rfl (hb hby at_83) rfl ((if0 _ _).trans (feq hc83_258).1) (XS.iloadN X257.here hx rfl (hb hby at_86) rfl (XS.iload X257.here hx rfl (hb hby at_87) rfl kt))) ?_
          show Go p.tables e below _ (T257.setTop (mkF m 89 #[.val (.int p1), .val (.int p2), .val (.int p3), .val (.int p4), .val (.int p5), .val (.int ra), .val (.int sa), .val (.int (0 : Int32)), .val (.ref b101), .val (.ref b155), .unset] [(.int sa), (.int p2)]))
          obtain ⟨_, _, ⟨T261, L261, k261, n261⟩, -, X261, ⟨Lc261, hQ261, l261, y261, z261⟩, st261⟩ := Jvm.LawKit.callS X257 hx (y := (⟨"com/example/inchworm/inchworm/crawler/PageImageEqualsPinLaw", "same", "(II)Z"⟩ : MethodName)) hown (mvT hZ (hw _ (List.mem_of_getElem? (i := 48) rfl))) (mvT hZ (hw _ (List.mem_of_getElem? (i := 49) rfl))) (mvT hZ (hw _ (List.mem_of_getElem? (i := 5) rfl))) (mvT hZ (hw _ (List.mem_of_getElem? (i := 50) rfl))) (by decide) (backOf (W := 0) (rm9 l Z a0 hw [] p2 sa  T227.heap n0 Z252  ) hZ (hw _ (List.mem_of_getElem? (i := 50) rfl)) (hw _ (List.mem_of_getElem? (i := 5) rfl)) (by decide) (by decide)) (g := (mkF m 89 #[.val (.int p1), .val (.int p2), .val (.int p3), .val (.int p4), .val (.int p5), .val (.int ra), .val (.int sa), .val (.int (0 : Int32)), .val (.ref b101), .val (.ref b155), .unset] [(.int sa), (.int p2)])) rfl (by rw [hml]; rfl) (argsL := [(.int p2), (.int sa)]) (rest := []) (lenOf pd_9 rfl) rfl (by show 2 * 0 + _ ≤ _; exact Nat.le_of_eq rfl) (hb hby at_89) (fun _ _ => ⟨rfl, eh257, (by decide : 26 + 0 ≤ _), (by decide : 52 + 0 ≤ _)⟩)
          dsimp only [Pt.U, Pt.locs, Pt.cells, Pt.slots] at X261 l261 y261 z261 st261 hQ261
          subst l261 y261 z261
          obtain ⟨rfl, N261q, eh261⟩ := hQ261
          have N261 := Fr.app N257 N261q
          refine Go.step st261 ?_
          show Go p.tables e below _ (T261.setTop (mkF m 92 #[.val (.int p1), .val (.int p2), .val (.int p3), .val (.int p4), .val (.int p5), .val (.int ra), .val (.int sa), .val (.int (0 : Int32)), .val (.ref b101), .val (.ref b155), .unset] [(.int (own_same p2 sa))]))
          by_cases hc92_262 : (own_same p2 sa) = (0 : Int32)
          · refine Go.step (fun _ kt => XS.ifYes X261.here hx rfl (pc0 := 92) (pc' := 99) rfl (hb hby at_92) rfl ((if0 _ _).trans (teq hc92_262).1) (by decide) (by decide) (XS.iconst X261.here hx rfl (hb hby at_99) (XS.istore X261.here hx rfl (hb hby at_100) rfl (l' := #[.val (.int p1), .val (.int p2), .val (.int p3), .val (.int p4), .val (.int p5), .val (.int ra), .val (.int sa), .val (.int (0 : Int32)), .val (.ref b101), .val (.ref b155), .val (.int (0 : Int32))]) rfl (XS.goto X261.here hx rfl (pc0 := 102) (pc' := 145) rfl (hb hby at_102) (by decide) (by decide) (XS.aload X261.here hx rfl (hb hby at_145) rfl rfl (XS.aload X261.here hx rfl (hb hby at_147) rfl rfl kt)))))) ?_
            show Go p.tables e below _ (T261.setTop (mkF m 149 #[.val (.int p1), .val (.int p2), .val (.int p3), .val (.int p4), .val (.int p5), .val (.int ra), .val (.int sa), .val (.int (0 : Int32)), .val (.ref b101), .val (.ref b155), .val (.int (0 : Int32))] [(.ref b155), (.ref b101)]))
            obtain ⟨cq263, kq263, q263a, q263b, q263c⟩ := isOf hZ eh261 F232
            obtain ⟨_, _, ⟨T263, L263, k263, n263⟩, -, X263, ⟨Lc263, hQ263, l263, y263, z263⟩, st263⟩ := X261.virtualBack hx (y := (⟨"com/example/inchworm/inchworm/crawler/PageImage", "equals", "(Ljava/lang/Object;)Z"⟩ : MethodName)) (z := (⟨"com/example/inchworm/inchworm/crawler/PageImage", "equals", "(Ljava/lang/Object;)Z"⟩ : MethodName)) hown (mvT hZ (hw _ (List.mem_of_getElem? (i := 51) rfl))) (mvT hZ (hw _ (List.mem_of_getElem? (i := 52) rfl))) (notFace_of_selects (args := #[]) (mvT hZ (hw _ (List.mem_of_getElem? (i := 54) rfl)))) (mvT hZ (hw _ (List.mem_of_getElem? (i := 54) rfl))) (mvT hZ (hw _ (List.mem_of_getElem? (i := 53) rfl))) (by decide) (backOf (W := 0) (rmpe l Z a0 hw [] b101 b155 b109r b121r b175r b199r b109b b109kb b121b b121kb b175b b175kb b199b b199kb cs p1 p2 ra sa T227.heap n0 Z252 F232 F241 F242 P228 P229 P230 F233 F234 F235 F236 F237 F238 F239 F240 F244 F245 F246 F247 F248 F249 F250 F251 F231 hcs ne_b109r_b175r ne_b121r_b199r) hZ (hw _ (List.mem_of_getElem? (i := 55) rfl)) (hw _ (List.mem_of_getElem? (i := 2) rfl)) (by decide) (by decide)) q263a q263c (g := (mkF m 149 #[.val (.int p1), .val (.int p2), .val (.int p3), .val (.int p4), .val (.int p5), .val (.int ra), .val (.int sa), .val (.int (0 : Int32)), .val (.ref b101), .val (.ref b155), .val (.int (0 : Int32))] [(.ref b155), (.ref b101)])) rfl (by rw [hml]; rfl) (Steps.refl _) (argsL := [(.ref b155)]) (rest := []) (lenOf pd_6 rfl) rfl (by show 2 * 0 + _ ≤ _; exact Nat.le_of_eq rfl) (hb hby at_149) (fun _ _ => ⟨rfl, eh261, (by decide : 26 + 0 ≤ _), (by decide : 52 + 0 ≤ _)⟩)
            dsimp only [Pt.U, Pt.locs, Pt.cells, Pt.slots] at X263 l263 y263 z263 st263 hQ263
            subst l263 y263 z263
            obtain ⟨rfl, N263q, eh263⟩ := hQ263
            have N263 := Fr.app N261 N263q
            refine Go.step (fun _ kt => st263.trans kt) ?_
            show Go p.tables e below _ (T263.setTop (mkF m 152 #[.val (.int p1), .val (.int p2), .val (.int p3), .val (.int p4), .val (.int p5), .val (.int ra), .val (.int sa), .val (.int (0 : Int32)), .val (.ref b101), .val (.ref b155), .val (.int (0 : Int32))] [(.int (own_eqs p1 p2 ra sa))]))
            have q264 : (own_eqs p1 p2 ra sa) = (0 : Int32) := by simp only [own_eqs]; simp [hc83_258, hc92_262]
            rw [q264]
            show Go p.tables e below _ (T263.setTop (mkF m 152 #[.val (.int p1), .val (.int p2), .val (.int p3), .val (.int p4), .val (.int p5), .val (.int ra), .val (.int sa), .val (.int (0 : Int32)), .val (.ref b101), .val (.ref b155), .val (.int (0 : Int32))] [(.int (0 : Int32))]))
            refine Go.step (fun _ kt => XS.iload X263.here hx rfl (hb hby at_152) rfl (XS.icmpNo X263.here hx rfl (hb hby at_154) rfl (teq (by decide : (0 : Int32) = (0 : Int32))).2 (XS.iconst X263.here hx rfl (hb hby at_157) (XS.goto X263.here hx rfl (pc0 := 158) (pc' := 162) rfl (hb hby at_158) (by decide) (by decide) kt)))) ?_
            show Go p.tables e below _ (T263.setTop (mkF m 162 #[.val (.int p1), .val (.int p2), .val (.int p3), .val (.int p4), .val (.int p5), .val (.int ra), .val (.int sa), .val (.int (0 : Int32)), .val (.ref b101), .val (.ref b155), .val (.int (0 : Int32))] [(.int (1 : Int32))]))
            obtain ⟨fs, hr, hrun, hended, hRW⟩ := X263.leaveW hS199 (by rw [eh263]; exact hk253) (v := some (.int (1 : Int32))) (fun h => by rw [Bd.returns] at h; cases h)
            refine ⟨_, _, retN X263 hx (t := .boolean) Bd.returns (by simp) (hb hby at_162) hr, hrun, hended, _, _, rfl, ?_, (by have q := C256.trans (CHv.at X263 hZ (own_EW hw) C256.1); rw [hh]; rw [← eh263] at q; exact q), hRW.1, hRW.2.1, hRW.2.2.1, hRW.2.2.2.mono (by decide) (by decide)⟩
            show Qrm0 Z p1 p2 p3 p4 p5 cs h0 n0 _ T263.heap _
            rw [eh263]
            exact ⟨rfl, N263⟩
          · refine Go.step (fun _ kt => XS.ifNo X261.here hx rfl (hb hby at_92) rfl ((if0 _ _).trans (feq hc92_262).1) (XS.iconst X261.here hx rfl (hb hby at_95) (XS.goto X261.here hx rfl (pc0 := 96) (pc' := 100) rfl (hb hby at_96) (by decide) (by decide) (XS.istore X261.here hx rfl (hb hby at_100) rfl (l' := #[.val (.int p1), .val (.int p2), .val (.int p3), .val (.int p4), .val (.int p5), .val (.int ra), .val (.int sa), .val (.int (0 : Int32)), .val (.ref b101), .val (.ref b155), .val (.int (1 : Int32))]) rfl (XS.goto X261.here hx rfl (pc0 := 102) (pc' := 145) rfl (hb hby at_102) (by decide) (by decide) (XS.aload X261.here hx rfl (hb hby at_145) rfl rfl (XS.aload X261.here hx rfl (hb hby at_147) rfl rfl kt))))))) ?_
            show Go p.tables e below _ (T261.setTop (mkF m 149 #[.val (.int p1), .val (.int p2), .val (.int p3), .val (.int p4), .val (.int p5), .val (.int ra), .val (.int sa), .val (.int (0 : Int32)), .val (.ref b101), .val (.ref b155), .val (.int (1 : Int32))] [(.ref b155), (.ref b101)]))
            obtain ⟨cq265, kq265, q265a, q265b, q265c⟩ := isOf hZ eh261 F232
            obtain ⟨_, _, ⟨T265, L265, k265, n265⟩, -, X265, ⟨Lc265, hQ265, l265, y265, z265⟩, st265⟩ := X261.virtualBack hx (y := (⟨"com/example/inchworm/inchworm/crawler/PageImage", "equals", "(Ljava/lang/Object;)Z"⟩ : MethodName)) (z := (⟨"com/example/inchworm/inchworm/crawler/PageImage", "equals", "(Ljava/lang/Object;)Z"⟩ : MethodName)) hown (mvT hZ (hw _ (List.mem_of_getElem? (i := 51) rfl))) (mvT hZ (hw _ (List.mem_of_getElem? (i := 52) rfl))) (notFace_of_selects (args := #[]) (mvT hZ (hw _ (List.mem_of_getElem? (i := 54) rfl)))) (mvT hZ (hw _ (List.mem_of_getElem? (i := 54) rfl))) (mvT hZ (hw _ (List.mem_of_getElem? (i := 53) rfl))) (by decide) (backOf (W := 0) (rmpe l Z a0 hw [] b101 b155 b109r b121r b175r b199r b109b b109kb b121b b121kb b175b b175kb b199b b199kb cs p1 p2 ra sa T227.heap n0 Z252 F232 F241 F242 P228 P229 P230 F233 F234 F235 F236 F237 F238 F239 F240 F244 F245 F246 F247 F248 F249 F250 F251 F231 hcs ne_b109r_b175r ne_b121r_b199r) hZ (hw _ (List.mem_of_getElem? (i := 55) rfl)) (hw _ (List.mem_of_getElem? (i := 2) rfl)) (by decide) (by decide)) q265a q265c (g := (mkF m 149 #[.val (.int p1), .val (.int p2), .val (.int p3), .val (.int p4), .val (.int p5), .val (.int ra), .val (.int sa), .val (.int (0 : Int32)), .val (.ref b101), .val (.ref b155), .val (.int (1 : Int32))] [(.ref b155), (.ref b101)])) rfl (by rw [hml]; rfl) (Steps.refl _) (argsL := [(.ref b155)]) (rest := []) (lenOf pd_6 rfl) rfl (by show 2 * 0 + _ ≤ _; exact Nat.le_of_eq rfl) (hb hby at_149) (fun _ _ => ⟨rfl, eh261, (by decide : 26 + 0 ≤ _), (by decide : 52 + 0 ≤ _)⟩)
            dsimp only [Pt.U, Pt.locs, Pt.cells, Pt.slots] at X265 l265 y265 z265 st265 hQ265
            subst l265 y265 z265
            obtain ⟨rfl, N265q, eh265⟩ := hQ265
            have N265 := Fr.app N261 N265q
            refine Go.step (fun _ kt => st265.trans kt) ?_
            show Go p.tables e below _ (T265.setTop (mkF m 152 #[.val (.int p1), .val (.int p2), .val (.int p3), .val (.int p4), .val (.int p5), .val (.int ra), .val (.int sa), .val (.int (0 : Int32)), .val (.ref b101), .val (.ref b155), .val (.int (1 : Int32))] [(.int (own_eqs p1 p2 ra sa))]))
            have q266 : (own_eqs p1 p2 ra sa) = (1 : Int32) := by simp only [own_eqs]; simp [hc83_258, hc92_262]
            rw [q266]
            show Go p.tables e below _ (T265.setTop (mkF m 152 #[.val (.int p1), .val (.int p2), .val (.int p3), .val (.int p4), .val (.int p5), .val (.int ra), .val (.int sa), .val (.int (0 : Int32)), .val (.ref b101), .val (.ref b155), .val (.int (1 : Int32))] [(.int (1 : Int32))]))
            refine Go.step (fun _ kt => XS.iload X265.here hx rfl (hb hby at_152) rfl (XS.icmpNo X265.here hx rfl (hb hby at_154) rfl (teq (by decide : (1 : Int32) = (1 : Int32))).2 (XS.iconst X265.here hx rfl (hb hby at_157) (XS.goto X265.here hx rfl (pc0 := 158) (pc' := 162) rfl (hb hby at_158) (by decide) (by decide) kt)))) ?_
            show Go p.tables e below _ (T265.setTop (mkF m 162 #[.val (.int p1), .val (.int p2), .val (.int p3), .val (.int p4), .val (.int p5), .val (.int ra), .val (.int sa), .val (.int (0 : Int32)), .val (.ref b101), .val (.ref b155), .val (.int (1 : Int32))] [(.int (1 : Int32))]))
            obtain ⟨fs, hr, hrun, hended, hRW⟩ := X265.leaveW hS199 (by rw [eh265]; exact hk253) (v := some (.int (1 : Int32))) (fun h => by rw [Bd.returns] at h; cases h)
            refine ⟨_, _, retN X265 hx (t := .boolean) Bd.returns (by simp) (hb hby at_162) hr, hrun, hended, _, _, rfl, ?_, (by have q := C256.trans (CHv.at X265 hZ (own_EW hw) C256.1); rw [hh]; rw [← eh265] at q; exact q), hRW.1, hRW.2.1, hRW.2.2.1, hRW.2.2.2.mono (by decide) (by decide)⟩
            show Qrm0 Z p1 p2 p3 p4 p5 cs h0 n0 _ T265.heap _
            rw [eh265]
            exact ⟨rfl, N265⟩
      · rw [hq]
        show Go p.tables e below _ (T137.setTop (mkF m 53 #[.val (.int p1), .val (.int p2), .val (.int p3), .val (.int p4), .val (.int p5), .val (.int ra), .val (.int sa), .val (.int (1 : Int32)), .val (.ref b101), .unset, .unset] []))
        refine Go.step (fun _ kt => XS.iload X137.here hx rfl (hb hby at_53) rfl (XS.ifYes X137.here hx rfl (pc0 := 55) (pc' := 105) rfl (hb hby at_55) rfl ((if0 _ _).trans (feq (by decide : ¬ ((1 : Int32) = (0 : Int32)))).2) (by decide) (by decide) (XS.iload X137.here hx rfl (hb hby at_105) rfl (XS.iconst X137.here hx rfl (hb hby at_107) (XS.icmpNo X137.here hx rfl (hb hby at_108) rfl (teq (by decide : (1 : Int32) = (1 : Int32))).2 (XS.aconstNull X137.here hx rfl (hb hby at_111) (XS.astore X137.here hx rfl (hb hby at_112) rfl rfl (l' := #[.val (.int p1), .val (.int p2), .val (.int p3), .val (.int p4), .val (.int p5), .val (.int ra), .val (.int sa), .val (.int (1 : Int32)), .val (.ref b101), .val .null, .unset]) rfl (XS.iconst X137.here hx rfl (hb hby at_114) (XS.istore X137.here hx rfl (hb hby at_115) rfl (l' := #[.val (.int p1), .val (.int p2), .val (.int p3), .val (.int p4), .val (.int p5), .val (.int ra), .val (.int sa), .val (.int (1 : Int32)), .val (.ref b101), .val .null, .val (.int (0 : Int32))]) rfl (XS.goto X137.here hx rfl (pc0 := 117) (pc' := 145) rfl (hb hby at_117) (by decide) (by decide) (XS.aload X137.here hx rfl (hb hby at_145) rfl rfl (XS.aload X137.here hx rfl (hb hby at_147) rfl rfl kt)))))))))))) ?_
        show Go p.tables e below _ (T137.setTop (mkF m 149 #[.val (.int p1), .val (.int p2), .val (.int p3), .val (.int p4), .val (.int p5), .val (.int ra), .val (.int sa), .val (.int (1 : Int32)), .val (.ref b101), .val .null, .val (.int (0 : Int32))] [.null, (.ref b101)]))
        obtain ⟨cq267, kq267, q267a, q267b, q267c⟩ := isOf hZ rfl P138
        obtain ⟨_, _, ⟨T267, L267, k267, n267⟩, -, X267, ⟨Lc267, hQ267, l267, y267, z267⟩, st267⟩ := X137.virtualBack hx (y := (⟨"com/example/inchworm/inchworm/crawler/PageImage", "equals", "(Ljava/lang/Object;)Z"⟩ : MethodName)) (z := (⟨"com/example/inchworm/inchworm/crawler/PageImage", "equals", "(Ljava/lang/Object;)Z"⟩ : MethodName)) hown (mvT hZ (hw _ (List.mem_of_getElem? (i := 51) rfl))) (mvT hZ (hw _ (List.mem_of_getElem? (i := 52) rfl))) (notFace_of_selects (args := #[]) (mvT hZ (hw _ (List.mem_of_getElem? (i := 54) rfl)))) (mvT hZ (hw _ (List.mem_of_getElem? (i := 54) rfl))) (mvT hZ (hw _ (List.mem_of_getElem? (i := 53) rfl))) (by decide) (backOf (W := 0) (rmpn l Z a0 hw [] b101  T137.heap n0 Z151  ) hZ (hw _ (List.mem_of_getElem? (i := 55) rfl)) (hw _ (List.mem_of_getElem? (i := 2) rfl)) (by decide) (by decide)) q267a q267c (g := (mkF m 149 #[.val (.int p1), .val (.int p2), .val (.int p3), .val (.int p4), .val (.int p5), .val (.int ra), .val (.int sa), .val (.int (1 : Int32)), .val (.ref b101), .val .null, .val (.int (0 : Int32))] [.null, (.ref b101)])) rfl (by rw [hml]; rfl) (Steps.refl _) (argsL := [.null]) (rest := []) (lenOf pd_6 rfl) rfl (by show 2 * 0 + _ ≤ _; exact Nat.le_of_eq rfl) (hb hby at_149) (fun _ _ => ⟨rfl, rfl, (by decide : 13 + 0 ≤ _), (by decide : 26 + 0 ≤ _)⟩)
        dsimp only [Pt.U, Pt.locs, Pt.cells, Pt.slots] at X267 l267 y267 z267 st267 hQ267
        subst l267 y267 z267
        obtain ⟨rfl, N267q, eh267⟩ := hQ267
        have N267 := Fr.app N137 N267q
        refine Go.step (fun _ kt => st267.trans kt) ?_
        show Go p.tables e below _ (T267.setTop (mkF m 152 #[.val (.int p1), .val (.int p2), .val (.int p3), .val (.int p4), .val (.int p5), .val (.int ra), .val (.int sa), .val (.int (1 : Int32)), .val (.ref b101), .val .null, .val (.int (0 : Int32))] [(.int (0 : Int32))]))
        refine Go.step (fun _ kt => XS.iload X267.here hx rfl (hb hby at_152) rfl (XS.icmpNo X267.here hx rfl (hb hby at_154) rfl (teq (by decide : (0 : Int32) = (0 : Int32))).2 (XS.iconst X267.here hx rfl (hb hby at_157) (XS.goto X267.here hx rfl (pc0 := 158) (pc' := 162) rfl (hb hby at_158) (by decide) (by decide) kt)))) ?_
        show Go p.tables e below _ (T267.setTop (mkF m 162 #[.val (.int p1), .val (.int p2), .val (.int p3), .val (.int p4), .val (.int p5), .val (.int ra), .val (.int sa), .val (.int (1 : Int32)), .val (.ref b101), .val .null, .val (.int (0 : Int32))] [(.int (1 : Int32))]))
        obtain ⟨fs, hr, hrun, hended, hRW⟩ := X267.leaveW hS121 (by rw [eh267]; exact hk152) (v := some (.int (1 : Int32))) (fun h => by rw [Bd.returns] at h; cases h)
        refine ⟨_, _, retN X267 hx (t := .boolean) Bd.returns (by simp) (hb hby at_162) hr, hrun, hended, _, _, rfl, ?_, (by have q := C154.trans (CHv.at X267 hZ (own_EW hw) C154.1); rw [hh]; rw [← eh267] at q; exact q), hRW.1, hRW.2.1, hRW.2.2.1, hRW.2.2.2.mono (by decide) (by decide)⟩
        show Qrm0 Z p1 p2 p3 p4 p5 cs h0 n0 _ T267.heap _
        rw [eh267]
        exact ⟨rfl, N267⟩
      · rw [hq]
        show Go p.tables e below _ (T137.setTop (mkF m 53 #[.val (.int p1), .val (.int p2), .val (.int p3), .val (.int p4), .val (.int p5), .val (.int ra), .val (.int sa), .val (.int (2 : Int32)), .val (.ref b101), .unset, .unset] []))
        refine Go.step (fun _ kt => XS.iload X137.here hx rfl (hb hby at_53) rfl (XS.ifYes X137.here hx rfl (pc0 := 55) (pc' := 105) rfl (hb hby at_55) rfl ((if0 _ _).trans (feq (by decide : ¬ ((2 : Int32) = (0 : Int32)))).2) (by decide) (by decide) (XS.iload X137.here hx rfl (hb hby at_105) rfl (XS.iconst X137.here hx rfl (hb hby at_107) (XS.icmpYes X137.here hx rfl (pc0 := 108) (pc' := 120) rfl (hb hby at_108) rfl (feq (by decide : ¬ ((2 : Int32) = (1 : Int32)))).2 (by decide) (by decide) (XS.iload X137.here hx rfl (hb hby at_120) rfl (XS.iconst X137.here hx rfl (hb hby at_122) (XS.icmpNo X137.here hx rfl (hb hby at_123) rfl (teq (by decide : (2 : Int32) = (2 : Int32))).2 (XS.iloadN X137.here hx rfl (hb hby at_126) rfl kt))))))))) ?_
        show Go p.tables e below _ (T137.setTop (mkF m 127 #[.val (.int p1), .val (.int p2), .val (.int p3), .val (.int p4), .val (.int p5), .val (.int ra), .val (.int sa), .val (.int (2 : Int32)), .val (.ref b101), .unset, .unset] [(.int p1)]))
        obtain ⟨_, _, ⟨T268, L268, k268, n268⟩, -, X268, hSq268, hgq268, ⟨Lc268, hQ268, l268, y268, z268, Cq268⟩, st268⟩ := callSS X137 hx (y := (⟨"com/example/inchworm/inchworm/crawler/PageImageEqualsPinLaw", "str", "(I)Ljava/lang/String;"⟩ : MethodName)) hown (mvT hZ (hw _ (List.mem_of_getElem? (i := 3) rfl))) (mvT hZ (hw _ (List.mem_of_getElem? (i := 4) rfl))) (mvT hZ (hw _ (List.mem_of_getElem? (i := 5) rfl))) (mvT hZ (hw _ (List.mem_of_getElem? (i := 6) rfl))) (by decide) (backOfSH (s := s) (EL := own_EL) (W := 0) (rm1 l Z a0 hw [] p1 cs T137.heap n0 Z151 F141 hcs) hZ (hw _ (List.mem_of_getElem? (i := 6) rfl)) (hw _ (List.mem_of_getElem? (i := 5) rfl)) (by decide) (by decide) (own_EW hw) C154.1) (g := (mkF m 127 #[.val (.int p1), .val (.int p2), .val (.int p3), .val (.int p4), .val (.int p5), .val (.int ra), .val (.int sa), .val (.int (2 : Int32)), .val (.ref b101), .unset, .unset] [(.int p1)])) rfl (by rw [hml]; rfl) (argsL := [(.int p1)]) (rest := []) (lenOf pd_7 rfl) rfl (by show 2 * 0 + _ ≤ _; exact Nat.le_of_eq rfl) (hb hby at_127) (fun _ _ => ⟨rfl, rfl, (by decide : 13 + 6 ≤ _), (by decide : 26 + 12 ≤ _)⟩)
        dsimp only [Pt.U, Pt.locs, Pt.cells, Pt.slots] at X268 l268 y268 z268 st268 hQ268 hSq268 hgq268
        subst l268 y268 z268
        obtain ⟨X268, hS268, hZ, hown⟩ := rebS hS121 hk152 X268 hSq268 hgq268 hZ hown
        have hk268 : T268.heap.size ≤ T268.heap.size := Nat.le_refl _
        dsimp only [Pt.U] at Cq268
        obtain ⟨b268r, b268b, b268kb, rfl, N268q, Kq268, P269, P270, P271, P272, g_b268r, szq_b268r⟩ := hQ268
        have ne_b101_b268r : b101 ≠ b268r := Nat.ne_of_lt (Nat.lt_of_lt_of_le P138.lt szq_b268r)
        have ne_b109r_b268r : b109r ≠ b268r := Nat.ne_of_lt (Nat.lt_of_lt_of_le F143.lt szq_b268r)
        have ne_b109b_b268r : b109b ≠ b268r := Nat.ne_of_lt (Nat.lt_of_lt_of_le F146.lt szq_b268r)
        have ne_b121r_b268r : b121r ≠ b268r := Nat.ne_of_lt (Nat.lt_of_lt_of_le F147.lt szq_b268r)
        have ne_b121b_b268r : b121b ≠ b268r := Nat.ne_of_lt (Nat.lt_of_lt_of_le F150.lt szq_b268r)
        have F273 : Sta Z T268.heap "java/lang/String" "COMPACT_STRINGS" "Z" (.int cs) := (own_sta_keep0 F141 Kq268)
        have F274 : Exa Z T268.heap b101 "com/example/inchworm/inchworm/crawler/PageImage" := (P138.keep Kq268)
        have F275 : Exa Z T268.heap b109r "java/lang/String" := (F143.keep Kq268)
        have F276 : Fld Z T268.heap b109r "java/lang/String" "coder" "B" (.int (0 : Int32)) := (F144.keep Kq268 (by simp))
        have F277 : Fld Z T268.heap b109r "java/lang/String" "value" "[B" (.ref b109b) := (F145.keep Kq268 (by simp))
        have F278 : Arv Z T268.heap b109b b109kb .byte (own_n p1) [(.int (own_by (own_x0 p1))), (.int (own_by (own_x1 p1))), (.int (own_by (own_x2 p1)))] (.int (0 : Int32)) := (F146.keep Kq268 (by simp))
        have F279 : Exa Z T268.heap b121r "java/lang/String" := (F147.keep Kq268)
        have F280 : Fld Z T268.heap b121r "java/lang/String" "coder" "B" (.int (0 : Int32)) := (F148.keep Kq268 (by simp))
        have F281 : Fld Z T268.heap b121r "java/lang/String" "value" "[B" (.ref b121b) := (F149.keep Kq268 (by simp))
        have F282 : Arv Z T268.heap b121b b121kb .byte (own_n p2) [(.int (own_by (own_x0 p2))), (.int (own_by (own_x1 p2))), (.int (own_by (own_x2 p2)))] (.int (0 : Int32)) := (F150.keep Kq268 (by simp))
        have F283 : Fld Z T268.heap b101 "com/example/inchworm/inchworm/crawler/PageImage" "address" "Ljava/lang/String;" (.ref b109r) := (P139.keep Kq268 (by simp))
        have F284 : Fld Z T268.heap b101 "com/example/inchworm/inchworm/crawler/PageImage" "altText" "Ljava/lang/String;" (.ref b121r) := (P140.keep Kq268 (by simp))
        have Z285 : n0 ≤ T268.heap.size := (Nat.le_trans Z151 Kq268.1)
        have Sf286 := (Cq268.safe P138.lt Sf153)
        have C287 := (C154.trans Cq268)
        have N268 := Fr.app N137 N268q
        refine Go.step (fun _ kt => st268.trans kt) ?_
        show Go p.tables e below _ (T268.setTop (mkF m 130 #[.val (.int p1), .val (.int p2), .val (.int p3), .val (.int p4), .val (.int p5), .val (.int ra), .val (.int sa), .val (.int (2 : Int32)), .val (.ref b101), .unset, .unset] [(.ref b268r)]))
        refine Go.step (fun _ kt => XS.astore X268.here hx rfl (hb hby at_130) rfl rfl (l' := #[.val (.int p1), .val (.int p2), .val (.int p3), .val (.int p4), .val (.int p5), .val (.int ra), .val (.int sa), .val (.int (2 : Int32)), .val (.ref b101), .val (.ref b268r), .unset]) rfl (XS.iconst X268.here hx rfl (hb hby at_132) (XS.istore X268.here hx rfl (hb hby at_133) rfl (l' := #[.val (.int p1), .val (.int p2), .val (.int p3), .val (.int p4), .val (.int p5), .val (.int ra), .val (.int sa), .val (.int (2 : Int32)), .val (.ref b101), .val (.ref b268r), .val (.int (0 : Int32))]) rfl (XS.goto X268.here hx rfl (pc0 := 135) (pc' := 145) rfl (hb hby at_135) (by decide) (by decide) (XS.aload X268.here hx rfl (hb hby at_145) rfl rfl (XS.aload X268.here hx rfl (hb hby at_147) rfl rfl kt)))))) ?_
        show Go p.tables e below _ (T268.setTop (mkF m 149 #[.val (.int p1), .val (.int p2), .val (.int p3), .val (.int p4), .val (.int p5), .val (.int ra), .val (.int sa), .val (.int (2 : Int32)), .val (.ref b101), .val (.ref b268r), .val (.int (0 : Int32))] [(.ref b268r), (.ref b101)]))
        obtain ⟨cq288, kq288, q288a, q288b, q288c⟩ := isOf hZ rfl F274
        obtain ⟨_, _, ⟨T288, L288, k288, n288⟩, -, X288, ⟨Lc288, hQ288, l288, y288, z288⟩, st288⟩ := X268.virtualBack hx (y := (⟨"com/example/inchworm/inchworm/crawler/PageImage", "equals", "(Ljava/lang/Object;)Z"⟩ : MethodName)) (z := (⟨"com/example/inchworm/inchworm/crawler/PageImage", "equals", "(Ljava/lang/Object;)Z"⟩ : MethodName)) hown (mvT hZ (hw _ (List.mem_of_getElem? (i := 51) rfl))) (mvT hZ (hw _ (List.mem_of_getElem? (i := 52) rfl))) (notFace_of_selects (args := #[]) (mvT hZ (hw _ (List.mem_of_getElem? (i := 54) rfl)))) (mvT hZ (hw _ (List.mem_of_getElem? (i := 54) rfl))) (mvT hZ (hw _ (List.mem_of_getElem? (i := 53) rfl))) (by decide) (backOf (W := 0) (rmps l Z a0 hw [] b101 b268r  T268.heap n0 Z285 P269 ) hZ (hw _ (List.mem_of_getElem? (i := 55) rfl)) (hw _ (List.mem_of_getElem? (i := 2) rfl)) (by decide) (by decide)) q288a q288c (g := (mkF m 149 #[.val (.int p1), .val (.int p2), .val (.int p3), .val (.int p4), .val (.int p5), .val (.int ra), .val (.int sa), .val (.int (2 : Int32)), .val (.ref b101), .val (.ref b268r), .val (.int (0 : Int32))] [(.ref b268r), (.ref b101)])) rfl (by rw [hml]; rfl) (Steps.refl _) (argsL := [(.ref b268r)]) (rest := []) (lenOf pd_6 rfl) rfl (by show 2 * 0 + _ ≤ _; exact Nat.le_of_eq rfl) (hb hby at_149) (fun _ _ => ⟨rfl, rfl, (by decide : 19 + 0 ≤ _), (by decide : 38 + 0 ≤ _)⟩)
        dsimp only [Pt.U, Pt.locs, Pt.cells, Pt.slots] at X288 l288 y288 z288 st288 hQ288
        subst l288 y288 z288
        obtain ⟨rfl, N288q, eh288⟩ := hQ288
        have N288 := Fr.app N268 N288q
        refine Go.step (fun _ kt => st288.trans kt) ?_
        show Go p.tables e below _ (T288.setTop (mkF m 152 #[.val (.int p1), .val (.int p2), .val (.int p3), .val (.int p4), .val (.int p5), .val (.int ra), .val (.int sa), .val (.int (2 : Int32)), .val (.ref b101), .val (.ref b268r), .val (.int (0 : Int32))] [(.int (0 : Int32))]))
        refine Go.step (fun _ kt => XS.iload X288.here hx rfl (hb hby at_152) rfl (XS.icmpNo X288.here hx rfl (hb hby at_154) rfl (teq (by decide : (0 : Int32) = (0 : Int32))).2 (XS.iconst X288.here hx rfl (hb hby at_157) (XS.goto X288.here hx rfl (pc0 := 158) (pc' := 162) rfl (hb hby at_158) (by decide) (by decide) kt)))) ?_
        show Go p.tables e below _ (T288.setTop (mkF m 162 #[.val (.int p1), .val (.int p2), .val (.int p3), .val (.int p4), .val (.int p5), .val (.int ra), .val (.int sa), .val (.int (2 : Int32)), .val (.ref b101), .val (.ref b268r), .val (.int (0 : Int32))] [(.int (1 : Int32))]))
        obtain ⟨fs, hr, hrun, hended, hRW⟩ := X288.leaveW hS268 (by rw [eh288]; exact hk268) (v := some (.int (1 : Int32))) (fun h => by rw [Bd.returns] at h; cases h)
        refine ⟨_, _, retN X288 hx (t := .boolean) Bd.returns (by simp) (hb hby at_162) hr, hrun, hended, _, _, rfl, ?_, (by have q := C287.trans (CHv.at X288 hZ (own_EW hw) C287.1); rw [hh]; rw [← eh288] at q; exact q), hRW.1, hRW.2.1, hRW.2.2.1, hRW.2.2.2.mono (by decide) (by decide)⟩
        show Qrm0 Z p1 p2 p3 p4 p5 cs h0 n0 _ T288.heap _
        rw [eh288]
        exact ⟨rfl, N288⟩
      · rw [hq]
        show Go p.tables e below _ (T137.setTop (mkF m 53 #[.val (.int p1), .val (.int p2), .val (.int p3), .val (.int p4), .val (.int p5), .val (.int ra), .val (.int sa), .val (.int (3 : Int32)), .val (.ref b101), .unset, .unset] []))
        refine Go.step (fun _ kt => XS.iload X137.here hx rfl (hb hby at_53) rfl (XS.ifYes X137.here hx rfl (pc0 := 55) (pc' := 105) rfl (hb hby at_55) rfl ((if0 _ _).trans (feq (by decide : ¬ ((3 : Int32) = (0 : Int32)))).2) (by decide) (by decide) (XS.iload X137.here hx rfl (hb hby at_105) rfl (XS.iconst X137.here hx rfl (hb hby at_107) (XS.icmpYes X137.here hx rfl (pc0 := 108) (pc' := 120) rfl (hb hby at_108) rfl (feq (by decide : ¬ ((3 : Int32) = (1 : Int32)))).2 (by decide) (by decide) (XS.iload X137.here hx rfl (hb hby at_120) rfl (XS.iconst X137.here hx rfl (hb hby at_122) (XS.icmpYes X137.here hx rfl (pc0 := 123) (pc' := 138) rfl (hb hby at_123) rfl (feq (by decide : ¬ ((3 : Int32) = (2 : Int32)))).2 (by decide) (by decide) (XS.aload X137.here hx rfl (hb hby at_138) rfl rfl (XS.astore X137.here hx rfl (hb hby at_140) rfl rfl (l' := #[.val (.int p1), .val (.int p2), .val (.int p3), .val (.int p4), .val (.int p5), .val (.int ra), .val (.int sa), .val (.int (3 : Int32)), .val (.ref b101), .val (.ref b101), .unset]) rfl (XS.iconst X137.here hx rfl (hb hby at_142) (XS.istore X137.here hx rfl (hb hby at_143) rfl (l' := #[.val (.int p1), .val (.int p2), .val (.int p3), .val (.int p4), .val (.int p5), .val (.int ra), .val (.int sa), .val (.int (3 : Int32)), .val (.ref b101), .val (.ref b101), .val (.int (1 : Int32))]) rfl kt)))))))))))) ?_
        show Go p.tables e below _ (T137.setTop (mkF m 145 #[.val (.int p1), .val (.int p2), .val (.int p3), .val (.int p4), .val (.int p5), .val (.int ra), .val (.int sa), .val (.int (3 : Int32)), .val (.ref b101), .val (.ref b101), .val (.int (1 : Int32))] []))
        refine Go.step (fun _ kt => XS.aload X137.here hx rfl (hb hby at_145) rfl rfl (XS.aload X137.here hx rfl (hb hby at_147) rfl rfl kt)) ?_
        show Go p.tables e below _ (T137.setTop (mkF m 149 #[.val (.int p1), .val (.int p2), .val (.int p3), .val (.int p4), .val (.int p5), .val (.int ra), .val (.int sa), .val (.int (3 : Int32)), .val (.ref b101), .val (.ref b101), .val (.int (1 : Int32))] [(.ref b101), (.ref b101)]))
        obtain ⟨cq289, kq289, q289a, q289b, q289c⟩ := isOf hZ rfl P138
        obtain ⟨_, _, ⟨T289, L289, k289, n289⟩, -, X289, ⟨Lc289, hQ289, l289, y289, z289⟩, st289⟩ := X137.virtualBack hx (y := (⟨"com/example/inchworm/inchworm/crawler/PageImage", "equals", "(Ljava/lang/Object;)Z"⟩ : MethodName)) (z := (⟨"com/example/inchworm/inchworm/crawler/PageImage", "equals", "(Ljava/lang/Object;)Z"⟩ : MethodName)) hown (mvT hZ (hw _ (List.mem_of_getElem? (i := 51) rfl))) (mvT hZ (hw _ (List.mem_of_getElem? (i := 52) rfl))) (notFace_of_selects (args := #[]) (mvT hZ (hw _ (List.mem_of_getElem? (i := 54) rfl)))) (mvT hZ (hw _ (List.mem_of_getElem? (i := 54) rfl))) (mvT hZ (hw _ (List.mem_of_getElem? (i := 53) rfl))) (by decide) (backOf (W := 0) (rmpx l Z a0 hw [] b101 b109r b121r T137.heap n0 Z151 P138 P139 P140 F143 F147 ) hZ (hw _ (List.mem_of_getElem? (i := 55) rfl)) (hw _ (List.mem_of_getElem? (i := 2) rfl)) (by decide) (by decide)) q289a q289c (g := (mkF m 149 #[.val (.int p1), .val (.int p2), .val (.int p3), .val (.int p4), .val (.int p5), .val (.int ra), .val (.int sa), .val (.int (3 : Int32)), .val (.ref b101), .val (.ref b101), .val (.int (1 : Int32))] [(.ref b101), (.ref b101)])) rfl (by rw [hml]; rfl) (Steps.refl _) (argsL := [(.ref b101)]) (rest := []) (lenOf pd_6 rfl) rfl (by show 2 * 0 + _ ≤ _; exact Nat.le_of_eq rfl) (hb hby at_149) (fun _ _ => ⟨rfl, rfl, (by decide : 13 + 0 ≤ _), (by decide : 26 + 0 ≤ _)⟩)
        dsimp only [Pt.U, Pt.locs, Pt.cells, Pt.slots] at X289 l289 y289 z289 st289 hQ289
        subst l289 y289 z289
        obtain ⟨rfl, N289q, eh289⟩ := hQ289
        have N289 := Fr.app N137 N289q
        refine Go.step (fun _ kt => st289.trans kt) ?_
        show Go p.tables e below _ (T289.setTop (mkF m 152 #[.val (.int p1), .val (.int p2), .val (.int p3), .val (.int p4), .val (.int p5), .val (.int ra), .val (.int sa), .val (.int (3 : Int32)), .val (.ref b101), .val (.ref b101), .val (.int (1 : Int32))] [(.int (1 : Int32))]))
        refine Go.step (fun _ kt => XS.iload X289.here hx rfl (hb hby at_152) rfl (XS.icmpNo X289.here hx rfl (hb hby at_154) rfl (teq (by decide : (1 : Int32) = (1 : Int32))).2 (XS.iconst X289.here hx rfl (hb hby at_157) (XS.goto X289.here hx rfl (pc0 := 158) (pc' := 162) rfl (hb hby at_158) (by decide) (by decide) kt)))) ?_
        show Go p.tables e below _ (T289.setTop (mkF m 162 #[.val (.int p1), .val (.int p2), .val (.int p3), .val (.int p4), .val (.int p5), .val (.int ra), .val (.int sa), .val (.int (3 : Int32)), .val (.ref b101), .val (.ref b101), .val (.int (1 : Int32))] [(.int (1 : Int32))]))
        obtain ⟨fs, hr, hrun, hended, hRW⟩ := X289.leaveW hS121 (by rw [eh289]; exact hk152) (v := some (.int (1 : Int32))) (fun h => by rw [Bd.returns] at h; cases h)
        refine ⟨_, _, retN X289 hx (t := .boolean) Bd.returns (by simp) (hb hby at_162) hr, hrun, hended, _, _, rfl, ?_, (by have q := C154.trans (CHv.at X289 hZ (own_EW hw) C154.1); rw [hh]; rw [← eh289] at q; exact q), hRW.1, hRW.2.1, hRW.2.2.1, hRW.2.2.2.mono (by decide) (by decide)⟩
        show Qrm0 Z p1 p2 p3 p4 p5 cs h0 n0 _ T289.heap _
        rw [eh289]
        exact ⟨rfl, N289⟩
    refine Go.step (fun _ kt => XS.iload X0.here hx rfl (hb hby at_14) rfl (XS.iconst X0.here hx rfl (hb hby at_16) (XS.iand X0.here hx rfl (hb hby at_17) rfl kt))) ?_
    show Go p.tables e below _ (s₁.setTop (mkF m 18 #[.val (.int p1), .val (.int p2), .val (.int p3), .val (.int p4), .val (.int p5), .val (.int ra), .unset, .unset, .unset, .unset, .unset] [(.int (p5 &&& (2 : Int32)))]))
    by_cases hc18_290 : (p5 &&& (2 : Int32)) = (0 : Int32)
    · refine Go.step (fun _ kt => XS.ifYes X0.here hx rfl (pc0 := 18) (pc' := 25) rfl (hb hby at_18) rfl ((if0 _ _).trans (teq hc18_290).1) (by decide) (by decide) (XS.iloadN X0.here hx rfl (hb hby at_25) rfl kt)) ?_
      show Go p.tables e below _ (s₁.setTop (mkF m 26 #[.val (.int p1), .val (.int p2), .val (.int p3), .val (.int p4), .val (.int p5), .val (.int ra), .unset, .unset, .unset, .unset, .unset] [(.int p4)]))
      exact J26 _
    · refine Go.step (fun _ kt => XS.ifNo X0.here hx rfl (hb hby at_18) rfl ((if0 _ _).trans (feq hc18_290).1) (XS.iloadN X0.here hx rfl (hb hby at_21) rfl (XS.goto X0.here hx rfl (pc0 := 22) (pc' := 26) rfl (hb hby at_22) (by decide) (by decide) kt))) ?_
      show Go p.tables e below _ (s₁.setTop (mkF m 26 #[.val (.int p1), .val (.int p2), .val (.int p3), .val (.int p4), .val (.int p5), .val (.int ra), .unset, .unset, .unset, .unset, .unset] [(.int p2)]))
      exact J26 _
  refine Go.step (fun _ kt => XS.iload X0.here hx rfl (hb hby at_0) rfl (XS.iconst X0.here hx rfl (hb hby at_2) (XS.iand X0.here hx rfl (hb hby at_3) rfl kt))) ?_
  show Go p.tables e below _ (s₁.setTop (mkF m 4 #[.val (.int p1), .val (.int p2), .val (.int p3), .val (.int p4), .val (.int p5), .unset, .unset, .unset, .unset, .unset, .unset] [(.int (p5 &&& (1 : Int32)))]))
  by_cases hc4_291 : (p5 &&& (1 : Int32)) = (0 : Int32)
  · refine Go.step (fun _ kt => XS.ifYes X0.here hx rfl (pc0 := 4) (pc' := 11) rfl (hb hby at_4) rfl ((if0 _ _).trans (teq hc4_291).1) (by decide) (by decide) (XS.iloadN X0.here hx rfl (hb hby at_11) rfl kt)) ?_
    show Go p.tables e below _ (s₁.setTop (mkF m 12 #[.val (.int p1), .val (.int p2), .val (.int p3), .val (.int p4), .val (.int p5), .unset, .unset, .unset, .unset, .unset, .unset] [(.int p3)]))
    exact J12 _
  · refine Go.step (fun _ kt => XS.ifNo X0.here hx rfl (hb hby at_4) rfl ((if0 _ _).trans (feq hc4_291).1) (XS.iloadN X0.here hx rfl (hb hby at_7) rfl (XS.goto X0.here hx rfl (pc0 := 8) (pc' := 12) rfl (hb hby at_8) (by decide) (by decide) kt))) ?_
    show Go p.tables e below _ (s₁.setTop (mkF m 12 #[.val (.int p1), .val (.int p2), .val (.int p3), .val (.int p4), .val (.int p5), .unset, .unset, .unset, .unset, .unset, .unset] [(.int p1)]))
    exact J12 _
set_option maxRecDepth 65536 in
set_option maxHeartbeats 40000000 in
theorem comes_1 {Post : Tables → Env → Array Value → State → Outcome → State → Prop} (hpost : ∀ tb e args s v u, (limb_1_1.after args s (.returned v) u = true ∧ limb_1_2.after args s (.returned v) u = true ∧ True) → ReturnedEndW s (.returned v) u (Jvm.fieldLocs frame_1_writes args s ++ Jvm.arrayLocs frame_1_arrays args s ++ Jvm.staticLocs frame_1_statics s) 40 1216 → Post tb e args s (.returned v) u) :
    ArmFor flags0 classFile x code maxLocals ret World_1 tables_1 room_1 Calls_1 rest_1 Pre_1 Post := by
  intro l hfl _ _ p e ha hc hk s m args below hf hA hF happ hP
  obtain ⟨hcalls, hrest, hpre⟩ := hP
  obtain ⟨-, -, -, hnamed, -, -, -, hat⟩ := (Spec.applies_iff hf).mp happ
  obtain ⟨hg, hn⟩ := and_e (Cond.before_iff.mp (show (Jvm.Cond.and given_1 narrow_1).before args s = true from hpre))
  obtain ⟨hcount, hg1⟩ := and_e hg
  obtain ⟨ga0, hg2⟩ := and_e hg1
  obtain ⟨ga1, hg3⟩ := and_e hg2
  obtain ⟨ga2, hg4⟩ := and_e hg3
  obtain ⟨ga3, hg5⟩ := and_e hg4
  have ga4 := hg5
  obtain ⟨w0, w1, w2, w3, w4, rfl⟩ : ∃ w0 w1 w2 w3 w4 : Value, args = #[w0, w1, w2, w3, w4] := by
    have hs : args.size = 5 := by simpa [Cond.value, given_1] using hcount
    obtain ⟨L⟩ := args
    match L, hs with
    | [w0, w1, w2, w3, w4], _ => exact ⟨w0, w1, w2, w3, w4, rfl⟩
  have hw := fun d (hd : d ∈ tables_1) => atoms_spec (ws := Jvm.Cond.code x code maxLocals ret :: tables_1) hat d (List.mem_cons_of_mem _ hd)
  have hfit : Fit s := fun {y c} hc i hi => by
    obtain ⟨ha, rfl⟩ := Array.getElem?_eq_some_iff.mp hc
    have q := List.all_eq_true.mp ((Array.all_eq_true_iff_forall_mem.mp hF) _ (Array.getElem_mem ha)) i (List.mem_range.mpr hi)
    simpa [Array.getElem?_eq_getElem hi] using q
  obtain ⟨hsets, hown0⟩ := atoms_of _ (rest_1_c_eq ▸ (show rest_1_c.before _ s = true from hrest))
  have hr0 := Cond.before_iff.mp hown0
  obtain ⟨i0, ei0⟩ := is_v ga0
  obtain rfl : w0 = (.int i0) := Option.some.inj ei0
  obtain ⟨i1, ei1⟩ := is_v ga1
  obtain rfl : w1 = (.int i1) := Option.some.inj ei1
  obtain ⟨i2, ei2⟩ := is_v ga2
  obtain rfl : w2 = (.int i2) := Option.some.inj ei2
  obtain ⟨i3, ei3⟩ := is_v ga3
  obtain rfl : w3 = (.int i3) := Option.some.inj ei3
  obtain ⟨i4, ei4⟩ := is_v ga4
  obtain rfl : w4 = (.int i4) := Option.some.inj ei4
  obtain ⟨cs, evcs⟩ := is_v (Cond.before_iff.mp (hsets _ (List.mem_of_getElem? (i := 1) rfl)))
  have S_cs : Sta s s.heap "java/lang/String" "COMPACT_STRINGS" "Z" (.int cs) := Sta.start evcs (Or.inl (hsets _ (List.mem_of_getElem? (i := 0) rfl)))
  have hcs : ¬ cs = 0 := gotF (Cond.eq_ints evcs rfl) (not_v (Cond.before_iff.mp (hsets _ (List.mem_of_getElem? (i := 2) rfl))))
  have hCH : CHv s own_EL s.vm s.heap := CHv.start (own_EW hw) (fun p hp => hcalls.1 p hp) (hsets _ (List.mem_of_getElem? (i := 2) rfl)) (hw _ (List.mem_of_getElem? (i := 22) rfl)) (hw _ (List.mem_of_getElem? (i := 9) rfl))
  obtain ⟨n, o, h1, h2, h3, _, L, rfl, ⟨rfl, N⟩, -, hq⟩ := rm0 l s _ hw tables_1 i0 i1 i2 i3 i4 cs s.heap s.heap.size (Nat.le_refl _) S_cs hcs p e ha hc hk s m _ below hf ((Spec.applies_iff_loose hf).mp happ).1 ⟨rfl, State.Warmed39.refl s, rfl, hCH⟩ trivial
  refine ⟨n, _, h1, h2, h3, hpost _ _ _ _ _ _ ⟨Cond.after_iff.mpr rfl, Cond.after_iff.mpr (eq_i res_at (Term.int_eval (1)) rfl), trivial⟩ ⟨hq.1, hq.2.1, hq.2.2.1, (hq.2.2.2.sift fun y hy => Or.inr (N y hy)).mono (by decide) (by decide)⟩⟩
theorem main_1_1 : Claimed_1_1 := comes_1 fun _ _ _ _ _ _ h hF => ⟨h.1, hF⟩
theorem main_1_2 : Claimed_1_2 := comes_1 fun _ _ _ _ _ _ h hF => ⟨h.2.1, hF⟩
end Jvm.Pilot.@@N@@
namespace Jvm.Pilot.@@N@@
open Jvm Jvm.ClassFile Sem Op Lib Jvm.Free Jvm.Stand Jvm.Pilot.@@N@@.Jvm.D
/-! MADE BY PROGRAM (witnessworld.py) out of the Statement's table words and the real class files: 20 classes; the members and pool entries that the words name. The judged class is class 1, her method 3. -/
namespace start1
open Jvm.ClassFile
def u (s : String) : CpInfo := .utf8 (stringToUtf16 s)
/-- a pool by its gaps: so many unusable entries, then the entry; so many at the end -/
def gap : Nat → List CpInfo → List CpInfo
  | 0, r => r
  | n + 1, r => .unusable :: gap n r
def poolList (es : List (Nat × CpInfo)) (last : Nat) : List CpInfo := es.foldr (fun e r => gap e.1 (e.2 :: r)) (gap last [])
def pool (es : List (Nat × CpInfo)) (last : Nat) : Array CpInfo := ⟨poolList es last⟩
def fileOf (pool : Array CpInfo) (this : Nat) (attrs : Array Attribute := #[]) (ms : Array MethodInfo := #[]) (fl : Nat := 33) (sup : Nat := 0) (ifs : Array Nat := #[]) (fds : Array FieldInfo := #[]) : ClassFile where
  minorVersion := 0
  majorVersion := 65
  constantPool := pool
  accessFlags := fl
  thisClass := this
  superClass := sup
  interfaces := ifs
  fields := fds
  methods := ms
  attributes := attrs
def plain (name : String) (sup : Option ClassId) : Class where
  name := name
  kind := .ordinary
  loader := none
  accessFlags := 33
  super := sup
  interfaces := #[]
  cf := none
  fields := #[]
  methods := #[]
  instanceTypes := #[]
  staticTypes := #[]
  resolved := #[]
  callSites := []
  init := .initialized
  statics := none
  mirror := none

def pool0 : Array CpInfo := pool [(5, u "<init>"), (0, u "()V"), (1, .class_ 10), (1, u "java/lang/Object")] 113

def k0c0 : Code := { maxStack := 0, maxLocals := 1, code := object_method_1_code, exceptionTable := #[], attributes := #[] }
def k0m0 : Method := { name := "<init>", desc := "()V", sig := { parameters := [], returnType := none }, accessFlags := 1, code := some k0c0 }
/-- java/lang/Object -/
def k0 : Class := { plain "java/lang/Object" none with
  accessFlags := 33
  interfaces := #[]
  cf := some (fileOf pool0 8 #[] #[{ accessFlags := 1, nameIndex := 5, descriptorIndex := 6, attributes := #[] }] 33 0 #[] #[])
  fields := #[]
  methods := #[k0m0]
  instanceTypes := #[]
  staticTypes := #[]
  resolved := Array.replicate 124 none
  statics := none }

def pool1 : Array CpInfo := pool [(2, .class_ 4), (1, u "java/lang/Object"), (0, u "<init>"), (0, u "()V"), (0, .class_ 8), (0, u "java/lang/String"), (0, .methodref 7 10), (0, .nameAndType 5 11), (0, u "([C)V"), (0, .class_ 13), (0, u "com/example/inchworm/inchworm/crawler/PageImage"), (0, .methodref 15 16), (0, .class_ 17), (0, .nameAndType 18 19), (0, u "com/example/inchworm/inchworm/crawler/PageImageEqualsPinLaw"), (0, u "str"), (0, u "(I)Ljava/lang/String;"), (0, .methodref 12 21), (0, .nameAndType 5 22), (0, u "(Ljava/lang/String;Ljava/lang/String;)V"), (0, .methodref 15 24), (0, .nameAndType 25 26), (0, u "same"), (0, u "(II)Z"), (0, .methodref 12 28), (0, .nameAndType 29 30), (0, u "equals"), (0, u "(Ljava/lang/Object;)Z"), (5, u "law"), (0, u "(IIIII)Z")] 2

def k1m0 : Method := { name := "<init>", desc := "()V", sig := { parameters := [], returnType := none }, accessFlags := 1, code := none }
def k1c1 : Code := { maxStack := 4, maxLocals := 3, code := method_2_code, exceptionTable := #[], attributes := #[] }
def k1m1 : Method := { name := "str", desc := "(I)Ljava/lang/String;", sig := { parameters := [.int], returnType := some (.object "java/lang/String") }, accessFlags := 10, code := some k1c1 }
def k1c2 : Code := { maxStack := 3, maxLocals := 4, code := method_3_code, exceptionTable := #[], attributes := #[] }
def k1m2 : Method := { name := "same", desc := "(II)Z", sig := { parameters := [.int, .int], returnType := some .boolean }, accessFlags := 10, code := some k1c2 }
def k1c3 : Code := { maxStack := 4, maxLocals := 11, code := code, exceptionTable := #[], attributes := #[] }
def k1m3 : Method := { name := "law", desc := "(IIIII)Z", sig := { parameters := [.int, .int, .int, .int, .int], returnType := some .boolean }, accessFlags := 9, code := some k1c3 }
/-- com/example/inchworm/inchworm/crawler/PageImageEqualsPinLaw -/
def k1 : Class := { plain "com/example/inchworm/inchworm/crawler/PageImageEqualsPinLaw" (some 0) with
  accessFlags := 49
  interfaces := #[]
  cf := some (fileOf pool1 15 #[] #[{ accessFlags := 1, nameIndex := 5, descriptorIndex := 6, attributes := #[] }, { accessFlags := 10, nameIndex := 18, descriptorIndex := 19, attributes := #[] }, { accessFlags := 10, nameIndex := 25, descriptorIndex := 26, attributes := #[] }, { accessFlags := 9, nameIndex := 36, descriptorIndex := 37, attributes := #[] }] 49 2 #[] #[])
  fields := #[]
  methods := #[k1m0, k1m1, k1m2, k1m3]
  instanceTypes := #[]
  staticTypes := #[]
  resolved := Array.replicate 40 none
  statics := none }

def pool2 : Array CpInfo := pool [(1, .methodref 2 3), (0, .class_ 4), (0, .nameAndType 5 6), (0, u "java/lang/Object"), (0, u "<init>"), (0, u "()V"), (0, .fieldref 8 9), (0, .class_ 10), (0, .nameAndType 11 12), (0, u "com/example/inchworm/inchworm/crawler/PageImage"), (0, u "address"), (0, u "Ljava/lang/String;"), (0, .fieldref 8 14), (0, .nameAndType 15 12), (0, u "altText"), (0, .methodref 17 18), (0, .class_ 19), (0, .nameAndType 20 21), (0, u "java/lang/String"), (0, u "equals"), (0, u "(Ljava/lang/Object;)Z"), (10, u "(Ljava/lang/String;Ljava/lang/String;)V")] 24

def k2c0 : Code := { maxStack := 2, maxLocals := 3, code := prog_20_method_1_code, exceptionTable := #[], attributes := #[] }
def k2m0 : Method := { name := "<init>", desc := "(Ljava/lang/String;Ljava/lang/String;)V", sig := { parameters := [(.object "java/lang/String"), (.object "java/lang/String")], returnType := none }, accessFlags := 1, code := some k2c0 }
def k2c1 : Code := { maxStack := 2, maxLocals := 3, code := prog_20_method_4_code, exceptionTable := #[], attributes := #[] }
def k2m1 : Method := { name := "equals", desc := "(Ljava/lang/Object;)Z", sig := { parameters := [(.object "java/lang/Object")], returnType := some .boolean }, accessFlags := 1, code := some k2c1 }
/-- com/example/inchworm/inchworm/crawler/PageImage -/
def k2 : Class := { plain "com/example/inchworm/inchworm/crawler/PageImage" (some 0) with
  accessFlags := 33
  interfaces := #[]
  cf := some (fileOf pool2 8 #[] #[{ accessFlags := 1, nameIndex := 5, descriptorIndex := 32, attributes := #[] }, { accessFlags := 1, nameIndex := 20, descriptorIndex := 21, attributes := #[] }] 33 2 #[] #[{ accessFlags := 18, nameIndex := 11, descriptorIndex := 12, attributes := #[] }, { accessFlags := 18, nameIndex := 15, descriptorIndex := 12, attributes := #[] }])
  fields := #[{ name := "address", type := (.object "java/lang/String"), accessFlags := 18, slot := 0, constantValue := 0 }, { name := "altText", type := (.object "java/lang/String"), accessFlags := 18, slot := 1, constantValue := 0 }]
  methods := #[k2m0, k2m1]
  instanceTypes := #[(.object "java/lang/String"), (.object "java/lang/String")]
  staticTypes := #[]
  resolved := Array.replicate 57 none
  statics := none }

def pool3 : Array CpInfo := pool [(1, .class_ 2), (0, u "java/io/Serializable"), (0, .class_ 4), (0, u "java/lang/Object")] 2

/-- java/io/Serializable -/
def k3 : Class := { plain "java/io/Serializable" (some 0) with
  accessFlags := 1537
  interfaces := #[]
  cf := some (fileOf pool3 1 #[] #[] 1537 3 #[] #[])
  fields := #[]
  methods := #[]
  instanceTypes := #[]
  staticTypes := #[]
  resolved := Array.replicate 7 none
  statics := none }

def pool4 : Array CpInfo := pool [(1, .class_ 2), (0, u "java/lang/Comparable"), (0, .class_ 4), (0, u "java/lang/Object")] 7

/-- java/lang/Comparable -/
def k4 : Class := { plain "java/lang/Comparable" (some 0) with
  accessFlags := 1537
  interfaces := #[]
  cf := some (fileOf pool4 1 #[] #[] 1537 3 #[] #[])
  fields := #[]
  methods := #[]
  instanceTypes := #[]
  staticTypes := #[]
  resolved := Array.replicate 12 none
  statics := none }

def pool5 : Array CpInfo := pool [(2, .class_ 4), (1, u "java/lang/CharSequence"), (42, .class_ 48), (0, u "java/lang/CharSequence$1CodePointIterator"), (10, .class_ 60), (0, u "java/lang/CharSequence$1CharIterator"), (5, .class_ 67), (0, u "java/lang/Object")] 63

/-- java/lang/CharSequence -/
def k5 : Class := { plain "java/lang/CharSequence" (some 0) with
  accessFlags := 1537
  interfaces := #[]
  cf := some (fileOf pool5 2 #[.nestMembers #[47, 59]] #[] 1537 66 #[] #[])
  fields := #[]
  methods := #[]
  instanceTypes := #[]
  staticTypes := #[]
  resolved := Array.replicate 131 none
  statics := none }

def pool6 : Array CpInfo := pool [(1, .class_ 2), (0, u "java/lang/constant/Constable"), (0, .class_ 4), (0, u "java/lang/Object")] 6

/-- java/lang/constant/Constable -/
def k6 : Class := { plain "java/lang/constant/Constable" (some 0) with
  accessFlags := 1537
  interfaces := #[]
  cf := some (fileOf pool6 1 #[] #[] 1537 3 #[] #[])
  fields := #[]
  methods := #[]
  instanceTypes := #[]
  staticTypes := #[]
  resolved := Array.replicate 11 none
  statics := none }

def pool7 : Array CpInfo := pool [(1, .class_ 2), (0, u "java/lang/constant/ConstantDesc"), (0, .class_ 4), (0, u "java/lang/Object")] 32

/-- java/lang/constant/ConstantDesc -/
def k7 : Class := { plain "java/lang/constant/ConstantDesc" (some 0) with
  accessFlags := 1537
  interfaces := #[]
  cf := some (fileOf pool7 1 #[] #[] 1537 3 #[] #[])
  fields := #[]
  methods := #[]
  instanceTypes := #[]
  staticTypes := #[]
  resolved := Array.replicate 37 none
  statics := none }

def pool8 : Array CpInfo := pool [(1, .methodref 2 3), (0, .class_ 4), (0, .nameAndType 5 6), (0, u "java/lang/Object"), (0, u "<init>"), (0, u "()V"), (0, .string 8), (0, u ""), (0, .fieldref 10 11), (0, .class_ 12), (0, .nameAndType 13 14), (0, u "java/lang/String"), (0, u "value"), (0, u "[B"), (0, .fieldref 10 16), (0, .nameAndType 17 18), (0, u "coder"), (0, u "B"), (2, u "hash"), (0, u "I"), (2, u "hashIsZero"), (0, u "Z"), (0, .methodref 10 28), (0, .nameAndType 5 29), (0, u "([CIILjava/lang/Void;)V"), (8, .fieldref 10 39), (0, .nameAndType 40 26), (0, u "COMPACT_STRINGS"), (1, .class_ 44), (1, u "java/lang/StringUTF16"), (0, u "compress"), (1, .methodref 42 48), (0, .nameAndType 49 50), (0, u "coderFromArrayLen"), (0, u "([BI)B"), (56, .class_ 109), (1, u "java/lang/StringLatin1"), (67, .methodref 42 178), (0, .nameAndType 45 179), (0, u "([CII)[B"), (361, .methodref 107 542), (0, .nameAndType 543 544), (0, u "equals"), (0, u "([B[B)Z"), (28, u "(Ljava/lang/Object;)Z"), (1, .class_ 576), (0, u "java/lang/CharSequence"), (22, u "CASE_INSENSITIVE_ORDER"), (0, u "Ljava/util/Comparator;"), (409, u "([C)V"), (90, u "serialPersistentFields"), (0, u "[Ljava/io/ObjectStreamField;"), (0, .class_ 1104), (0, u "java/lang/String$CaseInsensitiveComparator"), (1, .class_ 1107), (0, u "java/io/Serializable"), (0, .class_ 1109), (0, u "java/lang/Comparable"), (0, .class_ 1111), (0, u "java/lang/constant/Constable"), (0, .class_ 1113), (0, u "java/lang/constant/ConstantDesc"), (2, u "serialVersionUID"), (0, u "J"), (3, u "REPL"), (0, u "C"), (2, u "LATIN1"), (1, u "UTF16")] 323

def k8m0 : Method := { name := "<init>", desc := "()V", sig := { parameters := [], returnType := none }, accessFlags := 1, code := none }
def k8c1 : Code := { maxStack := 5, maxLocals := 2, code := jdk_42_method_3_code, exceptionTable := #[], attributes := #[] }
def k8m1 : Method := { name := "<init>", desc := "([C)V", sig := { parameters := [(.array .char)], returnType := none }, accessFlags := 1, code := some k8c1 }
def k8c2 : Code := { maxStack := 2, maxLocals := 3, code := jdk_42_method_66_code, exceptionTable := #[], attributes := #[] }
def k8m2 : Method := { name := "equals", desc := "(Ljava/lang/Object;)Z", sig := { parameters := [(.object "java/lang/Object")], returnType := some .boolean }, accessFlags := 1, code := some k8c2 }
def k8c3 : Code := { maxStack := 4, maxLocals := 6, code := jdk_42_method_149_code, exceptionTable := #[], attributes := #[] }
def k8m3 : Method := { name := "<init>", desc := "([CIILjava/lang/Void;)V", sig := { parameters := [(.array .char), .int, .int, (.object "java/lang/Void")], returnType := none }, accessFlags := 2, code := some k8c3 }
/-- java/lang/String -/
def k8 : Class := { plain "java/lang/String" (some 0) with
  accessFlags := 49
  interfaces := #[3, 4, 5, 6, 7]
  cf := some (fileOf pool8 10 #[.nestMembers #[1103]] #[{ accessFlags := 1, nameIndex := 5, descriptorIndex := 6, attributes := #[] }, { accessFlags := 1, nameIndex := 5, descriptorIndex := 1010, attributes := #[] }, { accessFlags := 1, nameIndex := 543, descriptorIndex := 573, attributes := #[] }, { accessFlags := 2, nameIndex := 5, descriptorIndex := 29, attributes := #[] }] 49 2 #[1106, 1108, 575, 1110, 1112] #[{ accessFlags := 18, nameIndex := 13, descriptorIndex := 14, attributes := #[] }, { accessFlags := 18, nameIndex := 17, descriptorIndex := 18, attributes := #[] }, { accessFlags := 2, nameIndex := 21, descriptorIndex := 22, attributes := #[] }, { accessFlags := 2, nameIndex := 25, descriptorIndex := 26, attributes := #[] }, { accessFlags := 26, nameIndex := 1116, descriptorIndex := 1117, attributes := #[] }, { accessFlags := 24, nameIndex := 40, descriptorIndex := 26, attributes := #[] }, { accessFlags := 26, nameIndex := 1101, descriptorIndex := 1102, attributes := #[] }, { accessFlags := 26, nameIndex := 1121, descriptorIndex := 1122, attributes := #[] }, { accessFlags := 25, nameIndex := 599, descriptorIndex := 600, attributes := #[] }, { accessFlags := 24, nameIndex := 1125, descriptorIndex := 18, attributes := #[] }, { accessFlags := 24, nameIndex := 1127, descriptorIndex := 18, attributes := #[] }])
  fields := #[{ name := "value", type := (.array .byte), accessFlags := 18, slot := 0, constantValue := 0 }, { name := "coder", type := .byte, accessFlags := 18, slot := 1, constantValue := 0 }, { name := "hash", type := .int, accessFlags := 2, slot := 2, constantValue := 0 }, { name := "hashIsZero", type := .boolean, accessFlags := 2, slot := 3, constantValue := 0 }, { name := "serialVersionUID", type := .long, accessFlags := 26, slot := 0, constantValue := 0 }, { name := "COMPACT_STRINGS", type := .boolean, accessFlags := 24, slot := 1, constantValue := 0 }, { name := "serialPersistentFields", type := (.array (.object "java/io/ObjectStreamField")), accessFlags := 26, slot := 2, constantValue := 0 }, { name := "REPL", type := .char, accessFlags := 26, slot := 3, constantValue := 0 }, { name := "CASE_INSENSITIVE_ORDER", type := (.object "java/util/Comparator"), accessFlags := 25, slot := 4, constantValue := 0 }, { name := "LATIN1", type := .byte, accessFlags := 24, slot := 5, constantValue := 0 }, { name := "UTF16", type := .byte, accessFlags := 24, slot := 6, constantValue := 0 }]
  methods := #[k8m0, k8m1, k8m2, k8m3]
  instanceTypes := #[(.array .byte), .byte, .int, .boolean]
  staticTypes := #[.long, .boolean, (.array (.object "java/io/ObjectStreamField")), .char, (.object "java/util/Comparator"), .byte, .byte]
  resolved := Array.replicate 1451 none
  statics := some 0 }

def pool9 : Array CpInfo := pool [(6, .class_ 8), (1, u "java/lang/Object"), (0, u "<init>"), (0, u "()V"), (1, .class_ 14), (1, u "java/lang/StringUTF16"), (31, u "$assertionsDisabled"), (0, u "Z"), (13, u "HI_BYTE_SHIFT"), (0, u "I"), (2, u "LO_BYTE_SHIFT"), (49, .methodref 12 116), (0, .nameAndType 117 118), (0, u "compress"), (0, u "([CI[BII)I"), (3, u "([CII)[B"), (138, u "coderFromArrayLen"), (0, u "([BI)B"), (106, .class_ 371), (1, u "java/lang/StringUTF16$LinesSpliterator"), (58, u "MAX_LENGTH"), (196, .class_ 628), (0, u "java/lang/StringUTF16$CodePointsSpliterator"), (0, .class_ 630), (0, u "java/lang/StringUTF16$CharsSpliterator")] 4

def k9m0 : Method := { name := "<init>", desc := "()V", sig := { parameters := [], returnType := none }, accessFlags := 0, code := none }
def k9c1 : Code := { maxStack := 2, maxLocals := 2, code := jdk_52_method_15_code, exceptionTable := #[], attributes := #[] }
def k9m1 : Method := { name := "coderFromArrayLen", desc := "([BI)B", sig := { parameters := [(.array .byte), .int], returnType := some .byte }, accessFlags := 8, code := some k9c1 }
def k9c2 : Code := { maxStack := 5, maxLocals := 6, code := jdk_52_method_16_code, exceptionTable := #[], attributes := #[] }
def k9m2 : Method := { name := "compress", desc := "([CII)[B", sig := { parameters := [(.array .char), .int, .int], returnType := some (.array .byte) }, accessFlags := 9, code := some k9c2 }
def k9c3 : Code := { maxStack := 3, maxLocals := 7, code := jdk_52_method_21_code, exceptionTable := #[], attributes := #[] }
def k9m3 : Method := { name := "compress", desc := "([CI[BII)I", sig := { parameters := [(.array .char), .int, (.array .byte), .int, .int], returnType := some .int }, accessFlags := 9, code := some k9c3 }
/-- java/lang/StringUTF16 -/
def k9 : Class := { plain "java/lang/StringUTF16" (some 0) with
  accessFlags := 48
  interfaces := #[]
  cf := some (fileOf pool9 12 #[.nestMembers #[627, 629, 369]] #[{ accessFlags := 0, nameIndex := 9, descriptorIndex := 10, attributes := #[] }, { accessFlags := 8, nameIndex := 261, descriptorIndex := 262, attributes := #[] }, { accessFlags := 9, nameIndex := 117, descriptorIndex := 122, attributes := #[] }, { accessFlags := 9, nameIndex := 117, descriptorIndex := 118, attributes := #[] }] 48 6 #[] #[{ accessFlags := 26, nameIndex := 61, descriptorIndex := 62, attributes := #[] }, { accessFlags := 26, nameIndex := 65, descriptorIndex := 62, attributes := #[] }, { accessFlags := 24, nameIndex := 430, descriptorIndex := 62, attributes := #[] }, { accessFlags := 4120, nameIndex := 46, descriptorIndex := 47, attributes := #[] }])
  fields := #[{ name := "HI_BYTE_SHIFT", type := .int, accessFlags := 26, slot := 0, constantValue := 0 }, { name := "LO_BYTE_SHIFT", type := .int, accessFlags := 26, slot := 1, constantValue := 0 }, { name := "MAX_LENGTH", type := .int, accessFlags := 24, slot := 2, constantValue := 0 }, { name := "$assertionsDisabled", type := .boolean, accessFlags := 4120, slot := 3, constantValue := 0 }]
  methods := #[k9m0, k9m1, k9m2, k9m3]
  instanceTypes := #[]
  staticTypes := #[.int, .int, .int, .boolean]
  resolved := Array.replicate 635 none
  statics := none }

def pool10 : Array CpInfo := pool [(4, .class_ 6), (1, u "java/lang/Object"), (0, u "<init>"), (0, u "()V"), (5, .class_ 16), (1, u "java/lang/StringLatin1"), (104, u "$assertionsDisabled"), (0, u "Z"), (98, .class_ 223), (1, u "java/lang/StringLatin1$LinesSpliterator"), (57, u "equals"), (0, u "([B[B)Z"), (107, .class_ 391), (0, u "java/lang/StringLatin1$CharsSpliterator")] 3

def k10m0 : Method := { name := "<init>", desc := "()V", sig := { parameters := [], returnType := none }, accessFlags := 0, code := none }
def k10c1 : Code := { maxStack := 3, maxLocals := 3, code := jdk_43_method_13_code, exceptionTable := #[], attributes := #[] }
def k10m1 : Method := { name := "equals", desc := "([B[B)Z", sig := { parameters := [(.array .byte), (.array .byte)], returnType := some .boolean }, accessFlags := 9, code := some k10c1 }
/-- java/lang/StringLatin1 -/
def k10 : Class := { plain "java/lang/StringLatin1" (some 0) with
  accessFlags := 48
  interfaces := #[]
  cf := some (fileOf pool10 14 #[.nestMembers #[390, 221]] #[{ accessFlags := 0, nameIndex := 7, descriptorIndex := 8, attributes := #[] }, { accessFlags := 9, nameIndex := 281, descriptorIndex := 282, attributes := #[] }] 48 4 #[] #[{ accessFlags := 4120, nameIndex := 121, descriptorIndex := 122, attributes := #[] }])
  fields := #[{ name := "$assertionsDisabled", type := .boolean, accessFlags := 4120, slot := 0, constantValue := 0 }]
  methods := #[k10m0, k10m1]
  instanceTypes := #[]
  staticTypes := #[.boolean]
  resolved := Array.replicate 395 none
  statics := none }

def pool11 : Array CpInfo := pool [(2, .class_ 4), (1, u "java/lang/Object"), (0, u "<init>"), (0, u "()V"), (17, .class_ 26), (1, u "jdk/internal/util/Preconditions"), (28, .class_ 56), (0, u "jdk/internal/util/Preconditions$4"), (57, .class_ 115), (0, u "jdk/internal/util/Preconditions$1"), (7, u "SIOOBE_FORMATTER"), (0, u "Ljava/util/function/BiFunction;"), (0, .class_ 126), (0, u "jdk/internal/util/Preconditions$2"), (3, u "AIOOBE_FORMATTER"), (0, .class_ 132), (0, u "jdk/internal/util/Preconditions$3"), (3, u "IOOBE_FORMATTER")] 57

def k11m0 : Method := { name := "<init>", desc := "()V", sig := { parameters := [], returnType := none }, accessFlags := 1, code := none }
/-- jdk/internal/util/Preconditions -/
def k11 : Class := { plain "jdk/internal/util/Preconditions" (some 0) with
  accessFlags := 33
  interfaces := #[]
  cf := some (fileOf pool11 24 #[.nestMembers #[55, 131, 125, 114]] #[{ accessFlags := 1, nameIndex := 5, descriptorIndex := 6, attributes := #[] }] 33 2 #[] #[{ accessFlags := 25, nameIndex := 123, descriptorIndex := 124, attributes := #[] }, { accessFlags := 25, nameIndex := 130, descriptorIndex := 124, attributes := #[] }, { accessFlags := 25, nameIndex := 136, descriptorIndex := 124, attributes := #[] }])
  fields := #[{ name := "SIOOBE_FORMATTER", type := (.object "java/util/function/BiFunction"), accessFlags := 25, slot := 0, constantValue := 0 }, { name := "AIOOBE_FORMATTER", type := (.object "java/util/function/BiFunction"), accessFlags := 25, slot := 1, constantValue := 0 }, { name := "IOOBE_FORMATTER", type := (.object "java/util/function/BiFunction"), accessFlags := 25, slot := 2, constantValue := 0 }]
  methods := #[k11m0]
  instanceTypes := #[]
  staticTypes := #[(.object "java/util/function/BiFunction"), (.object "java/util/function/BiFunction"), (.object "java/util/function/BiFunction")]
  resolved := Array.replicate 194 none
  statics := some 1 }

def pool12 : Array CpInfo := pool [(9, u "<init>"), (6, .class_ 18), (1, u "java/lang/Object"), (0, u "()V"), (1, .class_ 23), (1, u "jdk/internal/util/ArraysSupport"), (0, u "LOG2_ARRAY_LONG_INDEX_SCALE"), (0, u "I"), (2, u "U"), (0, u "Ljdk/internal/misc/Unsafe;"), (8, u "BIG_ENDIAN"), (0, u "Z"), (8, u "LOG2_BYTE_BIT_SIZE"), (4, u "LOG2_ARRAY_INT_INDEX_SCALE"), (54, u "JLA"), (0, u "Ljdk/internal/access/JavaLangAccess;"), (11, u "LOG2_ARRAY_BOOLEAN_INDEX_SCALE"), (9, u "LOG2_ARRAY_BYTE_INDEX_SCALE"), (5, u "LOG2_ARRAY_CHAR_INDEX_SCALE"), (5, u "LOG2_ARRAY_SHORT_INDEX_SCALE"), (18, u "LOG2_ARRAY_FLOAT_INDEX_SCALE"), (24, u "LOG2_ARRAY_DOUBLE_INDEX_SCALE"), (89, u "T_BOOLEAN"), (2, u "T_CHAR"), (1, u "T_FLOAT"), (1, u "T_DOUBLE"), (1, u "T_BYTE"), (1, u "T_SHORT"), (1, u "T_INT"), (1, u "T_LONG"), (1, u "SOFT_MAX_ARRAY_LENGTH")] 83

def k12m0 : Method := { name := "<init>", desc := "()V", sig := { parameters := [], returnType := none }, accessFlags := 2, code := none }
/-- jdk/internal/util/ArraysSupport -/
def k12 : Class := { plain "jdk/internal/util/ArraysSupport" (some 0) with
  accessFlags := 33
  interfaces := #[]
  cf := some (fileOf pool12 21 #[] #[{ accessFlags := 2, nameIndex := 9, descriptorIndex := 19, attributes := #[] }] 33 16 #[] #[{ accessFlags := 24, nameIndex := 28, descriptorIndex := 29, attributes := #[] }, { accessFlags := 26, nameIndex := 38, descriptorIndex := 39, attributes := #[] }, { accessFlags := 25, nameIndex := 121, descriptorIndex := 25, attributes := #[] }, { accessFlags := 25, nameIndex := 131, descriptorIndex := 25, attributes := #[] }, { accessFlags := 25, nameIndex := 137, descriptorIndex := 25, attributes := #[] }, { accessFlags := 25, nameIndex := 143, descriptorIndex := 25, attributes := #[] }, { accessFlags := 25, nameIndex := 53, descriptorIndex := 25, attributes := #[] }, { accessFlags := 25, nameIndex := 24, descriptorIndex := 25, attributes := #[] }, { accessFlags := 25, nameIndex := 162, descriptorIndex := 25, attributes := #[] }, { accessFlags := 25, nameIndex := 187, descriptorIndex := 25, attributes := #[] }, { accessFlags := 26, nameIndex := 48, descriptorIndex := 25, attributes := #[] }, { accessFlags := 25, nameIndex := 277, descriptorIndex := 25, attributes := #[] }, { accessFlags := 25, nameIndex := 280, descriptorIndex := 25, attributes := #[] }, { accessFlags := 25, nameIndex := 282, descriptorIndex := 25, attributes := #[] }, { accessFlags := 25, nameIndex := 284, descriptorIndex := 25, attributes := #[] }, { accessFlags := 25, nameIndex := 286, descriptorIndex := 25, attributes := #[] }, { accessFlags := 25, nameIndex := 288, descriptorIndex := 25, attributes := #[] }, { accessFlags := 25, nameIndex := 290, descriptorIndex := 25, attributes := #[] }, { accessFlags := 25, nameIndex := 292, descriptorIndex := 25, attributes := #[] }, { accessFlags := 26, nameIndex := 108, descriptorIndex := 109, attributes := #[] }, { accessFlags := 25, nameIndex := 294, descriptorIndex := 25, attributes := #[] }])
  fields := #[{ name := "U", type := (.object "jdk/internal/misc/Unsafe"), accessFlags := 24, slot := 0, constantValue := 0 }, { name := "BIG_ENDIAN", type := .boolean, accessFlags := 26, slot := 1, constantValue := 0 }, { name := "LOG2_ARRAY_BOOLEAN_INDEX_SCALE", type := .int, accessFlags := 25, slot := 2, constantValue := 0 }, { name := "LOG2_ARRAY_BYTE_INDEX_SCALE", type := .int, accessFlags := 25, slot := 3, constantValue := 0 }, { name := "LOG2_ARRAY_CHAR_INDEX_SCALE", type := .int, accessFlags := 25, slot := 4, constantValue := 0 }, { name := "LOG2_ARRAY_SHORT_INDEX_SCALE", type := .int, accessFlags := 25, slot := 5, constantValue := 0 }, { name := "LOG2_ARRAY_INT_INDEX_SCALE", type := .int, accessFlags := 25, slot := 6, constantValue := 0 }, { name := "LOG2_ARRAY_LONG_INDEX_SCALE", type := .int, accessFlags := 25, slot := 7, constantValue := 0 }, { name := "LOG2_ARRAY_FLOAT_INDEX_SCALE", type := .int, accessFlags := 25, slot := 8, constantValue := 0 }, { name := "LOG2_ARRAY_DOUBLE_INDEX_SCALE", type := .int, accessFlags := 25, slot := 9, constantValue := 0 }, { name := "LOG2_BYTE_BIT_SIZE", type := .int, accessFlags := 26, slot := 10, constantValue := 0 }, { name := "T_BOOLEAN", type := .int, accessFlags := 25, slot := 11, constantValue := 0 }, { name := "T_CHAR", type := .int, accessFlags := 25, slot := 12, constantValue := 0 }, { name := "T_FLOAT", type := .int, accessFlags := 25, slot := 13, constantValue := 0 }, { name := "T_DOUBLE", type := .int, accessFlags := 25, slot := 14, constantValue := 0 }, { name := "T_BYTE", type := .int, accessFlags := 25, slot := 15, constantValue := 0 }, { name := "T_SHORT", type := .int, accessFlags := 25, slot := 16, constantValue := 0 }, { name := "T_INT", type := .int, accessFlags := 25, slot := 17, constantValue := 0 }, { name := "T_LONG", type := .int, accessFlags := 25, slot := 18, constantValue := 0 }, { name := "JLA", type := (.object "jdk/internal/access/JavaLangAccess"), accessFlags := 26, slot := 19, constantValue := 0 }, { name := "SOFT_MAX_ARRAY_LENGTH", type := .int, accessFlags := 25, slot := 20, constantValue := 0 }]
  methods := #[k12m0]
  instanceTypes := #[]
  staticTypes := #[(.object "jdk/internal/misc/Unsafe"), .boolean, .int, .int, .int, .int, .int, .int, .int, .int, .int, .int, .int, .int, .int, .int, .int, .int, .int, (.object "jdk/internal/access/JavaLangAccess"), .int]
  resolved := Array.replicate 378 none
  statics := none }

def pool13 : Array CpInfo := pool [(1, u "java/lang/Cloneable"), (0, .class_ 1), (0, u "java/lang/Object"), (0, .class_ 3)] 3

/-- java/lang/Cloneable -/
def k13 : Class := { plain "java/lang/Cloneable" (some 0) with
  accessFlags := 1537
  interfaces := #[]
  cf := some (fileOf pool13 2 #[] #[] 1537 4 #[] #[])
  fields := #[]
  methods := #[]
  instanceTypes := #[]
  staticTypes := #[]
  resolved := Array.replicate 8 none
  statics := none }

/-- the primitive byte -/
def k14 : Class := { plain "byte" none with kind := .primitive 'B', accessFlags := 0x411 }
/-- [B -/
def k15 : Class := { plain "[B" (some 0) with kind := .array 14 .byte, interfaces := #[13, 3], accessFlags := 1041 }

/-- the primitive char -/
def k16 : Class := { plain "char" none with kind := .primitive 'C', accessFlags := 0x411 }
/-- [C -/
def k17 : Class := { plain "[C" (some 0) with kind := .array 16 .char, interfaces := #[13, 3], accessFlags := 1041 }

/-- the primitive int -/
def k18 : Class := { plain "int" none with kind := .primitive 'I', accessFlags := 0x411 }
/-- [I -/
def k19 : Class := { plain "[I" (some 0) with kind := .array 18 .int, interfaces := #[13, 3], accessFlags := 1041 }

def heap : Heap := #[{ cls := 8, slots := #[.long 0, .int 1, .null, .int 0, .null, .int 0, .int 0], vm := .statics 8 },
  { cls := 11, slots := #[.null, .null, .null], vm := .statics 11 }]
def classes : Array Class := #[k0, k1, k2, k3, k4, k5, k6, k7, k8, k9, k10, k11, k12, k13, k14, k15, k16, k17, k18, k19]
def interned : List (Array UInt16 × Addr) := []
def slotsUsed : Nat := 10
def theMethod : MethodId := ⟨1, 3⟩
def args0 : Array Value := #[.int 5, .int 3, .int 4, .int 1, .int 0]
def aboutOver (below : List Frame) : State where
  vm := { classes := classes, interned := interned.toArray }
  heap := heap
  slotsUsed := slotsUsed
  threads := #[{ frames := .invoking theMethod args0 :: below }]
def below0 : List Frame := [.native { method := ⟨0, 0⟩, args := #[] }]
def about1 : State := aboutOver below0
def p0 : Program := .bare "" "" ""
def e0 : Env := launch0.env 0 0 0
theorem w_frames : about1.frames = Frame.invoking theMethod args0 :: below0 := rfl
set_option maxRecDepth 65536 in
theorem w_args : argsFit about1.vm theMethod args0 = true := by decide +kernel
set_option maxRecDepth 65536 in
theorem w_heap : heapFits about1 = true := by decide +kernel
set_option maxRecDepth 65536 in
theorem w_runnable : about1.curStatus? = some .runnable := by decide +kernel
set_option maxRecDepth 65536 in
theorem w_alone : about1.alone = true := by decide +kernel
set_option maxRecDepth 65536 in
theorem w_named : about1.methodNamed? x = some theMethod := by decide +kernel
set_option maxRecDepth 65536 in
theorem w_hears : about1.hears theMethod below0 = true := by decide +kernel
set_option maxRecDepth 65536 in
theorem w_ripe : about1.ripe theMethod args0 below0 = true := by decide +kernel
theorem w_running : about1.status = .running := rfl
set_option maxRecDepth 65536 in
theorem w_room : about1.hasRoom e0.platform room_1 = true :=
  launch0.hasRoom_least _ room_1 (by decide +kernel) (by decide +kernel) (by decide +kernel) (by decide +kernel) (by decide +kernel) (by decide +kernel)
theorem allAtoms_all (ts : List Jvm.Cond) (a : Array Jvm.Value) (st : Jvm.State) : (allAtoms ts).before a st = ts.all (fun c => c.before a st) := by
  induction ts with
  | nil => rfl
  | cons c t ih =>
    show (Jvm.Cond.and c (allAtoms t)).before a st = _
    rw [Jvm.Cond.before_and, ih, List.all_cons]
def words1 : List Jvm.Cond := Jvm.Cond.code x code maxLocals ret :: tables_1
/-- a 'code' word, met by the world's own term for the bytes: nothing is compared byte by byte -/
theorem code_word {y : MethodName} {bytes : ByteArray} {mx : Nat} {rt : Option FieldType} {a : Array Value} {s : State} {m : MethodId} {meth : Method} {c : Code} (h1 : s.methodNamed? y = some m) (h2 : s.vm.method? m = some meth) (h3 : meth.code = some c) (h4 : c.code = bytes)
    (h5 : (c.maxLocals == mx && c.exceptionTable.isEmpty && decide (c.maxStack ≤ mostOperands) && decide (meth.sig.returnType = rt) && !meth.locks && decide (parseMethodDescriptor y.desc = some meth.sig)) = true) : (Jvm.Cond.code y bytes mx rt).before a s = true := by
  simp only [Bool.and_eq_true, beq_iff_eq, Bool.not_eq_true', decide_eq_true_eq] at h5
  obtain ⟨⟨⟨⟨⟨g1, g2⟩, g3⟩, g4⟩, g5⟩, g6⟩ := h5
  simp [Cond.before, Cond.holds, Cond.value, h1, h2, h3, h4, g1, g2, g3, g4, g5, g6]
def isCode : Jvm.Cond → Bool
  | .code _ _ _ _ => true
  | _ => false
theorem all_split {L : List Jvm.Cond} {P : Jvm.Cond → Bool} (h1 : L.all (fun c => isCode c || P c) = true) (h2 : ∀ c ∈ L.filter isCode, P c = true) : L.all P = true := by
  refine List.all_eq_true.mpr fun c hc => ?_
  have h := List.all_eq_true.mp h1 c hc
  rcases Bool.eq_false_or_eq_true (isCode c) with hi | hi
  · exact h2 c (List.mem_filter.mpr ⟨hc, hi⟩)
  · simpa [hi] using h
set_option maxRecDepth 65536 in
theorem w_c0 : (Jvm.Cond.code x code maxLocals ret).before args0 about1 = true := code_word (m := ⟨1, 3⟩) (meth := k1m3) (c := k1c3) (by decide +kernel) rfl rfl rfl (by decide +kernel)
set_option maxRecDepth 65536 in
theorem w_c1 : (Jvm.Cond.code ({ cls := "com/example/inchworm/inchworm/crawler/PageImageEqualsPinLaw", name := "str", desc := "(I)Ljava/lang/String;" } : Jvm.MethodName) method_2_code (3 : Nat) (Option.some (Jvm.ClassFile.FieldType.object "java/lang/String"))).before args0 about1 = true := code_word (m := ⟨1, 1⟩) (meth := k1m1) (c := k1c1) (by decide +kernel) rfl rfl rfl (by decide +kernel)
set_option maxRecDepth 65536 in
theorem w_c2 : (Jvm.Cond.code ({ cls := "java/lang/String", name := "<init>", desc := "([C)V" } : Jvm.MethodName) jdk_42_method_3_code (2 : Nat) (Option.none : Option Jvm.ClassFile.FieldType)).before args0 about1 = true := code_word (m := ⟨8, 1⟩) (meth := k8m1) (c := k8c1) (by decide +kernel) rfl rfl rfl (by decide +kernel)
set_option maxRecDepth 65536 in
theorem w_c3 : (Jvm.Cond.code ({ cls := "java/lang/String", name := "<init>", desc := "([CIILjava/lang/Void;)V" } : Jvm.MethodName) jdk_42_method_149_code (6 : Nat) (Option.none : Option Jvm.ClassFile.FieldType)).before args0 about1 = true := code_word (m := ⟨8, 3⟩) (meth := k8m3) (c := k8c3) (by decide +kernel) rfl rfl rfl (by decide +kernel)
set_option maxRecDepth 65536 in
theorem w_c4 : (Jvm.Cond.code ({ cls := "java/lang/Object", name := "<init>", desc := "()V" } : Jvm.MethodName) object_method_1_code (1 : Nat) (Option.none : Option Jvm.ClassFile.FieldType)).before args0 about1 = true := code_word (m := ⟨0, 0⟩) (meth := k0m0) (c := k0c0) (by decide +kernel) rfl rfl rfl (by decide +kernel)
set_option maxRecDepth 65536 in
theorem w_c5 : (Jvm.Cond.code ({ cls := "java/lang/StringUTF16", name := "compress", desc := "([CII)[B" } : Jvm.MethodName) jdk_52_method_16_code (6 : Nat) (Option.some (Jvm.ClassFile.FieldType.array Jvm.ClassFile.FieldType.byte))).before args0 about1 = true := code_word (m := ⟨9, 2⟩) (meth := k9m2) (c := k9c2) (by decide +kernel) rfl rfl rfl (by decide +kernel)
set_option maxRecDepth 65536 in
theorem w_c6 : (Jvm.Cond.code ({ cls := "java/lang/StringUTF16", name := "compress", desc := "([CI[BII)I" } : Jvm.MethodName) jdk_52_method_21_code (7 : Nat) (Option.some Jvm.ClassFile.FieldType.int)).before args0 about1 = true := code_word (m := ⟨9, 3⟩) (meth := k9m3) (c := k9c3) (by decide +kernel) rfl rfl rfl (by decide +kernel)
set_option maxRecDepth 65536 in
theorem w_c7 : (Jvm.Cond.code ({ cls := "java/lang/StringUTF16", name := "coderFromArrayLen", desc := "([BI)B" } : Jvm.MethodName) jdk_52_method_15_code (2 : Nat) (Option.some Jvm.ClassFile.FieldType.byte)).before args0 about1 = true := code_word (m := ⟨9, 1⟩) (meth := k9m1) (c := k9c1) (by decide +kernel) rfl rfl rfl (by decide +kernel)
set_option maxRecDepth 65536 in
theorem w_c8 : (Jvm.Cond.code ({ cls := "com/example/inchworm/inchworm/crawler/PageImage", name := "<init>", desc := "(Ljava/lang/String;Ljava/lang/String;)V" } : Jvm.MethodName) prog_20_method_1_code (3 : Nat) (Option.none : Option Jvm.ClassFile.FieldType)).before args0 about1 = true := code_word (m := ⟨2, 0⟩) (meth := k2m0) (c := k2c0) (by decide +kernel) rfl rfl rfl (by decide +kernel)
set_option maxRecDepth 65536 in
theorem w_c9 : (Jvm.Cond.code ({ cls := "com/example/inchworm/inchworm/crawler/PageImageEqualsPinLaw", name := "same", desc := "(II)Z" } : Jvm.MethodName) method_3_code (4 : Nat) (Option.some Jvm.ClassFile.FieldType.boolean)).before args0 about1 = true := code_word (m := ⟨1, 2⟩) (meth := k1m2) (c := k1c2) (by decide +kernel) rfl rfl rfl (by decide +kernel)
set_option maxRecDepth 65536 in
theorem w_c10 : (Jvm.Cond.code ({ cls := "com/example/inchworm/inchworm/crawler/PageImage", name := "equals", desc := "(Ljava/lang/Object;)Z" } : Jvm.MethodName) prog_20_method_4_code (3 : Nat) (Option.some Jvm.ClassFile.FieldType.boolean)).before args0 about1 = true := code_word (m := ⟨2, 1⟩) (meth := k2m1) (c := k2c1) (by decide +kernel) rfl rfl rfl (by decide +kernel)
set_option maxRecDepth 65536 in
theorem w_c11 : (Jvm.Cond.code ({ cls := "java/lang/String", name := "equals", desc := "(Ljava/lang/Object;)Z" } : Jvm.MethodName) jdk_42_method_66_code (3 : Nat) (Option.some Jvm.ClassFile.FieldType.boolean)).before args0 about1 = true := code_word (m := ⟨8, 2⟩) (meth := k8m2) (c := k8c2) (by decide +kernel) rfl rfl rfl (by decide +kernel)
set_option maxRecDepth 65536 in
theorem w_c12 : (Jvm.Cond.code ({ cls := "java/lang/StringLatin1", name := "equals", desc := "([B[B)Z" } : Jvm.MethodName) jdk_43_method_13_code (3 : Nat) (Option.some Jvm.ClassFile.FieldType.boolean)).before args0 about1 = true := code_word (m := ⟨10, 1⟩) (meth := k10m1) (c := k10c1) (by decide +kernel) rfl rfl rfl (by decide +kernel)
def codes1 : List Jvm.Cond := [Jvm.Cond.code x code maxLocals ret, Jvm.Cond.code ({ cls := "com/example/inchworm/inchworm/crawler/PageImageEqualsPinLaw", name := "str", desc := "(I)Ljava/lang/String;" } : Jvm.MethodName) method_2_code (3 : Nat) (Option.some (Jvm.ClassFile.FieldType.object "java/lang/String")), Jvm.Cond.code ({ cls := "java/lang/String", name := "<init>", desc := "([C)V" } : Jvm.MethodName) jdk_42_method_3_code (2 : Nat) (Option.none : Option Jvm.ClassFile.FieldType), Jvm.Cond.code ({ cls := "java/lang/String", name := "<init>", desc := "([CIILjava/lang/Void;)V" } : Jvm.MethodName) jdk_42_method_149_code (6 : Nat) (Option.none : Option Jvm.ClassFile.FieldType), Jvm.Cond.code ({ cls := "java/lang/Object", name := "<init>", desc := "()V" } : Jvm.MethodName) object_method_1_code (1 : Nat) (Option.none : Option Jvm.ClassFile.FieldType), Jvm.Cond.code ({ cls := "java/lang/StringUTF16", name := "compress", desc := "([CII)[B" } : Jvm.MethodName) jdk_52_method_16_code (6 : Nat) (Option.some (Jvm.ClassFile.FieldType.array Jvm.ClassFile.FieldType.byte)), Jvm.Cond.code ({ cls := "java/lang/StringUTF16", name := "compress", desc := "([CI[BII)I" } : Jvm.MethodName) jdk_52_method_21_code (7 : Nat) (Option.some Jvm.ClassFile.FieldType.int), Jvm.Cond.code ({ cls := "java/lang/StringUTF16", name := "coderFromArrayLen", desc := "([BI)B" } : Jvm.MethodName) jdk_52_method_15_code (2 : Nat) (Option.some Jvm.ClassFile.FieldType.byte), Jvm.Cond.code ({ cls := "com/example/inchworm/inchworm/crawler/PageImage", name := "<init>", desc := "(Ljava/lang/String;Ljava/lang/String;)V" } : Jvm.MethodName) prog_20_method_1_code (3 : Nat) (Option.none : Option Jvm.ClassFile.FieldType), Jvm.Cond.code ({ cls := "com/example/inchworm/inchworm/crawler/PageImageEqualsPinLaw", name := "same", desc := "(II)Z" } : Jvm.MethodName) method_3_code (4 : Nat) (Option.some Jvm.ClassFile.FieldType.boolean), Jvm.Cond.code ({ cls := "com/example/inchworm/inchworm/crawler/PageImage", name := "equals", desc := "(Ljava/lang/Object;)Z" } : Jvm.MethodName) prog_20_method_4_code (3 : Nat) (Option.some Jvm.ClassFile.FieldType.boolean), Jvm.Cond.code ({ cls := "java/lang/String", name := "equals", desc := "(Ljava/lang/Object;)Z" } : Jvm.MethodName) jdk_42_method_66_code (3 : Nat) (Option.some Jvm.ClassFile.FieldType.boolean), Jvm.Cond.code ({ cls := "java/lang/StringLatin1", name := "equals", desc := "([B[B)Z" } : Jvm.MethodName) jdk_43_method_13_code (3 : Nat) (Option.some Jvm.ClassFile.FieldType.boolean)]
set_option maxRecDepth 65536 in
theorem codes_eq : words1.filter isCode = codes1 := rfl
theorem w_codes : ∀ c ∈ words1.filter isCode, c.before args0 about1 = true := by
  rw [codes_eq]
  intro c hc
  simp only [codes1, List.mem_cons, List.not_mem_nil, or_false] at hc
  rcases hc with rfl | rfl | rfl | rfl | rfl | rfl | rfl | rfl | rfl | rfl | rfl | rfl | rfl
  · exact w_c0
  · exact w_c1
  · exact w_c2
  · exact w_c3
  · exact w_c4
  · exact w_c5
  · exact w_c6
  · exact w_c7
  · exact w_c8
  · exact w_c9
  · exact w_c10
  · exact w_c11
  · exact w_c12
set_option maxRecDepth 65536 in
theorem w_t1 : (words1.take 24).all (fun c => isCode c || c.before args0 about1) = true := by decide +kernel
set_option maxRecDepth 65536 in
theorem w_t2 : ((words1.drop 24).take 24).all (fun c => isCode c || c.before args0 about1) = true := by decide +kernel
set_option maxRecDepth 65536 in
theorem w_t3 : ((words1.drop 24).drop 24).all (fun c => isCode c || c.before args0 about1) = true := by decide +kernel
theorem w_tables : (allAtoms (Jvm.Cond.code x code maxLocals ret :: tables_1)).before args0 about1 = true := by
  rw [allAtoms_all]
  show words1.all (fun c => c.before args0 about1) = true
  refine all_split ?_ w_codes
  rw [← List.take_append_drop 24 words1, List.all_append, w_t1, ← List.take_append_drop 24 (words1.drop 24), List.all_append, w_t2, w_t3]
  rfl
set_option maxRecDepth 65536 in
theorem w_rest : rest_1_c.before args0 about1 = true := by decide +kernel
set_option maxRecDepth 65536 in
theorem w_case : (Jvm.Cond.and given_1 narrow_1).before args0 about1 = true := by decide +kernel
set_option maxRecDepth 65536 in
theorem w_consts : constsHeld consts_1 about1 := Jvm.Lit.constsHeldB_iff.mp (by decide +kernel)
theorem w_applies : (headSpec (Jvm.Cond.code x code maxLocals ret :: tables_1) room_1).applies x e0.platform about1 = true :=
  (Spec.applies_iff w_frames).mpr ⟨w_running, w_runnable, w_alone, w_named, w_hears, w_ripe, w_room, w_tables⟩
theorem atStart : AtStart classFile x code maxLocals ret World_1 tables_1 room_1 Calls_1 rest_1 Pre_1 launch0 p0 e0 about1 theMethod args0 below0 :=
  ⟨lists_1, trivial, launch0.admits_env _ _ _, launch0.least_env, fairChoices_fair.cas, fairChoices_fair.clock, w_frames, w_args, w_heap, w_applies, ⟨w_consts, trivial⟩, w_rest, w_case⟩
end start1
theorem witness_1 : WitnessClaimed_1 := ⟨start1.p0, start1.e0, start1.about1, start1.theMethod, start1.args0, start1.below0, start1.atStart⟩
end Jvm.Pilot.@@N@@
