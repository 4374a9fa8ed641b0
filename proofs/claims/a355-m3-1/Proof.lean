import JvmDerived
import JvmDerived.Pilot.@@N@@Statement
import JvmDerived.Pilot.@@N@@Code
set_option linter.unusedVariables false
set_option linter.unusedSimpArgs false
namespace Jvm.RoadKit
open Sem ClassFile Op Lib Jvm.Stand Jvm.Free Jvm.LawKit
section New
variable {p : Program} {l : Launch} {e : Env} {R : Room} {s : State} {m : MethodId} {args : Array Value} {below : List Frame} {meth : Method} {c : Code} {T : State} {locs : List Loc} {cells slots : Nat}
theorem retI (X : Stand p l e R s m args below meth c T locs cells slots) (hx : p.tables.exec = Jvm.exec) {pc : Nat} {Ls : Array Slot} {z : Int32} {rest : List Value} (hret : meth.sig.returnType = some .int) (hd : decode c.code pc = .ok (.ireturn, 1)) {fs : List Frame}
    (hl : ∀ (f : JFrame) (acts : List Action), f.method = m → f.locked = none → f.entered = [] → (doReturn e (T.setTop f) acts (some (.int z))).1 = T.setFrames fs) : Steps p.tables e below (T.setTop (mkF m pc Ls (.int z :: rest))) (T.setFrames fs) := by
  have hm' : T.vm.method? m = some meth := X.method'
  have hn : narrow .int (.int z) = .int z := rfl
  show Steps p.tables e below (T.setTop { method := m, pc := pc, locals := Ls, stack := _ :: rest, locked := none }) _
  jvm_step X.here [X.here.top, hx, hd, hm', hret, hn]
  first | (intro acts; rw [hl _ acts rfl rfl rfl]) | rw [hl _ _ rfl rfl rfl]
  exact Steps.refl _
end New
/-- the run from S ends, with Post of its end -/
def Go (tb : Tables) (e : Env) (below : List Frame) (Post : Outcome → State → Prop) (S : State) : Prop := ∃ s₂ o, Steps tb e below S s₂ ∧ s₂.status = .running ∧ Ended s₂ below o ∧ Post o s₂
theorem Go.step {tb : Tables} {e : Env} {below : List Frame} {Post : Outcome → State → Prop} {S S' : State} (h : ∀ t, Steps tb e below S' t → Steps tb e below S t) (g : Go tb e below Post S') : Go tb e below Post S := by
  obtain ⟨s₂, o, a, b⟩ := g
  exact ⟨s₂, o, h _ a, b⟩
theorem at_of {c : Cell} {vs : List Value} {d v : Value} {j : Int32} (H : Has c vs d) (hin : ¬ (j < 0 ∨ c.slots.size ≤ j.toNatClampNeg)) (e : vs.getD j.toNatClampNeg d = v) : c.slots[j.toNatClampNeg]? = some v := by
  have q : j.toNatClampNeg < c.slots.size := Nat.lt_of_not_le (fun h => hin (Or.inr h))
  rw [H _ q, e]
end Jvm.RoadKit
namespace Jvm.Pilot.@@N@@
open Jvm Jvm.ClassFile Sem Op Lib Jvm.Free Jvm.Stand Jvm.LawKit Jvm.RoadKit Bundle Jvm.Pilot.@@N@@.Jvm.D
theorem own_wS {Z : State} {a0 : Array Value} (hw : ∀ d ∈ tables_1, d.before a0 Z = true) : ∀ a ∈ Bundle.stringAtoms, a.before a0 Z = true := fun d hd => by
  simp only [Bundle.stringAtoms, List.mem_cons, List.not_mem_nil, or_false] at hd
  rcases hd with rfl | rfl | rfl | rfl | rfl | rfl | rfl
  · exact hw _ (List.mem_of_getElem? (i := 24) rfl)
  · exact hw _ (List.mem_of_getElem? (i := 25) rfl)
  · exact hw _ (List.mem_of_getElem? (i := 26) rfl)
  · exact hw _ (List.mem_of_getElem? (i := 27) rfl)
  · exact hw _ (List.mem_of_getElem? (i := 28) rfl)
  · exact hw _ (List.mem_of_getElem? (i := 29) rfl)
  · exact hw _ (List.mem_of_getElem? (i := 30) rfl)
def own_EL : List (String × Nat) := [("com/example/ottawa/ottawa/Name", 48), ("com/example/ottawa/ottawa/Name", 65), ("com/example/ottawa/ottawa/TagPatternFollowPinLaw", 15), ("com/example/ottawa/ottawa/TagPatternFollowPinLaw", 20), ("com/example/ottawa/ottawa/TagPatternFollowPinLaw", 24)]
theorem own_EW {Z : State} {a0 : Array Value} (hw : ∀ d ∈ tables_1, d.before a0 Z = true) : EW Z a0 own_EL := (EW.cons (hw _ (List.mem_of_getElem? (i := 96) rfl)) (by decide) (EW.cons (hw _ (List.mem_of_getElem? (i := 131) rfl)) (by decide) (EW.cons (hw _ (List.mem_of_getElem? (i := 23) rfl)) (by decide) (EW.cons (hw _ (List.mem_of_getElem? (i := 142) rfl)) (by decide) (EW.cons (hw _ (List.mem_of_getElem? (i := 145) rfl)) (by decide) EW.nil)))))
theorem own_same {Z : State} {a0 : Array Value} {y : MethodName} {S : String} (wi : (Jvm.Cond.instanceMethod y).before a0 Z = true) (ws : (Jvm.Cond.superclass y.cls S).before a0 Z = true) (hy : y.cls ≠ "java/lang/invoke/MethodHandle" ∧ y.cls ≠ "java/lang/invoke/VarHandle") : (Jvm.Cond.sameMethod y.cls y.cls y.name y.desc).before a0 Z = true := by
  obtain ⟨mk, methM, hnamed, -⟩ := Cond.instanceMethod_spec wi
  have hf := State.methodFound?_of_named hnamed hy
  have hc := findClass_of_methodNamed hnamed
  obtain ⟨p, k, kp, -, hk, -, -, -, -, hni⟩ := Cond.superclass_spec hc ws
  have hn' : Z.methodNamed? ⟨y.cls, y.name, y.desc⟩ = some mk := hnamed
  simp [Cond.before, Cond.holds, Cond.value, hc, hf, hn', hk, hni]
theorem own_rem3 (x : Int32) : let k := (x &&& (2147483647 : Int32)) % (3 : Int32); k = 0 ∨ k = 1 ∨ k = 2 := by
  intro k
  have h := c_mask x 2147483647 31 (by decide) (by decide)
  have h2 := (c_irem (x &&& (2147483647 : Int32)) 3 3 (by decide)).1 (by omega)
  have e0 : (0 : Int32).toInt = 0 := by decide
  have e1 : (1 : Int32).toInt = 1 := by decide
  have e2 : (2 : Int32).toInt = 2 := by decide
  have h3 : k.toInt = (x &&& (2147483647 : Int32)).toInt % 3 := h2
  simp only [← Int32.toInt_inj]
  omega
theorem own_noins {Z : State} {a0 : Array Value} (hw : ∀ d ∈ tables_1, d.before a0 Z = true) : ∃ c t, Z.vm.findClass "com/example/ottawa/ottawa/Name" = some c ∧ Z.vm.findClass "com/example/ottawa/ottawa/KeptName" = some t ∧ Z.vm.assignable c t = false :=
  NS.no (hw _ (List.mem_of_getElem? (i := 168) rfl)) (hw _ (List.mem_of_getElem? (i := 128) rfl)) (NS.step (hw _ (List.mem_of_getElem? (i := 168) rfl)) (NS.root (hw _ (List.mem_of_getElem? (i := 169) rfl)) (hw _ (List.mem_of_getElem? (i := 128) rfl)) (by decide)) (by decide)) (by decide)
theorem own_arv_ne {Z : State} {h : Heap} {b b' : Addr} {k k' : ClassId} {ty ty' : FieldType} {z z' : Int32} {vs vs' : List Value} {d d' : Value} (F : Arv Z h b k ty z vs d) (G : Arv Z h b' k' ty' z' vs' d') (q : z.toNatClampNeg ≠ z'.toNatClampNeg ∨ ∃ i, i < z.toNatClampNeg ∧ vs.getD i d ≠ vs'.getD i d') : b ≠ b' := by
  intro e
  subst e
  obtain ⟨c, A, -, S, -, H, -⟩ := F
  obtain ⟨c', A', -, S', -, H', -⟩ := G
  cases A.1.symm.trans A'.1
  rcases q with q | ⟨i, hi, q⟩
  · exact q (S.symm.trans S')
  · exact q (Option.some.inj ((H i (by rw [S]; exact hi)).symm.trans (H' i (by rw [S]; exact hi))))
theorem pn_0 : plainName "com/example/ottawa/ottawa/TagPattern" = true := by first | (simp [plainName, overriddenIn]; done) | decide +kernel
theorem d1_0 : decode prog_51_method_1_code 0 = .ok (.aload_n 0, 1) := by decide +kernel
theorem d1_1 : decode prog_51_method_1_code 1 = .ok (.invokespecial 1, 3) := by decide +kernel
theorem d1_4 : decode prog_51_method_1_code 4 = .ok (.aload_n 0, 1) := by decide +kernel
theorem d1_5 : decode prog_51_method_1_code 5 = .ok (.iconst 4, 1) := by decide +kernel
theorem d1_6 : decode prog_51_method_1_code 6 = .ok (.anewarray 7, 3) := by decide +kernel
theorem d1_9 : decode prog_51_method_1_code 9 = .ok (.putfield 9, 3) := by decide +kernel
theorem d1_12 : decode prog_51_method_1_code 12 = .ok (.aload_n 0, 1) := by decide +kernel
theorem d1_13 : decode prog_51_method_1_code 13 = .ok (.iconst 4, 1) := by decide +kernel
theorem d1_14 : decode prog_51_method_1_code 14 = .ok (.anewarray 15, 3) := by decide +kernel
theorem d1_17 : decode prog_51_method_1_code 17 = .ok (.putfield 17, 3) := by decide +kernel
theorem d1_20 : decode prog_51_method_1_code 20 = .ok (.aload_n 0, 1) := by decide +kernel
theorem d1_21 : decode prog_51_method_1_code 21 = .ok (.aload_n 1, 1) := by decide +kernel
theorem d1_22 : decode prog_51_method_1_code 22 = .ok (.putfield 21, 3) := by decide +kernel
theorem d1_25 : decode prog_51_method_1_code 25 = .ok (.return_, 1) := by decide +kernel
theorem ef_rm1 (m : MethodId) (a1 : Addr) (u0 : Value) (u1 : Value) (u2 : Value) : entryFrame m #[(.ref a1), .null] 2 = mkF m 0 #[.val (.ref a1), .val .null] [] := by first | (simp [entryFrame, mkF, argsToLocals, Value.category]; done) | rfl
def Qrm1 (Z : State) (a1 : Addr) (u0 : Value) (u1 : Value) (u2 : Value) (h0 : Heap) (n0 : Nat) (v : Option Value) (h : Heap) (L : List Loc) : Prop := v = none ∧ Fr n0 L ∧ Keep h0 h [a1] ∧ Exa Z h a1 "com/example/ottawa/ottawa/TagPattern" ∧ Fld Z h a1 "com/example/ottawa/ottawa/TagPattern" "firstInside" "Lcom/example/ottawa/ottawa/KeptName;" .null ∧ Fld Z h a1 "com/example/ottawa/ottawa/TagPattern" "firstAfter" "Lcom/example/ottawa/ottawa/KeptName;" .null
set_option maxRecDepth 65536 in
set_option maxHeartbeats 40000000 in
theorem rm1 (l : Launch) (Z : State) (a0 : Array Value) (hw : ∀ d ∈ tables_1, d.before a0 Z = true) (ws : List Jvm.Cond) (a1 : Addr) (u0 : Value) (u1 : Value) (u2 : Value) (h0 : Heap) (n0 : Nat) (Z0 : n0 ≤ h0.size) (E1 : Exa Z h0 a1 "com/example/ottawa/ottawa/TagPattern") (F0 : Fld Z h0 a1 "com/example/ottawa/ottawa/TagPattern" "names" "[Lcom/example/ottawa/ottawa/KeptName;" u0) (F1 : Fld Z h0 a1 "com/example/ottawa/ottawa/TagPattern" "definitions" "[Lcom/example/ottawa/ottawa/AttributeDefinition;" u1) (F2 : Fld Z h0 a1 "com/example/ottawa/ottawa/TagPattern" "elementType" "Lcom/example/ottawa/ottawa/ElementType;" u2) (Fi : Fld Z h0 a1 "com/example/ottawa/ottawa/TagPattern" "firstInside" "Lcom/example/ottawa/ottawa/KeptName;" .null) (Fa : Fld Z h0 a1 "com/example/ottawa/ottawa/TagPattern" "firstAfter" "Lcom/example/ottawa/ottawa/KeptName;" .null) (g_a1 : n0 ≤ a1) :
    MetFree l (⟨"com/example/ottawa/ottawa/TagPattern", "<init>", "(Lcom/example/ottawa/ottawa/ElementType;)V"⟩ : MethodName) (head1 (Jvm.Cond.code (⟨"com/example/ottawa/ottawa/TagPattern", "<init>", "(Lcom/example/ottawa/ottawa/ElementType;)V"⟩ : MethodName) prog_51_method_1_code 2 none :: ws) ({ frames := 1, cells := 2, slots := 8, locals := 12 } : Room)) (fun a U => a = #[(.ref a1), .null] ∧ Z.Warmed39 U.vm ∧ U.heap = h0) (fun _ _ _ _ _ => True) (fun _ U o U' => ∃ v L, o = .returned v ∧ Qrm1 Z a1 u0 u1 u2 h0 n0 v U'.heap L ∧ FrameEnd U o U' L ({ frames := 1, cells := 2, slots := 8, locals := 12 } : Room).cells ({ frames := 1, cells := 2, slots := 8, locals := 12 } : Room).slots) := by
  refine MetFree.of_bodySF (plainFor_of_name pn_0) hisR ?_
  intro p e s m args below meth c s₁ Bd hml0 hP hK
  obtain ⟨rfl, hZ, hh⟩ := hP
  have hx := Bd.exec
  have hby := Bd.bytes
  have hml : c.maxLocals = 2 := hml0
  have hown : s.vm.findClass "com/example/ottawa/ottawa/TagPattern" = some m.cls := findClass_of_methodNamed Bd.named
  have hnm := (name_of_methodNamed Bd.named Bd.method).1
  have X0 : Stand p l e ({ frames := 1, cells := 2, slots := 8, locals := 12 } : Room) s m #[(.ref a1), .null] below meth c s₁ [] 0 0 := Stand.of_body Bd
  have e0 : s₁.heap = h0 := by rw [← hh, Bd.state]; rfl
  have N0 := Fr.nil n0
  show Go p.tables e below (fun o U' => ∃ v L, o = .returned v ∧ Qrm1 Z a1 u0 u1 u2 h0 n0 v U'.heap L ∧ FrameEnd s o U' L ({ frames := 1, cells := 2, slots := 8, locals := 12 } : Room).cells ({ frames := 1, cells := 2, slots := 8, locals := 12 } : Room).slots) _
  refine Go.step (fun t kt => castTop (ef_rm1 m a1 u0 u1 u2) kt) ?_
  show Go p.tables e below _ (s₁.setTop (mkF m 0 #[.val (.ref a1), .val .null] []))
  have K101 : Keep h0 h0 [a1] := (Keep.refl h0 [a1])
  refine Go.step (fun _ kt => XS.aloadN X0.here hx rfl (hb hby d1_0) rfl rfl kt) ?_
  show Go p.tables e below _ (s₁.setTop (mkF m 1 #[.val (.ref a1), .val .null] [(.ref a1)]))
  obtain ⟨T102, X102, e102, st102⟩ := initO X0 hx hZ hown (hw _ (List.mem_of_getElem? (i := 7) rfl)) (hw _ (List.mem_of_getElem? (i := 8) rfl)) (hw _ (List.mem_of_getElem? (i := 9) rfl)) e0 (g := (mkF m 1 #[.val (.ref a1), .val .null] [(.ref a1)])) rfl (by rw [hml]; rfl) rfl (hb hby d1_1) (by decide) (W := 0) (by show 2 * 0 + _ ≤ _; exact Nat.le_of_eq rfl) (by decide)
  refine Go.step st102 ?_
  show Go p.tables e below _ (T102.setTop (mkF m 4 #[.val (.ref a1), .val .null] []))
  refine Go.step (fun _ kt => XS.aloadN X102.here hx rfl (hb hby d1_4) rfl rfl (XS.iconst X102.here hx rfl (hb hby d1_5) kt)) ?_
  show Go p.tables e below _ (T102.setTop (mkF m 6 #[.val (.ref a1), .val .null] [(.int (4 : Int32)), (.ref a1)]))
  obtain ⟨T103, h103, k103, X103, e103, E103, A103, O103, st103⟩ := newR X102 hx hZ hown (hw _ (List.mem_of_getElem? (i := 10) rfl)) (hw _ (List.mem_of_getElem? (i := 11) rfl)) e102 (g := (mkF m 6 #[.val (.ref a1), .val .null] [(.int (4 : Int32)), (.ref a1)])) rfl (hb hby d1_6) rfl (by decide) (cap := 4) (by decide) (by decide) (by decide) (by decide)
  obtain ⟨b103, g103⟩ : ∃ z, z = h0.size := ⟨_, rfl⟩
  rw [← g103] at A103 st103
  refine Go.step st103 ?_
  have ne_a1_b103 : a1 ≠ b103 := Nat.ne_of_lt (Nat.lt_of_lt_of_le E1.lt (Nat.le_of_eq g103.symm))
  have g_b103 : n0 ≤ b103 := Nat.le_trans Z0 (Nat.le_of_eq g103.symm)
  have sz_b103 : h0.size ≤ b103 := Nat.le_trans K101.1 (Nat.le_of_eq g103.symm)
  have F104 : Exa Z h103 a1 "com/example/ottawa/ottawa/TagPattern" := (E1.ext E103)
  have F105 : Fld Z h103 a1 "com/example/ottawa/ottawa/TagPattern" "names" "[Lcom/example/ottawa/ottawa/KeptName;" u0 := (F0.ext E103)
  have F106 : Fld Z h103 a1 "com/example/ottawa/ottawa/TagPattern" "definitions" "[Lcom/example/ottawa/ottawa/AttributeDefinition;" u1 := (F1.ext E103)
  have F107 : Fld Z h103 a1 "com/example/ottawa/ottawa/TagPattern" "elementType" "Lcom/example/ottawa/ottawa/ElementType;" u2 := (F2.ext E103)
  have F108 : Fld Z h103 a1 "com/example/ottawa/ottawa/TagPattern" "firstInside" "Lcom/example/ottawa/ottawa/KeptName;" .null := (Fi.ext E103)
  have F109 : Fld Z h103 a1 "com/example/ottawa/ottawa/TagPattern" "firstAfter" "Lcom/example/ottawa/ottawa/KeptName;" .null := (Fa.ext E103)
  have Z110 : n0 ≤ h103.size := (Nat.le_trans Z0 E103.1)
  have K111 : Keep h0 h103 [a1] := (K101.ext E103)
  have V112 : Arv Z h103 b103 k103 (.object "com/example/ottawa/ottawa/KeptName") (4 : Int32) [] .null := Arv.new A103 (by decide)
  show Go p.tables e below _ (T103.setTop (mkF m 9 #[.val (.ref a1), .val .null] [(.ref b103), (.ref a1)]))
  obtain ⟨T113, h113, X113, e113, W113, st113⟩ := putF X103 hx hZ hown (host := "") (Or.inl (hw _ (List.mem_of_getElem? (i := 12) rfl))) Via.refl e103 F105 F104 (Or.inl (hw _ (List.mem_of_getElem? (i := 13) rfl))) (hw _ (List.mem_of_getElem? (i := 2) rfl)) (ty := (.array (.object "com/example/ottawa/ottawa/KeptName"))) (by decide) rfl rfl (g := (mkF m 9 #[.val (.ref a1), .val .null] [(.ref b103), (.ref a1)])) rfl rfl (hb hby d1_9)
  refine Go.step st113 ?_
  have N113 := Fr.snoc X113 N0 g_a1
  have F114 : Exa Z h113 a1 "com/example/ottawa/ottawa/TagPattern" := (F104.wr W113)
  have F115 : Fld Z h113 a1 "com/example/ottawa/ottawa/TagPattern" "definitions" "[Lcom/example/ottawa/ottawa/AttributeDefinition;" u1 := (F106.other W113 (Or.inr (slot_ne (Or.inl (hw _ (List.mem_of_getElem? (i := 17) rfl))) (Or.inl (hw _ (List.mem_of_getElem? (i := 13) rfl))) (by decide) (t := (.array (.object "com/example/ottawa/ottawa/AttributeDefinition"))) (t' := (.array (.object "com/example/ottawa/ottawa/KeptName"))) (by decide) (by decide))))
  have F116 : Fld Z h113 a1 "com/example/ottawa/ottawa/TagPattern" "elementType" "Lcom/example/ottawa/ottawa/ElementType;" u2 := (F107.other W113 (Or.inr (slot_ne (Or.inr (hw _ (List.mem_of_getElem? (i := 19) rfl))) (Or.inl (hw _ (List.mem_of_getElem? (i := 13) rfl))) (by decide) (t := (.object "com/example/ottawa/ottawa/ElementType")) (t' := (.array (.object "com/example/ottawa/ottawa/KeptName"))) (by decide) (by decide))))
  have F117 : Fld Z h113 a1 "com/example/ottawa/ottawa/TagPattern" "firstInside" "Lcom/example/ottawa/ottawa/KeptName;" .null := (F108.other W113 (Or.inr (slot_ne (Or.inl (hw _ (List.mem_of_getElem? (i := 160) rfl))) (Or.inl (hw _ (List.mem_of_getElem? (i := 13) rfl))) (by decide) (t := (.object "com/example/ottawa/ottawa/KeptName")) (t' := (.array (.object "com/example/ottawa/ottawa/KeptName"))) (by decide) (by decide))))
  have F118 : Fld Z h113 a1 "com/example/ottawa/ottawa/TagPattern" "firstAfter" "Lcom/example/ottawa/ottawa/KeptName;" .null := (F109.other W113 (Or.inr (slot_ne (Or.inl (hw _ (List.mem_of_getElem? (i := 162) rfl))) (Or.inl (hw _ (List.mem_of_getElem? (i := 13) rfl))) (by decide) (t := (.object "com/example/ottawa/ottawa/KeptName")) (t' := (.array (.object "com/example/ottawa/ottawa/KeptName"))) (by decide) (by decide))))
  have F119 : Arv Z h113 b103 k103 (.object "com/example/ottawa/ottawa/KeptName") (4 : Int32) [] .null := (V112.other W113 (Ne.symm ne_a1_b103))
  have Z120 : n0 ≤ h113.size := (Nat.le_trans Z110 (Nat.le_of_eq W113.size.symm))
  have K121 : Keep h0 h113 [a1] := (K111.wr W113 (Or.inl (List.mem_of_getElem? (i := 0) rfl)))
  show Go p.tables e below _ (T113.setTop (mkF m 12 #[.val (.ref a1), .val .null] []))
  refine Go.step (fun _ kt => XS.aloadN X113.here hx rfl (hb hby d1_12) rfl rfl (XS.iconst X113.here hx rfl (hb hby d1_13) kt)) ?_
  show Go p.tables e below _ (T113.setTop (mkF m 14 #[.val (.ref a1), .val .null] [(.int (4 : Int32)), (.ref a1)]))
  obtain ⟨T122, h122, k122, X122, e122, E122, A122, O122, st122⟩ := newR X113 hx hZ hown (hw _ (List.mem_of_getElem? (i := 14) rfl)) (hw _ (List.mem_of_getElem? (i := 15) rfl)) e113 (g := (mkF m 14 #[.val (.ref a1), .val .null] [(.int (4 : Int32)), (.ref a1)])) rfl (hb hby d1_14) rfl (by decide) (cap := 4) (by decide) (by decide) (by decide) (by decide)
  obtain ⟨b122, g122⟩ : ∃ z, z = h113.size := ⟨_, rfl⟩
  rw [← g122] at A122 st122
  refine Go.step st122 ?_
  have ne_a1_b122 : a1 ≠ b122 := Nat.ne_of_lt (Nat.lt_of_lt_of_le F114.lt (Nat.le_of_eq g122.symm))
  have ne_b103_b122 : b103 ≠ b122 := Nat.ne_of_lt (Nat.lt_of_lt_of_le F119.lt (Nat.le_of_eq g122.symm))
  have g_b122 : n0 ≤ b122 := Nat.le_trans Z120 (Nat.le_of_eq g122.symm)
  have sz_b122 : h0.size ≤ b122 := Nat.le_trans K121.1 (Nat.le_of_eq g122.symm)
  have F123 : Exa Z h122 a1 "com/example/ottawa/ottawa/TagPattern" := (F114.ext E122)
  have F124 : Fld Z h122 a1 "com/example/ottawa/ottawa/TagPattern" "definitions" "[Lcom/example/ottawa/ottawa/AttributeDefinition;" u1 := (F115.ext E122)
  have F125 : Fld Z h122 a1 "com/example/ottawa/ottawa/TagPattern" "elementType" "Lcom/example/ottawa/ottawa/ElementType;" u2 := (F116.ext E122)
  have F126 : Fld Z h122 a1 "com/example/ottawa/ottawa/TagPattern" "firstInside" "Lcom/example/ottawa/ottawa/KeptName;" .null := (F117.ext E122)
  have F127 : Fld Z h122 a1 "com/example/ottawa/ottawa/TagPattern" "firstAfter" "Lcom/example/ottawa/ottawa/KeptName;" .null := (F118.ext E122)
  have F128 : Arv Z h122 b103 k103 (.object "com/example/ottawa/ottawa/KeptName") (4 : Int32) [] .null := (F119.ext E122)
  have Z129 : n0 ≤ h122.size := (Nat.le_trans Z120 E122.1)
  have K130 : Keep h0 h122 [a1] := (K121.ext E122)
  have V131 : Arv Z h122 b122 k122 (.object "com/example/ottawa/ottawa/AttributeDefinition") (4 : Int32) [] .null := Arv.new A122 (by decide)
  show Go p.tables e below _ (T122.setTop (mkF m 17 #[.val (.ref a1), .val .null] [(.ref b122), (.ref a1)]))
  obtain ⟨T132, h132, X132, e132, W132, st132⟩ := putF X122 hx hZ hown (host := "") (Or.inl (hw _ (List.mem_of_getElem? (i := 16) rfl))) Via.refl e122 F124 F123 (Or.inl (hw _ (List.mem_of_getElem? (i := 17) rfl))) (hw _ (List.mem_of_getElem? (i := 2) rfl)) (ty := (.array (.object "com/example/ottawa/ottawa/AttributeDefinition"))) (by decide) rfl rfl (g := (mkF m 17 #[.val (.ref a1), .val .null] [(.ref b122), (.ref a1)])) rfl rfl (hb hby d1_17)
  refine Go.step st132 ?_
  have N132 := Fr.snoc X132 N113 g_a1
  have F133 : Exa Z h132 a1 "com/example/ottawa/ottawa/TagPattern" := (F123.wr W132)
  have F134 : Fld Z h132 a1 "com/example/ottawa/ottawa/TagPattern" "elementType" "Lcom/example/ottawa/ottawa/ElementType;" u2 := (F125.other W132 (Or.inr (slot_ne (Or.inr (hw _ (List.mem_of_getElem? (i := 19) rfl))) (Or.inl (hw _ (List.mem_of_getElem? (i := 17) rfl))) (by decide) (t := (.object "com/example/ottawa/ottawa/ElementType")) (t' := (.array (.object "com/example/ottawa/ottawa/AttributeDefinition"))) (by decide) (by decide))))
  have F135 : Fld Z h132 a1 "com/example/ottawa/ottawa/TagPattern" "firstInside" "Lcom/example/ottawa/ottawa/KeptName;" .null := (F126.other W132 (Or.inr (slot_ne (Or.inl (hw _ (List.mem_of_getElem? (i := 160) rfl))) (Or.inl (hw _ (List.mem_of_getElem? (i := 17) rfl))) (by decide) (t := (.object "com/example/ottawa/ottawa/KeptName")) (t' := (.array (.object "com/example/ottawa/ottawa/AttributeDefinition"))) (by decide) (by decide))))
  have F136 : Fld Z h132 a1 "com/example/ottawa/ottawa/TagPattern" "firstAfter" "Lcom/example/ottawa/ottawa/KeptName;" .null := (F127.other W132 (Or.inr (slot_ne (Or.inl (hw _ (List.mem_of_getElem? (i := 162) rfl))) (Or.inl (hw _ (List.mem_of_getElem? (i := 17) rfl))) (by decide) (t := (.object "com/example/ottawa/ottawa/KeptName")) (t' := (.array (.object "com/example/ottawa/ottawa/AttributeDefinition"))) (by decide) (by decide))))
  have F137 : Arv Z h132 b103 k103 (.object "com/example/ottawa/ottawa/KeptName") (4 : Int32) [] .null := (F128.other W132 (Ne.symm ne_a1_b103))
  have F138 : Arv Z h132 b122 k122 (.object "com/example/ottawa/ottawa/AttributeDefinition") (4 : Int32) [] .null := (V131.other W132 (Ne.symm ne_a1_b122))
  have Z139 : n0 ≤ h132.size := (Nat.le_trans Z129 (Nat.le_of_eq W132.size.symm))
  have K140 : Keep h0 h132 [a1] := (K130.wr W132 (Or.inl (List.mem_of_getElem? (i := 0) rfl)))
  show Go p.tables e below _ (T132.setTop (mkF m 20 #[.val (.ref a1), .val .null] []))
  refine Go.step (fun _ kt => XS.aloadN X132.here hx rfl (hb hby d1_20) rfl rfl (XS.aloadN X132.here hx rfl (hb hby d1_21) rfl rfl kt)) ?_
  show Go p.tables e below _ (T132.setTop (mkF m 22 #[.val (.ref a1), .val .null] [.null, (.ref a1)]))
  obtain ⟨T141, h141, X141, e141, W141, st141⟩ := putF X132 hx hZ hown (host := "") (Or.inl (hw _ (List.mem_of_getElem? (i := 18) rfl))) Via.refl e132 F134 F133 (Or.inr ⟨(hw _ (List.mem_of_getElem? (i := 19) rfl)), rfl, hnm⟩) (hw _ (List.mem_of_getElem? (i := 2) rfl)) (ty := (.object "com/example/ottawa/ottawa/ElementType")) (by decide) rfl rfl (g := (mkF m 22 #[.val (.ref a1), .val .null] [.null, (.ref a1)])) rfl rfl (hb hby d1_22)
  refine Go.step st141 ?_
  have N141 := Fr.snoc X141 N132 g_a1
  have F142 : Exa Z h141 a1 "com/example/ottawa/ottawa/TagPattern" := (F133.wr W141)
  have F143 : Fld Z h141 a1 "com/example/ottawa/ottawa/TagPattern" "firstInside" "Lcom/example/ottawa/ottawa/KeptName;" .null := (F135.other W141 (Or.inr (slot_ne (Or.inl (hw _ (List.mem_of_getElem? (i := 160) rfl))) (Or.inr (hw _ (List.mem_of_getElem? (i := 19) rfl))) (by decide) (t := (.object "com/example/ottawa/ottawa/KeptName")) (t' := (.object "com/example/ottawa/ottawa/ElementType")) (by decide) (by decide))))
  have F144 : Fld Z h141 a1 "com/example/ottawa/ottawa/TagPattern" "firstAfter" "Lcom/example/ottawa/ottawa/KeptName;" .null := (F136.other W141 (Or.inr (slot_ne (Or.inl (hw _ (List.mem_of_getElem? (i := 162) rfl))) (Or.inr (hw _ (List.mem_of_getElem? (i := 19) rfl))) (by decide) (t := (.object "com/example/ottawa/ottawa/KeptName")) (t' := (.object "com/example/ottawa/ottawa/ElementType")) (by decide) (by decide))))
  have F145 : Arv Z h141 b103 k103 (.object "com/example/ottawa/ottawa/KeptName") (4 : Int32) [] .null := (F137.other W141 (Ne.symm ne_a1_b103))
  have F146 : Arv Z h141 b122 k122 (.object "com/example/ottawa/ottawa/AttributeDefinition") (4 : Int32) [] .null := (F138.other W141 (Ne.symm ne_a1_b122))
  have Z147 : n0 ≤ h141.size := (Nat.le_trans Z139 (Nat.le_of_eq W141.size.symm))
  have K148 : Keep h0 h141 [a1] := (K140.wr W141 (Or.inl (List.mem_of_getElem? (i := 0) rfl)))
  show Go p.tables e below _ (T141.setTop (mkF m 25 #[.val (.ref a1), .val .null] []))
  obtain ⟨fs, hr, hrun, hended, hW, hsame⟩ := X141.leave (v := none) (fun _ => rfl)
  refine ⟨_, _, X141.returnOut hx Bd.returns (hb hby d1_25) hr, hrun, hended, _, _, rfl, ?_, ⟨_, rfl⟩, hW, hsame.mono (by decide) (by decide)⟩
  show Qrm1 Z a1 u0 u1 u2 h0 n0 _ T141.heap _
  rw [e141]
  refine ⟨?_, N141, K148, F142, F143, F144⟩
  rfl
theorem own_sta_keep {Z : State} {h h' : Heap} {C n d K : String} {v : Value} {a : Addr} (F : Sta Z h C n d v) (E : Exa Z h a K) (Kp : Keep h h' [a]) : Sta Z h' C n d v := by
  obtain ⟨cf, i, k, f, st, cell, h1, h2, h3, h4, h5, h6, h7⟩ := F
  refine ⟨cf, i, k, f, st, cell, h1, h2, h3, h4, Kp.2.1 st cell h5 ?_, h6, h7⟩
  intro q
  cases List.mem_singleton.mp q
  obtain ⟨c', k', e1, _, _, e4, _⟩ := E
  cases h5.symm.trans e1
  rw [h6] at e4
  cases e4
theorem own_sta_keep0 {Z : State} {h h' : Heap} {C n d : String} {v : Value} (F : Sta Z h C n d v) (Kp : Keep h h' []) : Sta Z h' C n d v := by
  obtain ⟨cf, i, k, f, st, cell, h1, h2, h3, h4, h5, h6, h7⟩ := F
  exact ⟨cf, i, k, f, st, cell, h1, h2, h3, h4, Kp.2.1 st cell h5 (by simp), h6, h7⟩
theorem pn_1 : plainName "com/example/ottawa/ottawa/Name" = true := by first | (simp [plainName, overriddenIn]; done) | decide +kernel
theorem d20_0 : decode prog_26_method_9_code 0 = .ok (.aload_n 0, 1) := by decide +kernel
theorem d20_1 : decode prog_26_method_9_code 1 = .ok (.getfield 29, 3) := by decide +kernel
theorem d20_4 : decode prog_26_method_9_code 4 = .ok (.ifCond .ge 9, 3) := by decide +kernel
theorem d20_7 : decode prog_26_method_9_code 7 = .ok (.ldc 65, 2) := by decide +kernel
theorem d20_9 : decode prog_26_method_9_code 9 = .ok (.astore_n 1, 1) := by decide +kernel
theorem d20_10 : decode prog_26_method_9_code 10 = .ok (.goto 29, 3) := by decide +kernel
theorem d20_39 : decode prog_26_method_9_code 39 = .ok (.aload_n 1, 1) := by decide +kernel
theorem d20_40 : decode prog_26_method_9_code 40 = .ok (.areturn, 1) := by decide +kernel
theorem ef_rm20 (m : MethodId) (a1 : Addr) : entryFrame m #[(.ref a1)] 2 = mkF m 0 #[.val (.ref a1), .unset] [] := by first | (simp [entryFrame, mkF, argsToLocals, Value.category]; done) | rfl
def Qrm20 (Z : State) (a1 : Addr) (h0 : Heap) (n0 : Nat) (v : Option Value) (h : Heap) (L : List Loc) : Prop := ∃ r : Addr, v = some (.ref r) ∧ Fr n0 L ∧ Keep h0 h []
set_option maxRecDepth 65536 in
set_option maxHeartbeats 40000000 in
theorem rm20 (l : Launch) (Z : State) (a0 : Array Value) (hw : ∀ d ∈ tables_1, d.before a0 Z = true) (ws : List Jvm.Cond) (a1 : Addr) (h0 : Heap) (n0 : Nat) (Z0 : n0 ≤ h0.size) (F1 : Fld Z h0 a1 "com/example/ottawa/ottawa/Name" "colon" "I" (.int (-1 : Int32))) :
    MetFree l (⟨"com/example/ottawa/ottawa/Name", "prefix", "()Ljava/lang/String;"⟩ : MethodName) (head1 (Jvm.Cond.code (⟨"com/example/ottawa/ottawa/Name", "prefix", "()Ljava/lang/String;"⟩ : MethodName) prog_26_method_9_code 2 (some (.object "java/lang/String")) :: ws) ({ frames := 0, cells := 2, slots := 4, locals := 0 } : Room)) (fun a U => a = #[(.ref a1)] ∧ Z.Warmed39 U.vm ∧ U.heap = h0 ∧ CHv Z own_EL U.vm h0) (fun _ _ _ _ _ => True) (fun _ U o U' => ∃ v L, o = .returned v ∧ Qrm20 Z a1 h0 n0 v U'.heap L ∧ CHr Z own_EL U.vm U.heap U'.vm U'.heap ∧ ReturnedEndW U o U' L ({ frames := 0, cells := 2, slots := 4, locals := 0 } : Room).cells ({ frames := 0, cells := 2, slots := 4, locals := 0 } : Room).slots) := by
  refine MetFree.of_bodySF (plainFor_of_name pn_1) hisR ?_
  intro p e s m args below meth c s₁ Bd hml0 hP hK
  obtain ⟨rfl, hZ, hh, hCH⟩ := hP
  have hx := Bd.exec
  have hby := Bd.bytes
  have hml : c.maxLocals = 2 := hml0
  have hown : s.vm.findClass "com/example/ottawa/ottawa/Name" = some m.cls := findClass_of_methodNamed Bd.named
  have hnm := (name_of_methodNamed Bd.named Bd.method).1
  have X0 : Stand p l e ({ frames := 0, cells := 2, slots := 4, locals := 0 } : Room) (s.setVm s.vm) m #[(.ref a1)] below meth c s₁ [] 0 0 := Stand.of_body Bd
  have e0 : s₁.heap = h0 := by rw [← hh, Bd.state]; rfl
  have N0 := Fr.nil n0
  have hS0 : s.Since s.vm s.heap.size := (State.WarmedH.refl s).since _
  have hk0 : s.heap.size ≤ h0.size := Nat.le_of_eq (congrArg Array.size hh)
  have C0 := CHr.refl hCH
  show Go p.tables e below (fun o U' => ∃ v L, o = .returned v ∧ Qrm20 Z a1 h0 n0 v U'.heap L ∧ CHr Z own_EL s.vm s.heap U'.vm U'.heap ∧ ReturnedEndW s o U' L ({ frames := 0, cells := 2, slots := 4, locals := 0 } : Room).cells ({ frames := 0, cells := 2, slots := 4, locals := 0 } : Room).slots) _
  refine Go.step (fun t kt => castTop (ef_rm20 m a1) kt) ?_
  show Go p.tables e below _ (s₁.setTop (mkF m 0 #[.val (.ref a1), .unset] []))
  have K101 : Keep h0 h0 [] := (Keep.refl h0 [])
  refine Go.step (fun _ kt => XS.aloadN X0.here hx rfl (hb hby d20_0) rfl rfl kt) ?_
  show Go p.tables e below _ (s₁.setTop (mkF m 1 #[.val (.ref a1), .unset] [(.ref a1)]))
  obtain ⟨T102, X102, e102, st102⟩ := getF X0 hx hZ hown (host := "") (Or.inl (hw _ (List.mem_of_getElem? (i := 92) rfl))) Via.refl e0 F1 (g := (mkF m 1 #[.val (.ref a1), .unset] [(.ref a1)])) rfl rfl (hb hby d20_1)
  refine Go.step st102 ?_
  show Go p.tables e below _ (T102.setTop (mkF m 4 #[.val (.ref a1), .unset] [(.int (-1 : Int32))]))
  refine Go.step (fun _ kt => XS.ifNo X102.here hx rfl (hb hby d20_4) rfl ((if0 _ _).trans (tlt (by decide : (-1 : Int32) < (0 : Int32))).2.1) kt) ?_
  show Go p.tables e below _ (T102.setTop (mkF m 7 #[.val (.ref a1), .unset] []))
  obtain ⟨b103, T103, h103, k103, ba103, kc103, X103, e103, E103, hS103, hk103, hZ, hown, Ex103, Fc103, Fv103, Vb103, lt103, ltb103, Cq103, Li103, Ne103, st103⟩ := ldcCH (s := s) (EL := own_EL) X102 hx hZ hown (hw _ (List.mem_of_getElem? (i := 131) rfl)) (own_wS hw) e102 hS0 hk0 (own_EW hw) (by decide) C0.1 (vs := []) (z := (0 : Int32)) (by decide) (by decide) rfl (g := (mkF m 7 #[.val (.ref a1), .unset] [])) rfl (hb hby d20_7) (n := 0) (by decide) (by decide) (by decide) (by decide)
  refine Go.step st103 ?_
  have F104 : Fld Z h103 a1 "com/example/ottawa/ottawa/Name" "colon" "I" (.int (-1 : Int32)) := (F1.ext E103)
  have Z105 : n0 ≤ h103.size := (Nat.le_trans Z0 E103.1)
  have C106 := (C0.trans Cq103)
  have K107 : Keep h0 h103 [] := (K101.ext E103)
  show Go p.tables e below _ (T103.setTop (mkF m 9 #[.val (.ref a1), .unset] [(.ref b103)]))
  refine Go.step (fun _ kt => XS.astoreN X103.here hx rfl (hb hby d20_9) rfl rfl (l' := #[.val (.ref a1), .val (.ref b103)]) rfl (XS.goto X103.here hx rfl (pc0 := 10) (pc' := 39) rfl (hb hby d20_10) (by decide) (by decide) (XS.aloadN X103.here hx rfl (hb hby d20_39) rfl rfl kt))) ?_
  show Go p.tables e below _ (T103.setTop (mkF m 40 #[.val (.ref a1), .val (.ref b103)] [(.ref b103)]))
  obtain ⟨fs, hr, hrun, hended, hRW⟩ := X103.leaveW hS103 (by rw [e103]; exact hk103) (v := some (.ref b103)) (fun h => by rw [Bd.returns] at h; cases h)
  refine ⟨_, _, retOut X103 hx Bd.returns rfl (Or.inr (Or.inr (Or.inr (Or.inr ⟨rfl, rfl, rfl⟩)))) (hb hby d20_40) hr, hrun, hended, _, _, rfl, ?_, (by have q := C106.trans (CHv.at X103 hZ (own_EW hw) C106.1); rw [hh]; rw [← e103] at q; exact q), hRW.1, hRW.2.1, hRW.2.2.1, hRW.2.2.2.mono (by decide) (by decide)⟩
  show Qrm20 Z a1 h0 n0 _ T103.heap _
  rw [e103]
  refine ⟨b103, ?_, N0, K107⟩
  rfl
theorem d21_0 : decode prog_26_method_10_code 0 = .ok (.aload_n 0, 1) := by decide +kernel
theorem d21_1 : decode prog_26_method_10_code 1 = .ok (.getfield 29, 3) := by decide +kernel
theorem d21_4 : decode prog_26_method_10_code 4 = .ok (.ifCond .ge 10, 3) := by decide +kernel
theorem d21_7 : decode prog_26_method_10_code 7 = .ok (.aload_n 0, 1) := by decide +kernel
theorem d21_8 : decode prog_26_method_10_code 8 = .ok (.getfield 7, 3) := by decide +kernel
theorem d21_11 : decode prog_26_method_10_code 11 = .ok (.goto 16, 3) := by decide +kernel
theorem d21_27 : decode prog_26_method_10_code 27 = .ok (.areturn, 1) := by decide +kernel
theorem ef_rm21 (m : MethodId) (a1 : Addr) (tx : Addr) : entryFrame m #[(.ref a1)] 1 = mkF m 0 #[.val (.ref a1)] [] := by first | (simp [entryFrame, mkF, argsToLocals, Value.category]; done) | rfl
def Qrm21 (Z : State) (a1 : Addr) (tx : Addr) (h0 : Heap) (n0 : Nat) (v : Option Value) (h : Heap) (L : List Loc) : Prop := v = some (.ref tx) ∧ Fr n0 L ∧ h = h0
set_option maxRecDepth 65536 in
set_option maxHeartbeats 40000000 in
theorem rm21 (l : Launch) (Z : State) (a0 : Array Value) (hw : ∀ d ∈ tables_1, d.before a0 Z = true) (ws : List Jvm.Cond) (a1 : Addr) (tx : Addr) (h0 : Heap) (n0 : Nat) (Z0 : n0 ≤ h0.size) (F1 : Fld Z h0 a1 "com/example/ottawa/ottawa/Name" "colon" "I" (.int (-1 : Int32))) (F2 : Fld Z h0 a1 "com/example/ottawa/ottawa/Name" "text" "Ljava/lang/String;" (.ref tx)) :
    MetFree l (⟨"com/example/ottawa/ottawa/Name", "localPart", "()Ljava/lang/String;"⟩ : MethodName) (head1 (Jvm.Cond.code (⟨"com/example/ottawa/ottawa/Name", "localPart", "()Ljava/lang/String;"⟩ : MethodName) prog_26_method_10_code 1 (some (.object "java/lang/String")) :: ws) ({ frames := 0, cells := 0, slots := 0, locals := 0 } : Room)) (fun a U => a = #[(.ref a1)] ∧ Z.Warmed39 U.vm ∧ U.heap = h0) (fun _ _ _ _ _ => True) (fun _ U o U' => ∃ v L, o = .returned v ∧ Qrm21 Z a1 tx h0 n0 v U'.heap L ∧ FrameEnd U o U' L ({ frames := 0, cells := 0, slots := 0, locals := 0 } : Room).cells ({ frames := 0, cells := 0, slots := 0, locals := 0 } : Room).slots) := by
  refine MetFree.of_bodySF (plainFor_of_name pn_1) hisR ?_
  intro p e s m args below meth c s₁ Bd hml0 hP hK
  obtain ⟨rfl, hZ, hh⟩ := hP
  have hx := Bd.exec
  have hby := Bd.bytes
  have hml : c.maxLocals = 1 := hml0
  have hown : s.vm.findClass "com/example/ottawa/ottawa/Name" = some m.cls := findClass_of_methodNamed Bd.named
  have hnm := (name_of_methodNamed Bd.named Bd.method).1
  have X0 : Stand p l e ({ frames := 0, cells := 0, slots := 0, locals := 0 } : Room) s m #[(.ref a1)] below meth c s₁ [] 0 0 := Stand.of_body Bd
  have e0 : s₁.heap = h0 := by rw [← hh, Bd.state]; rfl
  have N0 := Fr.nil n0
  show Go p.tables e below (fun o U' => ∃ v L, o = .returned v ∧ Qrm21 Z a1 tx h0 n0 v U'.heap L ∧ FrameEnd s o U' L ({ frames := 0, cells := 0, slots := 0, locals := 0 } : Room).cells ({ frames := 0, cells := 0, slots := 0, locals := 0 } : Room).slots) _
  refine Go.step (fun t kt => castTop (ef_rm21 m a1 tx) kt) ?_
  show Go p.tables e below _ (s₁.setTop (mkF m 0 #[.val (.ref a1)] []))
  refine Go.step (fun _ kt => XS.aloadN X0.here hx rfl (hb hby d21_0) rfl rfl kt) ?_
  show Go p.tables e below _ (s₁.setTop (mkF m 1 #[.val (.ref a1)] [(.ref a1)]))
  obtain ⟨T101, X101, e101, st101⟩ := getF X0 hx hZ hown (host := "") (Or.inl (hw _ (List.mem_of_getElem? (i := 92) rfl))) Via.refl e0 F1 (g := (mkF m 1 #[.val (.ref a1)] [(.ref a1)])) rfl rfl (hb hby d21_1)
  refine Go.step st101 ?_
  show Go p.tables e below _ (T101.setTop (mkF m 4 #[.val (.ref a1)] [(.int (-1 : Int32))]))
  refine Go.step (fun _ kt => XS.ifNo X101.here hx rfl (hb hby d21_4) rfl ((if0 _ _).trans (tlt (by decide : (-1 : Int32) < (0 : Int32))).2.1) (XS.aloadN X101.here hx rfl (hb hby d21_7) rfl rfl kt)) ?_
  show Go p.tables e below _ (T101.setTop (mkF m 8 #[.val (.ref a1)] [(.ref a1)]))
  obtain ⟨T102, X102, e102, st102⟩ := getF X101 hx hZ hown (host := "") (Or.inl (hw _ (List.mem_of_getElem? (i := 40) rfl))) Via.refl e101 F2 (g := (mkF m 8 #[.val (.ref a1)] [(.ref a1)])) rfl rfl (hb hby d21_8)
  refine Go.step st102 ?_
  show Go p.tables e below _ (T102.setTop (mkF m 11 #[.val (.ref a1)] [(.ref tx)]))
  refine Go.step (fun _ kt => XS.goto X102.here hx rfl (pc0 := 11) (pc' := 27) rfl (hb hby d21_11) (by decide) (by decide) kt) ?_
  show Go p.tables e below _ (T102.setTop (mkF m 27 #[.val (.ref a1)] [(.ref tx)]))
  obtain ⟨fs, hr, hrun, hended, hW, hsame⟩ := X102.leave (v := some (.ref tx)) (fun h => by rw [Bd.returns] at h; cases h)
  refine ⟨_, _, retOut X102 hx Bd.returns rfl (Or.inr (Or.inr (Or.inr (Or.inr ⟨rfl, rfl, rfl⟩)))) (hb hby d21_27) hr, hrun, hended, _, _, rfl, ?_, ⟨_, rfl⟩, hW, hsame.mono (by decide) (by decide)⟩
  show Qrm21 Z a1 tx h0 n0 _ T102.heap _
  rw [e102]
  refine ⟨?_, N0, rfl⟩
  rfl
theorem pd_0 : parseMethodDescriptor "(Lcom/example/ottawa/ottawa/ElementType;)V" = some ⟨[(.object "com/example/ottawa/ottawa/ElementType")], none⟩ := by decide +kernel
theorem pn_2 : plainName "java/lang/String" = true := by first | (simp [plainName, overriddenIn]; done) | decide +kernel
theorem d6_0 : decode jdk_42_method_152_code 0 = .ok (.getstatic 38, 3) := by decide +kernel
theorem d6_3 : decode jdk_42_method_152_code 3 = .ok (.ifCond .eq 10, 3) := by decide +kernel
theorem d6_6 : decode jdk_42_method_152_code 6 = .ok (.aload_n 0, 1) := by decide +kernel
theorem d6_7 : decode jdk_42_method_152_code 7 = .ok (.getfield 15, 3) := by decide +kernel
theorem d6_10 : decode jdk_42_method_152_code 10 = .ok (.goto 4, 3) := by decide +kernel
theorem d6_14 : decode jdk_42_method_152_code 14 = .ok (.ireturn, 1) := by decide +kernel
theorem ef_rmcoder2 (m : MethodId) (a1 : Addr) (b1 : Addr) (k1 : ClassId) (cs : Int32) (ch : Int32) : entryFrame m #[(.ref a1)] 1 = mkF m 0 #[.val (.ref a1)] [] := by first | (simp [entryFrame, mkF, argsToLocals, Value.category]; done) | rfl
def Qrmcoder2 (Z : State) (a1 : Addr) (b1 : Addr) (k1 : ClassId) (cs : Int32) (ch : Int32) (h0 : Heap) (n0 : Nat) (v : Option Value) (h : Heap) (L : List Loc) : Prop := v = some (.int (0 : Int32)) ∧ Fr n0 L ∧ h = h0
set_option maxRecDepth 65536 in
set_option maxHeartbeats 40000000 in
theorem rmcoder2 (l : Launch) (Z : State) (a0 : Array Value) (hw : ∀ d ∈ tables_1, d.before a0 Z = true) (ws : List Jvm.Cond) (a1 : Addr) (b1 : Addr) (k1 : ClassId) (cs : Int32) (ch : Int32) (h0 : Heap) (n0 : Nat) (Z0 : n0 ≤ h0.size) (E1 : Exa Z h0 a1 "java/lang/String") (Fc1 : Fld Z h0 a1 "java/lang/String" "coder" "B" (.int (0 : Int32))) (Fv1 : Fld Z h0 a1 "java/lang/String" "value" "[B" (.ref b1)) (V1 : Arv Z h0 b1 k1 .byte (1 : Int32) [(.int ch)] (.int (0 : Int32))) (S_cs : Sta Z h0 "java/lang/String" "COMPACT_STRINGS" "Z" (.int cs)) (hcs : ¬ cs = 0) (h58 : ¬ ch = 58) :
    MetFree l (⟨"java/lang/String", "coder", "()B"⟩ : MethodName) (head1 (Jvm.Cond.code (⟨"java/lang/String", "coder", "()B"⟩ : MethodName) jdk_42_method_152_code 1 (some .byte) :: ws) ({ frames := 0, cells := 0, slots := 0, locals := 0 } : Room)) (fun a U => a = #[(.ref a1)] ∧ Z.Warmed39 U.vm ∧ U.heap = h0) (fun _ _ _ _ _ => True) (fun _ U o U' => ∃ v L, o = .returned v ∧ Qrmcoder2 Z a1 b1 k1 cs ch h0 n0 v U'.heap L ∧ FrameEnd U o U' L ({ frames := 0, cells := 0, slots := 0, locals := 0 } : Room).cells ({ frames := 0, cells := 0, slots := 0, locals := 0 } : Room).slots) := by
  refine MetFree.of_bodySF (plainFor_of_name pn_2) hisR ?_
  intro p e s m args below meth c s₁ Bd hml0 hP hK
  obtain ⟨rfl, hZ, hh⟩ := hP
  have hx := Bd.exec
  have hby := Bd.bytes
  have hml : c.maxLocals = 1 := hml0
  have hown : s.vm.findClass "java/lang/String" = some m.cls := findClass_of_methodNamed Bd.named
  have hnm := (name_of_methodNamed Bd.named Bd.method).1
  have X0 : Stand p l e ({ frames := 0, cells := 0, slots := 0, locals := 0 } : Room) s m #[(.ref a1)] below meth c s₁ [] 0 0 := Stand.of_body Bd
  have e0 : s₁.heap = h0 := by rw [← hh, Bd.state]; rfl
  have N0 := Fr.nil n0
  show Go p.tables e below (fun o U' => ∃ v L, o = .returned v ∧ Qrmcoder2 Z a1 b1 k1 cs ch h0 n0 v U'.heap L ∧ FrameEnd s o U' L ({ frames := 0, cells := 0, slots := 0, locals := 0 } : Room).cells ({ frames := 0, cells := 0, slots := 0, locals := 0 } : Room).slots) _
  refine Go.step (fun t kt => castTop (ef_rmcoder2 m a1 b1 k1 cs ch) kt) ?_
  show Go p.tables e below _ (s₁.setTop (mkF m 0 #[.val (.ref a1)] []))
  obtain ⟨T101, X101, e101, st101⟩ := getS2 X0 hx hZ hown (host := "") (Or.inl (hw _ (List.mem_of_getElem? (i := 55) rfl))) Via.refl e0 S_cs (g := (mkF m 0 #[.val (.ref a1)] [])) rfl (hb hby d6_0)
  refine Go.step st101 ?_
  show Go p.tables e below _ (T101.setTop (mkF m 3 #[.val (.ref a1)] [(.int cs)]))
  refine Go.step (fun _ kt => XS.ifNo X101.here hx rfl (hb hby d6_3) rfl ((if0 _ _).trans (feq hcs).1) (XS.aloadN X101.here hx rfl (hb hby d6_6) rfl rfl kt)) ?_
  show Go p.tables e below _ (T101.setTop (mkF m 7 #[.val (.ref a1)] [(.ref a1)]))
  obtain ⟨T102, X102, e102, st102⟩ := getF X101 hx hZ hown (host := "") (Or.inl (hw _ (List.mem_of_getElem? (i := 56) rfl))) Via.refl e101 Fc1 (g := (mkF m 7 #[.val (.ref a1)] [(.ref a1)])) rfl rfl (hb hby d6_7)
  refine Go.step st102 ?_
  show Go p.tables e below _ (T102.setTop (mkF m 10 #[.val (.ref a1)] [(.int (0 : Int32))]))
  refine Go.step (fun _ kt => XS.goto X102.here hx rfl (pc0 := 10) (pc' := 14) rfl (hb hby d6_10) (by decide) (by decide) kt) ?_
  show Go p.tables e below _ (T102.setTop (mkF m 14 #[.val (.ref a1)] [(.int (0 : Int32))]))
  obtain ⟨fs, hr, hrun, hended, hW, hsame⟩ := X102.leave (v := some (.int (0 : Int32))) (fun h => by rw [Bd.returns] at h; cases h)
  refine ⟨_, _, retN X102 hx (t := .byte) Bd.returns (by simp) (hb hby d6_14) hr, hrun, hended, _, _, rfl, ?_, ⟨_, rfl⟩, hW, hsame.mono (by decide) (by decide)⟩
  show Qrmcoder2 Z a1 b1 k1 cs ch h0 n0 _ T102.heap _
  rw [e102]
  refine ⟨?_, N0, rfl⟩
  rfl
theorem pd_1 : parseMethodDescriptor "()B" = some ⟨[], some .byte⟩ := by decide +kernel
theorem d5_0 : decode jdk_42_method_54_code 0 = .ok (.aload_n 0, 1) := by decide +kernel
theorem d5_1 : decode jdk_42_method_54_code 1 = .ok (.getfield 9, 3) := by decide +kernel
theorem d5_4 : decode jdk_42_method_54_code 4 = .ok (.arraylength, 1) := by decide +kernel
theorem d5_5 : decode jdk_42_method_54_code 5 = .ok (.aload_n 0, 1) := by decide +kernel
theorem d5_6 : decode jdk_42_method_54_code 6 = .ok (.invokevirtual 335, 3) := by decide +kernel
theorem d5_9 : decode jdk_42_method_54_code 9 = .ok (.ishr, 1) := by decide +kernel
theorem d5_10 : decode jdk_42_method_54_code 10 = .ok (.ireturn, 1) := by decide +kernel
theorem ef_rmlength1 (m : MethodId) (a1 : Addr) (b1 : Addr) (k1 : ClassId) (cs : Int32) (ch : Int32) : entryFrame m #[(.ref a1)] 1 = mkF m 0 #[.val (.ref a1)] [] := by first | (simp [entryFrame, mkF, argsToLocals, Value.category]; done) | rfl
def Qrmlength1 (Z : State) (a1 : Addr) (b1 : Addr) (k1 : ClassId) (cs : Int32) (ch : Int32) (h0 : Heap) (n0 : Nat) (v : Option Value) (h : Heap) (L : List Loc) : Prop := v = some (.int (1 : Int32)) ∧ Fr n0 L ∧ h = h0
set_option maxRecDepth 65536 in
set_option maxHeartbeats 40000000 in
theorem rmlength1 (l : Launch) (Z : State) (a0 : Array Value) (hw : ∀ d ∈ tables_1, d.before a0 Z = true) (ws : List Jvm.Cond) (a1 : Addr) (b1 : Addr) (k1 : ClassId) (cs : Int32) (ch : Int32) (h0 : Heap) (n0 : Nat) (Z0 : n0 ≤ h0.size) (E1 : Exa Z h0 a1 "java/lang/String") (Fc1 : Fld Z h0 a1 "java/lang/String" "coder" "B" (.int (0 : Int32))) (Fv1 : Fld Z h0 a1 "java/lang/String" "value" "[B" (.ref b1)) (V1 : Arv Z h0 b1 k1 .byte (1 : Int32) [(.int ch)] (.int (0 : Int32))) (S_cs : Sta Z h0 "java/lang/String" "COMPACT_STRINGS" "Z" (.int cs)) (hcs : ¬ cs = 0) (h58 : ¬ ch = 58) :
    MetFree l (⟨"java/lang/String", "length", "()I"⟩ : MethodName) (head1 (Jvm.Cond.code (⟨"java/lang/String", "length", "()I"⟩ : MethodName) jdk_42_method_54_code 1 (some .int) :: ws) ({ frames := 1, cells := 0, slots := 0, locals := 13 } : Room)) (fun a U => a = #[(.ref a1)] ∧ Z.Warmed39 U.vm ∧ U.heap = h0) (fun _ _ _ _ _ => True) (fun _ U o U' => ∃ v L, o = .returned v ∧ Qrmlength1 Z a1 b1 k1 cs ch h0 n0 v U'.heap L ∧ FrameEnd U o U' L ({ frames := 1, cells := 0, slots := 0, locals := 13 } : Room).cells ({ frames := 1, cells := 0, slots := 0, locals := 13 } : Room).slots) := by
  refine MetFree.of_bodySF (plainFor_of_name pn_2) hisR ?_
  intro p e s m args below meth c s₁ Bd hml0 hP hK
  obtain ⟨rfl, hZ, hh⟩ := hP
  have hx := Bd.exec
  have hby := Bd.bytes
  have hml : c.maxLocals = 1 := hml0
  have hown : s.vm.findClass "java/lang/String" = some m.cls := findClass_of_methodNamed Bd.named
  have hnm := (name_of_methodNamed Bd.named Bd.method).1
  have X0 : Stand p l e ({ frames := 1, cells := 0, slots := 0, locals := 13 } : Room) s m #[(.ref a1)] below meth c s₁ [] 0 0 := Stand.of_body Bd
  have e0 : s₁.heap = h0 := by rw [← hh, Bd.state]; rfl
  have N0 := Fr.nil n0
  show Go p.tables e below (fun o U' => ∃ v L, o = .returned v ∧ Qrmlength1 Z a1 b1 k1 cs ch h0 n0 v U'.heap L ∧ FrameEnd s o U' L ({ frames := 1, cells := 0, slots := 0, locals := 13 } : Room).cells ({ frames := 1, cells := 0, slots := 0, locals := 13 } : Room).slots) _
  refine Go.step (fun t kt => castTop (ef_rmlength1 m a1 b1 k1 cs ch) kt) ?_
  show Go p.tables e below _ (s₁.setTop (mkF m 0 #[.val (.ref a1)] []))
  refine Go.step (fun _ kt => XS.aloadN X0.here hx rfl (hb hby d5_0) rfl rfl kt) ?_
  show Go p.tables e below _ (s₁.setTop (mkF m 1 #[.val (.ref a1)] [(.ref a1)]))
  obtain ⟨T101, X101, e101, st101⟩ := getF X0 hx hZ hown (host := "") (Or.inl (hw _ (List.mem_of_getElem? (i := 49) rfl))) Via.refl e0 Fv1 (g := (mkF m 1 #[.val (.ref a1)] [(.ref a1)])) rfl rfl (hb hby d5_1)
  refine Go.step st101 ?_
  show Go p.tables e below _ (T101.setTop (mkF m 4 #[.val (.ref a1)] [(.ref b1)]))
  obtain ⟨cl102, Ar102, qa102, Sa102, Na102, Ha102, Ga102⟩ := (id V1)
  refine Go.step (X101.arraylength hx (by rw [e101]; exact Ar102.1) (State.isArrayOf_alike hZ.alike Ar102.2.1) (g := (mkF m 4 #[.val (.ref a1)] [(.ref b1)])) rfl rfl (hb hby d5_4)) ?_
  rw [len_of Sa102 Na102]
  show Go p.tables e below _ (T101.setTop (mkF m 5 #[.val (.ref a1)] [(.int (1 : Int32))]))
  refine Go.step (fun _ kt => XS.aloadN X101.here hx rfl (hb hby d5_5) rfl rfl kt) ?_
  show Go p.tables e below _ (T101.setTop (mkF m 6 #[.val (.ref a1)] [(.ref a1), (.int (1 : Int32))]))
  obtain ⟨cq103, kq103, q103a, q103b, q103c⟩ := isOf hZ e101 E1
  obtain ⟨_, _, ⟨T103, L103, k103, n103⟩, -, X103, ⟨Lc103, hQ103, l103, y103, z103⟩, st103⟩ := X101.virtualBack hx (y := (⟨"java/lang/String", "coder", "()B"⟩ : MethodName)) (z := (⟨"java/lang/String", "coder", "()B"⟩ : MethodName)) hown (mvT hZ (hw _ (List.mem_of_getElem? (i := 50) rfl))) (mvT hZ (hw _ (List.mem_of_getElem? (i := 51) rfl))) (notFace_of_selects (args := #[]) (mvT hZ (hw _ (List.mem_of_getElem? (i := 53) rfl)))) (mvT hZ (hw _ (List.mem_of_getElem? (i := 53) rfl))) (mvT hZ (hw _ (List.mem_of_getElem? (i := 52) rfl))) (by decide) (backOf (W := 1) (rmcoder2 l Z a0 hw [] a1 b1 k1 cs ch h0 n0 Z0 E1 Fc1 Fv1 V1 S_cs hcs h58) hZ (hw _ (List.mem_of_getElem? (i := 54) rfl)) (hw _ (List.mem_of_getElem? (i := 24) rfl)) (by decide) (by decide)) q103a q103c (g := (mkF m 6 #[.val (.ref a1)] [(.ref a1), (.int (1 : Int32))])) rfl (by rw [hml]; rfl) (Steps.refl _) (argsL := []) (rest := [(.int (1 : Int32))]) (lenOf pd_1 rfl) rfl (by show 2 * 0 + _ ≤ _; exact Nat.le_of_eq rfl) (hb hby d5_6) (fun _ _ => ⟨rfl, e101, (by decide : 0 + 0 ≤ _), (by decide : 0 + 0 ≤ _)⟩)
  dsimp only [Pt.U, Pt.locs, Pt.cells, Pt.slots] at X103 l103 y103 z103 st103 hQ103
  subst l103 y103 z103
  obtain ⟨rfl, N103q, eh103⟩ := hQ103
  have N103 := Fr.app N0 N103q
  refine Go.step (fun _ kt => st103.trans kt) ?_
  show Go p.tables e below _ (T103.setTop (mkF m 9 #[.val (.ref a1)] [(.int (0 : Int32)), (.int (1 : Int32))]))
  refine Go.step (fun _ kt => XS.ishr X103.here hx rfl (hb hby d5_9) rfl kt) ?_
  show Go p.tables e below _ (T103.setTop (mkF m 10 #[.val (.ref a1)] [(.int ((1 : Int32) >>> ((0 : Int32) &&& 31)))]))
  have q104 : ((1 : Int32) >>> ((0 : Int32) &&& 31)) = (1 : Int32) := by decide
  rw [q104]
  show Go p.tables e below _ (T103.setTop (mkF m 10 #[.val (.ref a1)] [(.int (1 : Int32))]))
  obtain ⟨fs, hr, hrun, hended, hW, hsame⟩ := X103.leave (v := some (.int (1 : Int32))) (fun h => by rw [Bd.returns] at h; cases h)
  refine ⟨_, _, retI X103 hx Bd.returns (hb hby d5_10) hr, hrun, hended, _, _, rfl, ?_, ⟨_, rfl⟩, hW, hsame.mono (by decide) (by decide)⟩
  show Qrmlength1 Z a1 b1 k1 cs ch h0 n0 _ T103.heap _
  rw [eh103]
  refine ⟨?_, N103, rfl⟩
  rfl
theorem pd_2 : parseMethodDescriptor "()I" = some ⟨[], some .int⟩ := by decide +kernel
theorem d9_0 : decode jdk_42_method_154_code 0 = .ok (.getstatic 38, 3) := by decide +kernel
theorem d9_3 : decode jdk_42_method_154_code 3 = .ok (.ifCond .eq 14, 3) := by decide +kernel
theorem d9_6 : decode jdk_42_method_154_code 6 = .ok (.aload_n 0, 1) := by decide +kernel
theorem d9_7 : decode jdk_42_method_154_code 7 = .ok (.getfield 15, 3) := by decide +kernel
theorem d9_10 : decode jdk_42_method_154_code 10 = .ok (.ifCond .ne 7, 3) := by decide +kernel
theorem d9_13 : decode jdk_42_method_154_code 13 = .ok (.iconst 1, 1) := by decide +kernel
theorem d9_14 : decode jdk_42_method_154_code 14 = .ok (.goto 4, 3) := by decide +kernel
theorem d9_18 : decode jdk_42_method_154_code 18 = .ok (.ireturn, 1) := by decide +kernel
theorem ef_rmisLatin15 (m : MethodId) (a1 : Addr) (b1 : Addr) (k1 : ClassId) (cs : Int32) (ch : Int32) : entryFrame m #[(.ref a1)] 1 = mkF m 0 #[.val (.ref a1)] [] := by first | (simp [entryFrame, mkF, argsToLocals, Value.category]; done) | rfl
def QrmisLatin15 (Z : State) (a1 : Addr) (b1 : Addr) (k1 : ClassId) (cs : Int32) (ch : Int32) (h0 : Heap) (n0 : Nat) (v : Option Value) (h : Heap) (L : List Loc) : Prop := v = some (.int (1 : Int32)) ∧ Fr n0 L ∧ h = h0
set_option maxRecDepth 65536 in
set_option maxHeartbeats 40000000 in
theorem rmisLatin15 (l : Launch) (Z : State) (a0 : Array Value) (hw : ∀ d ∈ tables_1, d.before a0 Z = true) (ws : List Jvm.Cond) (a1 : Addr) (b1 : Addr) (k1 : ClassId) (cs : Int32) (ch : Int32) (h0 : Heap) (n0 : Nat) (Z0 : n0 ≤ h0.size) (E1 : Exa Z h0 a1 "java/lang/String") (Fc1 : Fld Z h0 a1 "java/lang/String" "coder" "B" (.int (0 : Int32))) (Fv1 : Fld Z h0 a1 "java/lang/String" "value" "[B" (.ref b1)) (V1 : Arv Z h0 b1 k1 .byte (1 : Int32) [(.int ch)] (.int (0 : Int32))) (S_cs : Sta Z h0 "java/lang/String" "COMPACT_STRINGS" "Z" (.int cs)) (hcs : ¬ cs = 0) (h58 : ¬ ch = 58) :
    MetFree l (⟨"java/lang/String", "isLatin1", "()Z"⟩ : MethodName) (head1 (Jvm.Cond.code (⟨"java/lang/String", "isLatin1", "()Z"⟩ : MethodName) jdk_42_method_154_code 1 (some .boolean) :: ws) ({ frames := 0, cells := 0, slots := 0, locals := 0 } : Room)) (fun a U => a = #[(.ref a1)] ∧ Z.Warmed39 U.vm ∧ U.heap = h0) (fun _ _ _ _ _ => True) (fun _ U o U' => ∃ v L, o = .returned v ∧ QrmisLatin15 Z a1 b1 k1 cs ch h0 n0 v U'.heap L ∧ FrameEnd U o U' L ({ frames := 0, cells := 0, slots := 0, locals := 0 } : Room).cells ({ frames := 0, cells := 0, slots := 0, locals := 0 } : Room).slots) := by
  refine MetFree.of_bodySF (plainFor_of_name pn_2) hisR ?_
  intro p e s m args below meth c s₁ Bd hml0 hP hK
  obtain ⟨rfl, hZ, hh⟩ := hP
  have hx := Bd.exec
  have hby := Bd.bytes
  have hml : c.maxLocals = 1 := hml0
  have hown : s.vm.findClass "java/lang/String" = some m.cls := findClass_of_methodNamed Bd.named
  have hnm := (name_of_methodNamed Bd.named Bd.method).1
  have X0 : Stand p l e ({ frames := 0, cells := 0, slots := 0, locals := 0 } : Room) s m #[(.ref a1)] below meth c s₁ [] 0 0 := Stand.of_body Bd
  have e0 : s₁.heap = h0 := by rw [← hh, Bd.state]; rfl
  have N0 := Fr.nil n0
  show Go p.tables e below (fun o U' => ∃ v L, o = .returned v ∧ QrmisLatin15 Z a1 b1 k1 cs ch h0 n0 v U'.heap L ∧ FrameEnd s o U' L ({ frames := 0, cells := 0, slots := 0, locals := 0 } : Room).cells ({ frames := 0, cells := 0, slots := 0, locals := 0 } : Room).slots) _
  refine Go.step (fun t kt => castTop (ef_rmisLatin15 m a1 b1 k1 cs ch) kt) ?_
  show Go p.tables e below _ (s₁.setTop (mkF m 0 #[.val (.ref a1)] []))
  obtain ⟨T101, X101, e101, st101⟩ := getS2 X0 hx hZ hown (host := "") (Or.inl (hw _ (List.mem_of_getElem? (i := 55) rfl))) Via.refl e0 S_cs (g := (mkF m 0 #[.val (.ref a1)] [])) rfl (hb hby d9_0)
  refine Go.step st101 ?_
  show Go p.tables e below _ (T101.setTop (mkF m 3 #[.val (.ref a1)] [(.int cs)]))
  refine Go.step (fun _ kt => XS.ifNo X101.here hx rfl (hb hby d9_3) rfl ((if0 _ _).trans (feq hcs).1) (XS.aloadN X101.here hx rfl (hb hby d9_6) rfl rfl kt)) ?_
  show Go p.tables e below _ (T101.setTop (mkF m 7 #[.val (.ref a1)] [(.ref a1)]))
  obtain ⟨T102, X102, e102, st102⟩ := getF X101 hx hZ hown (host := "") (Or.inl (hw _ (List.mem_of_getElem? (i := 56) rfl))) Via.refl e101 Fc1 (g := (mkF m 7 #[.val (.ref a1)] [(.ref a1)])) rfl rfl (hb hby d9_7)
  refine Go.step st102 ?_
  show Go p.tables e below _ (T102.setTop (mkF m 10 #[.val (.ref a1)] [(.int (0 : Int32))]))
  refine Go.step (fun _ kt => XS.ifNo X102.here hx rfl (hb hby d9_10) rfl ((if0 _ _).trans (teq (by decide : (0 : Int32) = (0 : Int32))).2) (XS.iconst X102.here hx rfl (hb hby d9_13) (XS.goto X102.here hx rfl (pc0 := 14) (pc' := 18) rfl (hb hby d9_14) (by decide) (by decide) kt))) ?_
  show Go p.tables e below _ (T102.setTop (mkF m 18 #[.val (.ref a1)] [(.int (1 : Int32))]))
  obtain ⟨fs, hr, hrun, hended, hW, hsame⟩ := X102.leave (v := some (.int (1 : Int32))) (fun h => by rw [Bd.returns] at h; cases h)
  refine ⟨_, _, retN X102 hx (t := .boolean) Bd.returns (by simp) (hb hby d9_18) hr, hrun, hended, _, _, rfl, ?_, ⟨_, rfl⟩, hW, hsame.mono (by decide) (by decide)⟩
  show QrmisLatin15 Z a1 b1 k1 cs ch h0 n0 _ T102.heap _
  rw [e102]
  refine ⟨?_, N0, rfl⟩
  rfl
theorem pd_3 : parseMethodDescriptor "()Z" = some ⟨[], some .boolean⟩ := by decide +kernel
theorem pn_3 : plainName "java/lang/StringLatin1" = true := by first | (simp [plainName, overriddenIn]; done) | decide +kernel
theorem d11_0 : decode jdk_43_method_4_code 0 = .ok (.iload_n 0, 1) := by decide +kernel
theorem d11_1 : decode jdk_43_method_4_code 1 = .ok (.ifCond .lt 14, 3) := by decide +kernel
theorem d11_4 : decode jdk_43_method_4_code 4 = .ok (.iload_n 0, 1) := by decide +kernel
theorem d11_5 : decode jdk_43_method_4_code 5 = .ok (.sipush 255, 3) := by decide +kernel
theorem d11_8 : decode jdk_43_method_4_code 8 = .ok (.if_icmp .gt 7, 3) := by decide +kernel
theorem d11_11 : decode jdk_43_method_4_code 11 = .ok (.iconst 1, 1) := by decide +kernel
theorem d11_12 : decode jdk_43_method_4_code 12 = .ok (.goto 4, 3) := by decide +kernel
theorem d11_16 : decode jdk_43_method_4_code 16 = .ok (.ireturn, 1) := by decide +kernel
theorem ef_rmcan7 (m : MethodId)  : entryFrame m #[(.int (58 : Int32))] 1 = mkF m 0 #[.val (.int (58 : Int32))] [] := by first | (simp [entryFrame, mkF, argsToLocals, Value.category]; done) | rfl
def Qrmcan7 (Z : State)  (h0 : Heap) (n0 : Nat) (v : Option Value) (h : Heap) (L : List Loc) : Prop := v = some (.int (1 : Int32)) ∧ Fr n0 L ∧ h = h0
set_option maxRecDepth 65536 in
set_option maxHeartbeats 40000000 in
theorem rmcan7 (l : Launch) (Z : State) (a0 : Array Value) (hw : ∀ d ∈ tables_1, d.before a0 Z = true) (ws : List Jvm.Cond)  (h0 : Heap) (n0 : Nat) (Z0 : n0 ≤ h0.size) :
    MetFree l (⟨"java/lang/StringLatin1", "canEncode", "(I)Z"⟩ : MethodName) (head1 (Jvm.Cond.code (⟨"java/lang/StringLatin1", "canEncode", "(I)Z"⟩ : MethodName) jdk_43_method_4_code 1 (some .boolean) :: ws) ({ frames := 0, cells := 0, slots := 0, locals := 0 } : Room)) (fun a U => a = #[(.int (58 : Int32))] ∧ Z.Warmed39 U.vm ∧ U.heap = h0) (fun _ _ _ _ _ => True) (fun _ U o U' => ∃ v L, o = .returned v ∧ Qrmcan7 Z  h0 n0 v U'.heap L ∧ FrameEnd U o U' L ({ frames := 0, cells := 0, slots := 0, locals := 0 } : Room).cells ({ frames := 0, cells := 0, slots := 0, locals := 0 } : Room).slots) := by
  refine MetFree.of_bodySF (plainFor_of_name pn_3) hisR ?_
  intro p e s m args below meth c s₁ Bd hml0 hP hK
  obtain ⟨rfl, hZ, hh⟩ := hP
  have hx := Bd.exec
  have hby := Bd.bytes
  have hml : c.maxLocals = 1 := hml0
  have hown : s.vm.findClass "java/lang/StringLatin1" = some m.cls := findClass_of_methodNamed Bd.named
  have hnm := (name_of_methodNamed Bd.named Bd.method).1
  have X0 : Stand p l e ({ frames := 0, cells := 0, slots := 0, locals := 0 } : Room) s m #[(.int (58 : Int32))] below meth c s₁ [] 0 0 := Stand.of_body Bd
  have e0 : s₁.heap = h0 := by rw [← hh, Bd.state]; rfl
  have N0 := Fr.nil n0
  show Go p.tables e below (fun o U' => ∃ v L, o = .returned v ∧ Qrmcan7 Z  h0 n0 v U'.heap L ∧ FrameEnd s o U' L ({ frames := 0, cells := 0, slots := 0, locals := 0 } : Room).cells ({ frames := 0, cells := 0, slots := 0, locals := 0 } : Room).slots) _
  refine Go.step (fun t kt => castTop (ef_rmcan7 m ) kt) ?_
  show Go p.tables e below _ (s₁.setTop (mkF m 0 #[.val (.int (58 : Int32))] []))
  refine Go.step (fun _ kt => XS.iloadN X0.here hx rfl (hb hby d11_0) rfl (XS.ifNo X0.here hx rfl (hb hby d11_1) rfl ((if0 _ _).trans (flt (by decide : ¬ ((58 : Int32) < (0 : Int32)))).1) (XS.iloadN X0.here hx rfl (hb hby d11_4) rfl (XS.sipush X0.here hx rfl (hb hby d11_5) (XS.icmpNo X0.here hx rfl (hb hby d11_8) rfl (flt (by decide : ¬ ((255 : Int32) < (58 : Int32)))).2.2.1 (XS.iconst X0.here hx rfl (hb hby d11_11) (XS.goto X0.here hx rfl (pc0 := 12) (pc' := 16) rfl (hb hby d11_12) (by decide) (by decide) kt))))))) ?_
  show Go p.tables e below _ (s₁.setTop (mkF m 16 #[.val (.int (58 : Int32))] [(.int (1 : Int32))]))
  obtain ⟨fs, hr, hrun, hended, hW, hsame⟩ := X0.leave (v := some (.int (1 : Int32))) (fun h => by rw [Bd.returns] at h; cases h)
  refine ⟨_, _, retN X0 hx (t := .boolean) Bd.returns (by simp) (hb hby d11_16) hr, hrun, hended, _, _, rfl, ?_, ⟨_, rfl⟩, hW, hsame.mono (by decide) (by decide)⟩
  show Qrmcan7 Z  h0 n0 _ s₁.heap _
  rw [e0]
  refine ⟨?_, N0, rfl⟩
  rfl
theorem pd_4 : parseMethodDescriptor "(I)Z" = some ⟨[.int], some .boolean⟩ := by decide +kernel
theorem d12_0 : decode jdk_29_method_65_code 0 = .ok (.iload_n 0, 1) := by decide +kernel
theorem d12_1 : decode jdk_29_method_65_code 1 = .ok (.iload_n 1, 1) := by decide +kernel
theorem d12_2 : decode jdk_29_method_65_code 2 = .ok (.if_icmp .lt 7, 3) := by decide +kernel
theorem d12_5 : decode jdk_29_method_65_code 5 = .ok (.iload_n 0, 1) := by decide +kernel
theorem d12_6 : decode jdk_29_method_65_code 6 = .ok (.goto 4, 3) := by decide +kernel
theorem d12_10 : decode jdk_29_method_65_code 10 = .ok (.ireturn, 1) := by decide +kernel
theorem ef_rmmax8 (m : MethodId)  : entryFrame m #[(.int (0 : Int32)), (.int (0 : Int32))] 2 = mkF m 0 #[.val (.int (0 : Int32)), .val (.int (0 : Int32))] [] := by first | (simp [entryFrame, mkF, argsToLocals, Value.category]; done) | rfl
def Qrmmax8 (Z : State)  (h0 : Heap) (n0 : Nat) (v : Option Value) (h : Heap) (L : List Loc) : Prop := v = some (.int (0 : Int32)) ∧ Fr n0 L ∧ h = h0
set_option maxRecDepth 65536 in
set_option maxHeartbeats 40000000 in
theorem rmmax8 (l : Launch) (Z : State) (a0 : Array Value) (hw : ∀ d ∈ tables_1, d.before a0 Z = true) (ws : List Jvm.Cond)  (h0 : Heap) (n0 : Nat) (Z0 : n0 ≤ h0.size) :
    MetFree l (⟨"java/lang/Math", "max", "(II)I"⟩ : MethodName) (head1 (Jvm.Cond.code (⟨"java/lang/Math", "max", "(II)I"⟩ : MethodName) jdk_29_method_65_code 2 (some .int) :: ws) ({ frames := 0, cells := 0, slots := 0, locals := 0 } : Room)) (fun a U => a = #[(.int (0 : Int32)), (.int (0 : Int32))] ∧ Z.Warmed39 U.vm ∧ U.heap = h0) (fun _ _ _ _ _ => True) (fun _ U o U' => ∃ v L, o = .returned v ∧ Qrmmax8 Z  h0 n0 v U'.heap L ∧ FrameEnd U o U' L ({ frames := 0, cells := 0, slots := 0, locals := 0 } : Room).cells ({ frames := 0, cells := 0, slots := 0, locals := 0 } : Room).slots) := by
  refine MetFree.of_bodySF (Jvm.Free.JP.mathPlain rfl (by decide +kernel)) hisR ?_
  intro p e s m args below meth c s₁ Bd hml0 hP hK
  obtain ⟨rfl, hZ, hh⟩ := hP
  have hx := Bd.exec
  have hby := Bd.bytes
  have hml : c.maxLocals = 2 := hml0
  have hown : s.vm.findClass "java/lang/Math" = some m.cls := findClass_of_methodNamed Bd.named
  have hnm := (name_of_methodNamed Bd.named Bd.method).1
  have X0 : Stand p l e ({ frames := 0, cells := 0, slots := 0, locals := 0 } : Room) s m #[(.int (0 : Int32)), (.int (0 : Int32))] below meth c s₁ [] 0 0 := Stand.of_body Bd
  have e0 : s₁.heap = h0 := by rw [← hh, Bd.state]; rfl
  have N0 := Fr.nil n0
  show Go p.tables e below (fun o U' => ∃ v L, o = .returned v ∧ Qrmmax8 Z  h0 n0 v U'.heap L ∧ FrameEnd s o U' L ({ frames := 0, cells := 0, slots := 0, locals := 0 } : Room).cells ({ frames := 0, cells := 0, slots := 0, locals := 0 } : Room).slots) _
  refine Go.step (fun t kt => castTop (ef_rmmax8 m ) kt) ?_
  show Go p.tables e below _ (s₁.setTop (mkF m 0 #[.val (.int (0 : Int32)), .val (.int (0 : Int32))] []))
  refine Go.step (fun _ kt => XS.iloadN X0.here hx rfl (hb hby d12_0) rfl (XS.iloadN X0.here hx rfl (hb hby d12_1) rfl (XS.icmpNo X0.here hx rfl (hb hby d12_2) rfl (flt (by decide : ¬ ((0 : Int32) < (0 : Int32)))).1 (XS.iloadN X0.here hx rfl (hb hby d12_5) rfl (XS.goto X0.here hx rfl (pc0 := 6) (pc' := 10) rfl (hb hby d12_6) (by decide) (by decide) kt))))) ?_
  show Go p.tables e below _ (s₁.setTop (mkF m 10 #[.val (.int (0 : Int32)), .val (.int (0 : Int32))] [(.int (0 : Int32))]))
  obtain ⟨fs, hr, hrun, hended, hW, hsame⟩ := X0.leave (v := some (.int (0 : Int32))) (fun h => by rw [Bd.returns] at h; cases h)
  refine ⟨_, _, retI X0 hx Bd.returns (hb hby d12_10) hr, hrun, hended, _, _, rfl, ?_, ⟨_, rfl⟩, hW, hsame.mono (by decide) (by decide)⟩
  show Qrmmax8 Z  h0 n0 _ s₁.heap _
  rw [e0]
  refine ⟨?_, N0, rfl⟩
  rfl
theorem pd_5 : parseMethodDescriptor "(II)I" = some ⟨[.int, .int], some .int⟩ := by decide +kernel
theorem d13_0 : decode jdk_29_method_69_code 0 = .ok (.iload_n 0, 1) := by decide +kernel
theorem d13_1 : decode jdk_29_method_69_code 1 = .ok (.iload_n 1, 1) := by decide +kernel
theorem d13_2 : decode jdk_29_method_69_code 2 = .ok (.if_icmp .gt 7, 3) := by decide +kernel
theorem d13_5 : decode jdk_29_method_69_code 5 = .ok (.iload_n 0, 1) := by decide +kernel
theorem d13_6 : decode jdk_29_method_69_code 6 = .ok (.goto 4, 3) := by decide +kernel
theorem d13_10 : decode jdk_29_method_69_code 10 = .ok (.ireturn, 1) := by decide +kernel
theorem ef_rmmin9 (m : MethodId)  : entryFrame m #[(.int (1 : Int32)), (.int (1 : Int32))] 2 = mkF m 0 #[.val (.int (1 : Int32)), .val (.int (1 : Int32))] [] := by first | (simp [entryFrame, mkF, argsToLocals, Value.category]; done) | rfl
def Qrmmin9 (Z : State)  (h0 : Heap) (n0 : Nat) (v : Option Value) (h : Heap) (L : List Loc) : Prop := v = some (.int (1 : Int32)) ∧ Fr n0 L ∧ h = h0
set_option maxRecDepth 65536 in
set_option maxHeartbeats 40000000 in
theorem rmmin9 (l : Launch) (Z : State) (a0 : Array Value) (hw : ∀ d ∈ tables_1, d.before a0 Z = true) (ws : List Jvm.Cond)  (h0 : Heap) (n0 : Nat) (Z0 : n0 ≤ h0.size) :
    MetFree l (⟨"java/lang/Math", "min", "(II)I"⟩ : MethodName) (head1 (Jvm.Cond.code (⟨"java/lang/Math", "min", "(II)I"⟩ : MethodName) jdk_29_method_69_code 2 (some .int) :: ws) ({ frames := 0, cells := 0, slots := 0, locals := 0 } : Room)) (fun a U => a = #[(.int (1 : Int32)), (.int (1 : Int32))] ∧ Z.Warmed39 U.vm ∧ U.heap = h0) (fun _ _ _ _ _ => True) (fun _ U o U' => ∃ v L, o = .returned v ∧ Qrmmin9 Z  h0 n0 v U'.heap L ∧ FrameEnd U o U' L ({ frames := 0, cells := 0, slots := 0, locals := 0 } : Room).cells ({ frames := 0, cells := 0, slots := 0, locals := 0 } : Room).slots) := by
  refine MetFree.of_bodySF (Jvm.Free.JP.mathPlain rfl (by decide +kernel)) hisR ?_
  intro p e s m args below meth c s₁ Bd hml0 hP hK
  obtain ⟨rfl, hZ, hh⟩ := hP
  have hx := Bd.exec
  have hby := Bd.bytes
  have hml : c.maxLocals = 2 := hml0
  have hown : s.vm.findClass "java/lang/Math" = some m.cls := findClass_of_methodNamed Bd.named
  have hnm := (name_of_methodNamed Bd.named Bd.method).1
  have X0 : Stand p l e ({ frames := 0, cells := 0, slots := 0, locals := 0 } : Room) s m #[(.int (1 : Int32)), (.int (1 : Int32))] below meth c s₁ [] 0 0 := Stand.of_body Bd
  have e0 : s₁.heap = h0 := by rw [← hh, Bd.state]; rfl
  have N0 := Fr.nil n0
  show Go p.tables e below (fun o U' => ∃ v L, o = .returned v ∧ Qrmmin9 Z  h0 n0 v U'.heap L ∧ FrameEnd s o U' L ({ frames := 0, cells := 0, slots := 0, locals := 0 } : Room).cells ({ frames := 0, cells := 0, slots := 0, locals := 0 } : Room).slots) _
  refine Go.step (fun t kt => castTop (ef_rmmin9 m ) kt) ?_
  show Go p.tables e below _ (s₁.setTop (mkF m 0 #[.val (.int (1 : Int32)), .val (.int (1 : Int32))] []))
  refine Go.step (fun _ kt => XS.iloadN X0.here hx rfl (hb hby d13_0) rfl (XS.iloadN X0.here hx rfl (hb hby d13_1) rfl (XS.icmpNo X0.here hx rfl (hb hby d13_2) rfl (flt (by decide : ¬ ((1 : Int32) < (1 : Int32)))).2.2.1 (XS.iloadN X0.here hx rfl (hb hby d13_5) rfl (XS.goto X0.here hx rfl (pc0 := 6) (pc' := 10) rfl (hb hby d13_6) (by decide) (by decide) kt))))) ?_
  show Go p.tables e below _ (s₁.setTop (mkF m 10 #[.val (.int (1 : Int32)), .val (.int (1 : Int32))] [(.int (1 : Int32))]))
  obtain ⟨fs, hr, hrun, hended, hW, hsame⟩ := X0.leave (v := some (.int (1 : Int32))) (fun h => by rw [Bd.returns] at h; cases h)
  refine ⟨_, _, retI X0 hx Bd.returns (hb hby d13_10) hr, hrun, hended, _, _, rfl, ?_, ⟨_, rfl⟩, hW, hsame.mono (by decide) (by decide)⟩
  show Qrmmin9 Z  h0 n0 _ s₁.heap _
  rw [e0]
  refine ⟨?_, N0, rfl⟩
  rfl
theorem d14_0 : decode jdk_43_method_23_code 0 = .ok (.iload_n 1, 1) := by decide +kernel
theorem d14_1 : decode jdk_43_method_23_code 1 = .ok (.i2b, 1) := by decide +kernel
theorem d14_2 : decode jdk_43_method_23_code 2 = .ok (.istore 4, 2) := by decide +kernel
theorem d14_4 : decode jdk_43_method_23_code 4 = .ok (.iload_n 2, 1) := by decide +kernel
theorem d14_5 : decode jdk_43_method_23_code 5 = .ok (.istore 5, 2) := by decide +kernel
theorem d14_7 : decode jdk_43_method_23_code 7 = .ok (.iload 5, 2) := by decide +kernel
theorem d14_9 : decode jdk_43_method_23_code 9 = .ok (.iload_n 3, 1) := by decide +kernel
theorem d14_10 : decode jdk_43_method_23_code 10 = .ok (.if_icmp .ge 21, 3) := by decide +kernel
theorem d14_13 : decode jdk_43_method_23_code 13 = .ok (.aload_n 0, 1) := by decide +kernel
theorem d14_14 : decode jdk_43_method_23_code 14 = .ok (.iload 5, 2) := by decide +kernel
theorem d14_16 : decode jdk_43_method_23_code 16 = .ok (.baload, 1) := by decide +kernel
theorem d14_17 : decode jdk_43_method_23_code 17 = .ok (.iload 4, 2) := by decide +kernel
theorem d14_19 : decode jdk_43_method_23_code 19 = .ok (.if_icmp .ne 6, 3) := by decide +kernel
theorem d14_25 : decode jdk_43_method_23_code 25 = .ok (.iinc 5 1, 3) := by decide +kernel
theorem d14_28 : decode jdk_43_method_23_code 28 = .ok (.goto (-21), 3) := by decide +kernel
theorem d14_31 : decode jdk_43_method_23_code 31 = .ok (.iconst (-1), 1) := by decide +kernel
theorem d14_32 : decode jdk_43_method_23_code 32 = .ok (.ireturn, 1) := by decide +kernel
theorem ef_rmlidxc10 (m : MethodId) (a1 : Addr) (k1 : ClassId) (ch : Int32) : entryFrame m #[(.ref a1), (.int (58 : Int32)), (.int (0 : Int32)), (.int (1 : Int32))] 6 = mkF m 0 #[.val (.ref a1), .val (.int (58 : Int32)), .val (.int (0 : Int32)), .val (.int (1 : Int32)), .unset, .unset] [] := by first | (simp [entryFrame, mkF, argsToLocals, Value.category]; done) | rfl
def Qrmlidxc10 (Z : State) (a1 : Addr) (k1 : ClassId) (ch : Int32) (h0 : Heap) (n0 : Nat) (v : Option Value) (h : Heap) (L : List Loc) : Prop := v = some (.int (-1 : Int32)) ∧ Fr n0 L ∧ h = h0
set_option maxRecDepth 65536 in
set_option maxHeartbeats 40000000 in
theorem rmlidxc10 (l : Launch) (Z : State) (a0 : Array Value) (hw : ∀ d ∈ tables_1, d.before a0 Z = true) (ws : List Jvm.Cond) (a1 : Addr) (k1 : ClassId) (ch : Int32) (h0 : Heap) (n0 : Nat) (Z0 : n0 ≤ h0.size) (V1 : Arv Z h0 a1 k1 .byte (1 : Int32) [(.int ch)] (.int (0 : Int32))) (h58 : ¬ ch = 58) :
    MetFree l (⟨"java/lang/StringLatin1", "indexOfChar", "([BIII)I"⟩ : MethodName) (head1 (Jvm.Cond.code (⟨"java/lang/StringLatin1", "indexOfChar", "([BIII)I"⟩ : MethodName) jdk_43_method_23_code 6 (some .int) :: ws) ({ frames := 0, cells := 0, slots := 0, locals := 0 } : Room)) (fun a U => a = #[(.ref a1), (.int (58 : Int32)), (.int (0 : Int32)), (.int (1 : Int32))] ∧ Z.Warmed39 U.vm ∧ U.heap = h0) (fun _ _ _ _ _ => True) (fun _ U o U' => ∃ v L, o = .returned v ∧ Qrmlidxc10 Z a1 k1 ch h0 n0 v U'.heap L ∧ FrameEnd U o U' L ({ frames := 0, cells := 0, slots := 0, locals := 0 } : Room).cells ({ frames := 0, cells := 0, slots := 0, locals := 0 } : Room).slots) := by
  refine MetFree.of_bodySF (plainFor_of_name pn_3) hisR ?_
  intro p e s m args below meth c s₁ Bd hml0 hP hK
  obtain ⟨rfl, hZ, hh⟩ := hP
  have hx := Bd.exec
  have hby := Bd.bytes
  have hml : c.maxLocals = 6 := hml0
  have hown : s.vm.findClass "java/lang/StringLatin1" = some m.cls := findClass_of_methodNamed Bd.named
  have hnm := (name_of_methodNamed Bd.named Bd.method).1
  have X0 : Stand p l e ({ frames := 0, cells := 0, slots := 0, locals := 0 } : Room) s m #[(.ref a1), (.int (58 : Int32)), (.int (0 : Int32)), (.int (1 : Int32))] below meth c s₁ [] 0 0 := Stand.of_body Bd
  have e0 : s₁.heap = h0 := by rw [← hh, Bd.state]; rfl
  have N0 := Fr.nil n0
  show Go p.tables e below (fun o U' => ∃ v L, o = .returned v ∧ Qrmlidxc10 Z a1 k1 ch h0 n0 v U'.heap L ∧ FrameEnd s o U' L ({ frames := 0, cells := 0, slots := 0, locals := 0 } : Room).cells ({ frames := 0, cells := 0, slots := 0, locals := 0 } : Room).slots) _
  refine Go.step (fun t kt => castTop (ef_rmlidxc10 m a1 k1 ch) kt) ?_
  show Go p.tables e below _ (s₁.setTop (mkF m 0 #[.val (.ref a1), .val (.int (58 : Int32)), .val (.int (0 : Int32)), .val (.int (1 : Int32)), .unset, .unset] []))
  refine Go.step (fun _ kt => XS.iloadN X0.here hx rfl (hb hby d14_0) rfl (XS.i2b X0.here hx rfl (hb hby d14_1) rfl kt)) ?_
  show Go p.tables e below _ (s₁.setTop (mkF m 2 #[.val (.ref a1), .val (.int (58 : Int32)), .val (.int (0 : Int32)), .val (.int (1 : Int32)), .unset, .unset] [(.int ((58 : Int32).toInt8.toInt32))]))
  have q101 : ((58 : Int32).toInt8.toInt32) = (58 : Int32) := by decide
  rw [q101]
  show Go p.tables e below _ (s₁.setTop (mkF m 2 #[.val (.ref a1), .val (.int (58 : Int32)), .val (.int (0 : Int32)), .val (.int (1 : Int32)), .unset, .unset] [(.int (58 : Int32))]))
  refine Go.step (fun _ kt => XS.istore X0.here hx rfl (hb hby d14_2) rfl (l' := #[.val (.ref a1), .val (.int (58 : Int32)), .val (.int (0 : Int32)), .val (.int (1 : Int32)), .val (.int (58 : Int32)), .unset]) rfl (XS.iloadN X0.here hx rfl (hb hby d14_4) rfl (XS.istore X0.here hx rfl (hb hby d14_5) rfl (l' := #[.val (.ref a1), .val (.int (58 : Int32)), .val (.int (0 : Int32)), .val (.int (1 : Int32)), .val (.int (58 : Int32)), .val (.int (0 : Int32))]) rfl (XS.iload X0.here hx rfl (hb hby d14_7) rfl (XS.iloadN X0.here hx rfl (hb hby d14_9) rfl (XS.icmpNo X0.here hx rfl (hb hby d14_10) rfl (tlt (by decide : (0 : Int32) < (1 : Int32))).2.1 (XS.aloadN X0.here hx rfl (hb hby d14_13) rfl rfl (XS.iload X0.here hx rfl (hb hby d14_14) rfl kt)))))))) ?_
  show Go p.tables e below _ (s₁.setTop (mkF m 16 #[.val (.ref a1), .val (.int (58 : Int32)), .val (.int (0 : Int32)), .val (.int (1 : Int32)), .val (.int (58 : Int32)), .val (.int (0 : Int32))] [(.int (0 : Int32)), (.ref a1)]))
  obtain ⟨cl102, Ar102, qa102, Sa102, Na102, Ha102, Ga102⟩ := (id V1)
  have hin102 : ¬ ((0 : Int32) < 0 ∨ cl102.slots.size ≤ ((0 : Int32)).toNatClampNeg) := inb_of Sa102 ⟨by decide, by decide⟩
  have hat102 : cl102.slots[((0 : Int32)).toNatClampNeg]? = some (.int ch) := at_of Ha102 hin102 rfl
  refine Go.step (X0.baloadBytes hx (j := (0 : Int32)) (v := (.int ch)) (by rw [e0]; exact Ar102.1) (State.isArrayOf_alike hZ.alike Ar102.2.1) Ar102.2.2 hin102 hat102 (g := (mkF m 16 #[.val (.ref a1), .val (.int (58 : Int32)), .val (.int (0 : Int32)), .val (.int (1 : Int32)), .val (.int (58 : Int32)), .val (.int (0 : Int32))] [(.int (0 : Int32)), (.ref a1)])) rfl rfl (hb hby d14_16)) ?_
  show Go p.tables e below _ (s₁.setTop (mkF m 17 #[.val (.ref a1), .val (.int (58 : Int32)), .val (.int (0 : Int32)), .val (.int (1 : Int32)), .val (.int (58 : Int32)), .val (.int (0 : Int32))] [(.int ch)]))
  refine Go.step (fun _ kt => XS.iload X0.here hx rfl (hb hby d14_17) rfl (XS.icmpYes X0.here hx rfl (pc0 := 19) (pc' := 25) rfl (hb hby d14_19) rfl (feq h58).2 (by decide) (by decide) (XS.iinc X0.here hx rfl (hb hby d14_25) rfl (l' := #[.val (.ref a1), .val (.int (58 : Int32)), .val (.int (0 : Int32)), .val (.int (1 : Int32)), .val (.int (58 : Int32)), .val (.int ((0 : Int32) + (1 : Int32)))]) rfl kt))) ?_
  show Go p.tables e below _ (s₁.setTop (mkF m 28 #[.val (.ref a1), .val (.int (58 : Int32)), .val (.int (0 : Int32)), .val (.int (1 : Int32)), .val (.int (58 : Int32)), .val (.int ((0 : Int32) + (1 : Int32)))] []))
  have q103 : ((0 : Int32) + (1 : Int32)) = (1 : Int32) := by decide
  rw [q103]
  show Go p.tables e below _ (s₁.setTop (mkF m 28 #[.val (.ref a1), .val (.int (58 : Int32)), .val (.int (0 : Int32)), .val (.int (1 : Int32)), .val (.int (58 : Int32)), .val (.int (1 : Int32))] []))
  refine Go.step (fun _ kt => XS.goto X0.here hx rfl (pc0 := 28) (pc' := 7) rfl (hb hby d14_28) (by decide) (by decide) (XS.iload X0.here hx rfl (hb hby d14_7) rfl (XS.iloadN X0.here hx rfl (hb hby d14_9) rfl (XS.icmpYes X0.here hx rfl (pc0 := 10) (pc' := 31) rfl (hb hby d14_10) rfl (flt (by decide : ¬ ((1 : Int32) < (1 : Int32)))).2.1 (by decide) (by decide) (XS.iconst X0.here hx rfl (hb hby d14_31) kt))))) ?_
  show Go p.tables e below _ (s₁.setTop (mkF m 32 #[.val (.ref a1), .val (.int (58 : Int32)), .val (.int (0 : Int32)), .val (.int (1 : Int32)), .val (.int (58 : Int32)), .val (.int (1 : Int32))] [(.int (-1 : Int32))]))
  obtain ⟨fs, hr, hrun, hended, hW, hsame⟩ := X0.leave (v := some (.int (-1 : Int32))) (fun h => by rw [Bd.returns] at h; cases h)
  refine ⟨_, _, retI X0 hx Bd.returns (hb hby d14_32) hr, hrun, hended, _, _, rfl, ?_, ⟨_, rfl⟩, hW, hsame.mono (by decide) (by decide)⟩
  show Qrmlidxc10 Z a1 k1 ch h0 n0 _ s₁.heap _
  rw [e0]
  refine ⟨?_, N0, rfl⟩
  rfl
theorem pd_6 : parseMethodDescriptor "([BIII)I" = some ⟨[(.array .byte), .int, .int, .int], some .int⟩ := by decide +kernel
theorem d10_0 : decode jdk_43_method_22_code 0 = .ok (.iload_n 1, 1) := by decide +kernel
theorem d10_1 : decode jdk_43_method_22_code 1 = .ok (.invokestatic 88, 3) := by decide +kernel
theorem d10_4 : decode jdk_43_method_22_code 4 = .ok (.ifCond .ne 5, 3) := by decide +kernel
theorem d10_9 : decode jdk_43_method_22_code 9 = .ok (.iload_n 2, 1) := by decide +kernel
theorem d10_10 : decode jdk_43_method_22_code 10 = .ok (.iconst 0, 1) := by decide +kernel
theorem d10_11 : decode jdk_43_method_22_code 11 = .ok (.invokestatic 92, 3) := by decide +kernel
theorem d10_14 : decode jdk_43_method_22_code 14 = .ok (.istore_n 2, 1) := by decide +kernel
theorem d10_15 : decode jdk_43_method_22_code 15 = .ok (.iload_n 3, 1) := by decide +kernel
theorem d10_16 : decode jdk_43_method_22_code 16 = .ok (.aload_n 0, 1) := by decide +kernel
theorem d10_17 : decode jdk_43_method_22_code 17 = .ok (.arraylength, 1) := by decide +kernel
theorem d10_18 : decode jdk_43_method_22_code 18 = .ok (.invokestatic 38, 3) := by decide +kernel
theorem d10_21 : decode jdk_43_method_22_code 21 = .ok (.istore_n 3, 1) := by decide +kernel
theorem d10_22 : decode jdk_43_method_22_code 22 = .ok (.iload_n 2, 1) := by decide +kernel
theorem d10_23 : decode jdk_43_method_22_code 23 = .ok (.iload_n 3, 1) := by decide +kernel
theorem d10_24 : decode jdk_43_method_22_code 24 = .ok (.if_icmp .lt 5, 3) := by decide +kernel
theorem d10_29 : decode jdk_43_method_22_code 29 = .ok (.aload_n 0, 1) := by decide +kernel
theorem d10_30 : decode jdk_43_method_22_code 30 = .ok (.iload_n 1, 1) := by decide +kernel
theorem d10_31 : decode jdk_43_method_22_code 31 = .ok (.iload_n 2, 1) := by decide +kernel
theorem d10_32 : decode jdk_43_method_22_code 32 = .ok (.iload_n 3, 1) := by decide +kernel
theorem d10_33 : decode jdk_43_method_22_code 33 = .ok (.invokestatic 95, 3) := by decide +kernel
theorem d10_36 : decode jdk_43_method_22_code 36 = .ok (.ireturn, 1) := by decide +kernel
theorem ef_rmlidx6 (m : MethodId) (a1 : Addr) (k1 : ClassId) (ch : Int32) : entryFrame m #[(.ref a1), (.int (58 : Int32)), (.int (0 : Int32)), (.int (1 : Int32))] 4 = mkF m 0 #[.val (.ref a1), .val (.int (58 : Int32)), .val (.int (0 : Int32)), .val (.int (1 : Int32))] [] := by first | (simp [entryFrame, mkF, argsToLocals, Value.category]; done) | rfl
def Qrmlidx6 (Z : State) (a1 : Addr) (k1 : ClassId) (ch : Int32) (h0 : Heap) (n0 : Nat) (v : Option Value) (h : Heap) (L : List Loc) : Prop := v = some (.int (-1 : Int32)) ∧ Fr n0 L ∧ h = h0
set_option maxRecDepth 65536 in
set_option maxHeartbeats 40000000 in
theorem rmlidx6 (l : Launch) (Z : State) (a0 : Array Value) (hw : ∀ d ∈ tables_1, d.before a0 Z = true) (ws : List Jvm.Cond) (a1 : Addr) (k1 : ClassId) (ch : Int32) (h0 : Heap) (n0 : Nat) (Z0 : n0 ≤ h0.size) (V1 : Arv Z h0 a1 k1 .byte (1 : Int32) [(.int ch)] (.int (0 : Int32))) (h58 : ¬ ch = 58) :
    MetFree l (⟨"java/lang/StringLatin1", "indexOf", "([BIII)I"⟩ : MethodName) (head1 (Jvm.Cond.code (⟨"java/lang/StringLatin1", "indexOf", "([BIII)I"⟩ : MethodName) jdk_43_method_22_code 4 (some .int) :: ws) ({ frames := 1, cells := 0, slots := 0, locals := 17 } : Room)) (fun a U => a = #[(.ref a1), (.int (58 : Int32)), (.int (0 : Int32)), (.int (1 : Int32))] ∧ Z.Warmed39 U.vm ∧ U.heap = h0) (fun _ _ _ _ _ => True) (fun _ U o U' => ∃ v L, o = .returned v ∧ Qrmlidx6 Z a1 k1 ch h0 n0 v U'.heap L ∧ FrameEnd U o U' L ({ frames := 1, cells := 0, slots := 0, locals := 17 } : Room).cells ({ frames := 1, cells := 0, slots := 0, locals := 17 } : Room).slots) := by
  refine MetFree.of_bodySF (plainFor_of_name pn_3) hisR ?_
  intro p e s m args below meth c s₁ Bd hml0 hP hK
  obtain ⟨rfl, hZ, hh⟩ := hP
  have hx := Bd.exec
  have hby := Bd.bytes
  have hml : c.maxLocals = 4 := hml0
  have hown : s.vm.findClass "java/lang/StringLatin1" = some m.cls := findClass_of_methodNamed Bd.named
  have hnm := (name_of_methodNamed Bd.named Bd.method).1
  have X0 : Stand p l e ({ frames := 1, cells := 0, slots := 0, locals := 17 } : Room) s m #[(.ref a1), (.int (58 : Int32)), (.int (0 : Int32)), (.int (1 : Int32))] below meth c s₁ [] 0 0 := Stand.of_body Bd
  have e0 : s₁.heap = h0 := by rw [← hh, Bd.state]; rfl
  have N0 := Fr.nil n0
  show Go p.tables e below (fun o U' => ∃ v L, o = .returned v ∧ Qrmlidx6 Z a1 k1 ch h0 n0 v U'.heap L ∧ FrameEnd s o U' L ({ frames := 1, cells := 0, slots := 0, locals := 17 } : Room).cells ({ frames := 1, cells := 0, slots := 0, locals := 17 } : Room).slots) _
  refine Go.step (fun t kt => castTop (ef_rmlidx6 m a1 k1 ch) kt) ?_
  show Go p.tables e below _ (s₁.setTop (mkF m 0 #[.val (.ref a1), .val (.int (58 : Int32)), .val (.int (0 : Int32)), .val (.int (1 : Int32))] []))
  refine Go.step (fun _ kt => XS.iloadN X0.here hx rfl (hb hby d10_0) rfl kt) ?_
  show Go p.tables e below _ (s₁.setTop (mkF m 1 #[.val (.ref a1), .val (.int (58 : Int32)), .val (.int (0 : Int32)), .val (.int (1 : Int32))] [(.int (58 : Int32))]))
  obtain ⟨_, _, ⟨T101, L101, k101, n101⟩, -, X101, ⟨Lc101, hQ101, l101, y101, z101⟩, st101⟩ := Jvm.LawKit.callS X0 hx (y := (⟨"java/lang/StringLatin1", "canEncode", "(I)Z"⟩ : MethodName)) hown (mvT hZ (hw _ (List.mem_of_getElem? (i := 79) rfl))) (mvT hZ (hw _ (List.mem_of_getElem? (i := 80) rfl))) (mvT hZ (hw _ (List.mem_of_getElem? (i := 77) rfl))) (mvT hZ (hw _ (List.mem_of_getElem? (i := 81) rfl))) (by decide) (backOf (W := 0) (rmcan7 l Z a0 hw []   h0 n0 Z0  ) hZ (hw _ (List.mem_of_getElem? (i := 81) rfl)) (hw _ (List.mem_of_getElem? (i := 77) rfl)) (by decide) (by decide)) (g := (mkF m 1 #[.val (.ref a1), .val (.int (58 : Int32)), .val (.int (0 : Int32)), .val (.int (1 : Int32))] [(.int (58 : Int32))])) rfl (by rw [hml]; rfl) (argsL := [(.int (58 : Int32))]) (rest := []) (lenOf pd_4 rfl) rfl (by show 2 * 0 + _ ≤ _; exact Nat.le_of_eq rfl) (hb hby d10_1) (fun _ _ => ⟨rfl, e0, (by decide : 0 + 0 ≤ _), (by decide : 0 + 0 ≤ _)⟩)
  dsimp only [Pt.U, Pt.locs, Pt.cells, Pt.slots] at X101 l101 y101 z101 st101 hQ101
  subst l101 y101 z101
  obtain ⟨rfl, N101q, eh101⟩ := hQ101
  have N101 := Fr.app N0 N101q
  refine Go.step st101 ?_
  show Go p.tables e below _ (T101.setTop (mkF m 4 #[.val (.ref a1), .val (.int (58 : Int32)), .val (.int (0 : Int32)), .val (.int (1 : Int32))] [(.int (1 : Int32))]))
  refine Go.step (fun _ kt => XS.ifYes X101.here hx rfl (pc0 := 4) (pc' := 9) rfl (hb hby d10_4) rfl ((if0 _ _).trans (feq (by decide : ¬ ((1 : Int32) = (0 : Int32)))).2) (by decide) (by decide) (XS.iloadN X101.here hx rfl (hb hby d10_9) rfl (XS.iconst X101.here hx rfl (hb hby d10_10) kt))) ?_
  show Go p.tables e below _ (T101.setTop (mkF m 11 #[.val (.ref a1), .val (.int (58 : Int32)), .val (.int (0 : Int32)), .val (.int (1 : Int32))] [(.int (0 : Int32)), (.int (0 : Int32))]))
  obtain ⟨_, _, ⟨T102, L102, k102, n102⟩, -, X102, ⟨Lc102, hQ102, l102, y102, z102⟩, st102⟩ := Jvm.LawKit.callS X101 hx (y := (⟨"java/lang/Math", "max", "(II)I"⟩ : MethodName)) hown (mvT hZ (hw _ (List.mem_of_getElem? (i := 82) rfl))) (mvT hZ (hw _ (List.mem_of_getElem? (i := 83) rfl))) (mvT hZ (hw _ (List.mem_of_getElem? (i := 84) rfl))) (mvT hZ (hw _ (List.mem_of_getElem? (i := 85) rfl))) (by decide) (backOf (W := 0) (rmmax8 l Z a0 hw []   h0 n0 Z0  ) hZ (hw _ (List.mem_of_getElem? (i := 85) rfl)) (hw _ (List.mem_of_getElem? (i := 84) rfl)) (by decide) (by decide)) (g := (mkF m 11 #[.val (.ref a1), .val (.int (58 : Int32)), .val (.int (0 : Int32)), .val (.int (1 : Int32))] [(.int (0 : Int32)), (.int (0 : Int32))])) rfl (by rw [hml]; rfl) (argsL := [(.int (0 : Int32)), (.int (0 : Int32))]) (rest := []) (lenOf pd_5 rfl) rfl (by show 2 * 0 + _ ≤ _; exact Nat.le_of_eq rfl) (hb hby d10_11) (fun _ _ => ⟨rfl, eh101, (by decide : 0 + 0 ≤ _), (by decide : 0 + 0 ≤ _)⟩)
  dsimp only [Pt.U, Pt.locs, Pt.cells, Pt.slots] at X102 l102 y102 z102 st102 hQ102
  subst l102 y102 z102
  obtain ⟨rfl, N102q, eh102⟩ := hQ102
  have N102 := Fr.app N101 N102q
  refine Go.step st102 ?_
  show Go p.tables e below _ (T102.setTop (mkF m 14 #[.val (.ref a1), .val (.int (58 : Int32)), .val (.int (0 : Int32)), .val (.int (1 : Int32))] [(.int (0 : Int32))]))
  refine Go.step (fun _ kt => XS.istoreN X102.here hx rfl (hb hby d10_14) rfl (l' := #[.val (.ref a1), .val (.int (58 : Int32)), .val (.int (0 : Int32)), .val (.int (1 : Int32))]) rfl (XS.iloadN X102.here hx rfl (hb hby d10_15) rfl (XS.aloadN X102.here hx rfl (hb hby d10_16) rfl rfl kt))) ?_
  show Go p.tables e below _ (T102.setTop (mkF m 17 #[.val (.ref a1), .val (.int (58 : Int32)), .val (.int (0 : Int32)), .val (.int (1 : Int32))] [(.ref a1), (.int (1 : Int32))]))
  obtain ⟨cl103, Ar103, qa103, Sa103, Na103, Ha103, Ga103⟩ := (id V1)
  refine Go.step (X102.arraylength hx (by rw [eh102]; exact Ar103.1) (State.isArrayOf_alike hZ.alike Ar103.2.1) (g := (mkF m 17 #[.val (.ref a1), .val (.int (58 : Int32)), .val (.int (0 : Int32)), .val (.int (1 : Int32))] [(.ref a1), (.int (1 : Int32))])) rfl rfl (hb hby d10_17)) ?_
  rw [len_of Sa103 Na103]
  show Go p.tables e below _ (T102.setTop (mkF m 18 #[.val (.ref a1), .val (.int (58 : Int32)), .val (.int (0 : Int32)), .val (.int (1 : Int32))] [(.int (1 : Int32)), (.int (1 : Int32))]))
  obtain ⟨_, _, ⟨T104, L104, k104, n104⟩, -, X104, ⟨Lc104, hQ104, l104, y104, z104⟩, st104⟩ := Jvm.LawKit.callS X102 hx (y := (⟨"java/lang/Math", "min", "(II)I"⟩ : MethodName)) hown (mvT hZ (hw _ (List.mem_of_getElem? (i := 86) rfl))) (mvT hZ (hw _ (List.mem_of_getElem? (i := 87) rfl))) (mvT hZ (hw _ (List.mem_of_getElem? (i := 84) rfl))) (mvT hZ (hw _ (List.mem_of_getElem? (i := 88) rfl))) (by decide) (backOf (W := 0) (rmmin9 l Z a0 hw []   h0 n0 Z0  ) hZ (hw _ (List.mem_of_getElem? (i := 88) rfl)) (hw _ (List.mem_of_getElem? (i := 84) rfl)) (by decide) (by decide)) (g := (mkF m 18 #[.val (.ref a1), .val (.int (58 : Int32)), .val (.int (0 : Int32)), .val (.int (1 : Int32))] [(.int (1 : Int32)), (.int (1 : Int32))])) rfl (by rw [hml]; rfl) (argsL := [(.int (1 : Int32)), (.int (1 : Int32))]) (rest := []) (lenOf pd_5 rfl) rfl (by show 2 * 0 + _ ≤ _; exact Nat.le_of_eq rfl) (hb hby d10_18) (fun _ _ => ⟨rfl, eh102, (by decide : 0 + 0 ≤ _), (by decide : 0 + 0 ≤ _)⟩)
  dsimp only [Pt.U, Pt.locs, Pt.cells, Pt.slots] at X104 l104 y104 z104 st104 hQ104
  subst l104 y104 z104
  obtain ⟨rfl, N104q, eh104⟩ := hQ104
  have N104 := Fr.app N102 N104q
  refine Go.step st104 ?_
  show Go p.tables e below _ (T104.setTop (mkF m 21 #[.val (.ref a1), .val (.int (58 : Int32)), .val (.int (0 : Int32)), .val (.int (1 : Int32))] [(.int (1 : Int32))]))
  refine Go.step (fun _ kt => XS.istoreN X104.here hx rfl (hb hby d10_21) rfl (l' := #[.val (.ref a1), .val (.int (58 : Int32)), .val (.int (0 : Int32)), .val (.int (1 : Int32))]) rfl (XS.iloadN X104.here hx rfl (hb hby d10_22) rfl (XS.iloadN X104.here hx rfl (hb hby d10_23) rfl (XS.icmpYes X104.here hx rfl (pc0 := 24) (pc' := 29) rfl (hb hby d10_24) rfl (tlt (by decide : (0 : Int32) < (1 : Int32))).1 (by decide) (by decide) (XS.aloadN X104.here hx rfl (hb hby d10_29) rfl rfl (XS.iloadN X104.here hx rfl (hb hby d10_30) rfl (XS.iloadN X104.here hx rfl (hb hby d10_31) rfl (XS.iloadN X104.here hx rfl (hb hby d10_32) rfl kt)))))))) ?_
  show Go p.tables e below _ (T104.setTop (mkF m 33 #[.val (.ref a1), .val (.int (58 : Int32)), .val (.int (0 : Int32)), .val (.int (1 : Int32))] [(.int (1 : Int32)), (.int (0 : Int32)), (.int (58 : Int32)), (.ref a1)]))
  obtain ⟨_, _, ⟨T105, L105, k105, n105⟩, -, X105, ⟨Lc105, hQ105, l105, y105, z105⟩, st105⟩ := Jvm.LawKit.callS X104 hx (y := (⟨"java/lang/StringLatin1", "indexOfChar", "([BIII)I"⟩ : MethodName)) hown (mvT hZ (hw _ (List.mem_of_getElem? (i := 89) rfl))) (mvT hZ (hw _ (List.mem_of_getElem? (i := 90) rfl))) (mvT hZ (hw _ (List.mem_of_getElem? (i := 77) rfl))) (mvT hZ (hw _ (List.mem_of_getElem? (i := 91) rfl))) (by decide) (backOf (W := 0) (rmlidxc10 l Z a0 hw [] a1 k1 ch h0 n0 Z0 V1 h58) hZ (hw _ (List.mem_of_getElem? (i := 91) rfl)) (hw _ (List.mem_of_getElem? (i := 77) rfl)) (by decide) (by decide)) (g := (mkF m 33 #[.val (.ref a1), .val (.int (58 : Int32)), .val (.int (0 : Int32)), .val (.int (1 : Int32))] [(.int (1 : Int32)), (.int (0 : Int32)), (.int (58 : Int32)), (.ref a1)])) rfl (by rw [hml]; rfl) (argsL := [(.ref a1), (.int (58 : Int32)), (.int (0 : Int32)), (.int (1 : Int32))]) (rest := []) (lenOf pd_6 rfl) rfl (by show 2 * 0 + _ ≤ _; exact Nat.le_of_eq rfl) (hb hby d10_33) (fun _ _ => ⟨rfl, eh104, (by decide : 0 + 0 ≤ _), (by decide : 0 + 0 ≤ _)⟩)
  dsimp only [Pt.U, Pt.locs, Pt.cells, Pt.slots] at X105 l105 y105 z105 st105 hQ105
  subst l105 y105 z105
  obtain ⟨rfl, N105q, eh105⟩ := hQ105
  have N105 := Fr.app N104 N105q
  refine Go.step st105 ?_
  show Go p.tables e below _ (T105.setTop (mkF m 36 #[.val (.ref a1), .val (.int (58 : Int32)), .val (.int (0 : Int32)), .val (.int (1 : Int32))] [(.int (-1 : Int32))]))
  obtain ⟨fs, hr, hrun, hended, hW, hsame⟩ := X105.leave (v := some (.int (-1 : Int32))) (fun h => by rw [Bd.returns] at h; cases h)
  refine ⟨_, _, retI X105 hx Bd.returns (hb hby d10_36) hr, hrun, hended, _, _, rfl, ?_, ⟨_, rfl⟩, hW, hsame.mono (by decide) (by decide)⟩
  show Qrmlidx6 Z a1 k1 ch h0 n0 _ T105.heap _
  rw [eh105]
  refine ⟨?_, N105, rfl⟩
  rfl
theorem d8_0 : decode jdk_42_method_80_code 0 = .ok (.aload_n 0, 1) := by decide +kernel
theorem d8_1 : decode jdk_42_method_80_code 1 = .ok (.invokevirtual 492, 3) := by decide +kernel
theorem d8_4 : decode jdk_42_method_80_code 4 = .ok (.ifCond .eq 19, 3) := by decide +kernel
theorem d8_7 : decode jdk_42_method_80_code 7 = .ok (.aload_n 0, 1) := by decide +kernel
theorem d8_8 : decode jdk_42_method_80_code 8 = .ok (.getfield 9, 3) := by decide +kernel
theorem d8_11 : decode jdk_42_method_80_code 11 = .ok (.iload_n 1, 1) := by decide +kernel
theorem d8_12 : decode jdk_42_method_80_code 12 = .ok (.iload_n 2, 1) := by decide +kernel
theorem d8_13 : decode jdk_42_method_80_code 13 = .ok (.aload_n 0, 1) := by decide +kernel
theorem d8_14 : decode jdk_42_method_80_code 14 = .ok (.invokevirtual 505, 3) := by decide +kernel
theorem d8_17 : decode jdk_42_method_80_code 17 = .ok (.invokestatic 637, 3) := by decide +kernel
theorem d8_20 : decode jdk_42_method_80_code 20 = .ok (.goto 16, 3) := by decide +kernel
theorem d8_36 : decode jdk_42_method_80_code 36 = .ok (.ireturn, 1) := by decide +kernel
theorem ef_rmindexOf24 (m : MethodId) (a1 : Addr) (b1 : Addr) (k1 : ClassId) (cs : Int32) (ch : Int32) : entryFrame m #[(.ref a1), (.int (58 : Int32)), (.int (0 : Int32))] 3 = mkF m 0 #[.val (.ref a1), .val (.int (58 : Int32)), .val (.int (0 : Int32))] [] := by first | (simp [entryFrame, mkF, argsToLocals, Value.category]; done) | rfl
def QrmindexOf24 (Z : State) (a1 : Addr) (b1 : Addr) (k1 : ClassId) (cs : Int32) (ch : Int32) (h0 : Heap) (n0 : Nat) (v : Option Value) (h : Heap) (L : List Loc) : Prop := v = some (.int (-1 : Int32)) ∧ Fr n0 L ∧ h = h0
set_option maxRecDepth 65536 in
set_option maxHeartbeats 40000000 in
theorem rmindexOf24 (l : Launch) (Z : State) (a0 : Array Value) (hw : ∀ d ∈ tables_1, d.before a0 Z = true) (ws : List Jvm.Cond) (a1 : Addr) (b1 : Addr) (k1 : ClassId) (cs : Int32) (ch : Int32) (h0 : Heap) (n0 : Nat) (Z0 : n0 ≤ h0.size) (E1 : Exa Z h0 a1 "java/lang/String") (Fc1 : Fld Z h0 a1 "java/lang/String" "coder" "B" (.int (0 : Int32))) (Fv1 : Fld Z h0 a1 "java/lang/String" "value" "[B" (.ref b1)) (V1 : Arv Z h0 b1 k1 .byte (1 : Int32) [(.int ch)] (.int (0 : Int32))) (S_cs : Sta Z h0 "java/lang/String" "COMPACT_STRINGS" "Z" (.int cs)) (hcs : ¬ cs = 0) (h58 : ¬ ch = 58) :
    MetFree l (⟨"java/lang/String", "indexOf", "(II)I"⟩ : MethodName) (head1 (Jvm.Cond.code (⟨"java/lang/String", "indexOf", "(II)I"⟩ : MethodName) jdk_42_method_80_code 3 (some .int) :: ws) ({ frames := 2, cells := 0, slots := 0, locals := 32 } : Room)) (fun a U => a = #[(.ref a1), (.int (58 : Int32)), (.int (0 : Int32))] ∧ Z.Warmed39 U.vm ∧ U.heap = h0) (fun _ _ _ _ _ => True) (fun _ U o U' => ∃ v L, o = .returned v ∧ QrmindexOf24 Z a1 b1 k1 cs ch h0 n0 v U'.heap L ∧ FrameEnd U o U' L ({ frames := 2, cells := 0, slots := 0, locals := 32 } : Room).cells ({ frames := 2, cells := 0, slots := 0, locals := 32 } : Room).slots) := by
  refine MetFree.of_bodySF (plainFor_of_name pn_2) hisR ?_
  intro p e s m args below meth c s₁ Bd hml0 hP hK
  obtain ⟨rfl, hZ, hh⟩ := hP
  have hx := Bd.exec
  have hby := Bd.bytes
  have hml : c.maxLocals = 3 := hml0
  have hown : s.vm.findClass "java/lang/String" = some m.cls := findClass_of_methodNamed Bd.named
  have hnm := (name_of_methodNamed Bd.named Bd.method).1
  have X0 : Stand p l e ({ frames := 2, cells := 0, slots := 0, locals := 32 } : Room) s m #[(.ref a1), (.int (58 : Int32)), (.int (0 : Int32))] below meth c s₁ [] 0 0 := Stand.of_body Bd
  have e0 : s₁.heap = h0 := by rw [← hh, Bd.state]; rfl
  have N0 := Fr.nil n0
  show Go p.tables e below (fun o U' => ∃ v L, o = .returned v ∧ QrmindexOf24 Z a1 b1 k1 cs ch h0 n0 v U'.heap L ∧ FrameEnd s o U' L ({ frames := 2, cells := 0, slots := 0, locals := 32 } : Room).cells ({ frames := 2, cells := 0, slots := 0, locals := 32 } : Room).slots) _
  refine Go.step (fun t kt => castTop (ef_rmindexOf24 m a1 b1 k1 cs ch) kt) ?_
  show Go p.tables e below _ (s₁.setTop (mkF m 0 #[.val (.ref a1), .val (.int (58 : Int32)), .val (.int (0 : Int32))] []))
  refine Go.step (fun _ kt => XS.aloadN X0.here hx rfl (hb hby d8_0) rfl rfl kt) ?_
  show Go p.tables e below _ (s₁.setTop (mkF m 1 #[.val (.ref a1), .val (.int (58 : Int32)), .val (.int (0 : Int32))] [(.ref a1)]))
  obtain ⟨cq101, kq101, q101a, q101b, q101c⟩ := isOf hZ e0 E1
  obtain ⟨_, _, ⟨T101, L101, k101, n101⟩, -, X101, ⟨Lc101, hQ101, l101, y101, z101⟩, st101⟩ := X0.virtualBack hx (y := (⟨"java/lang/String", "isLatin1", "()Z"⟩ : MethodName)) (z := (⟨"java/lang/String", "isLatin1", "()Z"⟩ : MethodName)) hown (mvT hZ (hw _ (List.mem_of_getElem? (i := 69) rfl))) (mvT hZ (hw _ (List.mem_of_getElem? (i := 70) rfl))) (notFace_of_selects (args := #[]) (mvT hZ (hw _ (List.mem_of_getElem? (i := 72) rfl)))) (mvT hZ (hw _ (List.mem_of_getElem? (i := 72) rfl))) (mvT hZ (hw _ (List.mem_of_getElem? (i := 71) rfl))) (by decide) (backOf (W := 0) (rmisLatin15 l Z a0 hw [] a1 b1 k1 cs ch h0 n0 Z0 E1 Fc1 Fv1 V1 S_cs hcs h58) hZ (hw _ (List.mem_of_getElem? (i := 73) rfl)) (hw _ (List.mem_of_getElem? (i := 24) rfl)) (by decide) (by decide)) q101a q101c (g := (mkF m 1 #[.val (.ref a1), .val (.int (58 : Int32)), .val (.int (0 : Int32))] [(.ref a1)])) rfl (by rw [hml]; rfl) (Steps.refl _) (argsL := []) (rest := []) (lenOf pd_3 rfl) rfl (by show 2 * 0 + _ ≤ _; exact Nat.le_of_eq rfl) (hb hby d8_1) (fun _ _ => ⟨rfl, e0, (by decide : 0 + 0 ≤ _), (by decide : 0 + 0 ≤ _)⟩)
  dsimp only [Pt.U, Pt.locs, Pt.cells, Pt.slots] at X101 l101 y101 z101 st101 hQ101
  subst l101 y101 z101
  obtain ⟨rfl, N101q, eh101⟩ := hQ101
  have N101 := Fr.app N0 N101q
  refine Go.step (fun _ kt => st101.trans kt) ?_
  show Go p.tables e below _ (T101.setTop (mkF m 4 #[.val (.ref a1), .val (.int (58 : Int32)), .val (.int (0 : Int32))] [(.int (1 : Int32))]))
  refine Go.step (fun _ kt => XS.ifNo X101.here hx rfl (hb hby d8_4) rfl ((if0 _ _).trans (feq (by decide : ¬ ((1 : Int32) = (0 : Int32)))).1) (XS.aloadN X101.here hx rfl (hb hby d8_7) rfl rfl kt)) ?_
  show Go p.tables e below _ (T101.setTop (mkF m 8 #[.val (.ref a1), .val (.int (58 : Int32)), .val (.int (0 : Int32))] [(.ref a1)]))
  obtain ⟨T102, X102, e102, st102⟩ := getF X101 hx hZ hown (host := "") (Or.inl (hw _ (List.mem_of_getElem? (i := 49) rfl))) Via.refl eh101 Fv1 (g := (mkF m 8 #[.val (.ref a1), .val (.int (58 : Int32)), .val (.int (0 : Int32))] [(.ref a1)])) rfl rfl (hb hby d8_8)
  refine Go.step st102 ?_
  show Go p.tables e below _ (T102.setTop (mkF m 11 #[.val (.ref a1), .val (.int (58 : Int32)), .val (.int (0 : Int32))] [(.ref b1)]))
  refine Go.step (fun _ kt => XS.iloadN X102.here hx rfl (hb hby d8_11) rfl (XS.iloadN X102.here hx rfl (hb hby d8_12) rfl (XS.aloadN X102.here hx rfl (hb hby d8_13) rfl rfl kt))) ?_
  show Go p.tables e below _ (T102.setTop (mkF m 14 #[.val (.ref a1), .val (.int (58 : Int32)), .val (.int (0 : Int32))] [(.ref a1), (.int (0 : Int32)), (.int (58 : Int32)), (.ref b1)]))
  obtain ⟨cq103, kq103, q103a, q103b, q103c⟩ := isOf hZ e102 E1
  obtain ⟨_, _, ⟨T103, L103, k103, n103⟩, -, X103, ⟨Lc103, hQ103, l103, y103, z103⟩, st103⟩ := X102.virtualBack hx (y := (⟨"java/lang/String", "length", "()I"⟩ : MethodName)) (z := (⟨"java/lang/String", "length", "()I"⟩ : MethodName)) hown (mvT hZ (hw _ (List.mem_of_getElem? (i := 74) rfl))) (mvT hZ (hw _ (List.mem_of_getElem? (i := 45) rfl))) (notFace_of_selects (args := #[]) (mvT hZ (hw _ (List.mem_of_getElem? (i := 47) rfl)))) (mvT hZ (hw _ (List.mem_of_getElem? (i := 47) rfl))) (mvT hZ (hw _ (List.mem_of_getElem? (i := 46) rfl))) (by decide) (backOf (W := 3) (rmlength1 l Z a0 hw [] a1 b1 k1 cs ch h0 n0 Z0 E1 Fc1 Fv1 V1 S_cs hcs h58) hZ (hw _ (List.mem_of_getElem? (i := 48) rfl)) (hw _ (List.mem_of_getElem? (i := 24) rfl)) (by decide) (by decide)) q103a q103c (g := (mkF m 14 #[.val (.ref a1), .val (.int (58 : Int32)), .val (.int (0 : Int32))] [(.ref a1), (.int (0 : Int32)), (.int (58 : Int32)), (.ref b1)])) rfl (by rw [hml]; rfl) (Steps.refl _) (argsL := []) (rest := [(.int (0 : Int32)), (.int (58 : Int32)), (.ref b1)]) (lenOf pd_2 rfl) rfl (by show 2 * 0 + _ ≤ _; exact Nat.le_of_eq rfl) (hb hby d8_14) (fun _ _ => ⟨rfl, e102, (by decide : 0 + 0 ≤ _), (by decide : 0 + 0 ≤ _)⟩)
  dsimp only [Pt.U, Pt.locs, Pt.cells, Pt.slots] at X103 l103 y103 z103 st103 hQ103
  subst l103 y103 z103
  obtain ⟨rfl, N103q, eh103⟩ := hQ103
  have N103 := Fr.app N101 N103q
  refine Go.step (fun _ kt => st103.trans kt) ?_
  show Go p.tables e below _ (T103.setTop (mkF m 17 #[.val (.ref a1), .val (.int (58 : Int32)), .val (.int (0 : Int32))] [(.int (1 : Int32)), (.int (0 : Int32)), (.int (58 : Int32)), (.ref b1)]))
  obtain ⟨_, _, ⟨T104, L104, k104, n104⟩, -, X104, ⟨Lc104, hQ104, l104, y104, z104⟩, st104⟩ := Jvm.LawKit.callS X103 hx (y := (⟨"java/lang/StringLatin1", "indexOf", "([BIII)I"⟩ : MethodName)) hown (mvT hZ (hw _ (List.mem_of_getElem? (i := 75) rfl))) (mvT hZ (hw _ (List.mem_of_getElem? (i := 76) rfl))) (mvT hZ (hw _ (List.mem_of_getElem? (i := 77) rfl))) (mvT hZ (hw _ (List.mem_of_getElem? (i := 78) rfl))) (by decide) (backOf (W := 0) (rmlidx6 l Z a0 hw [] b1 k1 ch h0 n0 Z0 V1 h58) hZ (hw _ (List.mem_of_getElem? (i := 78) rfl)) (hw _ (List.mem_of_getElem? (i := 77) rfl)) (by decide) (by decide)) (g := (mkF m 17 #[.val (.ref a1), .val (.int (58 : Int32)), .val (.int (0 : Int32))] [(.int (1 : Int32)), (.int (0 : Int32)), (.int (58 : Int32)), (.ref b1)])) rfl (by rw [hml]; rfl) (argsL := [(.ref b1), (.int (58 : Int32)), (.int (0 : Int32)), (.int (1 : Int32))]) (rest := []) (lenOf pd_6 rfl) rfl (by show 2 * 0 + _ ≤ _; exact Nat.le_of_eq rfl) (hb hby d8_17) (fun _ _ => ⟨rfl, eh103, (by decide : 0 + 0 ≤ _), (by decide : 0 + 0 ≤ _)⟩)
  dsimp only [Pt.U, Pt.locs, Pt.cells, Pt.slots] at X104 l104 y104 z104 st104 hQ104
  subst l104 y104 z104
  obtain ⟨rfl, N104q, eh104⟩ := hQ104
  have N104 := Fr.app N103 N104q
  refine Go.step st104 ?_
  show Go p.tables e below _ (T104.setTop (mkF m 20 #[.val (.ref a1), .val (.int (58 : Int32)), .val (.int (0 : Int32))] [(.int (-1 : Int32))]))
  refine Go.step (fun _ kt => XS.goto X104.here hx rfl (pc0 := 20) (pc' := 36) rfl (hb hby d8_20) (by decide) (by decide) kt) ?_
  show Go p.tables e below _ (T104.setTop (mkF m 36 #[.val (.ref a1), .val (.int (58 : Int32)), .val (.int (0 : Int32))] [(.int (-1 : Int32))]))
  obtain ⟨fs, hr, hrun, hended, hW, hsame⟩ := X104.leave (v := some (.int (-1 : Int32))) (fun h => by rw [Bd.returns] at h; cases h)
  refine ⟨_, _, retI X104 hx Bd.returns (hb hby d8_36) hr, hrun, hended, _, _, rfl, ?_, ⟨_, rfl⟩, hW, hsame.mono (by decide) (by decide)⟩
  show QrmindexOf24 Z a1 b1 k1 cs ch h0 n0 _ T104.heap _
  rw [eh104]
  refine ⟨?_, N104, rfl⟩
  rfl
theorem d7_0 : decode jdk_42_method_79_code 0 = .ok (.aload_n 0, 1) := by decide +kernel
theorem d7_1 : decode jdk_42_method_79_code 1 = .ok (.iload_n 1, 1) := by decide +kernel
theorem d7_2 : decode jdk_42_method_79_code 2 = .ok (.iconst 0, 1) := by decide +kernel
theorem d7_3 : decode jdk_42_method_79_code 3 = .ok (.invokevirtual 633, 3) := by decide +kernel
theorem d7_6 : decode jdk_42_method_79_code 6 = .ok (.ireturn, 1) := by decide +kernel
theorem ef_rmindexOf13 (m : MethodId) (a1 : Addr) (b1 : Addr) (k1 : ClassId) (cs : Int32) (ch : Int32) : entryFrame m #[(.ref a1), (.int (58 : Int32))] 2 = mkF m 0 #[.val (.ref a1), .val (.int (58 : Int32))] [] := by first | (simp [entryFrame, mkF, argsToLocals, Value.category]; done) | rfl
def QrmindexOf13 (Z : State) (a1 : Addr) (b1 : Addr) (k1 : ClassId) (cs : Int32) (ch : Int32) (h0 : Heap) (n0 : Nat) (v : Option Value) (h : Heap) (L : List Loc) : Prop := v = some (.int (-1 : Int32)) ∧ Fr n0 L ∧ h = h0
set_option maxRecDepth 65536 in
set_option maxHeartbeats 40000000 in
theorem rmindexOf13 (l : Launch) (Z : State) (a0 : Array Value) (hw : ∀ d ∈ tables_1, d.before a0 Z = true) (ws : List Jvm.Cond) (a1 : Addr) (b1 : Addr) (k1 : ClassId) (cs : Int32) (ch : Int32) (h0 : Heap) (n0 : Nat) (Z0 : n0 ≤ h0.size) (E1 : Exa Z h0 a1 "java/lang/String") (Fc1 : Fld Z h0 a1 "java/lang/String" "coder" "B" (.int (0 : Int32))) (Fv1 : Fld Z h0 a1 "java/lang/String" "value" "[B" (.ref b1)) (V1 : Arv Z h0 b1 k1 .byte (1 : Int32) [(.int ch)] (.int (0 : Int32))) (S_cs : Sta Z h0 "java/lang/String" "COMPACT_STRINGS" "Z" (.int cs)) (hcs : ¬ cs = 0) (h58 : ¬ ch = 58) :
    MetFree l (⟨"java/lang/String", "indexOf", "(I)I"⟩ : MethodName) (head1 (Jvm.Cond.code (⟨"java/lang/String", "indexOf", "(I)I"⟩ : MethodName) jdk_42_method_79_code 2 (some .int) :: ws) ({ frames := 3, cells := 0, slots := 0, locals := 46 } : Room)) (fun a U => a = #[(.ref a1), (.int (58 : Int32))] ∧ Z.Warmed39 U.vm ∧ U.heap = h0) (fun _ _ _ _ _ => True) (fun _ U o U' => ∃ v L, o = .returned v ∧ QrmindexOf13 Z a1 b1 k1 cs ch h0 n0 v U'.heap L ∧ FrameEnd U o U' L ({ frames := 3, cells := 0, slots := 0, locals := 46 } : Room).cells ({ frames := 3, cells := 0, slots := 0, locals := 46 } : Room).slots) := by
  refine MetFree.of_bodySF (plainFor_of_name pn_2) hisR ?_
  intro p e s m args below meth c s₁ Bd hml0 hP hK
  obtain ⟨rfl, hZ, hh⟩ := hP
  have hx := Bd.exec
  have hby := Bd.bytes
  have hml : c.maxLocals = 2 := hml0
  have hown : s.vm.findClass "java/lang/String" = some m.cls := findClass_of_methodNamed Bd.named
  have hnm := (name_of_methodNamed Bd.named Bd.method).1
  have X0 : Stand p l e ({ frames := 3, cells := 0, slots := 0, locals := 46 } : Room) s m #[(.ref a1), (.int (58 : Int32))] below meth c s₁ [] 0 0 := Stand.of_body Bd
  have e0 : s₁.heap = h0 := by rw [← hh, Bd.state]; rfl
  have N0 := Fr.nil n0
  show Go p.tables e below (fun o U' => ∃ v L, o = .returned v ∧ QrmindexOf13 Z a1 b1 k1 cs ch h0 n0 v U'.heap L ∧ FrameEnd s o U' L ({ frames := 3, cells := 0, slots := 0, locals := 46 } : Room).cells ({ frames := 3, cells := 0, slots := 0, locals := 46 } : Room).slots) _
  refine Go.step (fun t kt => castTop (ef_rmindexOf13 m a1 b1 k1 cs ch) kt) ?_
  show Go p.tables e below _ (s₁.setTop (mkF m 0 #[.val (.ref a1), .val (.int (58 : Int32))] []))
  refine Go.step (fun _ kt => XS.aloadN X0.here hx rfl (hb hby d7_0) rfl rfl (XS.iloadN X0.here hx rfl (hb hby d7_1) rfl (XS.iconst X0.here hx rfl (hb hby d7_2) kt))) ?_
  show Go p.tables e below _ (s₁.setTop (mkF m 3 #[.val (.ref a1), .val (.int (58 : Int32))] [(.int (0 : Int32)), (.int (58 : Int32)), (.ref a1)]))
  obtain ⟨cq101, kq101, q101a, q101b, q101c⟩ := isOf hZ e0 E1
  obtain ⟨_, _, ⟨T101, L101, k101, n101⟩, -, X101, ⟨Lc101, hQ101, l101, y101, z101⟩, st101⟩ := X0.virtualBack hx (y := (⟨"java/lang/String", "indexOf", "(II)I"⟩ : MethodName)) (z := (⟨"java/lang/String", "indexOf", "(II)I"⟩ : MethodName)) hown (mvT hZ (hw _ (List.mem_of_getElem? (i := 64) rfl))) (mvT hZ (hw _ (List.mem_of_getElem? (i := 65) rfl))) (notFace_of_selects (args := #[]) (mvT hZ (hw _ (List.mem_of_getElem? (i := 67) rfl)))) (mvT hZ (hw _ (List.mem_of_getElem? (i := 67) rfl))) (mvT hZ (hw _ (List.mem_of_getElem? (i := 66) rfl))) (by decide) (backOf (W := 0) (rmindexOf24 l Z a0 hw [] a1 b1 k1 cs ch h0 n0 Z0 E1 Fc1 Fv1 V1 S_cs hcs h58) hZ (hw _ (List.mem_of_getElem? (i := 68) rfl)) (hw _ (List.mem_of_getElem? (i := 24) rfl)) (by decide) (by decide)) q101a q101c (g := (mkF m 3 #[.val (.ref a1), .val (.int (58 : Int32))] [(.int (0 : Int32)), (.int (58 : Int32)), (.ref a1)])) rfl (by rw [hml]; rfl) (Steps.refl _) (argsL := [(.int (58 : Int32)), (.int (0 : Int32))]) (rest := []) (lenOf pd_5 rfl) rfl (by show 2 * 0 + _ ≤ _; exact Nat.le_of_eq rfl) (hb hby d7_3) (fun _ _ => ⟨rfl, e0, (by decide : 0 + 0 ≤ _), (by decide : 0 + 0 ≤ _)⟩)
  dsimp only [Pt.U, Pt.locs, Pt.cells, Pt.slots] at X101 l101 y101 z101 st101 hQ101
  subst l101 y101 z101
  obtain ⟨rfl, N101q, eh101⟩ := hQ101
  have N101 := Fr.app N0 N101q
  refine Go.step (fun _ kt => st101.trans kt) ?_
  show Go p.tables e below _ (T101.setTop (mkF m 6 #[.val (.ref a1), .val (.int (58 : Int32))] [(.int (-1 : Int32))]))
  obtain ⟨fs, hr, hrun, hended, hW, hsame⟩ := X101.leave (v := some (.int (-1 : Int32))) (fun h => by rw [Bd.returns] at h; cases h)
  refine ⟨_, _, retI X101 hx Bd.returns (hb hby d7_6) hr, hrun, hended, _, _, rfl, ?_, ⟨_, rfl⟩, hW, hsame.mono (by decide) (by decide)⟩
  show QrmindexOf13 Z a1 b1 k1 cs ch h0 n0 _ T101.heap _
  rw [eh101]
  refine ⟨?_, N101, rfl⟩
  rfl
theorem pd_7 : parseMethodDescriptor "(I)I" = some ⟨[.int], some .int⟩ := by decide +kernel
theorem d16_0 : decode jdk_43_method_13_code 0 = .ok (.aload_n 0, 1) := by decide +kernel
theorem d16_1 : decode jdk_43_method_13_code 1 = .ok (.arraylength, 1) := by decide +kernel
theorem d16_2 : decode jdk_43_method_13_code 2 = .ok (.aload_n 1, 1) := by decide +kernel
theorem d16_3 : decode jdk_43_method_13_code 3 = .ok (.arraylength, 1) := by decide +kernel
theorem d16_4 : decode jdk_43_method_13_code 4 = .ok (.if_icmp .ne 30, 3) := by decide +kernel
theorem d16_34 : decode jdk_43_method_13_code 34 = .ok (.iconst 0, 1) := by decide +kernel
theorem d16_35 : decode jdk_43_method_13_code 35 = .ok (.ireturn, 1) := by decide +kernel
theorem ef_rmle1 (m : MethodId) (a1 : Addr) (a2 : Addr) (k1 : ClassId) (k2 : ClassId) (ch : Int32) : entryFrame m #[(.ref a1), (.ref a2)] 3 = mkF m 0 #[.val (.ref a1), .val (.ref a2), .unset] [] := by first | (simp [entryFrame, mkF, argsToLocals, Value.category]; done) | rfl
def Qrmle1 (Z : State) (a1 : Addr) (a2 : Addr) (k1 : ClassId) (k2 : ClassId) (ch : Int32) (h0 : Heap) (n0 : Nat) (v : Option Value) (h : Heap) (L : List Loc) : Prop := v = some (.int (0 : Int32)) ∧ Fr n0 L ∧ h = h0
set_option maxRecDepth 65536 in
set_option maxHeartbeats 40000000 in
theorem rmle1 (l : Launch) (Z : State) (a0 : Array Value) (hw : ∀ d ∈ tables_1, d.before a0 Z = true) (ws : List Jvm.Cond) (a1 : Addr) (a2 : Addr) (k1 : ClassId) (k2 : ClassId) (ch : Int32) (h0 : Heap) (n0 : Nat) (Z0 : n0 ≤ h0.size) (V1 : Arv Z h0 a1 k1 .byte (1 : Int32) [(.int ch)] (.int (0 : Int32))) (V2 : Arv Z h0 a2 k2 .byte (5 : Int32) [(.int (120 : Int32)), (.int (109 : Int32)), (.int (108 : Int32)), (.int (110 : Int32)), (.int (115 : Int32))] (.int (0 : Int32))) :
    MetFree l (⟨"java/lang/StringLatin1", "equals", "([B[B)Z"⟩ : MethodName) (head1 (Jvm.Cond.code (⟨"java/lang/StringLatin1", "equals", "([B[B)Z"⟩ : MethodName) jdk_43_method_13_code 3 (some .boolean) :: ws) ({ frames := 0, cells := 0, slots := 0, locals := 0 } : Room)) (fun a U => a = #[(.ref a1), (.ref a2)] ∧ Z.Warmed39 U.vm ∧ U.heap = h0) (fun _ _ _ _ _ => True) (fun _ U o U' => ∃ v L, o = .returned v ∧ Qrmle1 Z a1 a2 k1 k2 ch h0 n0 v U'.heap L ∧ FrameEnd U o U' L ({ frames := 0, cells := 0, slots := 0, locals := 0 } : Room).cells ({ frames := 0, cells := 0, slots := 0, locals := 0 } : Room).slots) := by
  refine MetFree.of_bodySF (plainFor_of_name pn_3) hisR ?_
  intro p e s m args below meth c s₁ Bd hml0 hP hK
  obtain ⟨rfl, hZ, hh⟩ := hP
  have hx := Bd.exec
  have hby := Bd.bytes
  have hml : c.maxLocals = 3 := hml0
  have hown : s.vm.findClass "java/lang/StringLatin1" = some m.cls := findClass_of_methodNamed Bd.named
  have hnm := (name_of_methodNamed Bd.named Bd.method).1
  have X0 : Stand p l e ({ frames := 0, cells := 0, slots := 0, locals := 0 } : Room) s m #[(.ref a1), (.ref a2)] below meth c s₁ [] 0 0 := Stand.of_body Bd
  have e0 : s₁.heap = h0 := by rw [← hh, Bd.state]; rfl
  have N0 := Fr.nil n0
  show Go p.tables e below (fun o U' => ∃ v L, o = .returned v ∧ Qrmle1 Z a1 a2 k1 k2 ch h0 n0 v U'.heap L ∧ FrameEnd s o U' L ({ frames := 0, cells := 0, slots := 0, locals := 0 } : Room).cells ({ frames := 0, cells := 0, slots := 0, locals := 0 } : Room).slots) _
  refine Go.step (fun t kt => castTop (ef_rmle1 m a1 a2 k1 k2 ch) kt) ?_
  show Go p.tables e below _ (s₁.setTop (mkF m 0 #[.val (.ref a1), .val (.ref a2), .unset] []))
  refine Go.step (fun _ kt => XS.aloadN X0.here hx rfl (hb hby d16_0) rfl rfl kt) ?_
  show Go p.tables e below _ (s₁.setTop (mkF m 1 #[.val (.ref a1), .val (.ref a2), .unset] [(.ref a1)]))
  obtain ⟨cl101, Ar101, qa101, Sa101, Na101, Ha101, Ga101⟩ := (id V1)
  refine Go.step (X0.arraylength hx (by rw [e0]; exact Ar101.1) (State.isArrayOf_alike hZ.alike Ar101.2.1) (g := (mkF m 1 #[.val (.ref a1), .val (.ref a2), .unset] [(.ref a1)])) rfl rfl (hb hby d16_1)) ?_
  rw [len_of Sa101 Na101]
  show Go p.tables e below _ (s₁.setTop (mkF m 2 #[.val (.ref a1), .val (.ref a2), .unset] [(.int (1 : Int32))]))
  refine Go.step (fun _ kt => XS.aloadN X0.here hx rfl (hb hby d16_2) rfl rfl kt) ?_
  show Go p.tables e below _ (s₁.setTop (mkF m 3 #[.val (.ref a1), .val (.ref a2), .unset] [(.ref a2), (.int (1 : Int32))]))
  obtain ⟨cl102, Ar102, qa102, Sa102, Na102, Ha102, Ga102⟩ := (id V2)
  refine Go.step (X0.arraylength hx (by rw [e0]; exact Ar102.1) (State.isArrayOf_alike hZ.alike Ar102.2.1) (g := (mkF m 3 #[.val (.ref a1), .val (.ref a2), .unset] [(.ref a2), (.int (1 : Int32))])) rfl rfl (hb hby d16_3)) ?_
  rw [len_of Sa102 Na102]
  show Go p.tables e below _ (s₁.setTop (mkF m 4 #[.val (.ref a1), .val (.ref a2), .unset] [(.int (5 : Int32)), (.int (1 : Int32))]))
  refine Go.step (fun _ kt => XS.icmpYes X0.here hx rfl (pc0 := 4) (pc' := 34) rfl (hb hby d16_4) rfl (feq (by decide : ¬ ((1 : Int32) = (5 : Int32)))).2 (by decide) (by decide) (XS.iconst X0.here hx rfl (hb hby d16_34) kt)) ?_
  show Go p.tables e below _ (s₁.setTop (mkF m 35 #[.val (.ref a1), .val (.ref a2), .unset] [(.int (0 : Int32))]))
  obtain ⟨fs, hr, hrun, hended, hW, hsame⟩ := X0.leave (v := some (.int (0 : Int32))) (fun h => by rw [Bd.returns] at h; cases h)
  refine ⟨_, _, retN X0 hx (t := .boolean) Bd.returns (by simp) (hb hby d16_35) hr, hrun, hended, _, _, rfl, ?_, ⟨_, rfl⟩, hW, hsame.mono (by decide) (by decide)⟩
  show Qrmle1 Z a1 a2 k1 k2 ch h0 n0 _ s₁.heap _
  rw [e0]
  refine ⟨?_, N0, rfl⟩
  rfl
theorem pd_8 : parseMethodDescriptor "([B[B)Z" = some ⟨[(.array .byte), (.array .byte)], some .boolean⟩ := by decide +kernel
theorem d15_0 : decode jdk_42_method_66_code 0 = .ok (.aload_n 0, 1) := by decide +kernel
theorem d15_1 : decode jdk_42_method_66_code 1 = .ok (.aload_n 1, 1) := by decide +kernel
theorem d15_2 : decode jdk_42_method_66_code 2 = .ok (.if_acmp .ne 5, 3) := by decide +kernel
theorem d15_7 : decode jdk_42_method_66_code 7 = .ok (.aload_n 1, 1) := by decide +kernel
theorem d15_8 : decode jdk_42_method_66_code 8 = .ok (.instanceof 10, 3) := by decide +kernel
theorem d15_11 : decode jdk_42_method_66_code 11 = .ok (.ifCond .eq 43, 3) := by decide +kernel
theorem d15_14 : decode jdk_42_method_66_code 14 = .ok (.aload_n 1, 1) := by decide +kernel
theorem d15_15 : decode jdk_42_method_66_code 15 = .ok (.checkcast 10, 3) := by decide +kernel
theorem d15_18 : decode jdk_42_method_66_code 18 = .ok (.astore_n 2, 1) := by decide +kernel
theorem d15_19 : decode jdk_42_method_66_code 19 = .ok (.getstatic 38, 3) := by decide +kernel
theorem d15_22 : decode jdk_42_method_66_code 22 = .ok (.ifCond .eq 14, 3) := by decide +kernel
theorem d15_25 : decode jdk_42_method_66_code 25 = .ok (.aload_n 0, 1) := by decide +kernel
theorem d15_26 : decode jdk_42_method_66_code 26 = .ok (.getfield 15, 3) := by decide +kernel
theorem d15_29 : decode jdk_42_method_66_code 29 = .ok (.aload_n 2, 1) := by decide +kernel
theorem d15_30 : decode jdk_42_method_66_code 30 = .ok (.getfield 15, 3) := by decide +kernel
theorem d15_33 : decode jdk_42_method_66_code 33 = .ok (.if_icmp .ne 21, 3) := by decide +kernel
theorem d15_36 : decode jdk_42_method_66_code 36 = .ok (.aload_n 0, 1) := by decide +kernel
theorem d15_37 : decode jdk_42_method_66_code 37 = .ok (.getfield 9, 3) := by decide +kernel
theorem d15_40 : decode jdk_42_method_66_code 40 = .ok (.aload_n 2, 1) := by decide +kernel
theorem d15_41 : decode jdk_42_method_66_code 41 = .ok (.getfield 9, 3) := by decide +kernel
theorem d15_44 : decode jdk_42_method_66_code 44 = .ok (.invokestatic 541, 3) := by decide +kernel
theorem d15_47 : decode jdk_42_method_66_code 47 = .ok (.ifCond .eq 7, 3) := by decide +kernel
theorem d15_54 : decode jdk_42_method_66_code 54 = .ok (.iconst 0, 1) := by decide +kernel
theorem d15_55 : decode jdk_42_method_66_code 55 = .ok (.ireturn, 1) := by decide +kernel
theorem ef_rmeq0 (m : MethodId) (a1 : Addr) (a2 : Addr) (b1 : Addr) (k1 : ClassId) (b2 : Addr) (k2 : ClassId) (cs : Int32) (ch : Int32) : entryFrame m #[(.ref a1), (.ref a2)] 3 = mkF m 0 #[.val (.ref a1), .val (.ref a2), .unset] [] := by first | (simp [entryFrame, mkF, argsToLocals, Value.category]; done) | rfl
def Qrmeq0 (Z : State) (a1 : Addr) (a2 : Addr) (b1 : Addr) (k1 : ClassId) (b2 : Addr) (k2 : ClassId) (cs : Int32) (ch : Int32) (h0 : Heap) (n0 : Nat) (v : Option Value) (h : Heap) (L : List Loc) : Prop := v = some (.int (0 : Int32)) ∧ Fr n0 L ∧ h = h0
set_option maxRecDepth 65536 in
set_option maxHeartbeats 40000000 in
theorem rmeq0 (l : Launch) (Z : State) (a0 : Array Value) (hw : ∀ d ∈ tables_1, d.before a0 Z = true) (ws : List Jvm.Cond) (a1 : Addr) (a2 : Addr) (b1 : Addr) (k1 : ClassId) (b2 : Addr) (k2 : ClassId) (cs : Int32) (ch : Int32) (h0 : Heap) (n0 : Nat) (Z0 : n0 ≤ h0.size) (E1 : Exa Z h0 a1 "java/lang/String") (Fc1 : Fld Z h0 a1 "java/lang/String" "coder" "B" (.int (0 : Int32))) (Fv1 : Fld Z h0 a1 "java/lang/String" "value" "[B" (.ref b1)) (V1 : Arv Z h0 b1 k1 .byte (1 : Int32) [(.int ch)] (.int (0 : Int32))) (E2 : Exa Z h0 a2 "java/lang/String") (Fc2 : Fld Z h0 a2 "java/lang/String" "coder" "B" (.int (0 : Int32))) (Fv2 : Fld Z h0 a2 "java/lang/String" "value" "[B" (.ref b2)) (V2 : Arv Z h0 b2 k2 .byte (5 : Int32) [(.int (120 : Int32)), (.int (109 : Int32)), (.int (108 : Int32)), (.int (110 : Int32)), (.int (115 : Int32))] (.int (0 : Int32))) (S_cs : Sta Z h0 "java/lang/String" "COMPACT_STRINGS" "Z" (.int cs)) (hcs : ¬ cs = 0) :
    MetFree l (⟨"java/lang/String", "equals", "(Ljava/lang/Object;)Z"⟩ : MethodName) (head1 (Jvm.Cond.code (⟨"java/lang/String", "equals", "(Ljava/lang/Object;)Z"⟩ : MethodName) jdk_42_method_66_code 3 (some .boolean) :: ws) ({ frames := 1, cells := 0, slots := 0, locals := 14 } : Room)) (fun a U => a = #[(.ref a1), (.ref a2)] ∧ Z.Warmed39 U.vm ∧ U.heap = h0) (fun _ _ _ _ _ => True) (fun _ U o U' => ∃ v L, o = .returned v ∧ Qrmeq0 Z a1 a2 b1 k1 b2 k2 cs ch h0 n0 v U'.heap L ∧ FrameEnd U o U' L ({ frames := 1, cells := 0, slots := 0, locals := 14 } : Room).cells ({ frames := 1, cells := 0, slots := 0, locals := 14 } : Room).slots) := by
  refine MetFree.of_bodySF (plainFor_of_name pn_2) hisR ?_
  intro p e s m args below meth c s₁ Bd hml0 hP hK
  obtain ⟨rfl, hZ, hh⟩ := hP
  have hx := Bd.exec
  have hby := Bd.bytes
  have hml : c.maxLocals = 3 := hml0
  have hown : s.vm.findClass "java/lang/String" = some m.cls := findClass_of_methodNamed Bd.named
  have hnm := (name_of_methodNamed Bd.named Bd.method).1
  have X0 : Stand p l e ({ frames := 1, cells := 0, slots := 0, locals := 14 } : Room) s m #[(.ref a1), (.ref a2)] below meth c s₁ [] 0 0 := Stand.of_body Bd
  have e0 : s₁.heap = h0 := by rw [← hh, Bd.state]; rfl
  have N0 := Fr.nil n0
  show Go p.tables e below (fun o U' => ∃ v L, o = .returned v ∧ Qrmeq0 Z a1 a2 b1 k1 b2 k2 cs ch h0 n0 v U'.heap L ∧ FrameEnd s o U' L ({ frames := 1, cells := 0, slots := 0, locals := 14 } : Room).cells ({ frames := 1, cells := 0, slots := 0, locals := 14 } : Room).slots) _
  refine Go.step (fun t kt => castTop (ef_rmeq0 m a1 a2 b1 k1 b2 k2 cs ch) kt) ?_
  show Go p.tables e below _ (s₁.setTop (mkF m 0 #[.val (.ref a1), .val (.ref a2), .unset] []))
  have ne12 : a1 ≠ a2 := Fld.ne Fv1 Fv2 (fun q => own_arv_ne V1 V2 (Or.inl (by decide)) (Value.ref.inj q))
  refine Go.step (fun _ kt => XS.aloadN X0.here hx rfl (hb hby d15_0) rfl rfl (XS.aloadN X0.here hx rfl (hb hby d15_1) rfl rfl kt)) ?_
  show Go p.tables e below _ (s₁.setTop (mkF m 2 #[.val (.ref a1), .val (.ref a2), .unset] [(.ref a2), (.ref a1)]))
  refine Go.step (fun _ kt => Jvm.RoadKit.acmp (g := (mkF m 2 #[.val (.ref a1), .val (.ref a2), .unset] [(.ref a2), (.ref a1)])) X0 hx rfl rfl rfl (pc0 := 2) (pc' := 7) (same := false) rfl (hb hby d15_2) rfl (decide_eq_false fun q => ne12 (Value.ref.inj q)) (by decide) (by decide) kt) ?_
  show Go p.tables e below _ (s₁.setTop (mkF m 7 #[.val (.ref a1), .val (.ref a2), .unset] []))
  refine Go.step (fun _ kt => XS.aloadN X0.here hx rfl (hb hby d15_7) rfl rfl kt) ?_
  show Go p.tables e below _ (s₁.setTop (mkF m 8 #[.val (.ref a1), .val (.ref a2), .unset] [(.ref a2)]))
  obtain ⟨T101, X101, e101, st101⟩ := instY X0 hx hZ hown (hw _ (List.mem_of_getElem? (i := 102) rfl)) e0 (Ins.self E2) (g := (mkF m 8 #[.val (.ref a1), .val (.ref a2), .unset] [(.ref a2)])) rfl rfl (hb hby d15_8)
  refine Go.step st101 ?_
  show Go p.tables e below _ (T101.setTop (mkF m 11 #[.val (.ref a1), .val (.ref a2), .unset] [(.int (1 : Int32))]))
  refine Go.step (fun _ kt => XS.ifNo X101.here hx rfl (hb hby d15_11) rfl ((if0 _ _).trans (feq (by decide : ¬ ((1 : Int32) = (0 : Int32)))).1) (XS.aloadN X101.here hx rfl (hb hby d15_14) rfl rfl kt)) ?_
  show Go p.tables e below _ (T101.setTop (mkF m 15 #[.val (.ref a1), .val (.ref a2), .unset] [(.ref a2)]))
  obtain ⟨T102, X102, e102, st102⟩ := castY X101 hx hZ hown (hw _ (List.mem_of_getElem? (i := 102) rfl)) e101 (Ins.self E2) (g := (mkF m 15 #[.val (.ref a1), .val (.ref a2), .unset] [(.ref a2)])) rfl rfl (hb hby d15_15)
  refine Go.step st102 ?_
  show Go p.tables e below _ (T102.setTop (mkF m 18 #[.val (.ref a1), .val (.ref a2), .unset] [(.ref a2)]))
  refine Go.step (fun _ kt => XS.astoreN X102.here hx rfl (hb hby d15_18) rfl rfl (l' := #[.val (.ref a1), .val (.ref a2), .val (.ref a2)]) rfl kt) ?_
  show Go p.tables e below _ (T102.setTop (mkF m 19 #[.val (.ref a1), .val (.ref a2), .val (.ref a2)] []))
  obtain ⟨T103, X103, e103, st103⟩ := getS2 X102 hx hZ hown (host := "") (Or.inl (hw _ (List.mem_of_getElem? (i := 55) rfl))) Via.refl e102 S_cs (g := (mkF m 19 #[.val (.ref a1), .val (.ref a2), .val (.ref a2)] [])) rfl (hb hby d15_19)
  refine Go.step st103 ?_
  show Go p.tables e below _ (T103.setTop (mkF m 22 #[.val (.ref a1), .val (.ref a2), .val (.ref a2)] [(.int cs)]))
  refine Go.step (fun _ kt => XS.ifNo X103.here hx rfl (hb hby d15_22) rfl ((if0 _ _).trans (feq hcs).1) (XS.aloadN X103.here hx rfl (hb hby d15_25) rfl rfl kt)) ?_
  show Go p.tables e below _ (T103.setTop (mkF m 26 #[.val (.ref a1), .val (.ref a2), .val (.ref a2)] [(.ref a1)]))
  obtain ⟨T104, X104, e104, st104⟩ := getF X103 hx hZ hown (host := "") (Or.inl (hw _ (List.mem_of_getElem? (i := 56) rfl))) Via.refl e103 Fc1 (g := (mkF m 26 #[.val (.ref a1), .val (.ref a2), .val (.ref a2)] [(.ref a1)])) rfl rfl (hb hby d15_26)
  refine Go.step st104 ?_
  show Go p.tables e below _ (T104.setTop (mkF m 29 #[.val (.ref a1), .val (.ref a2), .val (.ref a2)] [(.int (0 : Int32))]))
  refine Go.step (fun _ kt => XS.aloadN X104.here hx rfl (hb hby d15_29) rfl rfl kt) ?_
  show Go p.tables e below _ (T104.setTop (mkF m 30 #[.val (.ref a1), .val (.ref a2), .val (.ref a2)] [(.ref a2), (.int (0 : Int32))]))
  obtain ⟨T105, X105, e105, st105⟩ := getF X104 hx hZ hown (host := "") (Or.inl (hw _ (List.mem_of_getElem? (i := 56) rfl))) Via.refl e104 Fc2 (g := (mkF m 30 #[.val (.ref a1), .val (.ref a2), .val (.ref a2)] [(.ref a2), (.int (0 : Int32))])) rfl rfl (hb hby d15_30)
  refine Go.step st105 ?_
  show Go p.tables e below _ (T105.setTop (mkF m 33 #[.val (.ref a1), .val (.ref a2), .val (.ref a2)] [(.int (0 : Int32)), (.int (0 : Int32))]))
  refine Go.step (fun _ kt => XS.icmpNo X105.here hx rfl (hb hby d15_33) rfl (teq (by decide : (0 : Int32) = (0 : Int32))).2 (XS.aloadN X105.here hx rfl (hb hby d15_36) rfl rfl kt)) ?_
  show Go p.tables e below _ (T105.setTop (mkF m 37 #[.val (.ref a1), .val (.ref a2), .val (.ref a2)] [(.ref a1)]))
  obtain ⟨T106, X106, e106, st106⟩ := getF X105 hx hZ hown (host := "") (Or.inl (hw _ (List.mem_of_getElem? (i := 49) rfl))) Via.refl e105 Fv1 (g := (mkF m 37 #[.val (.ref a1), .val (.ref a2), .val (.ref a2)] [(.ref a1)])) rfl rfl (hb hby d15_37)
  refine Go.step st106 ?_
  show Go p.tables e below _ (T106.setTop (mkF m 40 #[.val (.ref a1), .val (.ref a2), .val (.ref a2)] [(.ref b1)]))
  refine Go.step (fun _ kt => XS.aloadN X106.here hx rfl (hb hby d15_40) rfl rfl kt) ?_
  show Go p.tables e below _ (T106.setTop (mkF m 41 #[.val (.ref a1), .val (.ref a2), .val (.ref a2)] [(.ref a2), (.ref b1)]))
  obtain ⟨T107, X107, e107, st107⟩ := getF X106 hx hZ hown (host := "") (Or.inl (hw _ (List.mem_of_getElem? (i := 49) rfl))) Via.refl e106 Fv2 (g := (mkF m 41 #[.val (.ref a1), .val (.ref a2), .val (.ref a2)] [(.ref a2), (.ref b1)])) rfl rfl (hb hby d15_41)
  refine Go.step st107 ?_
  show Go p.tables e below _ (T107.setTop (mkF m 44 #[.val (.ref a1), .val (.ref a2), .val (.ref a2)] [(.ref b2), (.ref b1)]))
  obtain ⟨_, _, ⟨T108, L108, k108, n108⟩, -, X108, ⟨Lc108, hQ108, l108, y108, z108⟩, st108⟩ := Jvm.LawKit.callS X107 hx (y := (⟨"java/lang/StringLatin1", "equals", "([B[B)Z"⟩ : MethodName)) hown (mvT hZ (hw _ (List.mem_of_getElem? (i := 104) rfl))) (mvT hZ (hw _ (List.mem_of_getElem? (i := 105) rfl))) (mvT hZ (hw _ (List.mem_of_getElem? (i := 77) rfl))) (mvT hZ (hw _ (List.mem_of_getElem? (i := 106) rfl))) (by decide) (backOf (W := 0) (rmle1 l Z a0 hw [] b1 b2 k1 k2 ch h0 n0 Z0 V1 V2 ) hZ (hw _ (List.mem_of_getElem? (i := 106) rfl)) (hw _ (List.mem_of_getElem? (i := 77) rfl)) (by decide) (by decide)) (g := (mkF m 44 #[.val (.ref a1), .val (.ref a2), .val (.ref a2)] [(.ref b2), (.ref b1)])) rfl (by rw [hml]; rfl) (argsL := [(.ref b1), (.ref b2)]) (rest := []) (lenOf pd_8 rfl) rfl (by show 2 * 0 + _ ≤ _; exact Nat.le_of_eq rfl) (hb hby d15_44) (fun _ _ => ⟨rfl, e107, (by decide : 0 + 0 ≤ _), (by decide : 0 + 0 ≤ _)⟩)
  dsimp only [Pt.U, Pt.locs, Pt.cells, Pt.slots] at X108 l108 y108 z108 st108 hQ108
  subst l108 y108 z108
  obtain ⟨rfl, N108q, eh108⟩ := hQ108
  have N108 := Fr.app N0 N108q
  refine Go.step st108 ?_
  show Go p.tables e below _ (T108.setTop (mkF m 47 #[.val (.ref a1), .val (.ref a2), .val (.ref a2)] [(.int (0 : Int32))]))
  refine Go.step (fun _ kt => XS.ifYes X108.here hx rfl (pc0 := 47) (pc' := 54) rfl (hb hby d15_47) rfl ((if0 _ _).trans (teq (by decide : (0 : Int32) = (0 : Int32))).1) (by decide) (by decide) (XS.iconst X108.here hx rfl (hb hby d15_54) kt)) ?_
  show Go p.tables e below _ (T108.setTop (mkF m 55 #[.val (.ref a1), .val (.ref a2), .val (.ref a2)] [(.int (0 : Int32))]))
  obtain ⟨fs, hr, hrun, hended, hW, hsame⟩ := X108.leave (v := some (.int (0 : Int32))) (fun h => by rw [Bd.returns] at h; cases h)
  refine ⟨_, _, retN X108 hx (t := .boolean) Bd.returns (by simp) (hb hby d15_55) hr, hrun, hended, _, _, rfl, ?_, ⟨_, rfl⟩, hW, hsame.mono (by decide) (by decide)⟩
  show Qrmeq0 Z a1 a2 b1 k1 b2 k2 cs ch h0 n0 _ T108.heap _
  rw [eh108]
  refine ⟨?_, N108, rfl⟩
  rfl
theorem pd_9 : parseMethodDescriptor "(Ljava/lang/Object;)Z" = some ⟨[(.object "java/lang/Object")], some .boolean⟩ := by decide +kernel
theorem ef_rmcoder12 (m : MethodId) (a1 : Addr) (b1 : Addr) (k1 : ClassId) (cs : Int32) : entryFrame m #[(.ref a1)] 1 = mkF m 0 #[.val (.ref a1)] [] := by first | (simp [entryFrame, mkF, argsToLocals, Value.category]; done) | rfl
def Qrmcoder12 (Z : State) (a1 : Addr) (b1 : Addr) (k1 : ClassId) (cs : Int32) (h0 : Heap) (n0 : Nat) (v : Option Value) (h : Heap) (L : List Loc) : Prop := v = some (.int (0 : Int32)) ∧ Fr n0 L ∧ h = h0
set_option maxRecDepth 65536 in
set_option maxHeartbeats 40000000 in
theorem rmcoder12 (l : Launch) (Z : State) (a0 : Array Value) (hw : ∀ d ∈ tables_1, d.before a0 Z = true) (ws : List Jvm.Cond) (a1 : Addr) (b1 : Addr) (k1 : ClassId) (cs : Int32) (h0 : Heap) (n0 : Nat) (Z0 : n0 ≤ h0.size) (E1 : Exa Z h0 a1 "java/lang/String") (Fc1 : Fld Z h0 a1 "java/lang/String" "coder" "B" (.int (0 : Int32))) (Fv1 : Fld Z h0 a1 "java/lang/String" "value" "[B" (.ref b1)) (V1 : Arv Z h0 b1 k1 .byte (5 : Int32) [(.int (120 : Int32)), (.int (109 : Int32)), (.int (108 : Int32)), (.int (110 : Int32)), (.int (115 : Int32))] (.int (0 : Int32))) (S_cs : Sta Z h0 "java/lang/String" "COMPACT_STRINGS" "Z" (.int cs)) (hcs : ¬ cs = 0) :
    MetFree l (⟨"java/lang/String", "coder", "()B"⟩ : MethodName) (head1 (Jvm.Cond.code (⟨"java/lang/String", "coder", "()B"⟩ : MethodName) jdk_42_method_152_code 1 (some .byte) :: ws) ({ frames := 0, cells := 0, slots := 0, locals := 0 } : Room)) (fun a U => a = #[(.ref a1)] ∧ Z.Warmed39 U.vm ∧ U.heap = h0) (fun _ _ _ _ _ => True) (fun _ U o U' => ∃ v L, o = .returned v ∧ Qrmcoder12 Z a1 b1 k1 cs h0 n0 v U'.heap L ∧ FrameEnd U o U' L ({ frames := 0, cells := 0, slots := 0, locals := 0 } : Room).cells ({ frames := 0, cells := 0, slots := 0, locals := 0 } : Room).slots) := by
  refine MetFree.of_bodySF (plainFor_of_name pn_2) hisR ?_
  intro p e s m args below meth c s₁ Bd hml0 hP hK
  obtain ⟨rfl, hZ, hh⟩ := hP
  have hx := Bd.exec
  have hby := Bd.bytes
  have hml : c.maxLocals = 1 := hml0
  have hown : s.vm.findClass "java/lang/String" = some m.cls := findClass_of_methodNamed Bd.named
  have hnm := (name_of_methodNamed Bd.named Bd.method).1
  have X0 : Stand p l e ({ frames := 0, cells := 0, slots := 0, locals := 0 } : Room) s m #[(.ref a1)] below meth c s₁ [] 0 0 := Stand.of_body Bd
  have e0 : s₁.heap = h0 := by rw [← hh, Bd.state]; rfl
  have N0 := Fr.nil n0
  show Go p.tables e below (fun o U' => ∃ v L, o = .returned v ∧ Qrmcoder12 Z a1 b1 k1 cs h0 n0 v U'.heap L ∧ FrameEnd s o U' L ({ frames := 0, cells := 0, slots := 0, locals := 0 } : Room).cells ({ frames := 0, cells := 0, slots := 0, locals := 0 } : Room).slots) _
  refine Go.step (fun t kt => castTop (ef_rmcoder12 m a1 b1 k1 cs) kt) ?_
  show Go p.tables e below _ (s₁.setTop (mkF m 0 #[.val (.ref a1)] []))
  obtain ⟨T101, X101, e101, st101⟩ := getS2 X0 hx hZ hown (host := "") (Or.inl (hw _ (List.mem_of_getElem? (i := 55) rfl))) Via.refl e0 S_cs (g := (mkF m 0 #[.val (.ref a1)] [])) rfl (hb hby d6_0)
  refine Go.step st101 ?_
  show Go p.tables e below _ (T101.setTop (mkF m 3 #[.val (.ref a1)] [(.int cs)]))
  refine Go.step (fun _ kt => XS.ifNo X101.here hx rfl (hb hby d6_3) rfl ((if0 _ _).trans (feq hcs).1) (XS.aloadN X101.here hx rfl (hb hby d6_6) rfl rfl kt)) ?_
  show Go p.tables e below _ (T101.setTop (mkF m 7 #[.val (.ref a1)] [(.ref a1)]))
  obtain ⟨T102, X102, e102, st102⟩ := getF X101 hx hZ hown (host := "") (Or.inl (hw _ (List.mem_of_getElem? (i := 56) rfl))) Via.refl e101 Fc1 (g := (mkF m 7 #[.val (.ref a1)] [(.ref a1)])) rfl rfl (hb hby d6_7)
  refine Go.step st102 ?_
  show Go p.tables e below _ (T102.setTop (mkF m 10 #[.val (.ref a1)] [(.int (0 : Int32))]))
  refine Go.step (fun _ kt => XS.goto X102.here hx rfl (pc0 := 10) (pc' := 14) rfl (hb hby d6_10) (by decide) (by decide) kt) ?_
  show Go p.tables e below _ (T102.setTop (mkF m 14 #[.val (.ref a1)] [(.int (0 : Int32))]))
  obtain ⟨fs, hr, hrun, hended, hW, hsame⟩ := X102.leave (v := some (.int (0 : Int32))) (fun h => by rw [Bd.returns] at h; cases h)
  refine ⟨_, _, retN X102 hx (t := .byte) Bd.returns (by simp) (hb hby d6_14) hr, hrun, hended, _, _, rfl, ?_, ⟨_, rfl⟩, hW, hsame.mono (by decide) (by decide)⟩
  show Qrmcoder12 Z a1 b1 k1 cs h0 n0 _ T102.heap _
  rw [e102]
  refine ⟨?_, N0, rfl⟩
  rfl
theorem ef_rmlength11 (m : MethodId) (a1 : Addr) (b1 : Addr) (k1 : ClassId) (cs : Int32) : entryFrame m #[(.ref a1)] 1 = mkF m 0 #[.val (.ref a1)] [] := by first | (simp [entryFrame, mkF, argsToLocals, Value.category]; done) | rfl
def Qrmlength11 (Z : State) (a1 : Addr) (b1 : Addr) (k1 : ClassId) (cs : Int32) (h0 : Heap) (n0 : Nat) (v : Option Value) (h : Heap) (L : List Loc) : Prop := v = some (.int (5 : Int32)) ∧ Fr n0 L ∧ h = h0
set_option maxRecDepth 65536 in
set_option maxHeartbeats 40000000 in
theorem rmlength11 (l : Launch) (Z : State) (a0 : Array Value) (hw : ∀ d ∈ tables_1, d.before a0 Z = true) (ws : List Jvm.Cond) (a1 : Addr) (b1 : Addr) (k1 : ClassId) (cs : Int32) (h0 : Heap) (n0 : Nat) (Z0 : n0 ≤ h0.size) (E1 : Exa Z h0 a1 "java/lang/String") (Fc1 : Fld Z h0 a1 "java/lang/String" "coder" "B" (.int (0 : Int32))) (Fv1 : Fld Z h0 a1 "java/lang/String" "value" "[B" (.ref b1)) (V1 : Arv Z h0 b1 k1 .byte (5 : Int32) [(.int (120 : Int32)), (.int (109 : Int32)), (.int (108 : Int32)), (.int (110 : Int32)), (.int (115 : Int32))] (.int (0 : Int32))) (S_cs : Sta Z h0 "java/lang/String" "COMPACT_STRINGS" "Z" (.int cs)) (hcs : ¬ cs = 0) :
    MetFree l (⟨"java/lang/String", "length", "()I"⟩ : MethodName) (head1 (Jvm.Cond.code (⟨"java/lang/String", "length", "()I"⟩ : MethodName) jdk_42_method_54_code 1 (some .int) :: ws) ({ frames := 1, cells := 0, slots := 0, locals := 13 } : Room)) (fun a U => a = #[(.ref a1)] ∧ Z.Warmed39 U.vm ∧ U.heap = h0) (fun _ _ _ _ _ => True) (fun _ U o U' => ∃ v L, o = .returned v ∧ Qrmlength11 Z a1 b1 k1 cs h0 n0 v U'.heap L ∧ FrameEnd U o U' L ({ frames := 1, cells := 0, slots := 0, locals := 13 } : Room).cells ({ frames := 1, cells := 0, slots := 0, locals := 13 } : Room).slots) := by
  refine MetFree.of_bodySF (plainFor_of_name pn_2) hisR ?_
  intro p e s m args below meth c s₁ Bd hml0 hP hK
  obtain ⟨rfl, hZ, hh⟩ := hP
  have hx := Bd.exec
  have hby := Bd.bytes
  have hml : c.maxLocals = 1 := hml0
  have hown : s.vm.findClass "java/lang/String" = some m.cls := findClass_of_methodNamed Bd.named
  have hnm := (name_of_methodNamed Bd.named Bd.method).1
  have X0 : Stand p l e ({ frames := 1, cells := 0, slots := 0, locals := 13 } : Room) s m #[(.ref a1)] below meth c s₁ [] 0 0 := Stand.of_body Bd
  have e0 : s₁.heap = h0 := by rw [← hh, Bd.state]; rfl
  have N0 := Fr.nil n0
  show Go p.tables e below (fun o U' => ∃ v L, o = .returned v ∧ Qrmlength11 Z a1 b1 k1 cs h0 n0 v U'.heap L ∧ FrameEnd s o U' L ({ frames := 1, cells := 0, slots := 0, locals := 13 } : Room).cells ({ frames := 1, cells := 0, slots := 0, locals := 13 } : Room).slots) _
  refine Go.step (fun t kt => castTop (ef_rmlength11 m a1 b1 k1 cs) kt) ?_
  show Go p.tables e below _ (s₁.setTop (mkF m 0 #[.val (.ref a1)] []))
  refine Go.step (fun _ kt => XS.aloadN X0.here hx rfl (hb hby d5_0) rfl rfl kt) ?_
  show Go p.tables e below _ (s₁.setTop (mkF m 1 #[.val (.ref a1)] [(.ref a1)]))
  obtain ⟨T101, X101, e101, st101⟩ := getF X0 hx hZ hown (host := "") (Or.inl (hw _ (List.mem_of_getElem? (i := 49) rfl))) Via.refl e0 Fv1 (g := (mkF m 1 #[.val (.ref a1)] [(.ref a1)])) rfl rfl (hb hby d5_1)
  refine Go.step st101 ?_
  show Go p.tables e below _ (T101.setTop (mkF m 4 #[.val (.ref a1)] [(.ref b1)]))
  obtain ⟨cl102, Ar102, qa102, Sa102, Na102, Ha102, Ga102⟩ := (id V1)
  refine Go.step (X101.arraylength hx (by rw [e101]; exact Ar102.1) (State.isArrayOf_alike hZ.alike Ar102.2.1) (g := (mkF m 4 #[.val (.ref a1)] [(.ref b1)])) rfl rfl (hb hby d5_4)) ?_
  rw [len_of Sa102 Na102]
  show Go p.tables e below _ (T101.setTop (mkF m 5 #[.val (.ref a1)] [(.int (5 : Int32))]))
  refine Go.step (fun _ kt => XS.aloadN X101.here hx rfl (hb hby d5_5) rfl rfl kt) ?_
  show Go p.tables e below _ (T101.setTop (mkF m 6 #[.val (.ref a1)] [(.ref a1), (.int (5 : Int32))]))
  obtain ⟨cq103, kq103, q103a, q103b, q103c⟩ := isOf hZ e101 E1
  obtain ⟨_, _, ⟨T103, L103, k103, n103⟩, -, X103, ⟨Lc103, hQ103, l103, y103, z103⟩, st103⟩ := X101.virtualBack hx (y := (⟨"java/lang/String", "coder", "()B"⟩ : MethodName)) (z := (⟨"java/lang/String", "coder", "()B"⟩ : MethodName)) hown (mvT hZ (hw _ (List.mem_of_getElem? (i := 50) rfl))) (mvT hZ (hw _ (List.mem_of_getElem? (i := 51) rfl))) (notFace_of_selects (args := #[]) (mvT hZ (hw _ (List.mem_of_getElem? (i := 53) rfl)))) (mvT hZ (hw _ (List.mem_of_getElem? (i := 53) rfl))) (mvT hZ (hw _ (List.mem_of_getElem? (i := 52) rfl))) (by decide) (backOf (W := 1) (rmcoder12 l Z a0 hw [] a1 b1 k1 cs h0 n0 Z0 E1 Fc1 Fv1 V1 S_cs hcs) hZ (hw _ (List.mem_of_getElem? (i := 54) rfl)) (hw _ (List.mem_of_getElem? (i := 24) rfl)) (by decide) (by decide)) q103a q103c (g := (mkF m 6 #[.val (.ref a1)] [(.ref a1), (.int (5 : Int32))])) rfl (by rw [hml]; rfl) (Steps.refl _) (argsL := []) (rest := [(.int (5 : Int32))]) (lenOf pd_1 rfl) rfl (by show 2 * 0 + _ ≤ _; exact Nat.le_of_eq rfl) (hb hby d5_6) (fun _ _ => ⟨rfl, e101, (by decide : 0 + 0 ≤ _), (by decide : 0 + 0 ≤ _)⟩)
  dsimp only [Pt.U, Pt.locs, Pt.cells, Pt.slots] at X103 l103 y103 z103 st103 hQ103
  subst l103 y103 z103
  obtain ⟨rfl, N103q, eh103⟩ := hQ103
  have N103 := Fr.app N0 N103q
  refine Go.step (fun _ kt => st103.trans kt) ?_
  show Go p.tables e below _ (T103.setTop (mkF m 9 #[.val (.ref a1)] [(.int (0 : Int32)), (.int (5 : Int32))]))
  refine Go.step (fun _ kt => XS.ishr X103.here hx rfl (hb hby d5_9) rfl kt) ?_
  show Go p.tables e below _ (T103.setTop (mkF m 10 #[.val (.ref a1)] [(.int ((5 : Int32) >>> ((0 : Int32) &&& 31)))]))
  have q104 : ((5 : Int32) >>> ((0 : Int32) &&& 31)) = (5 : Int32) := by decide
  rw [q104]
  show Go p.tables e below _ (T103.setTop (mkF m 10 #[.val (.ref a1)] [(.int (5 : Int32))]))
  obtain ⟨fs, hr, hrun, hended, hW, hsame⟩ := X103.leave (v := some (.int (5 : Int32))) (fun h => by rw [Bd.returns] at h; cases h)
  refine ⟨_, _, retI X103 hx Bd.returns (hb hby d5_10) hr, hrun, hended, _, _, rfl, ?_, ⟨_, rfl⟩, hW, hsame.mono (by decide) (by decide)⟩
  show Qrmlength11 Z a1 b1 k1 cs h0 n0 _ T103.heap _
  rw [eh103]
  refine ⟨?_, N103, rfl⟩
  rfl
theorem d4_0 : decode prog_26_method_1_code 0 = .ok (.aload_n 0, 1) := by decide +kernel
theorem d4_1 : decode prog_26_method_1_code 1 = .ok (.invokespecial 1, 3) := by decide +kernel
theorem d4_4 : decode prog_26_method_1_code 4 = .ok (.aload_n 0, 1) := by decide +kernel
theorem d4_5 : decode prog_26_method_1_code 5 = .ok (.aload_n 1, 1) := by decide +kernel
theorem d4_6 : decode prog_26_method_1_code 6 = .ok (.putfield 7, 3) := by decide +kernel
theorem d4_9 : decode prog_26_method_1_code 9 = .ok (.aload_n 0, 1) := by decide +kernel
theorem d4_10 : decode prog_26_method_1_code 10 = .ok (.iload_n 2, 1) := by decide +kernel
theorem d4_11 : decode prog_26_method_1_code 11 = .ok (.putfield 13, 3) := by decide +kernel
theorem d4_14 : decode prog_26_method_1_code 14 = .ok (.aload_n 0, 1) := by decide +kernel
theorem d4_15 : decode prog_26_method_1_code 15 = .ok (.aload_n 1, 1) := by decide +kernel
theorem d4_16 : decode prog_26_method_1_code 16 = .ok (.invokevirtual 17, 3) := by decide +kernel
theorem d4_19 : decode prog_26_method_1_code 19 = .ok (.putfield 23, 3) := by decide +kernel
theorem d4_22 : decode prog_26_method_1_code 22 = .ok (.aload_n 0, 1) := by decide +kernel
theorem d4_23 : decode prog_26_method_1_code 23 = .ok (.aload_n 1, 1) := by decide +kernel
theorem d4_24 : decode prog_26_method_1_code 24 = .ok (.bipush 58, 2) := by decide +kernel
theorem d4_26 : decode prog_26_method_1_code 26 = .ok (.invokevirtual 25, 3) := by decide +kernel
theorem d4_29 : decode prog_26_method_1_code 29 = .ok (.putfield 29, 3) := by decide +kernel
theorem d4_32 : decode prog_26_method_1_code 32 = .ok (.aload_n 0, 1) := by decide +kernel
theorem d4_33 : decode prog_26_method_1_code 33 = .ok (.aload_n 0, 1) := by decide +kernel
theorem d4_34 : decode prog_26_method_1_code 34 = .ok (.getfield 29, 3) := by decide +kernel
theorem d4_37 : decode prog_26_method_1_code 37 = .ok (.ifCond .lt 52, 3) := by decide +kernel
theorem d4_89 : decode prog_26_method_1_code 89 = .ok (.iconst 1, 1) := by decide +kernel
theorem d4_90 : decode prog_26_method_1_code 90 = .ok (.goto 4, 3) := by decide +kernel
theorem d4_94 : decode prog_26_method_1_code 94 = .ok (.putfield 44, 3) := by decide +kernel
theorem d4_97 : decode prog_26_method_1_code 97 = .ok (.aload_n 0, 1) := by decide +kernel
theorem d4_98 : decode prog_26_method_1_code 98 = .ok (.aload_n 1, 1) := by decide +kernel
theorem d4_99 : decode prog_26_method_1_code 99 = .ok (.ldc 48, 2) := by decide +kernel
theorem d4_101 : decode prog_26_method_1_code 101 = .ok (.invokevirtual 50, 3) := by decide +kernel
theorem d4_104 : decode prog_26_method_1_code 104 = .ok (.ifCond .ne 24, 3) := by decide +kernel
theorem d4_107 : decode prog_26_method_1_code 107 = .ok (.aload_n 0, 1) := by decide +kernel
theorem d4_108 : decode prog_26_method_1_code 108 = .ok (.getfield 29, 3) := by decide +kernel
theorem d4_111 : decode prog_26_method_1_code 111 = .ok (.ldc 48, 2) := by decide +kernel
theorem d4_113 : decode prog_26_method_1_code 113 = .ok (.invokevirtual 17, 3) := by decide +kernel
theorem d4_116 : decode prog_26_method_1_code 116 = .ok (.if_icmp .ne 16, 3) := by decide +kernel
theorem d4_132 : decode prog_26_method_1_code 132 = .ok (.iconst 0, 1) := by decide +kernel
theorem d4_133 : decode prog_26_method_1_code 133 = .ok (.putfield 58, 3) := by decide +kernel
theorem d4_136 : decode prog_26_method_1_code 136 = .ok (.return_, 1) := by decide +kernel
theorem ef_rmn1 (m : MethodId) (a1 : Addr) (a2 : Addr) (p1 : Int32) (u0 : Value) (u1 : Value) (u2 : Value) (u3 : Value) (u4 : Value) (u5 : Value) (u6 : Value) (u7 : Value) (u8 : Value) (u9 : Value) (u10 : Value) (b2 : Addr) (k2 : ClassId) (cs : Int32) (ch : Int32) : entryFrame m #[(.ref a1), (.ref a2), (.int p1)] 3 = mkF m 0 #[.val (.ref a1), .val (.ref a2), .val (.int p1)] [] := by first | (simp [entryFrame, mkF, argsToLocals, Value.category]; done) | rfl
def Qrmn1 (Z : State) (a1 : Addr) (a2 : Addr) (p1 : Int32) (u0 : Value) (u1 : Value) (u2 : Value) (u3 : Value) (u4 : Value) (u5 : Value) (u6 : Value) (u7 : Value) (u8 : Value) (u9 : Value) (u10 : Value) (b2 : Addr) (k2 : ClassId) (cs : Int32) (ch : Int32) (h0 : Heap) (n0 : Nat) (v : Option Value) (h : Heap) (L : List Loc) : Prop := v = none ∧ Fr n0 L ∧ Keep h0 h [a1] ∧ Exa Z h a1 "com/example/ottawa/ottawa/KeptName" ∧ Fld Z h a1 "com/example/ottawa/ottawa/Name" "text" "Ljava/lang/String;" (.ref a2) ∧ Fld Z h a1 "com/example/ottawa/ottawa/Name" "colon" "I" (.int (-1 : Int32)) ∧ Fld Z h a1 "com/example/ottawa/ottawa/KeptName" "stamp" "J" u6 ∧ Fld Z h a1 "com/example/ottawa/ottawa/KeptName" "chars" "[C" u7 ∧ Fld Z h a1 "com/example/ottawa/ottawa/KeptName" "prefix" "Ljava/lang/String;" u8 ∧ Fld Z h a1 "com/example/ottawa/ottawa/KeptName" "localPart" "Ljava/lang/String;" u9 ∧ Fld Z h a1 "com/example/ottawa/ottawa/KeptName" "place" "I" u10
set_option maxRecDepth 65536 in
set_option maxHeartbeats 40000000 in
theorem rmn1 (l : Launch) (Z : State) (a0 : Array Value) (hw : ∀ d ∈ tables_1, d.before a0 Z = true) (ws : List Jvm.Cond) (a1 : Addr) (a2 : Addr) (p1 : Int32) (u0 : Value) (u1 : Value) (u2 : Value) (u3 : Value) (u4 : Value) (u5 : Value) (u6 : Value) (u7 : Value) (u8 : Value) (u9 : Value) (u10 : Value) (b2 : Addr) (k2 : ClassId) (cs : Int32) (ch : Int32) (h0 : Heap) (n0 : Nat) (Z0 : n0 ≤ h0.size) (E1 : Exa Z h0 a1 "com/example/ottawa/ottawa/KeptName") (F0 : Fld Z h0 a1 "com/example/ottawa/ottawa/Name" "text" "Ljava/lang/String;" u0) (F1 : Fld Z h0 a1 "com/example/ottawa/ottawa/Name" "hash" "I" u1) (F2 : Fld Z h0 a1 "com/example/ottawa/ottawa/Name" "length" "I" u2) (F3 : Fld Z h0 a1 "com/example/ottawa/ottawa/Name" "colon" "I" u3) (F4 : Fld Z h0 a1 "com/example/ottawa/ottawa/Name" "qName" "Z" u4) (F5 : Fld Z h0 a1 "com/example/ottawa/ottawa/Name" "namespaceDeclaration" "Z" u5) (F6 : Fld Z h0 a1 "com/example/ottawa/ottawa/KeptName" "stamp" "J" u6) (F7 : Fld Z h0 a1 "com/example/ottawa/ottawa/KeptName" "chars" "[C" u7) (F8 : Fld Z h0 a1 "com/example/ottawa/ottawa/KeptName" "prefix" "Ljava/lang/String;" u8) (F9 : Fld Z h0 a1 "com/example/ottawa/ottawa/KeptName" "localPart" "Ljava/lang/String;" u9) (F10 : Fld Z h0 a1 "com/example/ottawa/ottawa/KeptName" "place" "I" u10) (E2 : Exa Z h0 a2 "java/lang/String") (Fc2 : Fld Z h0 a2 "java/lang/String" "coder" "B" (.int (0 : Int32))) (Fv2 : Fld Z h0 a2 "java/lang/String" "value" "[B" (.ref b2)) (V2 : Arv Z h0 b2 k2 .byte (1 : Int32) [(.int ch)] (.int (0 : Int32))) (S_cs : Sta Z h0 "java/lang/String" "COMPACT_STRINGS" "Z" (.int cs)) (g_a1 : n0 ≤ a1) (hcs : ¬ cs = 0) (ne_1 : a2 ≠ a1) (ne_2 : b2 ≠ a1) (h58 : ¬ ch = 58) :
    MetFree l (⟨"com/example/ottawa/ottawa/Name", "<init>", "(Ljava/lang/String;I)V"⟩ : MethodName) (head1 (Jvm.Cond.code (⟨"com/example/ottawa/ottawa/Name", "<init>", "(Ljava/lang/String;I)V"⟩ : MethodName) prog_26_method_1_code 3 none :: ws) ({ frames := 4, cells := 4, slots := 48, locals := 60 } : Room)) (fun a U => a = #[(.ref a1), (.ref a2), (.int p1)] ∧ Z.Warmed39 U.vm ∧ U.heap = h0 ∧ CHv Z own_EL U.vm h0) (fun _ _ _ _ _ => True) (fun _ U o U' => ∃ v L, o = .returned v ∧ Qrmn1 Z a1 a2 p1 u0 u1 u2 u3 u4 u5 u6 u7 u8 u9 u10 b2 k2 cs ch h0 n0 v U'.heap L ∧ CHr Z own_EL U.vm U.heap U'.vm U'.heap ∧ ReturnedEndW U o U' L ({ frames := 4, cells := 4, slots := 48, locals := 60 } : Room).cells ({ frames := 4, cells := 4, slots := 48, locals := 60 } : Room).slots) := by
  refine MetFree.of_bodySF (plainFor_of_name pn_1) hisR ?_
  intro p e s m args below meth c s₁ Bd hml0 hP hK
  obtain ⟨rfl, hZ, hh, hCH⟩ := hP
  have hx := Bd.exec
  have hby := Bd.bytes
  have hml : c.maxLocals = 3 := hml0
  have hown : s.vm.findClass "com/example/ottawa/ottawa/Name" = some m.cls := findClass_of_methodNamed Bd.named
  have hnm := (name_of_methodNamed Bd.named Bd.method).1
  have X0 : Stand p l e ({ frames := 4, cells := 4, slots := 48, locals := 60 } : Room) (s.setVm s.vm) m #[(.ref a1), (.ref a2), (.int p1)] below meth c s₁ [] 0 0 := Stand.of_body Bd
  have e0 : s₁.heap = h0 := by rw [← hh, Bd.state]; rfl
  have N0 := Fr.nil n0
  have hS0 : s.Since s.vm s.heap.size := (State.WarmedH.refl s).since _
  have hk0 : s.heap.size ≤ h0.size := Nat.le_of_eq (congrArg Array.size hh)
  have C0 := CHr.refl hCH
  show Go p.tables e below (fun o U' => ∃ v L, o = .returned v ∧ Qrmn1 Z a1 a2 p1 u0 u1 u2 u3 u4 u5 u6 u7 u8 u9 u10 b2 k2 cs ch h0 n0 v U'.heap L ∧ CHr Z own_EL s.vm s.heap U'.vm U'.heap ∧ ReturnedEndW s o U' L ({ frames := 4, cells := 4, slots := 48, locals := 60 } : Room).cells ({ frames := 4, cells := 4, slots := 48, locals := 60 } : Room).slots) _
  refine Go.step (fun t kt => castTop (ef_rmn1 m a1 a2 p1 u0 u1 u2 u3 u4 u5 u6 u7 u8 u9 u10 b2 k2 cs ch) kt) ?_
  show Go p.tables e below _ (s₁.setTop (mkF m 0 #[.val (.ref a1), .val (.ref a2), .val (.int p1)] []))
  have K101 : Keep h0 h0 [a1] := (Keep.refl h0 [a1])
  refine Go.step (fun _ kt => XS.aloadN X0.here hx rfl (hb hby d4_0) rfl rfl kt) ?_
  show Go p.tables e below _ (s₁.setTop (mkF m 1 #[.val (.ref a1), .val (.ref a2), .val (.int p1)] [(.ref a1)]))
  obtain ⟨T102, X102, e102, st102⟩ := initO X0 hx hZ hown (hw _ (List.mem_of_getElem? (i := 39) rfl)) (hw _ (List.mem_of_getElem? (i := 8) rfl)) (hw _ (List.mem_of_getElem? (i := 9) rfl)) e0 (g := (mkF m 1 #[.val (.ref a1), .val (.ref a2), .val (.int p1)] [(.ref a1)])) rfl (by rw [hml]; rfl) rfl (hb hby d4_1) (by decide) (W := 0) (by show 2 * 0 + _ ≤ _; exact Nat.le_of_eq rfl) (by decide)
  refine Go.step st102 ?_
  show Go p.tables e below _ (T102.setTop (mkF m 4 #[.val (.ref a1), .val (.ref a2), .val (.int p1)] []))
  refine Go.step (fun _ kt => XS.aloadN X102.here hx rfl (hb hby d4_4) rfl rfl (XS.aloadN X102.here hx rfl (hb hby d4_5) rfl rfl kt)) ?_
  show Go p.tables e below _ (T102.setTop (mkF m 6 #[.val (.ref a1), .val (.ref a2), .val (.int p1)] [(.ref a2), (.ref a1)]))
  obtain ⟨T103, h103, X103, e103, W103, st103⟩ := putF X102 hx hZ hown (host := "") (Or.inl (hw _ (List.mem_of_getElem? (i := 40) rfl))) Via.refl e102 F0 E1 (Or.inr ⟨(hw _ (List.mem_of_getElem? (i := 41) rfl)), rfl, hnm⟩) (hw _ (List.mem_of_getElem? (i := 21) rfl)) (ty := (.object "java/lang/String")) (by decide) rfl rfl (g := (mkF m 6 #[.val (.ref a1), .val (.ref a2), .val (.int p1)] [(.ref a2), (.ref a1)])) rfl rfl (hb hby d4_6)
  refine Go.step st103 ?_
  have N103 := Fr.snoc X103 N0 g_a1
  have F104 : Exa Z h103 a1 "com/example/ottawa/ottawa/KeptName" := (E1.wr W103)
  have F105 : Fld Z h103 a1 "com/example/ottawa/ottawa/Name" "text" "Ljava/lang/String;" (.ref a2) := (F0.same W103)
  have F106 : Fld Z h103 a1 "com/example/ottawa/ottawa/Name" "hash" "I" u1 := (F1.other W103 (Or.inr (slot_ne (Or.inr (hw _ (List.mem_of_getElem? (i := 43) rfl))) (Or.inr (hw _ (List.mem_of_getElem? (i := 41) rfl))) (by decide) (t := .int) (t' := (.object "java/lang/String")) (by decide) (by decide))))
  have F107 : Fld Z h103 a1 "com/example/ottawa/ottawa/Name" "length" "I" u2 := (F2.other W103 (Or.inr (slot_ne (Or.inr (hw _ (List.mem_of_getElem? (i := 58) rfl))) (Or.inr (hw _ (List.mem_of_getElem? (i := 41) rfl))) (by decide) (t := .int) (t' := (.object "java/lang/String")) (by decide) (by decide))))
  have F108 : Fld Z h103 a1 "com/example/ottawa/ottawa/Name" "colon" "I" u3 := (F3.other W103 (Or.inr (slot_ne (Or.inr (hw _ (List.mem_of_getElem? (i := 93) rfl))) (Or.inr (hw _ (List.mem_of_getElem? (i := 41) rfl))) (by decide) (t := .int) (t' := (.object "java/lang/String")) (by decide) (by decide))))
  have F109 : Fld Z h103 a1 "com/example/ottawa/ottawa/Name" "qName" "Z" u4 := (F4.other W103 (Or.inr (slot_ne (Or.inr (hw _ (List.mem_of_getElem? (i := 95) rfl))) (Or.inr (hw _ (List.mem_of_getElem? (i := 41) rfl))) (by decide) (t := .boolean) (t' := (.object "java/lang/String")) (by decide) (by decide))))
  have F110 : Fld Z h103 a1 "com/example/ottawa/ottawa/Name" "namespaceDeclaration" "Z" u5 := (F5.other W103 (Or.inr (slot_ne (Or.inr (hw _ (List.mem_of_getElem? (i := 108) rfl))) (Or.inr (hw _ (List.mem_of_getElem? (i := 41) rfl))) (by decide) (t := .boolean) (t' := (.object "java/lang/String")) (by decide) (by decide))))
  have F111 : Fld Z h103 a1 "com/example/ottawa/ottawa/KeptName" "stamp" "J" u6 := (F6.other W103 (Or.inr (slot_ne (Or.inl (hw _ (List.mem_of_getElem? (i := 111) rfl))) (Or.inr (hw _ (List.mem_of_getElem? (i := 41) rfl))) (by decide) (t := .long) (t' := (.object "java/lang/String")) (by decide) (by decide))))
  have F112 : Fld Z h103 a1 "com/example/ottawa/ottawa/KeptName" "chars" "[C" u7 := (F7.other W103 (Or.inr (slot_ne (Or.inr (hw _ (List.mem_of_getElem? (i := 125) rfl))) (Or.inr (hw _ (List.mem_of_getElem? (i := 41) rfl))) (by decide) (t := (.array .char)) (t' := (.object "java/lang/String")) (by decide) (by decide))))
  have F113 : Fld Z h103 a1 "com/example/ottawa/ottawa/KeptName" "prefix" "Ljava/lang/String;" u8 := (F8.other W103 (Or.inr (slot_ne (Or.inr (hw _ (List.mem_of_getElem? (i := 133) rfl))) (Or.inr (hw _ (List.mem_of_getElem? (i := 41) rfl))) (by decide) (t := (.object "java/lang/String")) (t' := (.object "java/lang/String")) (by decide) (by decide))))
  have F114 : Fld Z h103 a1 "com/example/ottawa/ottawa/KeptName" "localPart" "Ljava/lang/String;" u9 := (F9.other W103 (Or.inr (slot_ne (Or.inr (hw _ (List.mem_of_getElem? (i := 139) rfl))) (Or.inr (hw _ (List.mem_of_getElem? (i := 41) rfl))) (by decide) (t := (.object "java/lang/String")) (t' := (.object "java/lang/String")) (by decide) (by decide))))
  have F115 : Fld Z h103 a1 "com/example/ottawa/ottawa/KeptName" "place" "I" u10 := (F10.other W103 (Or.inr (slot_ne (Or.inr (hw _ (List.mem_of_getElem? (i := 141) rfl))) (Or.inr (hw _ (List.mem_of_getElem? (i := 41) rfl))) (by decide) (t := .int) (t' := (.object "java/lang/String")) (by decide) (by decide))))
  have F116 : Exa Z h103 a2 "java/lang/String" := (E2.wr W103)
  have F117 : Fld Z h103 a2 "java/lang/String" "coder" "B" (.int (0 : Int32)) := (Fc2.other W103 (Or.inl ne_1))
  have F118 : Fld Z h103 a2 "java/lang/String" "value" "[B" (.ref b2) := (Fv2.other W103 (Or.inl ne_1))
  have F119 : Arv Z h103 b2 k2 .byte (1 : Int32) [(.int ch)] (.int (0 : Int32)) := (V2.other W103 ne_2)
  have F120 : Sta Z h103 "java/lang/String" "COMPACT_STRINGS" "Z" (.int cs) := (S_cs.wr W103)
  have Z121 : n0 ≤ h103.size := (Nat.le_trans Z0 (Nat.le_of_eq W103.size.symm))
  have hk122 : _ ≤ h103.size := (Nat.le_trans hk0 (Nat.le_of_eq W103.size.symm))
  have C123 := (C0.trans (CHr.wr W103 (Safe.exa hZ.alike E1 (by decide) (by decide)) C0.1))
  have K124 : Keep h0 h103 [a1] := (K101.wr W103 (Or.inl (List.mem_of_getElem? (i := 0) rfl)))
  show Go p.tables e below _ (T103.setTop (mkF m 9 #[.val (.ref a1), .val (.ref a2), .val (.int p1)] []))
  refine Go.step (fun _ kt => XS.aloadN X103.here hx rfl (hb hby d4_9) rfl rfl (XS.iloadN X103.here hx rfl (hb hby d4_10) rfl kt)) ?_
  show Go p.tables e below _ (T103.setTop (mkF m 11 #[.val (.ref a1), .val (.ref a2), .val (.int p1)] [(.int p1), (.ref a1)]))
  obtain ⟨T125, h125, X125, e125, W125, st125⟩ := putF X103 hx hZ hown (host := "") (Or.inl (hw _ (List.mem_of_getElem? (i := 42) rfl))) Via.refl e103 F106 F104 (Or.inr ⟨(hw _ (List.mem_of_getElem? (i := 43) rfl)), rfl, hnm⟩) (hw _ (List.mem_of_getElem? (i := 21) rfl)) (ty := .int) (by decide) rfl rfl (g := (mkF m 11 #[.val (.ref a1), .val (.ref a2), .val (.int p1)] [(.int p1), (.ref a1)])) rfl rfl (hb hby d4_11)
  refine Go.step st125 ?_
  have N125 := Fr.snoc X125 N103 g_a1
  have F126 : Exa Z h125 a1 "com/example/ottawa/ottawa/KeptName" := (F104.wr W125)
  have F127 : Fld Z h125 a1 "com/example/ottawa/ottawa/Name" "text" "Ljava/lang/String;" (.ref a2) := (F105.other W125 (Or.inr (slot_ne (Or.inr (hw _ (List.mem_of_getElem? (i := 41) rfl))) (Or.inr (hw _ (List.mem_of_getElem? (i := 43) rfl))) (by decide) (t := (.object "java/lang/String")) (t' := .int) (by decide) (by decide))))
  have F128 : Fld Z h125 a1 "com/example/ottawa/ottawa/Name" "length" "I" u2 := (F107.other W125 (Or.inr (slot_ne (Or.inr (hw _ (List.mem_of_getElem? (i := 58) rfl))) (Or.inr (hw _ (List.mem_of_getElem? (i := 43) rfl))) (by decide) (t := .int) (t' := .int) (by decide) (by decide))))
  have F129 : Fld Z h125 a1 "com/example/ottawa/ottawa/Name" "colon" "I" u3 := (F108.other W125 (Or.inr (slot_ne (Or.inr (hw _ (List.mem_of_getElem? (i := 93) rfl))) (Or.inr (hw _ (List.mem_of_getElem? (i := 43) rfl))) (by decide) (t := .int) (t' := .int) (by decide) (by decide))))
  have F130 : Fld Z h125 a1 "com/example/ottawa/ottawa/Name" "qName" "Z" u4 := (F109.other W125 (Or.inr (slot_ne (Or.inr (hw _ (List.mem_of_getElem? (i := 95) rfl))) (Or.inr (hw _ (List.mem_of_getElem? (i := 43) rfl))) (by decide) (t := .boolean) (t' := .int) (by decide) (by decide))))
  have F131 : Fld Z h125 a1 "com/example/ottawa/ottawa/Name" "namespaceDeclaration" "Z" u5 := (F110.other W125 (Or.inr (slot_ne (Or.inr (hw _ (List.mem_of_getElem? (i := 108) rfl))) (Or.inr (hw _ (List.mem_of_getElem? (i := 43) rfl))) (by decide) (t := .boolean) (t' := .int) (by decide) (by decide))))
  have F132 : Fld Z h125 a1 "com/example/ottawa/ottawa/KeptName" "stamp" "J" u6 := (F111.other W125 (Or.inr (slot_ne (Or.inl (hw _ (List.mem_of_getElem? (i := 111) rfl))) (Or.inr (hw _ (List.mem_of_getElem? (i := 43) rfl))) (by decide) (t := .long) (t' := .int) (by decide) (by decide))))
  have F133 : Fld Z h125 a1 "com/example/ottawa/ottawa/KeptName" "chars" "[C" u7 := (F112.other W125 (Or.inr (slot_ne (Or.inr (hw _ (List.mem_of_getElem? (i := 125) rfl))) (Or.inr (hw _ (List.mem_of_getElem? (i := 43) rfl))) (by decide) (t := (.array .char)) (t' := .int) (by decide) (by decide))))
  have F134 : Fld Z h125 a1 "com/example/ottawa/ottawa/KeptName" "prefix" "Ljava/lang/String;" u8 := (F113.other W125 (Or.inr (slot_ne (Or.inr (hw _ (List.mem_of_getElem? (i := 133) rfl))) (Or.inr (hw _ (List.mem_of_getElem? (i := 43) rfl))) (by decide) (t := (.object "java/lang/String")) (t' := .int) (by decide) (by decide))))
  have F135 : Fld Z h125 a1 "com/example/ottawa/ottawa/KeptName" "localPart" "Ljava/lang/String;" u9 := (F114.other W125 (Or.inr (slot_ne (Or.inr (hw _ (List.mem_of_getElem? (i := 139) rfl))) (Or.inr (hw _ (List.mem_of_getElem? (i := 43) rfl))) (by decide) (t := (.object "java/lang/String")) (t' := .int) (by decide) (by decide))))
  have F136 : Fld Z h125 a1 "com/example/ottawa/ottawa/KeptName" "place" "I" u10 := (F115.other W125 (Or.inr (slot_ne (Or.inr (hw _ (List.mem_of_getElem? (i := 141) rfl))) (Or.inr (hw _ (List.mem_of_getElem? (i := 43) rfl))) (by decide) (t := .int) (t' := .int) (by decide) (by decide))))
  have F137 : Exa Z h125 a2 "java/lang/String" := (F116.wr W125)
  have F138 : Fld Z h125 a2 "java/lang/String" "coder" "B" (.int (0 : Int32)) := (F117.other W125 (Or.inl ne_1))
  have F139 : Fld Z h125 a2 "java/lang/String" "value" "[B" (.ref b2) := (F118.other W125 (Or.inl ne_1))
  have F140 : Arv Z h125 b2 k2 .byte (1 : Int32) [(.int ch)] (.int (0 : Int32)) := (F119.other W125 ne_2)
  have F141 : Sta Z h125 "java/lang/String" "COMPACT_STRINGS" "Z" (.int cs) := (F120.wr W125)
  have Z142 : n0 ≤ h125.size := (Nat.le_trans Z121 (Nat.le_of_eq W125.size.symm))
  have hk143 : _ ≤ h125.size := (Nat.le_trans hk122 (Nat.le_of_eq W125.size.symm))
  have C144 := (C123.trans (CHr.wr W125 (Safe.exa hZ.alike F104 (by decide) (by decide)) C123.1))
  have K145 : Keep h0 h125 [a1] := (K124.wr W125 (Or.inl (List.mem_of_getElem? (i := 0) rfl)))
  show Go p.tables e below _ (T125.setTop (mkF m 14 #[.val (.ref a1), .val (.ref a2), .val (.int p1)] []))
  refine Go.step (fun _ kt => XS.aloadN X125.here hx rfl (hb hby d4_14) rfl rfl (XS.aloadN X125.here hx rfl (hb hby d4_15) rfl rfl kt)) ?_
  show Go p.tables e below _ (T125.setTop (mkF m 16 #[.val (.ref a1), .val (.ref a2), .val (.int p1)] [(.ref a2), (.ref a1)]))
  obtain ⟨cq146, kq146, q146a, q146b, q146c⟩ := isOf hZ e125 F137
  obtain ⟨_, _, ⟨T146, L146, k146, n146⟩, -, X146, ⟨Lc146, hQ146, l146, y146, z146⟩, st146⟩ := X125.virtualBack hx (y := (⟨"java/lang/String", "length", "()I"⟩ : MethodName)) (z := (⟨"java/lang/String", "length", "()I"⟩ : MethodName)) hown (mvT hZ (hw _ (List.mem_of_getElem? (i := 44) rfl))) (mvT hZ (hw _ (List.mem_of_getElem? (i := 45) rfl))) (notFace_of_selects (args := #[]) (mvT hZ (hw _ (List.mem_of_getElem? (i := 47) rfl)))) (mvT hZ (hw _ (List.mem_of_getElem? (i := 47) rfl))) (mvT hZ (hw _ (List.mem_of_getElem? (i := 46) rfl))) (by decide) (backOf (W := 1) (rmlength1 l Z a0 hw [] a2 b2 k2 cs ch h125 n0 Z142 F137 F138 F139 F140 F141 hcs h58) hZ (hw _ (List.mem_of_getElem? (i := 48) rfl)) (hw _ (List.mem_of_getElem? (i := 24) rfl)) (by decide) (by decide)) q146a q146c (g := (mkF m 16 #[.val (.ref a1), .val (.ref a2), .val (.int p1)] [(.ref a2), (.ref a1)])) rfl (by rw [hml]; rfl) (Steps.refl _) (argsL := []) (rest := [(.ref a1)]) (lenOf pd_2 rfl) rfl (by show 2 * 0 + _ ≤ _; exact Nat.le_of_eq rfl) (hb hby d4_16) (fun _ _ => ⟨rfl, e125, (by decide : 0 + 0 ≤ _), (by decide : 0 + 0 ≤ _)⟩)
  dsimp only [Pt.U, Pt.locs, Pt.cells, Pt.slots] at X146 l146 y146 z146 st146 hQ146
  subst l146 y146 z146
  obtain ⟨rfl, N146q, eh146⟩ := hQ146
  have N146 := Fr.app N125 N146q
  refine Go.step (fun _ kt => st146.trans kt) ?_
  show Go p.tables e below _ (T146.setTop (mkF m 19 #[.val (.ref a1), .val (.ref a2), .val (.int p1)] [(.int (1 : Int32)), (.ref a1)]))
  obtain ⟨T147, h147, X147, e147, W147, st147⟩ := putF X146 hx hZ hown (host := "") (Or.inl (hw _ (List.mem_of_getElem? (i := 57) rfl))) Via.refl eh146 F128 F126 (Or.inr ⟨(hw _ (List.mem_of_getElem? (i := 58) rfl)), rfl, hnm⟩) (hw _ (List.mem_of_getElem? (i := 21) rfl)) (ty := .int) (by decide) rfl rfl (g := (mkF m 19 #[.val (.ref a1), .val (.ref a2), .val (.int p1)] [(.int (1 : Int32)), (.ref a1)])) rfl rfl (hb hby d4_19)
  refine Go.step st147 ?_
  have N147 := Fr.snoc X147 N146 g_a1
  have F148 : Exa Z h147 a1 "com/example/ottawa/ottawa/KeptName" := (F126.wr W147)
  have F149 : Fld Z h147 a1 "com/example/ottawa/ottawa/Name" "text" "Ljava/lang/String;" (.ref a2) := (F127.other W147 (Or.inr (slot_ne (Or.inr (hw _ (List.mem_of_getElem? (i := 41) rfl))) (Or.inr (hw _ (List.mem_of_getElem? (i := 58) rfl))) (by decide) (t := (.object "java/lang/String")) (t' := .int) (by decide) (by decide))))
  have F150 : Fld Z h147 a1 "com/example/ottawa/ottawa/Name" "colon" "I" u3 := (F129.other W147 (Or.inr (slot_ne (Or.inr (hw _ (List.mem_of_getElem? (i := 93) rfl))) (Or.inr (hw _ (List.mem_of_getElem? (i := 58) rfl))) (by decide) (t := .int) (t' := .int) (by decide) (by decide))))
  have F151 : Fld Z h147 a1 "com/example/ottawa/ottawa/Name" "qName" "Z" u4 := (F130.other W147 (Or.inr (slot_ne (Or.inr (hw _ (List.mem_of_getElem? (i := 95) rfl))) (Or.inr (hw _ (List.mem_of_getElem? (i := 58) rfl))) (by decide) (t := .boolean) (t' := .int) (by decide) (by decide))))
  have F152 : Fld Z h147 a1 "com/example/ottawa/ottawa/Name" "namespaceDeclaration" "Z" u5 := (F131.other W147 (Or.inr (slot_ne (Or.inr (hw _ (List.mem_of_getElem? (i := 108) rfl))) (Or.inr (hw _ (List.mem_of_getElem? (i := 58) rfl))) (by decide) (t := .boolean) (t' := .int) (by decide) (by decide))))
  have F153 : Fld Z h147 a1 "com/example/ottawa/ottawa/KeptName" "stamp" "J" u6 := (F132.other W147 (Or.inr (slot_ne (Or.inl (hw _ (List.mem_of_getElem? (i := 111) rfl))) (Or.inr (hw _ (List.mem_of_getElem? (i := 58) rfl))) (by decide) (t := .long) (t' := .int) (by decide) (by decide))))
  have F154 : Fld Z h147 a1 "com/example/ottawa/ottawa/KeptName" "chars" "[C" u7 := (F133.other W147 (Or.inr (slot_ne (Or.inr (hw _ (List.mem_of_getElem? (i := 125) rfl))) (Or.inr (hw _ (List.mem_of_getElem? (i := 58) rfl))) (by decide) (t := (.array .char)) (t' := .int) (by decide) (by decide))))
  have F155 : Fld Z h147 a1 "com/example/ottawa/ottawa/KeptName" "prefix" "Ljava/lang/String;" u8 := (F134.other W147 (Or.inr (slot_ne (Or.inr (hw _ (List.mem_of_getElem? (i := 133) rfl))) (Or.inr (hw _ (List.mem_of_getElem? (i := 58) rfl))) (by decide) (t := (.object "java/lang/String")) (t' := .int) (by decide) (by decide))))
  have F156 : Fld Z h147 a1 "com/example/ottawa/ottawa/KeptName" "localPart" "Ljava/lang/String;" u9 := (F135.other W147 (Or.inr (slot_ne (Or.inr (hw _ (List.mem_of_getElem? (i := 139) rfl))) (Or.inr (hw _ (List.mem_of_getElem? (i := 58) rfl))) (by decide) (t := (.object "java/lang/String")) (t' := .int) (by decide) (by decide))))
  have F157 : Fld Z h147 a1 "com/example/ottawa/ottawa/KeptName" "place" "I" u10 := (F136.other W147 (Or.inr (slot_ne (Or.inr (hw _ (List.mem_of_getElem? (i := 141) rfl))) (Or.inr (hw _ (List.mem_of_getElem? (i := 58) rfl))) (by decide) (t := .int) (t' := .int) (by decide) (by decide))))
  have F158 : Exa Z h147 a2 "java/lang/String" := (F137.wr W147)
  have F159 : Fld Z h147 a2 "java/lang/String" "coder" "B" (.int (0 : Int32)) := (F138.other W147 (Or.inl ne_1))
  have F160 : Fld Z h147 a2 "java/lang/String" "value" "[B" (.ref b2) := (F139.other W147 (Or.inl ne_1))
  have F161 : Arv Z h147 b2 k2 .byte (1 : Int32) [(.int ch)] (.int (0 : Int32)) := (F140.other W147 ne_2)
  have F162 : Sta Z h147 "java/lang/String" "COMPACT_STRINGS" "Z" (.int cs) := (F141.wr W147)
  have Z163 : n0 ≤ h147.size := (Nat.le_trans Z142 (Nat.le_of_eq W147.size.symm))
  have hk164 : _ ≤ h147.size := (Nat.le_trans hk143 (Nat.le_of_eq W147.size.symm))
  have C165 := (C144.trans (CHr.wr W147 (Safe.exa hZ.alike F126 (by decide) (by decide)) C144.1))
  have K166 : Keep h0 h147 [a1] := (K145.wr W147 (Or.inl (List.mem_of_getElem? (i := 0) rfl)))
  show Go p.tables e below _ (T147.setTop (mkF m 22 #[.val (.ref a1), .val (.ref a2), .val (.int p1)] []))
  refine Go.step (fun _ kt => XS.aloadN X147.here hx rfl (hb hby d4_22) rfl rfl (XS.aloadN X147.here hx rfl (hb hby d4_23) rfl rfl (XS.bipush X147.here hx rfl (hb hby d4_24) kt))) ?_
  show Go p.tables e below _ (T147.setTop (mkF m 26 #[.val (.ref a1), .val (.ref a2), .val (.int p1)] [(.int (58 : Int32)), (.ref a2), (.ref a1)]))
  obtain ⟨cq167, kq167, q167a, q167b, q167c⟩ := isOf hZ e147 F158
  obtain ⟨_, _, ⟨T167, L167, k167, n167⟩, -, X167, ⟨Lc167, hQ167, l167, y167, z167⟩, st167⟩ := X147.virtualBack hx (y := (⟨"java/lang/String", "indexOf", "(I)I"⟩ : MethodName)) (z := (⟨"java/lang/String", "indexOf", "(I)I"⟩ : MethodName)) hown (mvT hZ (hw _ (List.mem_of_getElem? (i := 59) rfl))) (mvT hZ (hw _ (List.mem_of_getElem? (i := 60) rfl))) (notFace_of_selects (args := #[]) (mvT hZ (hw _ (List.mem_of_getElem? (i := 62) rfl)))) (mvT hZ (hw _ (List.mem_of_getElem? (i := 62) rfl))) (mvT hZ (hw _ (List.mem_of_getElem? (i := 61) rfl))) (by decide) (backOf (W := 1) (rmindexOf13 l Z a0 hw [] a2 b2 k2 cs ch h147 n0 Z163 F158 F159 F160 F161 F162 hcs h58) hZ (hw _ (List.mem_of_getElem? (i := 63) rfl)) (hw _ (List.mem_of_getElem? (i := 24) rfl)) (by decide) (by decide)) q167a q167c (g := (mkF m 26 #[.val (.ref a1), .val (.ref a2), .val (.int p1)] [(.int (58 : Int32)), (.ref a2), (.ref a1)])) rfl (by rw [hml]; rfl) (Steps.refl _) (argsL := [(.int (58 : Int32))]) (rest := [(.ref a1)]) (lenOf pd_7 rfl) rfl (by show 2 * 0 + _ ≤ _; exact Nat.le_of_eq rfl) (hb hby d4_26) (fun _ _ => ⟨rfl, e147, (by decide : 0 + 0 ≤ _), (by decide : 0 + 0 ≤ _)⟩)
  dsimp only [Pt.U, Pt.locs, Pt.cells, Pt.slots] at X167 l167 y167 z167 st167 hQ167
  subst l167 y167 z167
  obtain ⟨rfl, N167q, eh167⟩ := hQ167
  have N167 := Fr.app N147 N167q
  refine Go.step (fun _ kt => st167.trans kt) ?_
  show Go p.tables e below _ (T167.setTop (mkF m 29 #[.val (.ref a1), .val (.ref a2), .val (.int p1)] [(.int (-1 : Int32)), (.ref a1)]))
  obtain ⟨T168, h168, X168, e168, W168, st168⟩ := putF X167 hx hZ hown (host := "") (Or.inl (hw _ (List.mem_of_getElem? (i := 92) rfl))) Via.refl eh167 F150 F148 (Or.inr ⟨(hw _ (List.mem_of_getElem? (i := 93) rfl)), rfl, hnm⟩) (hw _ (List.mem_of_getElem? (i := 21) rfl)) (ty := .int) (by decide) rfl rfl (g := (mkF m 29 #[.val (.ref a1), .val (.ref a2), .val (.int p1)] [(.int (-1 : Int32)), (.ref a1)])) rfl rfl (hb hby d4_29)
  refine Go.step st168 ?_
  have N168 := Fr.snoc X168 N167 g_a1
  have F169 : Exa Z h168 a1 "com/example/ottawa/ottawa/KeptName" := (F148.wr W168)
  have F170 : Fld Z h168 a1 "com/example/ottawa/ottawa/Name" "text" "Ljava/lang/String;" (.ref a2) := (F149.other W168 (Or.inr (slot_ne (Or.inr (hw _ (List.mem_of_getElem? (i := 41) rfl))) (Or.inr (hw _ (List.mem_of_getElem? (i := 93) rfl))) (by decide) (t := (.object "java/lang/String")) (t' := .int) (by decide) (by decide))))
  have F171 : Fld Z h168 a1 "com/example/ottawa/ottawa/Name" "colon" "I" (.int (-1 : Int32)) := (F150.same W168)
  have F172 : Fld Z h168 a1 "com/example/ottawa/ottawa/Name" "qName" "Z" u4 := (F151.other W168 (Or.inr (slot_ne (Or.inr (hw _ (List.mem_of_getElem? (i := 95) rfl))) (Or.inr (hw _ (List.mem_of_getElem? (i := 93) rfl))) (by decide) (t := .boolean) (t' := .int) (by decide) (by decide))))
  have F173 : Fld Z h168 a1 "com/example/ottawa/ottawa/Name" "namespaceDeclaration" "Z" u5 := (F152.other W168 (Or.inr (slot_ne (Or.inr (hw _ (List.mem_of_getElem? (i := 108) rfl))) (Or.inr (hw _ (List.mem_of_getElem? (i := 93) rfl))) (by decide) (t := .boolean) (t' := .int) (by decide) (by decide))))
  have F174 : Fld Z h168 a1 "com/example/ottawa/ottawa/KeptName" "stamp" "J" u6 := (F153.other W168 (Or.inr (slot_ne (Or.inl (hw _ (List.mem_of_getElem? (i := 111) rfl))) (Or.inr (hw _ (List.mem_of_getElem? (i := 93) rfl))) (by decide) (t := .long) (t' := .int) (by decide) (by decide))))
  have F175 : Fld Z h168 a1 "com/example/ottawa/ottawa/KeptName" "chars" "[C" u7 := (F154.other W168 (Or.inr (slot_ne (Or.inr (hw _ (List.mem_of_getElem? (i := 125) rfl))) (Or.inr (hw _ (List.mem_of_getElem? (i := 93) rfl))) (by decide) (t := (.array .char)) (t' := .int) (by decide) (by decide))))
  have F176 : Fld Z h168 a1 "com/example/ottawa/ottawa/KeptName" "prefix" "Ljava/lang/String;" u8 := (F155.other W168 (Or.inr (slot_ne (Or.inr (hw _ (List.mem_of_getElem? (i := 133) rfl))) (Or.inr (hw _ (List.mem_of_getElem? (i := 93) rfl))) (by decide) (t := (.object "java/lang/String")) (t' := .int) (by decide) (by decide))))
  have F177 : Fld Z h168 a1 "com/example/ottawa/ottawa/KeptName" "localPart" "Ljava/lang/String;" u9 := (F156.other W168 (Or.inr (slot_ne (Or.inr (hw _ (List.mem_of_getElem? (i := 139) rfl))) (Or.inr (hw _ (List.mem_of_getElem? (i := 93) rfl))) (by decide) (t := (.object "java/lang/String")) (t' := .int) (by decide) (by decide))))
  have F178 : Fld Z h168 a1 "com/example/ottawa/ottawa/KeptName" "place" "I" u10 := (F157.other W168 (Or.inr (slot_ne (Or.inr (hw _ (List.mem_of_getElem? (i := 141) rfl))) (Or.inr (hw _ (List.mem_of_getElem? (i := 93) rfl))) (by decide) (t := .int) (t' := .int) (by decide) (by decide))))
  have F179 : Exa Z h168 a2 "java/lang/String" := (F158.wr W168)
  have F180 : Fld Z h168 a2 "java/lang/String" "coder" "B" (.int (0 : Int32)) := (F159.other W168 (Or.inl ne_1))
  have F181 : Fld Z h168 a2 "java/lang/String" "value" "[B" (.ref b2) := (F160.other W168 (Or.inl ne_1))
  have F182 : Arv Z h168 b2 k2 .byte (1 : Int32) [(.int ch)] (.int (0 : Int32)) := (F161.other W168 ne_2)
  have F183 : Sta Z h168 "java/lang/String" "COMPACT_STRINGS" "Z" (.int cs) := (F162.wr W168)
  have Z184 : n0 ≤ h168.size := (Nat.le_trans Z163 (Nat.le_of_eq W168.size.symm))
  have hk185 : _ ≤ h168.size := (Nat.le_trans hk164 (Nat.le_of_eq W168.size.symm))
  have C186 := (C165.trans (CHr.wr W168 (Safe.exa hZ.alike F148 (by decide) (by decide)) C165.1))
  have K187 : Keep h0 h168 [a1] := (K166.wr W168 (Or.inl (List.mem_of_getElem? (i := 0) rfl)))
  show Go p.tables e below _ (T168.setTop (mkF m 32 #[.val (.ref a1), .val (.ref a2), .val (.int p1)] []))
  refine Go.step (fun _ kt => XS.aloadN X168.here hx rfl (hb hby d4_32) rfl rfl (XS.aloadN X168.here hx rfl (hb hby d4_33) rfl rfl kt)) ?_
  show Go p.tables e below _ (T168.setTop (mkF m 34 #[.val (.ref a1), .val (.ref a2), .val (.int p1)] [(.ref a1), (.ref a1)]))
  obtain ⟨T188, X188, e188, st188⟩ := getF X168 hx hZ hown (host := "") (Or.inl (hw _ (List.mem_of_getElem? (i := 92) rfl))) Via.refl e168 F171 (g := (mkF m 34 #[.val (.ref a1), .val (.ref a2), .val (.int p1)] [(.ref a1), (.ref a1)])) rfl rfl (hb hby d4_34)
  refine Go.step st188 ?_
  show Go p.tables e below _ (T188.setTop (mkF m 37 #[.val (.ref a1), .val (.ref a2), .val (.int p1)] [(.int (-1 : Int32)), (.ref a1)]))
  refine Go.step (fun _ kt => XS.ifYes X188.here hx rfl (pc0 := 37) (pc' := 89) rfl (hb hby d4_37) rfl ((if0 _ _).trans (tlt (by decide : (-1 : Int32) < (0 : Int32))).1) (by decide) (by decide) (XS.iconst X188.here hx rfl (hb hby d4_89) (XS.goto X188.here hx rfl (pc0 := 90) (pc' := 94) rfl (hb hby d4_90) (by decide) (by decide) kt))) ?_
  show Go p.tables e below _ (T188.setTop (mkF m 94 #[.val (.ref a1), .val (.ref a2), .val (.int p1)] [(.int (1 : Int32)), (.ref a1)]))
  obtain ⟨T189, h189, X189, e189, W189, st189⟩ := putFN X188 hx hZ hown (hw _ (List.mem_of_getElem? (i := 94) rfl)) Via.refl e188 F172 F169 (Or.inr ⟨(hw _ (List.mem_of_getElem? (i := 95) rfl)), rfl, hnm⟩) (hw _ (List.mem_of_getElem? (i := 21) rfl)) (ty := .boolean) (v' := (.int (1 : Int32))) (by decide) rfl rfl (g := (mkF m 94 #[.val (.ref a1), .val (.ref a2), .val (.int p1)] [(.int (1 : Int32)), (.ref a1)])) rfl rfl (hb hby d4_94)
  refine Go.step st189 ?_
  have N189 := Fr.snoc X189 N168 g_a1
  have F190 : Exa Z h189 a1 "com/example/ottawa/ottawa/KeptName" := (F169.wr W189)
  have F191 : Fld Z h189 a1 "com/example/ottawa/ottawa/Name" "text" "Ljava/lang/String;" (.ref a2) := (F170.other W189 (Or.inr (slot_ne (Or.inr (hw _ (List.mem_of_getElem? (i := 41) rfl))) (Or.inr (hw _ (List.mem_of_getElem? (i := 95) rfl))) (by decide) (t := (.object "java/lang/String")) (t' := .boolean) (by decide) (by decide))))
  have F192 : Fld Z h189 a1 "com/example/ottawa/ottawa/Name" "colon" "I" (.int (-1 : Int32)) := (F171.other W189 (Or.inr (slot_ne (Or.inr (hw _ (List.mem_of_getElem? (i := 93) rfl))) (Or.inr (hw _ (List.mem_of_getElem? (i := 95) rfl))) (by decide) (t := .int) (t' := .boolean) (by decide) (by decide))))
  have F193 : Fld Z h189 a1 "com/example/ottawa/ottawa/Name" "namespaceDeclaration" "Z" u5 := (F173.other W189 (Or.inr (slot_ne (Or.inr (hw _ (List.mem_of_getElem? (i := 108) rfl))) (Or.inr (hw _ (List.mem_of_getElem? (i := 95) rfl))) (by decide) (t := .boolean) (t' := .boolean) (by decide) (by decide))))
  have F194 : Fld Z h189 a1 "com/example/ottawa/ottawa/KeptName" "stamp" "J" u6 := (F174.other W189 (Or.inr (slot_ne (Or.inl (hw _ (List.mem_of_getElem? (i := 111) rfl))) (Or.inr (hw _ (List.mem_of_getElem? (i := 95) rfl))) (by decide) (t := .long) (t' := .boolean) (by decide) (by decide))))
  have F195 : Fld Z h189 a1 "com/example/ottawa/ottawa/KeptName" "chars" "[C" u7 := (F175.other W189 (Or.inr (slot_ne (Or.inr (hw _ (List.mem_of_getElem? (i := 125) rfl))) (Or.inr (hw _ (List.mem_of_getElem? (i := 95) rfl))) (by decide) (t := (.array .char)) (t' := .boolean) (by decide) (by decide))))
  have F196 : Fld Z h189 a1 "com/example/ottawa/ottawa/KeptName" "prefix" "Ljava/lang/String;" u8 := (F176.other W189 (Or.inr (slot_ne (Or.inr (hw _ (List.mem_of_getElem? (i := 133) rfl))) (Or.inr (hw _ (List.mem_of_getElem? (i := 95) rfl))) (by decide) (t := (.object "java/lang/String")) (t' := .boolean) (by decide) (by decide))))
  have F197 : Fld Z h189 a1 "com/example/ottawa/ottawa/KeptName" "localPart" "Ljava/lang/String;" u9 := (F177.other W189 (Or.inr (slot_ne (Or.inr (hw _ (List.mem_of_getElem? (i := 139) rfl))) (Or.inr (hw _ (List.mem_of_getElem? (i := 95) rfl))) (by decide) (t := (.object "java/lang/String")) (t' := .boolean) (by decide) (by decide))))
  have F198 : Fld Z h189 a1 "com/example/ottawa/ottawa/KeptName" "place" "I" u10 := (F178.other W189 (Or.inr (slot_ne (Or.inr (hw _ (List.mem_of_getElem? (i := 141) rfl))) (Or.inr (hw _ (List.mem_of_getElem? (i := 95) rfl))) (by decide) (t := .int) (t' := .boolean) (by decide) (by decide))))
  have F199 : Exa Z h189 a2 "java/lang/String" := (F179.wr W189)
  have F200 : Fld Z h189 a2 "java/lang/String" "coder" "B" (.int (0 : Int32)) := (F180.other W189 (Or.inl ne_1))
  have F201 : Fld Z h189 a2 "java/lang/String" "value" "[B" (.ref b2) := (F181.other W189 (Or.inl ne_1))
  have F202 : Arv Z h189 b2 k2 .byte (1 : Int32) [(.int ch)] (.int (0 : Int32)) := (F182.other W189 ne_2)
  have F203 : Sta Z h189 "java/lang/String" "COMPACT_STRINGS" "Z" (.int cs) := (F183.wr W189)
  have Z204 : n0 ≤ h189.size := (Nat.le_trans Z184 (Nat.le_of_eq W189.size.symm))
  have hk205 : _ ≤ h189.size := (Nat.le_trans hk185 (Nat.le_of_eq W189.size.symm))
  have C206 := (C186.trans (CHr.wr W189 (Safe.exa hZ.alike F169 (by decide) (by decide)) C186.1))
  have K207 : Keep h0 h189 [a1] := (K187.wr W189 (Or.inl (List.mem_of_getElem? (i := 0) rfl)))
  show Go p.tables e below _ (T189.setTop (mkF m 97 #[.val (.ref a1), .val (.ref a2), .val (.int p1)] []))
  refine Go.step (fun _ kt => XS.aloadN X189.here hx rfl (hb hby d4_97) rfl rfl (XS.aloadN X189.here hx rfl (hb hby d4_98) rfl rfl kt)) ?_
  show Go p.tables e below _ (T189.setTop (mkF m 99 #[.val (.ref a1), .val (.ref a2), .val (.int p1)] [(.ref a2), (.ref a1)]))
  obtain ⟨b208, T208, h208, k208, ba208, kc208, X208, e208, E208, hS208, hk208, hZ, hown, Ex208, Fc208, Fv208, Vb208, lt208, ltb208, Cq208, Li208, Ne208, st208⟩ := ldcCH (s := s) (EL := own_EL) X189 hx hZ hown (hw _ (List.mem_of_getElem? (i := 96) rfl)) (own_wS hw) e189 hS0 hk205 (own_EW hw) (by decide) C206.1 (vs := [(.int (120 : Int32)), (.int (109 : Int32)), (.int (108 : Int32)), (.int (110 : Int32)), (.int (115 : Int32))]) (z := (5 : Int32)) (by decide) (by decide) rfl (g := (mkF m 99 #[.val (.ref a1), .val (.ref a2), .val (.int p1)] [(.ref a2), (.ref a1)])) rfl (hb hby d4_99) (n := 20) (by decide) (by decide) (by decide) (by decide)
  refine Go.step st208 ?_
  have F209 : Exa Z h208 a1 "com/example/ottawa/ottawa/KeptName" := (F190.ext E208)
  have F210 : Fld Z h208 a1 "com/example/ottawa/ottawa/Name" "text" "Ljava/lang/String;" (.ref a2) := (F191.ext E208)
  have F211 : Fld Z h208 a1 "com/example/ottawa/ottawa/Name" "colon" "I" (.int (-1 : Int32)) := (F192.ext E208)
  have F212 : Fld Z h208 a1 "com/example/ottawa/ottawa/Name" "namespaceDeclaration" "Z" u5 := (F193.ext E208)
  have F213 : Fld Z h208 a1 "com/example/ottawa/ottawa/KeptName" "stamp" "J" u6 := (F194.ext E208)
  have F214 : Fld Z h208 a1 "com/example/ottawa/ottawa/KeptName" "chars" "[C" u7 := (F195.ext E208)
  have F215 : Fld Z h208 a1 "com/example/ottawa/ottawa/KeptName" "prefix" "Ljava/lang/String;" u8 := (F196.ext E208)
  have F216 : Fld Z h208 a1 "com/example/ottawa/ottawa/KeptName" "localPart" "Ljava/lang/String;" u9 := (F197.ext E208)
  have F217 : Fld Z h208 a1 "com/example/ottawa/ottawa/KeptName" "place" "I" u10 := (F198.ext E208)
  have F218 : Exa Z h208 a2 "java/lang/String" := (F199.ext E208)
  have F219 : Fld Z h208 a2 "java/lang/String" "coder" "B" (.int (0 : Int32)) := (F200.ext E208)
  have F220 : Fld Z h208 a2 "java/lang/String" "value" "[B" (.ref b2) := (F201.ext E208)
  have F221 : Arv Z h208 b2 k2 .byte (1 : Int32) [(.int ch)] (.int (0 : Int32)) := (F202.ext E208)
  have F222 : Sta Z h208 "java/lang/String" "COMPACT_STRINGS" "Z" (.int cs) := (F203.ext E208)
  have Z223 : n0 ≤ h208.size := (Nat.le_trans Z204 E208.1)
  have C224 := (C206.trans Cq208)
  have K225 : Keep h0 h208 [a1] := (K207.ext E208)
  have nq226 := Ne208 _ (Safe.exa hZ.alike F209 (by decide) (by decide))
  show Go p.tables e below _ (T208.setTop (mkF m 101 #[.val (.ref a1), .val (.ref a2), .val (.int p1)] [(.ref b208), (.ref a2), (.ref a1)]))
  obtain ⟨cq227, kq227, q227a, q227b, q227c⟩ := isOf hZ e208 F218
  obtain ⟨_, _, ⟨T227, L227, k227, n227⟩, -, X227, ⟨Lc227, hQ227, l227, y227, z227⟩, st227⟩ := X208.virtualBack hx (y := (⟨"java/lang/String", "equals", "(Ljava/lang/Object;)Z"⟩ : MethodName)) (z := (⟨"java/lang/String", "equals", "(Ljava/lang/Object;)Z"⟩ : MethodName)) hown (mvT hZ (hw _ (List.mem_of_getElem? (i := 97) rfl))) (mvT hZ (hw _ (List.mem_of_getElem? (i := 98) rfl))) (notFace_of_selects (args := #[]) (mvT hZ (hw _ (List.mem_of_getElem? (i := 100) rfl)))) (mvT hZ (hw _ (List.mem_of_getElem? (i := 100) rfl))) (mvT hZ (hw _ (List.mem_of_getElem? (i := 99) rfl))) (by decide) (backOf (W := 1) (rmeq0 l Z a0 hw [] a2 b208 b2 k2 ba208 kc208 cs ch h208 n0 Z223 F218 F219 F220 F221 Ex208 Fc208 Fv208 Vb208 F222 hcs) hZ (hw _ (List.mem_of_getElem? (i := 101) rfl)) (hw _ (List.mem_of_getElem? (i := 24) rfl)) (by decide) (by decide)) q227a q227c (g := (mkF m 101 #[.val (.ref a1), .val (.ref a2), .val (.int p1)] [(.ref b208), (.ref a2), (.ref a1)])) rfl (by rw [hml]; rfl) (Steps.refl _) (argsL := [(.ref b208)]) (rest := [(.ref a1)]) (lenOf pd_9 rfl) rfl (by show 2 * 0 + _ ≤ _; exact Nat.le_of_eq rfl) (hb hby d4_101) (fun _ _ => ⟨rfl, e208, (by decide : 2 + 0 ≤ _), (by decide : 24 + 0 ≤ _)⟩)
  dsimp only [Pt.U, Pt.locs, Pt.cells, Pt.slots] at X227 l227 y227 z227 st227 hQ227
  subst l227 y227 z227
  obtain ⟨rfl, N227q, eh227⟩ := hQ227
  have N227 := Fr.app N189 N227q
  refine Go.step (fun _ kt => st227.trans kt) ?_
  show Go p.tables e below _ (T227.setTop (mkF m 104 #[.val (.ref a1), .val (.ref a2), .val (.int p1)] [(.int (0 : Int32)), (.ref a1)]))
  refine Go.step (fun _ kt => XS.ifNo X227.here hx rfl (hb hby d4_104) rfl ((if0 _ _).trans (teq (by decide : (0 : Int32) = (0 : Int32))).2) (XS.aloadN X227.here hx rfl (hb hby d4_107) rfl rfl kt)) ?_
  show Go p.tables e below _ (T227.setTop (mkF m 108 #[.val (.ref a1), .val (.ref a2), .val (.int p1)] [(.ref a1), (.ref a1)]))
  obtain ⟨T228, X228, e228, st228⟩ := getF X227 hx hZ hown (host := "") (Or.inl (hw _ (List.mem_of_getElem? (i := 92) rfl))) Via.refl eh227 F211 (g := (mkF m 108 #[.val (.ref a1), .val (.ref a2), .val (.int p1)] [(.ref a1), (.ref a1)])) rfl rfl (hb hby d4_108)
  refine Go.step st228 ?_
  show Go p.tables e below _ (T228.setTop (mkF m 111 #[.val (.ref a1), .val (.ref a2), .val (.int p1)] [(.int (-1 : Int32)), (.ref a1)]))
  obtain ⟨b229, T229, h229, k229, ba229, kc229, X229, e229, E229, hS229, hk229, hZ, hown, Ex229, Fc229, Fv229, Vb229, lt229, ltb229, Cq229, Li229, Ne229, st229⟩ := ldcCH (s := s) (EL := own_EL) X228 hx hZ hown (hw _ (List.mem_of_getElem? (i := 96) rfl)) (own_wS hw) e228 hS208 hk208 (own_EW hw) (by decide) C224.1 (vs := [(.int (120 : Int32)), (.int (109 : Int32)), (.int (108 : Int32)), (.int (110 : Int32)), (.int (115 : Int32))]) (z := (5 : Int32)) (by decide) (by decide) rfl (g := (mkF m 111 #[.val (.ref a1), .val (.ref a2), .val (.int p1)] [(.int (-1 : Int32)), (.ref a1)])) rfl (hb hby d4_111) (n := 20) (by decide) (by decide) (by decide) (by decide)
  refine Go.step st229 ?_
  have F230 : Exa Z h229 a1 "com/example/ottawa/ottawa/KeptName" := (F209.ext E229)
  have F231 : Fld Z h229 a1 "com/example/ottawa/ottawa/Name" "text" "Ljava/lang/String;" (.ref a2) := (F210.ext E229)
  have F232 : Fld Z h229 a1 "com/example/ottawa/ottawa/Name" "colon" "I" (.int (-1 : Int32)) := (F211.ext E229)
  have F233 : Fld Z h229 a1 "com/example/ottawa/ottawa/Name" "namespaceDeclaration" "Z" u5 := (F212.ext E229)
  have F234 : Fld Z h229 a1 "com/example/ottawa/ottawa/KeptName" "stamp" "J" u6 := (F213.ext E229)
  have F235 : Fld Z h229 a1 "com/example/ottawa/ottawa/KeptName" "chars" "[C" u7 := (F214.ext E229)
  have F236 : Fld Z h229 a1 "com/example/ottawa/ottawa/KeptName" "prefix" "Ljava/lang/String;" u8 := (F215.ext E229)
  have F237 : Fld Z h229 a1 "com/example/ottawa/ottawa/KeptName" "localPart" "Ljava/lang/String;" u9 := (F216.ext E229)
  have F238 : Fld Z h229 a1 "com/example/ottawa/ottawa/KeptName" "place" "I" u10 := (F217.ext E229)
  have F239 : Exa Z h229 a2 "java/lang/String" := (F218.ext E229)
  have F240 : Fld Z h229 a2 "java/lang/String" "coder" "B" (.int (0 : Int32)) := (F219.ext E229)
  have F241 : Fld Z h229 a2 "java/lang/String" "value" "[B" (.ref b2) := (F220.ext E229)
  have F242 : Arv Z h229 b2 k2 .byte (1 : Int32) [(.int ch)] (.int (0 : Int32)) := (F221.ext E229)
  have F243 : Sta Z h229 "java/lang/String" "COMPACT_STRINGS" "Z" (.int cs) := (F222.ext E229)
  have F244 : Exa Z h229 b208 "java/lang/String" := (Ex208.ext E229)
  have F245 : Fld Z h229 b208 "java/lang/String" "coder" "B" (.int (0 : Int32)) := (Fc208.ext E229)
  have F246 : Fld Z h229 b208 "java/lang/String" "value" "[B" (.ref ba208) := (Fv208.ext E229)
  have F247 : Arv Z h229 ba208 kc208 .byte (5 : Int32) [(.int (120 : Int32)), (.int (109 : Int32)), (.int (108 : Int32)), (.int (110 : Int32)), (.int (115 : Int32))] (.int (0 : Int32)) := (Vb208.ext E229)
  have Z248 : n0 ≤ h229.size := (Nat.le_trans Z223 E229.1)
  have C249 := (C224.trans Cq229)
  have K250 : Keep h0 h229 [a1] := (K225.ext E229)
  have nq251 := Ne229 _ (Safe.exa hZ.alike F230 (by decide) (by decide))
  show Go p.tables e below _ (T229.setTop (mkF m 113 #[.val (.ref a1), .val (.ref a2), .val (.int p1)] [(.ref b229), (.int (-1 : Int32)), (.ref a1)]))
  obtain ⟨cq252, kq252, q252a, q252b, q252c⟩ := isOf hZ e229 Ex229
  obtain ⟨_, _, ⟨T252, L252, k252, n252⟩, -, X252, ⟨Lc252, hQ252, l252, y252, z252⟩, st252⟩ := X229.virtualBack hx (y := (⟨"java/lang/String", "length", "()I"⟩ : MethodName)) (z := (⟨"java/lang/String", "length", "()I"⟩ : MethodName)) hown (mvT hZ (hw _ (List.mem_of_getElem? (i := 44) rfl))) (mvT hZ (hw _ (List.mem_of_getElem? (i := 45) rfl))) (notFace_of_selects (args := #[]) (mvT hZ (hw _ (List.mem_of_getElem? (i := 47) rfl)))) (mvT hZ (hw _ (List.mem_of_getElem? (i := 47) rfl))) (mvT hZ (hw _ (List.mem_of_getElem? (i := 46) rfl))) (by decide) (backOf (W := 2) (rmlength11 l Z a0 hw [] b229 ba229 kc229 cs h229 n0 Z248 Ex229 Fc229 Fv229 Vb229 F243 hcs) hZ (hw _ (List.mem_of_getElem? (i := 48) rfl)) (hw _ (List.mem_of_getElem? (i := 24) rfl)) (by decide) (by decide)) q252a q252c (g := (mkF m 113 #[.val (.ref a1), .val (.ref a2), .val (.int p1)] [(.ref b229), (.int (-1 : Int32)), (.ref a1)])) rfl (by rw [hml]; rfl) (Steps.refl _) (argsL := []) (rest := [(.int (-1 : Int32)), (.ref a1)]) (lenOf pd_2 rfl) rfl (by show 2 * 0 + _ ≤ _; exact Nat.le_of_eq rfl) (hb hby d4_113) (fun _ _ => ⟨rfl, e229, (by decide : 4 + 0 ≤ _), (by decide : 48 + 0 ≤ _)⟩)
  dsimp only [Pt.U, Pt.locs, Pt.cells, Pt.slots] at X252 l252 y252 z252 st252 hQ252
  subst l252 y252 z252
  obtain ⟨rfl, N252q, eh252⟩ := hQ252
  have N252 := Fr.app N227 N252q
  refine Go.step (fun _ kt => st252.trans kt) ?_
  show Go p.tables e below _ (T252.setTop (mkF m 116 #[.val (.ref a1), .val (.ref a2), .val (.int p1)] [(.int (5 : Int32)), (.int (-1 : Int32)), (.ref a1)]))
  refine Go.step (fun _ kt => XS.icmpYes X252.here hx rfl (pc0 := 116) (pc' := 132) rfl (hb hby d4_116) rfl (feq (by decide : ¬ ((-1 : Int32) = (5 : Int32)))).2 (by decide) (by decide) (XS.iconst X252.here hx rfl (hb hby d4_132) kt)) ?_
  show Go p.tables e below _ (T252.setTop (mkF m 133 #[.val (.ref a1), .val (.ref a2), .val (.int p1)] [(.int (0 : Int32)), (.ref a1)]))
  obtain ⟨T253, h253, X253, e253, W253, st253⟩ := putFN X252 hx hZ hown (hw _ (List.mem_of_getElem? (i := 107) rfl)) Via.refl eh252 F233 F230 (Or.inr ⟨(hw _ (List.mem_of_getElem? (i := 108) rfl)), rfl, hnm⟩) (hw _ (List.mem_of_getElem? (i := 21) rfl)) (ty := .boolean) (v' := (.int (0 : Int32))) (by decide) rfl rfl (g := (mkF m 133 #[.val (.ref a1), .val (.ref a2), .val (.int p1)] [(.int (0 : Int32)), (.ref a1)])) rfl rfl (hb hby d4_133)
  refine Go.step st253 ?_
  have N253 := Fr.snoc X253 N252 g_a1
  have F254 : Exa Z h253 a1 "com/example/ottawa/ottawa/KeptName" := (F230.wr W253)
  have F255 : Fld Z h253 a1 "com/example/ottawa/ottawa/Name" "text" "Ljava/lang/String;" (.ref a2) := (F231.other W253 (Or.inr (slot_ne (Or.inr (hw _ (List.mem_of_getElem? (i := 41) rfl))) (Or.inr (hw _ (List.mem_of_getElem? (i := 108) rfl))) (by decide) (t := (.object "java/lang/String")) (t' := .boolean) (by decide) (by decide))))
  have F256 : Fld Z h253 a1 "com/example/ottawa/ottawa/Name" "colon" "I" (.int (-1 : Int32)) := (F232.other W253 (Or.inr (slot_ne (Or.inr (hw _ (List.mem_of_getElem? (i := 93) rfl))) (Or.inr (hw _ (List.mem_of_getElem? (i := 108) rfl))) (by decide) (t := .int) (t' := .boolean) (by decide) (by decide))))
  have F257 : Fld Z h253 a1 "com/example/ottawa/ottawa/KeptName" "stamp" "J" u6 := (F234.other W253 (Or.inr (slot_ne (Or.inl (hw _ (List.mem_of_getElem? (i := 111) rfl))) (Or.inr (hw _ (List.mem_of_getElem? (i := 108) rfl))) (by decide) (t := .long) (t' := .boolean) (by decide) (by decide))))
  have F258 : Fld Z h253 a1 "com/example/ottawa/ottawa/KeptName" "chars" "[C" u7 := (F235.other W253 (Or.inr (slot_ne (Or.inr (hw _ (List.mem_of_getElem? (i := 125) rfl))) (Or.inr (hw _ (List.mem_of_getElem? (i := 108) rfl))) (by decide) (t := (.array .char)) (t' := .boolean) (by decide) (by decide))))
  have F259 : Fld Z h253 a1 "com/example/ottawa/ottawa/KeptName" "prefix" "Ljava/lang/String;" u8 := (F236.other W253 (Or.inr (slot_ne (Or.inr (hw _ (List.mem_of_getElem? (i := 133) rfl))) (Or.inr (hw _ (List.mem_of_getElem? (i := 108) rfl))) (by decide) (t := (.object "java/lang/String")) (t' := .boolean) (by decide) (by decide))))
  have F260 : Fld Z h253 a1 "com/example/ottawa/ottawa/KeptName" "localPart" "Ljava/lang/String;" u9 := (F237.other W253 (Or.inr (slot_ne (Or.inr (hw _ (List.mem_of_getElem? (i := 139) rfl))) (Or.inr (hw _ (List.mem_of_getElem? (i := 108) rfl))) (by decide) (t := (.object "java/lang/String")) (t' := .boolean) (by decide) (by decide))))
  have F261 : Fld Z h253 a1 "com/example/ottawa/ottawa/KeptName" "place" "I" u10 := (F238.other W253 (Or.inr (slot_ne (Or.inr (hw _ (List.mem_of_getElem? (i := 141) rfl))) (Or.inr (hw _ (List.mem_of_getElem? (i := 108) rfl))) (by decide) (t := .int) (t' := .boolean) (by decide) (by decide))))
  have F262 : Exa Z h253 a2 "java/lang/String" := (F239.wr W253)
  have F263 : Fld Z h253 a2 "java/lang/String" "coder" "B" (.int (0 : Int32)) := (F240.other W253 (Or.inl ne_1))
  have F264 : Fld Z h253 a2 "java/lang/String" "value" "[B" (.ref b2) := (F241.other W253 (Or.inl ne_1))
  have F265 : Arv Z h253 b2 k2 .byte (1 : Int32) [(.int ch)] (.int (0 : Int32)) := (F242.other W253 ne_2)
  have F266 : Sta Z h253 "java/lang/String" "COMPACT_STRINGS" "Z" (.int cs) := (F243.wr W253)
  have F267 : Exa Z h253 b208 "java/lang/String" := (F244.wr W253)
  have F268 : Fld Z h253 b208 "java/lang/String" "coder" "B" (.int (0 : Int32)) := (F245.other W253 (Or.inl (Ne.symm nq226.1)))
  have F269 : Fld Z h253 b208 "java/lang/String" "value" "[B" (.ref ba208) := (F246.other W253 (Or.inl (Ne.symm nq226.1)))
  have F270 : Arv Z h253 ba208 kc208 .byte (5 : Int32) [(.int (120 : Int32)), (.int (109 : Int32)), (.int (108 : Int32)), (.int (110 : Int32)), (.int (115 : Int32))] (.int (0 : Int32)) := (F247.other W253 (Ne.symm nq226.2))
  have F271 : Exa Z h253 b229 "java/lang/String" := (Ex229.wr W253)
  have F272 : Fld Z h253 b229 "java/lang/String" "coder" "B" (.int (0 : Int32)) := (Fc229.other W253 (Or.inl (Ne.symm nq251.1)))
  have F273 : Fld Z h253 b229 "java/lang/String" "value" "[B" (.ref ba229) := (Fv229.other W253 (Or.inl (Ne.symm nq251.1)))
  have F274 : Arv Z h253 ba229 kc229 .byte (5 : Int32) [(.int (120 : Int32)), (.int (109 : Int32)), (.int (108 : Int32)), (.int (110 : Int32)), (.int (115 : Int32))] (.int (0 : Int32)) := (Vb229.other W253 (Ne.symm nq251.2))
  have Z275 : n0 ≤ h253.size := (Nat.le_trans Z248 (Nat.le_of_eq W253.size.symm))
  have hk276 : _ ≤ h253.size := (Nat.le_trans hk229 (Nat.le_of_eq W253.size.symm))
  have C277 := (C249.trans (CHr.wr W253 (Safe.exa hZ.alike F230 (by decide) (by decide)) C249.1))
  have K278 : Keep h0 h253 [a1] := (K250.wr W253 (Or.inl (List.mem_of_getElem? (i := 0) rfl)))
  show Go p.tables e below _ (T253.setTop (mkF m 136 #[.val (.ref a1), .val (.ref a2), .val (.int p1)] []))
  obtain ⟨fs, hr, hrun, hended, hRW⟩ := X253.leaveW hS229 (by rw [e253]; exact hk276) (v := none) (fun _ => rfl)
  refine ⟨_, _, X253.returnOut hx Bd.returns (hb hby d4_136) hr, hrun, hended, _, _, rfl, ?_, (by have q := C277.trans (CHv.at X253 hZ (own_EW hw) C277.1); rw [hh]; rw [← e253] at q; exact q), hRW.1, hRW.2.1, hRW.2.2.1, hRW.2.2.2.mono (by decide) (by decide)⟩
  show Qrmn1 Z a1 a2 p1 u0 u1 u2 u3 u4 u5 u6 u7 u8 u9 u10 b2 k2 cs ch h0 n0 _ T253.heap _
  rw [e253]
  refine ⟨?_, N253, K278, F254, F255, F256, F257, F258, F259, F260, F261⟩
  rfl
theorem pd_10 : parseMethodDescriptor "(Ljava/lang/String;I)V" = some ⟨[(.object "java/lang/String"), .int], none⟩ := by decide +kernel
theorem d19_0 : decode jdk_43_method_49_code 0 = .ok (.iconst 0, 1) := by decide +kernel
theorem d19_1 : decode jdk_43_method_49_code 1 = .ok (.istore 5, 2) := by decide +kernel
theorem d19_3 : decode jdk_43_method_49_code 3 = .ok (.iload 5, 2) := by decide +kernel
theorem d19_5 : decode jdk_43_method_49_code 5 = .ok (.iload 4, 2) := by decide +kernel
theorem d19_7 : decode jdk_43_method_49_code 7 = .ok (.if_icmp .ge 26, 3) := by decide +kernel
theorem d19_10 : decode jdk_43_method_49_code 10 = .ok (.aload_n 2, 1) := by decide +kernel
theorem d19_11 : decode jdk_43_method_49_code 11 = .ok (.iload_n 3, 1) := by decide +kernel
theorem d19_12 : decode jdk_43_method_49_code 12 = .ok (.iinc 3 1, 3) := by decide +kernel
theorem d19_15 : decode jdk_43_method_49_code 15 = .ok (.aload_n 0, 1) := by decide +kernel
theorem d19_16 : decode jdk_43_method_49_code 16 = .ok (.iload_n 1, 1) := by decide +kernel
theorem d19_17 : decode jdk_43_method_49_code 17 = .ok (.iinc 1 1, 3) := by decide +kernel
theorem d19_20 : decode jdk_43_method_49_code 20 = .ok (.baload, 1) := by decide +kernel
theorem d19_21 : decode jdk_43_method_49_code 21 = .ok (.sipush 255, 3) := by decide +kernel
theorem d19_24 : decode jdk_43_method_49_code 24 = .ok (.iand, 1) := by decide +kernel
theorem d19_25 : decode jdk_43_method_49_code 25 = .ok (.i2c, 1) := by decide +kernel
theorem d19_26 : decode jdk_43_method_49_code 26 = .ok (.castore, 1) := by decide +kernel
theorem d19_27 : decode jdk_43_method_49_code 27 = .ok (.iinc 5 1, 3) := by decide +kernel
theorem d19_30 : decode jdk_43_method_49_code 30 = .ok (.goto (-27), 3) := by decide +kernel
theorem d19_33 : decode jdk_43_method_49_code 33 = .ok (.return_, 1) := by decide +kernel
theorem ef_rminfl15 (m : MethodId) (a1 : Addr) (a2 : Addr) (k1 : ClassId) (k2 : ClassId) (ch : Int32) : entryFrame m #[(.ref a1), (.int (0 : Int32)), (.ref a2), (.int (0 : Int32)), (.int (1 : Int32))] 6 = mkF m 0 #[.val (.ref a1), .val (.int (0 : Int32)), .val (.ref a2), .val (.int (0 : Int32)), .val (.int (1 : Int32)), .unset] [] := by first | (simp [entryFrame, mkF, argsToLocals, Value.category]; done) | rfl
def Qrminfl15 (Z : State) (a1 : Addr) (a2 : Addr) (k1 : ClassId) (k2 : ClassId) (ch : Int32) (h0 : Heap) (n0 : Nat) (v : Option Value) (h : Heap) (L : List Loc) : Prop := v = none ∧ Fr n0 L ∧ Keep h0 h [a2]
set_option maxRecDepth 65536 in
set_option maxHeartbeats 40000000 in
theorem rminfl15 (l : Launch) (Z : State) (a0 : Array Value) (hw : ∀ d ∈ tables_1, d.before a0 Z = true) (ws : List Jvm.Cond) (a1 : Addr) (a2 : Addr) (k1 : ClassId) (k2 : ClassId) (ch : Int32) (h0 : Heap) (n0 : Nat) (Z0 : n0 ≤ h0.size) (V1 : Arv Z h0 a1 k1 .byte (1 : Int32) [(.int ch)] (.int (0 : Int32))) (V2 : Arv Z h0 a2 k2 .char (1 : Int32) [(.int (0 : Int32))] (.int (0 : Int32))) (g_a2 : n0 ≤ a2) (ne12 : a1 ≠ a2) :
    MetFree l (⟨"java/lang/StringLatin1", "inflate", "([BI[CII)V"⟩ : MethodName) (head1 (Jvm.Cond.code (⟨"java/lang/StringLatin1", "inflate", "([BI[CII)V"⟩ : MethodName) jdk_43_method_49_code 6 none :: ws) ({ frames := 0, cells := 0, slots := 0, locals := 0 } : Room)) (fun a U => a = #[(.ref a1), (.int (0 : Int32)), (.ref a2), (.int (0 : Int32)), (.int (1 : Int32))] ∧ Z.Warmed39 U.vm ∧ U.heap = h0) (fun _ _ _ _ _ => True) (fun _ U o U' => ∃ v L, o = .returned v ∧ Qrminfl15 Z a1 a2 k1 k2 ch h0 n0 v U'.heap L ∧ FrameEnd U o U' L ({ frames := 0, cells := 0, slots := 0, locals := 0 } : Room).cells ({ frames := 0, cells := 0, slots := 0, locals := 0 } : Room).slots) := by
  refine MetFree.of_bodySF (plainFor_of_name pn_3) hisR ?_
  intro p e s m args below meth c s₁ Bd hml0 hP hK
  obtain ⟨rfl, hZ, hh⟩ := hP
  have hx := Bd.exec
  have hby := Bd.bytes
  have hml : c.maxLocals = 6 := hml0
  have hown : s.vm.findClass "java/lang/StringLatin1" = some m.cls := findClass_of_methodNamed Bd.named
  have hnm := (name_of_methodNamed Bd.named Bd.method).1
  have X0 : Stand p l e ({ frames := 0, cells := 0, slots := 0, locals := 0 } : Room) s m #[(.ref a1), (.int (0 : Int32)), (.ref a2), (.int (0 : Int32)), (.int (1 : Int32))] below meth c s₁ [] 0 0 := Stand.of_body Bd
  have e0 : s₁.heap = h0 := by rw [← hh, Bd.state]; rfl
  have N0 := Fr.nil n0
  show Go p.tables e below (fun o U' => ∃ v L, o = .returned v ∧ Qrminfl15 Z a1 a2 k1 k2 ch h0 n0 v U'.heap L ∧ FrameEnd s o U' L ({ frames := 0, cells := 0, slots := 0, locals := 0 } : Room).cells ({ frames := 0, cells := 0, slots := 0, locals := 0 } : Room).slots) _
  refine Go.step (fun t kt => castTop (ef_rminfl15 m a1 a2 k1 k2 ch) kt) ?_
  show Go p.tables e below _ (s₁.setTop (mkF m 0 #[.val (.ref a1), .val (.int (0 : Int32)), .val (.ref a2), .val (.int (0 : Int32)), .val (.int (1 : Int32)), .unset] []))
  have K101 : Keep h0 h0 [a2] := (Keep.refl h0 [a2])
  refine Go.step (fun _ kt => XS.iconst X0.here hx rfl (hb hby d19_0) (XS.istore X0.here hx rfl (hb hby d19_1) rfl (l' := #[.val (.ref a1), .val (.int (0 : Int32)), .val (.ref a2), .val (.int (0 : Int32)), .val (.int (1 : Int32)), .val (.int (0 : Int32))]) rfl (XS.iload X0.here hx rfl (hb hby d19_3) rfl (XS.iload X0.here hx rfl (hb hby d19_5) rfl (XS.icmpNo X0.here hx rfl (hb hby d19_7) rfl (tlt (by decide : (0 : Int32) < (1 : Int32))).2.1 (XS.aloadN X0.here hx rfl (hb hby d19_10) rfl rfl (XS.iloadN X0.here hx rfl (hb hby d19_11) rfl (XS.iinc X0.here hx rfl (hb hby d19_12) rfl (l' := #[.val (.ref a1), .val (.int (0 : Int32)), .val (.ref a2), .val (.int ((0 : Int32) + (1 : Int32))), .val (.int (1 : Int32)), .val (.int (0 : Int32))]) rfl kt)))))))) ?_
  show Go p.tables e below _ (s₁.setTop (mkF m 15 #[.val (.ref a1), .val (.int (0 : Int32)), .val (.ref a2), .val (.int ((0 : Int32) + (1 : Int32))), .val (.int (1 : Int32)), .val (.int (0 : Int32))] [(.int (0 : Int32)), (.ref a2)]))
  have q102 : ((0 : Int32) + (1 : Int32)) = (1 : Int32) := by decide
  rw [q102]
  show Go p.tables e below _ (s₁.setTop (mkF m 15 #[.val (.ref a1), .val (.int (0 : Int32)), .val (.ref a2), .val (.int (1 : Int32)), .val (.int (1 : Int32)), .val (.int (0 : Int32))] [(.int (0 : Int32)), (.ref a2)]))
  refine Go.step (fun _ kt => XS.aloadN X0.here hx rfl (hb hby d19_15) rfl rfl (XS.iloadN X0.here hx rfl (hb hby d19_16) rfl (XS.iinc X0.here hx rfl (hb hby d19_17) rfl (l' := #[.val (.ref a1), .val (.int ((0 : Int32) + (1 : Int32))), .val (.ref a2), .val (.int (1 : Int32)), .val (.int (1 : Int32)), .val (.int (0 : Int32))]) rfl kt))) ?_
  show Go p.tables e below _ (s₁.setTop (mkF m 20 #[.val (.ref a1), .val (.int ((0 : Int32) + (1 : Int32))), .val (.ref a2), .val (.int (1 : Int32)), .val (.int (1 : Int32)), .val (.int (0 : Int32))] [(.int (0 : Int32)), (.ref a1), (.int (0 : Int32)), (.ref a2)]))
  have q103 : ((0 : Int32) + (1 : Int32)) = (1 : Int32) := by decide
  rw [q103]
  show Go p.tables e below _ (s₁.setTop (mkF m 20 #[.val (.ref a1), .val (.int (1 : Int32)), .val (.ref a2), .val (.int (1 : Int32)), .val (.int (1 : Int32)), .val (.int (0 : Int32))] [(.int (0 : Int32)), (.ref a1), (.int (0 : Int32)), (.ref a2)]))
  obtain ⟨cl104, Ar104, qa104, Sa104, Na104, Ha104, Ga104⟩ := (id V1)
  have hin104 : ¬ ((0 : Int32) < 0 ∨ cl104.slots.size ≤ ((0 : Int32)).toNatClampNeg) := inb_of Sa104 ⟨by decide, by decide⟩
  have hat104 : cl104.slots[((0 : Int32)).toNatClampNeg]? = some (.int ch) := at_of Ha104 hin104 rfl
  refine Go.step (X0.baloadBytes hx (j := (0 : Int32)) (v := (.int ch)) (by rw [e0]; exact Ar104.1) (State.isArrayOf_alike hZ.alike Ar104.2.1) Ar104.2.2 hin104 hat104 (g := (mkF m 20 #[.val (.ref a1), .val (.int (1 : Int32)), .val (.ref a2), .val (.int (1 : Int32)), .val (.int (1 : Int32)), .val (.int (0 : Int32))] [(.int (0 : Int32)), (.ref a1), (.int (0 : Int32)), (.ref a2)])) rfl rfl (hb hby d19_20)) ?_
  show Go p.tables e below _ (s₁.setTop (mkF m 21 #[.val (.ref a1), .val (.int (1 : Int32)), .val (.ref a2), .val (.int (1 : Int32)), .val (.int (1 : Int32)), .val (.int (0 : Int32))] [(.int ch), (.int (0 : Int32)), (.ref a2)]))
  refine Go.step (fun _ kt => XS.sipush X0.here hx rfl (hb hby d19_21) (XS.iand X0.here hx rfl (hb hby d19_24) rfl (XS.i2c X0.here hx rfl (hb hby d19_25) rfl kt))) ?_
  show Go p.tables e below _ (s₁.setTop (mkF m 26 #[.val (.ref a1), .val (.int (1 : Int32)), .val (.ref a2), .val (.int (1 : Int32)), .val (.int (1 : Int32)), .val (.int (0 : Int32))] [(.int ((ch &&& (255 : Int32)).toUInt32.toUInt16.toUInt32.toInt32)), (.int (0 : Int32)), (.ref a2)]))
  obtain ⟨cl105, Ar105, qa105, Sa105, Na105, Ha105, Ga105⟩ := (id V2)
  have hin105 : ¬ ((0 : Int32) < 0 ∨ cl105.slots.size ≤ ((0 : Int32)).toNatClampNeg) := inb_of Sa105 ⟨by decide, by decide⟩
  obtain ⟨T105, h105, X105, e105, W105, st105⟩ := stC X0 hx hZ e0 Ar105 (j := (0 : Int32)) hin105 (g := (mkF m 26 #[.val (.ref a1), .val (.int (1 : Int32)), .val (.ref a2), .val (.int (1 : Int32)), .val (.int (1 : Int32)), .val (.int (0 : Int32))] [(.int ((ch &&& (255 : Int32)).toUInt32.toUInt16.toUInt32.toInt32)), (.int (0 : Int32)), (.ref a2)])) rfl rfl (hb hby d19_26)
  refine Go.step st105 ?_
  have V106 := Arv.set Ar105 qa105 Sa105 Na105 Ha105 Ga105 (fits_nar_char _) W105 0 rfl (Nat.le_of_ble_eq_true rfl)
  have N105 := Fr.snoc X105 N0 g_a2
  have F107 : Arv Z h105 a1 k1 .byte (1 : Int32) [(.int ch)] (.int (0 : Int32)) := (V1.other W105 ne12)
  have Z108 : n0 ≤ h105.size := (Nat.le_trans Z0 (Nat.le_of_eq W105.size.symm))
  have K109 : Keep h0 h105 [a2] := (K101.wr W105 (Or.inl (List.mem_of_getElem? (i := 0) rfl)))
  show Go p.tables e below _ (T105.setTop (mkF m 27 #[.val (.ref a1), .val (.int (1 : Int32)), .val (.ref a2), .val (.int (1 : Int32)), .val (.int (1 : Int32)), .val (.int (0 : Int32))] []))
  refine Go.step (fun _ kt => XS.iinc X105.here hx rfl (hb hby d19_27) rfl (l' := #[.val (.ref a1), .val (.int (1 : Int32)), .val (.ref a2), .val (.int (1 : Int32)), .val (.int (1 : Int32)), .val (.int ((0 : Int32) + (1 : Int32)))]) rfl kt) ?_
  show Go p.tables e below _ (T105.setTop (mkF m 30 #[.val (.ref a1), .val (.int (1 : Int32)), .val (.ref a2), .val (.int (1 : Int32)), .val (.int (1 : Int32)), .val (.int ((0 : Int32) + (1 : Int32)))] []))
  have q110 : ((0 : Int32) + (1 : Int32)) = (1 : Int32) := by decide
  rw [q110]
  show Go p.tables e below _ (T105.setTop (mkF m 30 #[.val (.ref a1), .val (.int (1 : Int32)), .val (.ref a2), .val (.int (1 : Int32)), .val (.int (1 : Int32)), .val (.int (1 : Int32))] []))
  refine Go.step (fun _ kt => XS.goto X105.here hx rfl (pc0 := 30) (pc' := 3) rfl (hb hby d19_30) (by decide) (by decide) (XS.iload X105.here hx rfl (hb hby d19_3) rfl (XS.iload X105.here hx rfl (hb hby d19_5) rfl (XS.icmpYes X105.here hx rfl (pc0 := 7) (pc' := 33) rfl (hb hby d19_7) rfl (flt (by decide : ¬ ((1 : Int32) < (1 : Int32)))).2.1 (by decide) (by decide) kt)))) ?_
  show Go p.tables e below _ (T105.setTop (mkF m 33 #[.val (.ref a1), .val (.int (1 : Int32)), .val (.ref a2), .val (.int (1 : Int32)), .val (.int (1 : Int32)), .val (.int (1 : Int32))] []))
  obtain ⟨fs, hr, hrun, hended, hW, hsame⟩ := X105.leave (v := none) (fun _ => rfl)
  refine ⟨_, _, X105.returnOut hx Bd.returns (hb hby d19_33) hr, hrun, hended, _, _, rfl, ?_, ⟨_, rfl⟩, hW, hsame.mono (by decide) (by decide)⟩
  show Qrminfl15 Z a1 a2 k1 k2 ch h0 n0 _ T105.heap _
  rw [e105]
  refine ⟨?_, N105, K109⟩
  rfl
theorem pd_11 : parseMethodDescriptor "([BI[CII)V" = some ⟨[(.array .byte), .int, (.array .char), .int, .int], none⟩ := by decide +kernel
theorem d18_0 : decode jdk_43_method_9_code 0 = .ok (.aload_n 0, 1) := by decide +kernel
theorem d18_1 : decode jdk_43_method_9_code 1 = .ok (.arraylength, 1) := by decide +kernel
theorem d18_2 : decode jdk_43_method_9_code 2 = .ok (.newarray .char, 2) := by decide +kernel
theorem d18_4 : decode jdk_43_method_9_code 4 = .ok (.astore_n 1, 1) := by decide +kernel
theorem d18_5 : decode jdk_43_method_9_code 5 = .ok (.aload_n 0, 1) := by decide +kernel
theorem d18_6 : decode jdk_43_method_9_code 6 = .ok (.iconst 0, 1) := by decide +kernel
theorem d18_7 : decode jdk_43_method_9_code 7 = .ok (.aload_n 1, 1) := by decide +kernel
theorem d18_8 : decode jdk_43_method_9_code 8 = .ok (.iconst 0, 1) := by decide +kernel
theorem d18_9 : decode jdk_43_method_9_code 9 = .ok (.aload_n 0, 1) := by decide +kernel
theorem d18_10 : decode jdk_43_method_9_code 10 = .ok (.arraylength, 1) := by decide +kernel
theorem d18_11 : decode jdk_43_method_9_code 11 = .ok (.invokestatic 13, 3) := by decide +kernel
theorem d18_14 : decode jdk_43_method_9_code 14 = .ok (.aload_n 1, 1) := by decide +kernel
theorem d18_15 : decode jdk_43_method_9_code 15 = .ok (.areturn, 1) := by decide +kernel
theorem ef_rmtoc14 (m : MethodId) (a1 : Addr) (k1 : ClassId) (ch : Int32) : entryFrame m #[(.ref a1)] 2 = mkF m 0 #[.val (.ref a1), .unset] [] := by first | (simp [entryFrame, mkF, argsToLocals, Value.category]; done) | rfl
def Qrmtoc14 (Z : State) (a1 : Addr) (k1 : ClassId) (ch : Int32) (h0 : Heap) (n0 : Nat) (v : Option Value) (h : Heap) (L : List Loc) : Prop := ∃ r : Addr, v = some (.ref r) ∧ Fr n0 L ∧ Keep h0 h [] ∧ n0 ≤ r ∧ h0.size ≤ r
set_option maxRecDepth 65536 in
set_option maxHeartbeats 40000000 in
theorem rmtoc14 (l : Launch) (Z : State) (a0 : Array Value) (hw : ∀ d ∈ tables_1, d.before a0 Z = true) (ws : List Jvm.Cond) (a1 : Addr) (k1 : ClassId) (ch : Int32) (h0 : Heap) (n0 : Nat) (Z0 : n0 ≤ h0.size) (V1 : Arv Z h0 a1 k1 .byte (1 : Int32) [(.int ch)] (.int (0 : Int32))) (h58 : ¬ ch = 58) :
    MetFree l (⟨"java/lang/StringLatin1", "toChars", "([B)[C"⟩ : MethodName) (head1 (Jvm.Cond.code (⟨"java/lang/StringLatin1", "toChars", "([B)[C"⟩ : MethodName) jdk_43_method_9_code 2 (some (.array .char)) :: ws) ({ frames := 1, cells := 1, slots := 1, locals := 17 } : Room)) (fun a U => a = #[(.ref a1)] ∧ Z.Warmed39 U.vm ∧ U.heap = h0) (fun _ _ _ _ _ => True) (fun _ U o U' => ∃ v L, o = .returned v ∧ Qrmtoc14 Z a1 k1 ch h0 n0 v U'.heap L ∧ FrameEnd U o U' L ({ frames := 1, cells := 1, slots := 1, locals := 17 } : Room).cells ({ frames := 1, cells := 1, slots := 1, locals := 17 } : Room).slots) := by
  refine MetFree.of_bodySF (plainFor_of_name pn_3) hisR ?_
  intro p e s m args below meth c s₁ Bd hml0 hP hK
  obtain ⟨rfl, hZ, hh⟩ := hP
  have hx := Bd.exec
  have hby := Bd.bytes
  have hml : c.maxLocals = 2 := hml0
  have hown : s.vm.findClass "java/lang/StringLatin1" = some m.cls := findClass_of_methodNamed Bd.named
  have hnm := (name_of_methodNamed Bd.named Bd.method).1
  have X0 : Stand p l e ({ frames := 1, cells := 1, slots := 1, locals := 17 } : Room) s m #[(.ref a1)] below meth c s₁ [] 0 0 := Stand.of_body Bd
  have e0 : s₁.heap = h0 := by rw [← hh, Bd.state]; rfl
  have N0 := Fr.nil n0
  show Go p.tables e below (fun o U' => ∃ v L, o = .returned v ∧ Qrmtoc14 Z a1 k1 ch h0 n0 v U'.heap L ∧ FrameEnd s o U' L ({ frames := 1, cells := 1, slots := 1, locals := 17 } : Room).cells ({ frames := 1, cells := 1, slots := 1, locals := 17 } : Room).slots) _
  refine Go.step (fun t kt => castTop (ef_rmtoc14 m a1 k1 ch) kt) ?_
  show Go p.tables e below _ (s₁.setTop (mkF m 0 #[.val (.ref a1), .unset] []))
  have K101 : Keep h0 h0 [] := (Keep.refl h0 [])
  refine Go.step (fun _ kt => XS.aloadN X0.here hx rfl (hb hby d18_0) rfl rfl kt) ?_
  show Go p.tables e below _ (s₁.setTop (mkF m 1 #[.val (.ref a1), .unset] [(.ref a1)]))
  obtain ⟨cl102, Ar102, qa102, Sa102, Na102, Ha102, Ga102⟩ := (id V1)
  refine Go.step (X0.arraylength hx (by rw [e0]; exact Ar102.1) (State.isArrayOf_alike hZ.alike Ar102.2.1) (g := (mkF m 1 #[.val (.ref a1), .unset] [(.ref a1)])) rfl rfl (hb hby d18_1)) ?_
  rw [len_of Sa102 Na102]
  show Go p.tables e below _ (s₁.setTop (mkF m 2 #[.val (.ref a1), .unset] [(.int (1 : Int32))]))
  obtain ⟨T103, h103, k103, X103, e103, E103, A103, st103⟩ := newP X0 hx hZ (hw _ (List.mem_of_getElem? (i := 120) rfl)) e0 (g := (mkF m 2 #[.val (.ref a1), .unset] [(.int (1 : Int32))])) rfl (hb hby d18_2) rfl (by decide) (cap := 1) (by decide) (by decide) (by decide) (by decide)
  obtain ⟨b103, g103⟩ : ∃ z, z = h0.size := ⟨_, rfl⟩
  rw [← g103] at A103 st103
  refine Go.step st103 ?_
  have ne_a1_b103 : a1 ≠ b103 := Nat.ne_of_lt (Nat.lt_of_lt_of_le V1.lt (Nat.le_of_eq g103.symm))
  have g_b103 : n0 ≤ b103 := Nat.le_trans Z0 (Nat.le_of_eq g103.symm)
  have sz_b103 : h0.size ≤ b103 := Nat.le_trans K101.1 (Nat.le_of_eq g103.symm)
  have F104 : Arv Z h103 a1 k1 .byte (1 : Int32) [(.int ch)] (.int (0 : Int32)) := (V1.ext E103)
  have Z105 : n0 ≤ h103.size := (Nat.le_trans Z0 E103.1)
  have K106 : Keep h0 h103 [] := (K101.ext E103)
  have V107 : Arv Z h103 b103 k103 .char (1 : Int32) [(.int (0 : Int32))] (.int (0 : Int32)) := (Arv.new A103 (by decide)).pad (pad_rep [] (.int (0 : Int32)) 1)
  show Go p.tables e below _ (T103.setTop (mkF m 4 #[.val (.ref a1), .unset] [(.ref b103)]))
  refine Go.step (fun _ kt => XS.astoreN X103.here hx rfl (hb hby d18_4) rfl rfl (l' := #[.val (.ref a1), .val (.ref b103)]) rfl (XS.aloadN X103.here hx rfl (hb hby d18_5) rfl rfl (XS.iconst X103.here hx rfl (hb hby d18_6) (XS.aloadN X103.here hx rfl (hb hby d18_7) rfl rfl (XS.iconst X103.here hx rfl (hb hby d18_8) (XS.aloadN X103.here hx rfl (hb hby d18_9) rfl rfl kt)))))) ?_
  show Go p.tables e below _ (T103.setTop (mkF m 10 #[.val (.ref a1), .val (.ref b103)] [(.ref a1), (.int (0 : Int32)), (.ref b103), (.int (0 : Int32)), (.ref a1)]))
  obtain ⟨cl108, Ar108, qa108, Sa108, Na108, Ha108, Ga108⟩ := (id F104)
  refine Go.step (X103.arraylength hx (by rw [e103]; exact Ar108.1) (State.isArrayOf_alike hZ.alike Ar108.2.1) (g := (mkF m 10 #[.val (.ref a1), .val (.ref b103)] [(.ref a1), (.int (0 : Int32)), (.ref b103), (.int (0 : Int32)), (.ref a1)])) rfl rfl (hb hby d18_10)) ?_
  rw [len_of Sa108 Na108]
  show Go p.tables e below _ (T103.setTop (mkF m 11 #[.val (.ref a1), .val (.ref b103)] [(.int (1 : Int32)), (.int (0 : Int32)), (.ref b103), (.int (0 : Int32)), (.ref a1)]))
  obtain ⟨_, _, ⟨T109, L109, k109, n109⟩, -, X109, ⟨Lc109, hQ109, l109, y109, z109⟩, st109⟩ := Jvm.LawKit.callS X103 hx (y := (⟨"java/lang/StringLatin1", "inflate", "([BI[CII)V"⟩ : MethodName)) hown (mvT hZ (hw _ (List.mem_of_getElem? (i := 121) rfl))) (mvT hZ (hw _ (List.mem_of_getElem? (i := 122) rfl))) (mvT hZ (hw _ (List.mem_of_getElem? (i := 77) rfl))) (mvT hZ (hw _ (List.mem_of_getElem? (i := 123) rfl))) (by decide) (backOf (W := 0) (rminfl15 l Z a0 hw [] a1 b103 k1 k103 ch h103 n0 Z105 F104 V107 g_b103 ne_a1_b103) hZ (hw _ (List.mem_of_getElem? (i := 123) rfl)) (hw _ (List.mem_of_getElem? (i := 77) rfl)) (by decide) (by decide)) (g := (mkF m 11 #[.val (.ref a1), .val (.ref b103)] [(.int (1 : Int32)), (.int (0 : Int32)), (.ref b103), (.int (0 : Int32)), (.ref a1)])) rfl (by rw [hml]; rfl) (argsL := [(.ref a1), (.int (0 : Int32)), (.ref b103), (.int (0 : Int32)), (.int (1 : Int32))]) (rest := []) (lenOf pd_11 rfl) rfl (by show 2 * 0 + _ ≤ _; exact Nat.le_of_eq rfl) (hb hby d18_11) (fun _ _ => ⟨rfl, e103, (by decide : 1 + 0 ≤ _), (by decide : 1 + 0 ≤ _)⟩)
  dsimp only [Pt.U, Pt.locs, Pt.cells, Pt.slots] at X109 l109 y109 z109 st109 hQ109
  subst l109 y109 z109
  obtain ⟨rfl, N109q, Kq109⟩ := hQ109
  have F110 : Arv Z T109.heap a1 k1 .byte (1 : Int32) [(.int ch)] (.int (0 : Int32)) := (F104.keep Kq109 (fun q => ne_a1_b103 (List.mem_singleton.mp q)))
  have Z111 : n0 ≤ T109.heap.size := (Nat.le_trans Z105 Kq109.1)
  have K112 : Keep h0 T109.heap [] := (K106.trans Kq109 (by intro x hx; cases List.mem_singleton.mp hx; exact (Or.inr sz_b103)))
  have N109 := Fr.app N0 N109q
  refine Go.step st109 ?_
  show Go p.tables e below _ (T109.setTop (mkF m 14 #[.val (.ref a1), .val (.ref b103)] []))
  refine Go.step (fun _ kt => XS.aloadN X109.here hx rfl (hb hby d18_14) rfl rfl kt) ?_
  show Go p.tables e below _ (T109.setTop (mkF m 15 #[.val (.ref a1), .val (.ref b103)] [(.ref b103)]))
  obtain ⟨fs, hr, hrun, hended, hW, hsame⟩ := X109.leave (v := some (.ref b103)) (fun h => by rw [Bd.returns] at h; cases h)
  refine ⟨_, _, retOut X109 hx Bd.returns rfl (Or.inr (Or.inr (Or.inr (Or.inr ⟨rfl, rfl, rfl⟩)))) (hb hby d18_15) hr, hrun, hended, _, _, rfl, ?_, ⟨_, rfl⟩, hW, hsame.mono (by decide) (by decide)⟩
  show Qrmtoc14 Z a1 k1 ch h0 n0 _ T109.heap _
  refine ⟨b103, ?_, N109, K112, g_b103, sz_b103⟩
  rfl
theorem pd_12 : parseMethodDescriptor "([B)[C" = some ⟨[(.array .byte)], some (.array .char)⟩ := by decide +kernel
theorem d17_0 : decode jdk_42_method_129_code 0 = .ok (.aload_n 0, 1) := by decide +kernel
theorem d17_1 : decode jdk_42_method_129_code 1 = .ok (.invokevirtual 492, 3) := by decide +kernel
theorem d17_4 : decode jdk_42_method_129_code 4 = .ok (.ifCond .eq 13, 3) := by decide +kernel
theorem d17_7 : decode jdk_42_method_129_code 7 = .ok (.aload_n 0, 1) := by decide +kernel
theorem d17_8 : decode jdk_42_method_129_code 8 = .ok (.getfield 9, 3) := by decide +kernel
theorem d17_11 : decode jdk_42_method_129_code 11 = .ok (.invokestatic 299, 3) := by decide +kernel
theorem d17_14 : decode jdk_42_method_129_code 14 = .ok (.goto 10, 3) := by decide +kernel
theorem d17_24 : decode jdk_42_method_129_code 24 = .ok (.areturn, 1) := by decide +kernel
theorem ef_rmtca13 (m : MethodId) (a1 : Addr) (b1 : Addr) (k1 : ClassId) (cs : Int32) (ch : Int32) : entryFrame m #[(.ref a1)] 1 = mkF m 0 #[.val (.ref a1)] [] := by first | (simp [entryFrame, mkF, argsToLocals, Value.category]; done) | rfl
def Qrmtca13 (Z : State) (a1 : Addr) (b1 : Addr) (k1 : ClassId) (cs : Int32) (ch : Int32) (h0 : Heap) (n0 : Nat) (v : Option Value) (h : Heap) (L : List Loc) : Prop := ∃ r : Addr, v = some (.ref r) ∧ Fr n0 L ∧ Keep h0 h [] ∧ n0 ≤ r ∧ h0.size ≤ r
set_option maxRecDepth 65536 in
set_option maxHeartbeats 40000000 in
theorem rmtca13 (l : Launch) (Z : State) (a0 : Array Value) (hw : ∀ d ∈ tables_1, d.before a0 Z = true) (ws : List Jvm.Cond) (a1 : Addr) (b1 : Addr) (k1 : ClassId) (cs : Int32) (ch : Int32) (h0 : Heap) (n0 : Nat) (Z0 : n0 ≤ h0.size) (E1 : Exa Z h0 a1 "java/lang/String") (Fc1 : Fld Z h0 a1 "java/lang/String" "coder" "B" (.int (0 : Int32))) (Fv1 : Fld Z h0 a1 "java/lang/String" "value" "[B" (.ref b1)) (V1 : Arv Z h0 b1 k1 .byte (1 : Int32) [(.int ch)] (.int (0 : Int32))) (S_cs : Sta Z h0 "java/lang/String" "COMPACT_STRINGS" "Z" (.int cs)) (hcs : ¬ cs = 0) (h58 : ¬ ch = 58) :
    MetFree l (⟨"java/lang/String", "toCharArray", "()[C"⟩ : MethodName) (head1 (Jvm.Cond.code (⟨"java/lang/String", "toCharArray", "()[C"⟩ : MethodName) jdk_42_method_129_code 1 (some (.array .char)) :: ws) ({ frames := 2, cells := 1, slots := 1, locals := 30 } : Room)) (fun a U => a = #[(.ref a1)] ∧ Z.Warmed39 U.vm ∧ U.heap = h0) (fun _ _ _ _ _ => True) (fun _ U o U' => ∃ v L, o = .returned v ∧ Qrmtca13 Z a1 b1 k1 cs ch h0 n0 v U'.heap L ∧ FrameEnd U o U' L ({ frames := 2, cells := 1, slots := 1, locals := 30 } : Room).cells ({ frames := 2, cells := 1, slots := 1, locals := 30 } : Room).slots) := by
  refine MetFree.of_bodySF (plainFor_of_name pn_2) hisR ?_
  intro p e s m args below meth c s₁ Bd hml0 hP hK
  obtain ⟨rfl, hZ, hh⟩ := hP
  have hx := Bd.exec
  have hby := Bd.bytes
  have hml : c.maxLocals = 1 := hml0
  have hown : s.vm.findClass "java/lang/String" = some m.cls := findClass_of_methodNamed Bd.named
  have hnm := (name_of_methodNamed Bd.named Bd.method).1
  have X0 : Stand p l e ({ frames := 2, cells := 1, slots := 1, locals := 30 } : Room) s m #[(.ref a1)] below meth c s₁ [] 0 0 := Stand.of_body Bd
  have e0 : s₁.heap = h0 := by rw [← hh, Bd.state]; rfl
  have N0 := Fr.nil n0
  show Go p.tables e below (fun o U' => ∃ v L, o = .returned v ∧ Qrmtca13 Z a1 b1 k1 cs ch h0 n0 v U'.heap L ∧ FrameEnd s o U' L ({ frames := 2, cells := 1, slots := 1, locals := 30 } : Room).cells ({ frames := 2, cells := 1, slots := 1, locals := 30 } : Room).slots) _
  refine Go.step (fun t kt => castTop (ef_rmtca13 m a1 b1 k1 cs ch) kt) ?_
  show Go p.tables e below _ (s₁.setTop (mkF m 0 #[.val (.ref a1)] []))
  have K101 : Keep h0 h0 [] := (Keep.refl h0 [])
  refine Go.step (fun _ kt => XS.aloadN X0.here hx rfl (hb hby d17_0) rfl rfl kt) ?_
  show Go p.tables e below _ (s₁.setTop (mkF m 1 #[.val (.ref a1)] [(.ref a1)]))
  obtain ⟨cq102, kq102, q102a, q102b, q102c⟩ := isOf hZ e0 E1
  obtain ⟨_, _, ⟨T102, L102, k102, n102⟩, -, X102, ⟨Lc102, hQ102, l102, y102, z102⟩, st102⟩ := X0.virtualBack hx (y := (⟨"java/lang/String", "isLatin1", "()Z"⟩ : MethodName)) (z := (⟨"java/lang/String", "isLatin1", "()Z"⟩ : MethodName)) hown (mvT hZ (hw _ (List.mem_of_getElem? (i := 69) rfl))) (mvT hZ (hw _ (List.mem_of_getElem? (i := 70) rfl))) (notFace_of_selects (args := #[]) (mvT hZ (hw _ (List.mem_of_getElem? (i := 72) rfl)))) (mvT hZ (hw _ (List.mem_of_getElem? (i := 72) rfl))) (mvT hZ (hw _ (List.mem_of_getElem? (i := 71) rfl))) (by decide) (backOf (W := 0) (rmisLatin15 l Z a0 hw [] a1 b1 k1 cs ch h0 n0 Z0 E1 Fc1 Fv1 V1 S_cs hcs h58) hZ (hw _ (List.mem_of_getElem? (i := 73) rfl)) (hw _ (List.mem_of_getElem? (i := 24) rfl)) (by decide) (by decide)) q102a q102c (g := (mkF m 1 #[.val (.ref a1)] [(.ref a1)])) rfl (by rw [hml]; rfl) (Steps.refl _) (argsL := []) (rest := []) (lenOf pd_3 rfl) rfl (by show 2 * 0 + _ ≤ _; exact Nat.le_of_eq rfl) (hb hby d17_1) (fun _ _ => ⟨rfl, e0, (by decide : 0 + 0 ≤ _), (by decide : 0 + 0 ≤ _)⟩)
  dsimp only [Pt.U, Pt.locs, Pt.cells, Pt.slots] at X102 l102 y102 z102 st102 hQ102
  subst l102 y102 z102
  obtain ⟨rfl, N102q, eh102⟩ := hQ102
  have N102 := Fr.app N0 N102q
  refine Go.step (fun _ kt => st102.trans kt) ?_
  show Go p.tables e below _ (T102.setTop (mkF m 4 #[.val (.ref a1)] [(.int (1 : Int32))]))
  refine Go.step (fun _ kt => XS.ifNo X102.here hx rfl (hb hby d17_4) rfl ((if0 _ _).trans (feq (by decide : ¬ ((1 : Int32) = (0 : Int32)))).1) (XS.aloadN X102.here hx rfl (hb hby d17_7) rfl rfl kt)) ?_
  show Go p.tables e below _ (T102.setTop (mkF m 8 #[.val (.ref a1)] [(.ref a1)]))
  obtain ⟨T103, X103, e103, st103⟩ := getF X102 hx hZ hown (host := "") (Or.inl (hw _ (List.mem_of_getElem? (i := 49) rfl))) Via.refl eh102 Fv1 (g := (mkF m 8 #[.val (.ref a1)] [(.ref a1)])) rfl rfl (hb hby d17_8)
  refine Go.step st103 ?_
  show Go p.tables e below _ (T103.setTop (mkF m 11 #[.val (.ref a1)] [(.ref b1)]))
  obtain ⟨_, _, ⟨T104, L104, k104, n104⟩, -, X104, ⟨Lc104, hQ104, l104, y104, z104⟩, st104⟩ := Jvm.LawKit.callS X103 hx (y := (⟨"java/lang/StringLatin1", "toChars", "([B)[C"⟩ : MethodName)) hown (mvT hZ (hw _ (List.mem_of_getElem? (i := 117) rfl))) (mvT hZ (hw _ (List.mem_of_getElem? (i := 118) rfl))) (mvT hZ (hw _ (List.mem_of_getElem? (i := 77) rfl))) (mvT hZ (hw _ (List.mem_of_getElem? (i := 119) rfl))) (by decide) (backOf (W := 0) (rmtoc14 l Z a0 hw [] b1 k1 ch h0 n0 Z0 V1 h58) hZ (hw _ (List.mem_of_getElem? (i := 119) rfl)) (hw _ (List.mem_of_getElem? (i := 77) rfl)) (by decide) (by decide)) (g := (mkF m 11 #[.val (.ref a1)] [(.ref b1)])) rfl (by rw [hml]; rfl) (argsL := [(.ref b1)]) (rest := []) (lenOf pd_12 rfl) rfl (by show 2 * 0 + _ ≤ _; exact Nat.le_of_eq rfl) (hb hby d17_11) (fun _ _ => ⟨rfl, e103, (by decide : 0 + 1 ≤ _), (by decide : 0 + 1 ≤ _)⟩)
  dsimp only [Pt.U, Pt.locs, Pt.cells, Pt.slots] at X104 l104 y104 z104 st104 hQ104
  subst l104 y104 z104
  obtain ⟨b104r, rfl, N104q, Kq104, g_b104r, szq_b104r⟩ := hQ104
  have ne_a1_b104r : a1 ≠ b104r := Nat.ne_of_lt (Nat.lt_of_lt_of_le E1.lt szq_b104r)
  have ne_b1_b104r : b1 ≠ b104r := Nat.ne_of_lt (Nat.lt_of_lt_of_le V1.lt szq_b104r)
  have sz_b104r : h0.size ≤ b104r := Nat.le_trans K101.1 szq_b104r
  have F105 : Exa Z T104.heap a1 "java/lang/String" := (E1.keep Kq104)
  have F106 : Fld Z T104.heap a1 "java/lang/String" "coder" "B" (.int (0 : Int32)) := (Fc1.keep Kq104 (by simp))
  have F107 : Fld Z T104.heap a1 "java/lang/String" "value" "[B" (.ref b1) := (Fv1.keep Kq104 (by simp))
  have F108 : Arv Z T104.heap b1 k1 .byte (1 : Int32) [(.int ch)] (.int (0 : Int32)) := (V1.keep Kq104 (by simp))
  have Z109 : n0 ≤ T104.heap.size := (Nat.le_trans Z0 Kq104.1)
  have K110 : Keep h0 T104.heap [] := (K101.trans Kq104 (by intro x hx; cases hx))
  have N104 := Fr.app N102 N104q
  refine Go.step st104 ?_
  show Go p.tables e below _ (T104.setTop (mkF m 14 #[.val (.ref a1)] [(.ref b104r)]))
  refine Go.step (fun _ kt => XS.goto X104.here hx rfl (pc0 := 14) (pc' := 24) rfl (hb hby d17_14) (by decide) (by decide) kt) ?_
  show Go p.tables e below _ (T104.setTop (mkF m 24 #[.val (.ref a1)] [(.ref b104r)]))
  obtain ⟨fs, hr, hrun, hended, hW, hsame⟩ := X104.leave (v := some (.ref b104r)) (fun h => by rw [Bd.returns] at h; cases h)
  refine ⟨_, _, retOut X104 hx Bd.returns rfl (Or.inr (Or.inr (Or.inr (Or.inr ⟨rfl, rfl, rfl⟩)))) (hb hby d17_24) hr, hrun, hended, _, _, rfl, ?_, ⟨_, rfl⟩, hW, hsame.mono (by decide) (by decide)⟩
  show Qrmtca13 Z a1 b1 k1 cs ch h0 n0 _ T104.heap _
  refine ⟨b104r, ?_, N104, K110, g_b104r, sz_b104r⟩
  rfl
theorem pd_13 : parseMethodDescriptor "()[C" = some ⟨[], some (.array .char)⟩ := by decide +kernel
theorem pd_14 : parseMethodDescriptor "()Ljava/lang/String;" = some ⟨[], some (.object "java/lang/String")⟩ := by decide +kernel
theorem pn_4 : plainName "com/example/ottawa/ottawa/KeptName" = true := by first | (simp [plainName, overriddenIn]; done) | decide +kernel
theorem d3_0 : decode prog_22_method_1_code 0 = .ok (.aload_n 0, 1) := by decide +kernel
theorem d3_1 : decode prog_22_method_1_code 1 = .ok (.aload_n 1, 1) := by decide +kernel
theorem d3_2 : decode prog_22_method_1_code 2 = .ok (.iload_n 2, 1) := by decide +kernel
theorem d3_3 : decode prog_22_method_1_code 3 = .ok (.invokespecial 1, 3) := by decide +kernel
theorem d3_6 : decode prog_22_method_1_code 6 = .ok (.aload_n 0, 1) := by decide +kernel
theorem d3_7 : decode prog_22_method_1_code 7 = .ok (.ldc2_w 7, 3) := by decide +kernel
theorem d3_10 : decode prog_22_method_1_code 10 = .ok (.putfield 9, 3) := by decide +kernel
theorem d3_13 : decode prog_22_method_1_code 13 = .ok (.aload_n 0, 1) := by decide +kernel
theorem d3_14 : decode prog_22_method_1_code 14 = .ok (.aload_n 1, 1) := by decide +kernel
theorem d3_15 : decode prog_22_method_1_code 15 = .ok (.invokevirtual 15, 3) := by decide +kernel
theorem d3_18 : decode prog_22_method_1_code 18 = .ok (.putfield 21, 3) := by decide +kernel
theorem d3_21 : decode prog_22_method_1_code 21 = .ok (.aload_n 0, 1) := by decide +kernel
theorem d3_22 : decode prog_22_method_1_code 22 = .ok (.aload_n 0, 1) := by decide +kernel
theorem d3_23 : decode prog_22_method_1_code 23 = .ok (.invokespecial 25, 3) := by decide +kernel
theorem d3_26 : decode prog_22_method_1_code 26 = .ok (.putfield 29, 3) := by decide +kernel
theorem d3_29 : decode prog_22_method_1_code 29 = .ok (.aload_n 0, 1) := by decide +kernel
theorem d3_30 : decode prog_22_method_1_code 30 = .ok (.aload_n 0, 1) := by decide +kernel
theorem d3_31 : decode prog_22_method_1_code 31 = .ok (.invokespecial 32, 3) := by decide +kernel
theorem d3_34 : decode prog_22_method_1_code 34 = .ok (.putfield 35, 3) := by decide +kernel
theorem d3_37 : decode prog_22_method_1_code 37 = .ok (.aload_n 0, 1) := by decide +kernel
theorem d3_38 : decode prog_22_method_1_code 38 = .ok (.iload_n 3, 1) := by decide +kernel
theorem d3_39 : decode prog_22_method_1_code 39 = .ok (.putfield 37, 3) := by decide +kernel
theorem d3_42 : decode prog_22_method_1_code 42 = .ok (.return_, 1) := by decide +kernel
theorem ef_rmk1 (m : MethodId) (a1 : Addr) (a2 : Addr) (p1 : Int32) (p2 : Int32) (u0 : Value) (u1 : Value) (u2 : Value) (u3 : Value) (u4 : Value) (u5 : Value) (u6 : Value) (u7 : Value) (u8 : Value) (u9 : Value) (u10 : Value) (b2 : Addr) (k2 : ClassId) (cs : Int32) (ch : Int32) : entryFrame m #[(.ref a1), (.ref a2), (.int p1), (.int p2)] 4 = mkF m 0 #[.val (.ref a1), .val (.ref a2), .val (.int p1), .val (.int p2)] [] := by first | (simp [entryFrame, mkF, argsToLocals, Value.category]; done) | rfl
def Qrmk1 (Z : State) (a1 : Addr) (a2 : Addr) (p1 : Int32) (p2 : Int32) (u0 : Value) (u1 : Value) (u2 : Value) (u3 : Value) (u4 : Value) (u5 : Value) (u6 : Value) (u7 : Value) (u8 : Value) (u9 : Value) (u10 : Value) (b2 : Addr) (k2 : ClassId) (cs : Int32) (ch : Int32) (h0 : Heap) (n0 : Nat) (v : Option Value) (h : Heap) (L : List Loc) : Prop := v = none ∧ Fr n0 L ∧ Keep h0 h [a1] ∧ Exa Z h a1 "com/example/ottawa/ottawa/KeptName"
set_option maxRecDepth 65536 in
set_option maxHeartbeats 40000000 in
theorem rmk1 (l : Launch) (Z : State) (a0 : Array Value) (hw : ∀ d ∈ tables_1, d.before a0 Z = true) (ws : List Jvm.Cond) (a1 : Addr) (a2 : Addr) (p1 : Int32) (p2 : Int32) (u0 : Value) (u1 : Value) (u2 : Value) (u3 : Value) (u4 : Value) (u5 : Value) (u6 : Value) (u7 : Value) (u8 : Value) (u9 : Value) (u10 : Value) (b2 : Addr) (k2 : ClassId) (cs : Int32) (ch : Int32) (h0 : Heap) (n0 : Nat) (Z0 : n0 ≤ h0.size) (E1 : Exa Z h0 a1 "com/example/ottawa/ottawa/KeptName") (F0 : Fld Z h0 a1 "com/example/ottawa/ottawa/Name" "text" "Ljava/lang/String;" u0) (F1 : Fld Z h0 a1 "com/example/ottawa/ottawa/Name" "hash" "I" u1) (F2 : Fld Z h0 a1 "com/example/ottawa/ottawa/Name" "length" "I" u2) (F3 : Fld Z h0 a1 "com/example/ottawa/ottawa/Name" "colon" "I" u3) (F4 : Fld Z h0 a1 "com/example/ottawa/ottawa/Name" "qName" "Z" u4) (F5 : Fld Z h0 a1 "com/example/ottawa/ottawa/Name" "namespaceDeclaration" "Z" u5) (F6 : Fld Z h0 a1 "com/example/ottawa/ottawa/KeptName" "stamp" "J" u6) (F7 : Fld Z h0 a1 "com/example/ottawa/ottawa/KeptName" "chars" "[C" u7) (F8 : Fld Z h0 a1 "com/example/ottawa/ottawa/KeptName" "prefix" "Ljava/lang/String;" u8) (F9 : Fld Z h0 a1 "com/example/ottawa/ottawa/KeptName" "localPart" "Ljava/lang/String;" u9) (F10 : Fld Z h0 a1 "com/example/ottawa/ottawa/KeptName" "place" "I" u10) (E2 : Exa Z h0 a2 "java/lang/String") (Fc2 : Fld Z h0 a2 "java/lang/String" "coder" "B" (.int (0 : Int32))) (Fv2 : Fld Z h0 a2 "java/lang/String" "value" "[B" (.ref b2)) (V2 : Arv Z h0 b2 k2 .byte (1 : Int32) [(.int ch)] (.int (0 : Int32))) (S_cs : Sta Z h0 "java/lang/String" "COMPACT_STRINGS" "Z" (.int cs)) (g_a1 : n0 ≤ a1) (hcs : ¬ cs = 0) (ne_1 : a2 ≠ a1) (ne_2 : b2 ≠ a1) (h58 : ¬ ch = 58) :
    MetFree l (⟨"com/example/ottawa/ottawa/KeptName", "<init>", "(Ljava/lang/String;II)V"⟩ : MethodName) (head1 (Jvm.Cond.code (⟨"com/example/ottawa/ottawa/KeptName", "<init>", "(Ljava/lang/String;II)V"⟩ : MethodName) prog_22_method_1_code 4 none :: ws) ({ frames := 5, cells := 7, slots := 53, locals := 74 } : Room)) (fun a U => a = #[(.ref a1), (.ref a2), (.int p1), (.int p2)] ∧ Z.Warmed39 U.vm ∧ U.heap = h0 ∧ CHv Z own_EL U.vm h0) (fun _ _ _ _ _ => True) (fun _ U o U' => ∃ v L, o = .returned v ∧ Qrmk1 Z a1 a2 p1 p2 u0 u1 u2 u3 u4 u5 u6 u7 u8 u9 u10 b2 k2 cs ch h0 n0 v U'.heap L ∧ CHr Z own_EL U.vm U.heap U'.vm U'.heap ∧ ReturnedEndW U o U' L ({ frames := 5, cells := 7, slots := 53, locals := 74 } : Room).cells ({ frames := 5, cells := 7, slots := 53, locals := 74 } : Room).slots) := by
  refine MetFree.of_bodySF (plainFor_of_name pn_4) hisR ?_
  intro p e s m args below meth c s₁ Bd hml0 hP hK
  obtain ⟨rfl, hZ, hh, hCH⟩ := hP
  have hx := Bd.exec
  have hby := Bd.bytes
  have hml : c.maxLocals = 4 := hml0
  have hown : s.vm.findClass "com/example/ottawa/ottawa/KeptName" = some m.cls := findClass_of_methodNamed Bd.named
  have hnm := (name_of_methodNamed Bd.named Bd.method).1
  have X0 : Stand p l e ({ frames := 5, cells := 7, slots := 53, locals := 74 } : Room) (s.setVm s.vm) m #[(.ref a1), (.ref a2), (.int p1), (.int p2)] below meth c s₁ [] 0 0 := Stand.of_body Bd
  have e0 : s₁.heap = h0 := by rw [← hh, Bd.state]; rfl
  have N0 := Fr.nil n0
  have hS0 : s.Since s.vm s.heap.size := (State.WarmedH.refl s).since _
  have hk0 : s.heap.size ≤ h0.size := Nat.le_of_eq (congrArg Array.size hh)
  have C0 := CHr.refl hCH
  show Go p.tables e below (fun o U' => ∃ v L, o = .returned v ∧ Qrmk1 Z a1 a2 p1 p2 u0 u1 u2 u3 u4 u5 u6 u7 u8 u9 u10 b2 k2 cs ch h0 n0 v U'.heap L ∧ CHr Z own_EL s.vm s.heap U'.vm U'.heap ∧ ReturnedEndW s o U' L ({ frames := 5, cells := 7, slots := 53, locals := 74 } : Room).cells ({ frames := 5, cells := 7, slots := 53, locals := 74 } : Room).slots) _
  refine Go.step (fun t kt => castTop (ef_rmk1 m a1 a2 p1 p2 u0 u1 u2 u3 u4 u5 u6 u7 u8 u9 u10 b2 k2 cs ch) kt) ?_
  show Go p.tables e below _ (s₁.setTop (mkF m 0 #[.val (.ref a1), .val (.ref a2), .val (.int p1), .val (.int p2)] []))
  have K101 : Keep h0 h0 [a1] := (Keep.refl h0 [a1])
  refine Go.step (fun _ kt => XS.aloadN X0.here hx rfl (hb hby d3_0) rfl rfl (XS.aloadN X0.here hx rfl (hb hby d3_1) rfl rfl (XS.iloadN X0.here hx rfl (hb hby d3_2) rfl kt))) ?_
  show Go p.tables e below _ (s₁.setTop (mkF m 3 #[.val (.ref a1), .val (.ref a2), .val (.int p1), .val (.int p2)] [(.int p1), (.ref a2), (.ref a1)]))
  obtain ⟨_, _, ⟨T102, L102, k102, n102⟩, -, X102, hSq102, hgq102, ⟨Lc102, hQ102, l102, y102, z102, Cq102⟩, st102⟩ := X0.specialBackS hx (y := (⟨"com/example/ottawa/ottawa/Name", "<init>", "(Ljava/lang/String;I)V"⟩ : MethodName)) rfl hown (mvT hZ (hw _ (List.mem_of_getElem? (i := 34) rfl))) (mvT hZ (hw _ (List.mem_of_getElem? (i := 35) rfl))) (mvT hZ (hw _ (List.mem_of_getElem? (i := 38) rfl))) (by decide) (backOfSH (s := s) (EL := own_EL) (W := 0) (rmn1 l Z a0 hw [] a1 a2 p1 u0 u1 u2 u3 u4 u5 u6 u7 u8 u9 u10 b2 k2 cs ch h0 n0 Z0 E1 F0 F1 F2 F3 F4 F5 F6 F7 F8 F9 F10 E2 Fc2 Fv2 V2 S_cs g_a1 hcs ne_1 ne_2 h58) hZ (hw _ (List.mem_of_getElem? (i := 38) rfl)) (hw _ (List.mem_of_getElem? (i := 37) rfl)) (by decide) (by decide) (own_EW hw) C0.1) (g := (mkF m 3 #[.val (.ref a1), .val (.ref a2), .val (.int p1), .val (.int p2)] [(.int p1), (.ref a2), (.ref a1)])) rfl (by rw [hml]; rfl) (Steps.refl _) (a := a1) (argsL := [(.ref a2), (.int p1)]) (rest := []) (lenOf pd_10 rfl) rfl (by show 2 * 0 + _ ≤ _; exact Nat.le_of_eq rfl) (hb hby d3_3) (fun _ _ => ⟨rfl, e0, (by decide : 0 + 4 ≤ _), (by decide : 0 + 48 ≤ _)⟩)
  dsimp only [Pt.U, Pt.locs, Pt.cells, Pt.slots] at X102 l102 y102 z102 st102 hQ102 hSq102 hgq102
  subst l102 y102 z102
  obtain ⟨X102, hS102, hZ, hown⟩ := rebS hS0 (by rw [e0]; exact hk0) X102 hSq102 hgq102 hZ hown
  have hk102 : T102.heap.size ≤ T102.heap.size := Nat.le_refl _
  dsimp only [Pt.U] at Cq102
  obtain ⟨rfl, N102q, Kq102, P103, P104, P105, P106, P107, P108, P109, P110⟩ := hQ102
  have F111 : Exa Z T102.heap a1 "com/example/ottawa/ottawa/KeptName" := (E1.keep Kq102)
  have F112 : Exa Z T102.heap a2 "java/lang/String" := (E2.keep Kq102)
  have F113 : Fld Z T102.heap a2 "java/lang/String" "coder" "B" (.int (0 : Int32)) := (Fc2.keep Kq102 (fun q => ne_1 (List.mem_singleton.mp q)))
  have F114 : Fld Z T102.heap a2 "java/lang/String" "value" "[B" (.ref b2) := (Fv2.keep Kq102 (fun q => ne_1 (List.mem_singleton.mp q)))
  have F115 : Arv Z T102.heap b2 k2 .byte (1 : Int32) [(.int ch)] (.int (0 : Int32)) := (V2.keep Kq102 (fun q => ne_2 (List.mem_singleton.mp q)))
  have F116 : Sta Z T102.heap "java/lang/String" "COMPACT_STRINGS" "Z" (.int cs) := (own_sta_keep S_cs E1 Kq102)
  have Z117 : n0 ≤ T102.heap.size := (Nat.le_trans Z0 Kq102.1)
  have C118 := (C0.trans Cq102)
  have K119 : Keep h0 T102.heap [a1] := (K101.trans Kq102 (by intro x hx; cases List.mem_singleton.mp hx; exact (Or.inl (List.mem_of_getElem? (i := 0) rfl))))
  have N102 := Fr.app N0 N102q
  refine Go.step (fun _ kt => st102.trans kt) ?_
  show Go p.tables e below _ (T102.setTop (mkF m 6 #[.val (.ref a1), .val (.ref a2), .val (.int p1), .val (.int p2)] []))
  refine Go.step (fun _ kt => XS.aloadN X102.here hx rfl (hb hby d3_6) rfl rfl kt) ?_
  show Go p.tables e below _ (T102.setTop (mkF m 7 #[.val (.ref a1), .val (.ref a2), .val (.int p1), .val (.int p2)] [(.ref a1)]))
  refine Go.step (X102.ldc2Long hx hown (mvT hZ (hw _ (List.mem_of_getElem? (i := 109) rfl))) (g := (mkF m 7 #[.val (.ref a1), .val (.ref a2), .val (.int p1), .val (.int p2)] [(.ref a1)])) rfl (hb hby d3_7)) ?_
  show Go p.tables e below _ (T102.setTop (mkF m 10 #[.val (.ref a1), .val (.ref a2), .val (.int p1), .val (.int p2)] [(.long (-1 : Int64)), (.ref a1)]))
  obtain ⟨T120, h120, X120, e120, W120, st120⟩ := putF X102 hx hZ hown (host := "") (Or.inl (hw _ (List.mem_of_getElem? (i := 110) rfl))) Via.refl rfl P106 P103 (Or.inl (hw _ (List.mem_of_getElem? (i := 111) rfl))) (hw _ (List.mem_of_getElem? (i := 21) rfl)) (ty := .long) (by decide) rfl rfl (g := (mkF m 10 #[.val (.ref a1), .val (.ref a2), .val (.int p1), .val (.int p2)] [(.long (-1 : Int64)), (.ref a1)])) rfl rfl (hb hby d3_10)
  refine Go.step st120 ?_
  have N120 := Fr.snoc X120 N102 g_a1
  have F121 : Exa Z h120 a1 "com/example/ottawa/ottawa/KeptName" := (P103.wr W120)
  have F122 : Exa Z h120 a2 "java/lang/String" := (F112.wr W120)
  have F123 : Fld Z h120 a2 "java/lang/String" "coder" "B" (.int (0 : Int32)) := (F113.other W120 (Or.inl ne_1))
  have F124 : Fld Z h120 a2 "java/lang/String" "value" "[B" (.ref b2) := (F114.other W120 (Or.inl ne_1))
  have F125 : Arv Z h120 b2 k2 .byte (1 : Int32) [(.int ch)] (.int (0 : Int32)) := (F115.other W120 ne_2)
  have F126 : Sta Z h120 "java/lang/String" "COMPACT_STRINGS" "Z" (.int cs) := (F116.wr W120)
  have F127 : Fld Z h120 a1 "com/example/ottawa/ottawa/Name" "text" "Ljava/lang/String;" (.ref a2) := (P104.other W120 (Or.inr (slot_ne (Or.inr (hw _ (List.mem_of_getElem? (i := 41) rfl))) (Or.inl (hw _ (List.mem_of_getElem? (i := 111) rfl))) (by decide) (t := (.object "java/lang/String")) (t' := .long) (by decide) (by decide))))
  have F128 : Fld Z h120 a1 "com/example/ottawa/ottawa/Name" "colon" "I" (.int (-1 : Int32)) := (P105.other W120 (Or.inr (slot_ne (Or.inr (hw _ (List.mem_of_getElem? (i := 93) rfl))) (Or.inl (hw _ (List.mem_of_getElem? (i := 111) rfl))) (by decide) (t := .int) (t' := .long) (by decide) (by decide))))
  have F129 : Fld Z h120 a1 "com/example/ottawa/ottawa/KeptName" "chars" "[C" u7 := (P107.other W120 (Or.inr (slot_ne (Or.inr (hw _ (List.mem_of_getElem? (i := 125) rfl))) (Or.inl (hw _ (List.mem_of_getElem? (i := 111) rfl))) (by decide) (t := (.array .char)) (t' := .long) (by decide) (by decide))))
  have F130 : Fld Z h120 a1 "com/example/ottawa/ottawa/KeptName" "prefix" "Ljava/lang/String;" u8 := (P108.other W120 (Or.inr (slot_ne (Or.inr (hw _ (List.mem_of_getElem? (i := 133) rfl))) (Or.inl (hw _ (List.mem_of_getElem? (i := 111) rfl))) (by decide) (t := (.object "java/lang/String")) (t' := .long) (by decide) (by decide))))
  have F131 : Fld Z h120 a1 "com/example/ottawa/ottawa/KeptName" "localPart" "Ljava/lang/String;" u9 := (P109.other W120 (Or.inr (slot_ne (Or.inr (hw _ (List.mem_of_getElem? (i := 139) rfl))) (Or.inl (hw _ (List.mem_of_getElem? (i := 111) rfl))) (by decide) (t := (.object "java/lang/String")) (t' := .long) (by decide) (by decide))))
  have F132 : Fld Z h120 a1 "com/example/ottawa/ottawa/KeptName" "place" "I" u10 := (P110.other W120 (Or.inr (slot_ne (Or.inr (hw _ (List.mem_of_getElem? (i := 141) rfl))) (Or.inl (hw _ (List.mem_of_getElem? (i := 111) rfl))) (by decide) (t := .int) (t' := .long) (by decide) (by decide))))
  have Z133 : n0 ≤ h120.size := (Nat.le_trans Z117 (Nat.le_of_eq W120.size.symm))
  have hk134 : _ ≤ h120.size := (Nat.le_trans hk102 (Nat.le_of_eq W120.size.symm))
  have C135 := (C118.trans (CHr.wr W120 (Safe.exa hZ.alike P103 (by decide) (by decide)) C118.1))
  have K136 : Keep h0 h120 [a1] := (K119.wr W120 (Or.inl (List.mem_of_getElem? (i := 0) rfl)))
  show Go p.tables e below _ (T120.setTop (mkF m 13 #[.val (.ref a1), .val (.ref a2), .val (.int p1), .val (.int p2)] []))
  refine Go.step (fun _ kt => XS.aloadN X120.here hx rfl (hb hby d3_13) rfl rfl (XS.aloadN X120.here hx rfl (hb hby d3_14) rfl rfl kt)) ?_
  show Go p.tables e below _ (T120.setTop (mkF m 15 #[.val (.ref a1), .val (.ref a2), .val (.int p1), .val (.int p2)] [(.ref a2), (.ref a1)]))
  obtain ⟨cq137, kq137, q137a, q137b, q137c⟩ := isOf hZ e120 F122
  obtain ⟨_, _, ⟨T137, L137, k137, n137⟩, -, X137, ⟨Lc137, hQ137, l137, y137, z137⟩, st137⟩ := X120.virtualBack hx (y := (⟨"java/lang/String", "toCharArray", "()[C"⟩ : MethodName)) (z := (⟨"java/lang/String", "toCharArray", "()[C"⟩ : MethodName)) hown (mvT hZ (hw _ (List.mem_of_getElem? (i := 112) rfl))) (mvT hZ (hw _ (List.mem_of_getElem? (i := 113) rfl))) (notFace_of_selects (args := #[]) (mvT hZ (hw _ (List.mem_of_getElem? (i := 115) rfl)))) (mvT hZ (hw _ (List.mem_of_getElem? (i := 115) rfl))) (mvT hZ (hw _ (List.mem_of_getElem? (i := 114) rfl))) (by decide) (backOf (W := 1) (rmtca13 l Z a0 hw [] a2 b2 k2 cs ch h120 n0 Z133 F122 F123 F124 F125 F126 hcs h58) hZ (hw _ (List.mem_of_getElem? (i := 116) rfl)) (hw _ (List.mem_of_getElem? (i := 24) rfl)) (by decide) (by decide)) q137a q137c (g := (mkF m 15 #[.val (.ref a1), .val (.ref a2), .val (.int p1), .val (.int p2)] [(.ref a2), (.ref a1)])) rfl (by rw [hml]; rfl) (Steps.refl _) (argsL := []) (rest := [(.ref a1)]) (lenOf pd_13 rfl) rfl (by show 2 * 0 + _ ≤ _; exact Nat.le_of_eq rfl) (hb hby d3_15) (fun _ _ => ⟨rfl, e120, (by decide : 4 + 1 ≤ _), (by decide : 48 + 1 ≤ _)⟩)
  dsimp only [Pt.U, Pt.locs, Pt.cells, Pt.slots] at X137 l137 y137 z137 st137 hQ137
  subst l137 y137 z137
  obtain ⟨b137r, rfl, N137q, Kq137, g_b137r, szq_b137r⟩ := hQ137
  have ne_a1_b137r : a1 ≠ b137r := Nat.ne_of_lt (Nat.lt_of_lt_of_le F121.lt szq_b137r)
  have ne_a2_b137r : a2 ≠ b137r := Nat.ne_of_lt (Nat.lt_of_lt_of_le F122.lt szq_b137r)
  have ne_b2_b137r : b2 ≠ b137r := Nat.ne_of_lt (Nat.lt_of_lt_of_le F125.lt szq_b137r)
  have sz_b137r : h0.size ≤ b137r := Nat.le_trans K136.1 szq_b137r
  have F138 : Exa Z T137.heap a1 "com/example/ottawa/ottawa/KeptName" := (F121.keep Kq137)
  have F139 : Exa Z T137.heap a2 "java/lang/String" := (F122.keep Kq137)
  have F140 : Fld Z T137.heap a2 "java/lang/String" "coder" "B" (.int (0 : Int32)) := (F123.keep Kq137 (by simp))
  have F141 : Fld Z T137.heap a2 "java/lang/String" "value" "[B" (.ref b2) := (F124.keep Kq137 (by simp))
  have F142 : Arv Z T137.heap b2 k2 .byte (1 : Int32) [(.int ch)] (.int (0 : Int32)) := (F125.keep Kq137 (by simp))
  have F143 : Sta Z T137.heap "java/lang/String" "COMPACT_STRINGS" "Z" (.int cs) := (own_sta_keep0 F126 Kq137)
  have F144 : Fld Z T137.heap a1 "com/example/ottawa/ottawa/Name" "text" "Ljava/lang/String;" (.ref a2) := (F127.keep Kq137 (by simp))
  have F145 : Fld Z T137.heap a1 "com/example/ottawa/ottawa/Name" "colon" "I" (.int (-1 : Int32)) := (F128.keep Kq137 (by simp))
  have F146 : Fld Z T137.heap a1 "com/example/ottawa/ottawa/KeptName" "chars" "[C" u7 := (F129.keep Kq137 (by simp))
  have F147 : Fld Z T137.heap a1 "com/example/ottawa/ottawa/KeptName" "prefix" "Ljava/lang/String;" u8 := (F130.keep Kq137 (by simp))
  have F148 : Fld Z T137.heap a1 "com/example/ottawa/ottawa/KeptName" "localPart" "Ljava/lang/String;" u9 := (F131.keep Kq137 (by simp))
  have F149 : Fld Z T137.heap a1 "com/example/ottawa/ottawa/KeptName" "place" "I" u10 := (F132.keep Kq137 (by simp))
  have Z150 : n0 ≤ T137.heap.size := (Nat.le_trans Z133 Kq137.1)
  have hk151 : _ ≤ T137.heap.size := (Nat.le_trans hk134 Kq137.1)
  have C152 := (C135.trans (CHr.keep Kq137 (by intro x hx; cases hx) C135.1))
  have K153 : Keep h0 T137.heap [a1] := (K136.trans Kq137 (by intro x hx; cases hx))
  have N137 := Fr.app N120 N137q
  refine Go.step (fun _ kt => st137.trans kt) ?_
  show Go p.tables e below _ (T137.setTop (mkF m 18 #[.val (.ref a1), .val (.ref a2), .val (.int p1), .val (.int p2)] [(.ref b137r), (.ref a1)]))
  obtain ⟨T154, h154, X154, e154, W154, st154⟩ := putF X137 hx hZ hown (host := "") (Or.inl (hw _ (List.mem_of_getElem? (i := 124) rfl))) Via.refl rfl F146 F138 (Or.inr ⟨(hw _ (List.mem_of_getElem? (i := 125) rfl)), rfl, hnm⟩) (hw _ (List.mem_of_getElem? (i := 21) rfl)) (ty := (.array .char)) (by decide) rfl rfl (g := (mkF m 18 #[.val (.ref a1), .val (.ref a2), .val (.int p1), .val (.int p2)] [(.ref b137r), (.ref a1)])) rfl rfl (hb hby d3_18)
  refine Go.step st154 ?_
  have N154 := Fr.snoc X154 N137 g_a1
  have F155 : Exa Z h154 a1 "com/example/ottawa/ottawa/KeptName" := (F138.wr W154)
  have F156 : Exa Z h154 a2 "java/lang/String" := (F139.wr W154)
  have F157 : Fld Z h154 a2 "java/lang/String" "coder" "B" (.int (0 : Int32)) := (F140.other W154 (Or.inl ne_1))
  have F158 : Fld Z h154 a2 "java/lang/String" "value" "[B" (.ref b2) := (F141.other W154 (Or.inl ne_1))
  have F159 : Arv Z h154 b2 k2 .byte (1 : Int32) [(.int ch)] (.int (0 : Int32)) := (F142.other W154 ne_2)
  have F160 : Sta Z h154 "java/lang/String" "COMPACT_STRINGS" "Z" (.int cs) := (F143.wr W154)
  have F161 : Fld Z h154 a1 "com/example/ottawa/ottawa/Name" "text" "Ljava/lang/String;" (.ref a2) := (F144.other W154 (Or.inr (slot_ne (Or.inr (hw _ (List.mem_of_getElem? (i := 41) rfl))) (Or.inr (hw _ (List.mem_of_getElem? (i := 125) rfl))) (by decide) (t := (.object "java/lang/String")) (t' := (.array .char)) (by decide) (by decide))))
  have F162 : Fld Z h154 a1 "com/example/ottawa/ottawa/Name" "colon" "I" (.int (-1 : Int32)) := (F145.other W154 (Or.inr (slot_ne (Or.inr (hw _ (List.mem_of_getElem? (i := 93) rfl))) (Or.inr (hw _ (List.mem_of_getElem? (i := 125) rfl))) (by decide) (t := .int) (t' := (.array .char)) (by decide) (by decide))))
  have F163 : Fld Z h154 a1 "com/example/ottawa/ottawa/KeptName" "prefix" "Ljava/lang/String;" u8 := (F147.other W154 (Or.inr (slot_ne (Or.inr (hw _ (List.mem_of_getElem? (i := 133) rfl))) (Or.inr (hw _ (List.mem_of_getElem? (i := 125) rfl))) (by decide) (t := (.object "java/lang/String")) (t' := (.array .char)) (by decide) (by decide))))
  have F164 : Fld Z h154 a1 "com/example/ottawa/ottawa/KeptName" "localPart" "Ljava/lang/String;" u9 := (F148.other W154 (Or.inr (slot_ne (Or.inr (hw _ (List.mem_of_getElem? (i := 139) rfl))) (Or.inr (hw _ (List.mem_of_getElem? (i := 125) rfl))) (by decide) (t := (.object "java/lang/String")) (t' := (.array .char)) (by decide) (by decide))))
  have F165 : Fld Z h154 a1 "com/example/ottawa/ottawa/KeptName" "place" "I" u10 := (F149.other W154 (Or.inr (slot_ne (Or.inr (hw _ (List.mem_of_getElem? (i := 141) rfl))) (Or.inr (hw _ (List.mem_of_getElem? (i := 125) rfl))) (by decide) (t := .int) (t' := (.array .char)) (by decide) (by decide))))
  have Z166 : n0 ≤ h154.size := (Nat.le_trans Z150 (Nat.le_of_eq W154.size.symm))
  have hk167 : _ ≤ h154.size := (Nat.le_trans hk151 (Nat.le_of_eq W154.size.symm))
  have C168 := (C152.trans (CHr.wr W154 (Safe.exa hZ.alike F138 (by decide) (by decide)) C152.1))
  have K169 : Keep h0 h154 [a1] := (K153.wr W154 (Or.inl (List.mem_of_getElem? (i := 0) rfl)))
  show Go p.tables e below _ (T154.setTop (mkF m 21 #[.val (.ref a1), .val (.ref a2), .val (.int p1), .val (.int p2)] []))
  refine Go.step (fun _ kt => XS.aloadN X154.here hx rfl (hb hby d3_21) rfl rfl (XS.aloadN X154.here hx rfl (hb hby d3_22) rfl rfl kt)) ?_
  show Go p.tables e below _ (T154.setTop (mkF m 23 #[.val (.ref a1), .val (.ref a2), .val (.int p1), .val (.int p2)] [(.ref a1), (.ref a1)]))
  obtain ⟨_, _, ⟨T170, L170, k170, n170⟩, -, X170, hSq170, hgq170, ⟨Lc170, hQ170, l170, y170, z170, Cq170⟩, st170⟩ := superBackS X154 hx hZ (y := (⟨"com/example/ottawa/ottawa/Name", "prefix", "()Ljava/lang/String;"⟩ : MethodName)) hown (hw _ (List.mem_of_getElem? (i := 126) rfl)) (own_same (y := (⟨"com/example/ottawa/ottawa/Name", "prefix", "()Ljava/lang/String;"⟩ : MethodName)) (hw _ (List.mem_of_getElem? (i := 127) rfl)) (hw _ (List.mem_of_getElem? (i := 168) rfl)) (by decide)) (hw _ (List.mem_of_getElem? (i := 127) rfl)) (hw _ (List.mem_of_getElem? (i := 128) rfl)) (by decide) (backOfSH (s := s) (EL := own_EL) (W := 1) (rm20 l Z a0 hw [] a1  h154 n0 Z166 F162 ) hZ (hw _ (List.mem_of_getElem? (i := 130) rfl)) (hw _ (List.mem_of_getElem? (i := 37) rfl)) (by decide) (by decide) (own_EW hw) C168.1) e154 (Ins.self F155) (g := (mkF m 23 #[.val (.ref a1), .val (.ref a2), .val (.int p1), .val (.int p2)] [(.ref a1), (.ref a1)])) rfl (by rw [hml]; rfl) (hw _ (List.mem_of_getElem? (i := 130) rfl)) (argsL := []) (rest := [(.ref a1)]) (lenOf pd_14 rfl) rfl (by show 2 * 0 + _ ≤ _; exact Nat.le_of_eq rfl) (hb hby d3_23) (fun _ _ => ⟨rfl, e154, (by decide : 5 + 2 ≤ _), (by decide : 49 + 4 ≤ _)⟩)
  dsimp only [Pt.U, Pt.locs, Pt.cells, Pt.slots] at X170 l170 y170 z170 st170 hQ170 hSq170 hgq170
  subst l170 y170 z170
  obtain ⟨X170, hS170, hZ, hown⟩ := rebS hS102 (by rw [e154]; exact hk167) X170 hSq170 hgq170 hZ hown
  have hk170 : T170.heap.size ≤ T170.heap.size := Nat.le_refl _
  dsimp only [Pt.U] at Cq170
  obtain ⟨b170r, rfl, N170q, Kq170⟩ := hQ170
  have F171 : Exa Z T170.heap a1 "com/example/ottawa/ottawa/KeptName" := (F155.keep Kq170)
  have F172 : Exa Z T170.heap a2 "java/lang/String" := (F156.keep Kq170)
  have F173 : Fld Z T170.heap a2 "java/lang/String" "coder" "B" (.int (0 : Int32)) := (F157.keep Kq170 (by simp))
  have F174 : Fld Z T170.heap a2 "java/lang/String" "value" "[B" (.ref b2) := (F158.keep Kq170 (by simp))
  have F175 : Arv Z T170.heap b2 k2 .byte (1 : Int32) [(.int ch)] (.int (0 : Int32)) := (F159.keep Kq170 (by simp))
  have F176 : Sta Z T170.heap "java/lang/String" "COMPACT_STRINGS" "Z" (.int cs) := (own_sta_keep0 F160 Kq170)
  have F177 : Fld Z T170.heap a1 "com/example/ottawa/ottawa/Name" "text" "Ljava/lang/String;" (.ref a2) := (F161.keep Kq170 (by simp))
  have F178 : Fld Z T170.heap a1 "com/example/ottawa/ottawa/Name" "colon" "I" (.int (-1 : Int32)) := (F162.keep Kq170 (by simp))
  have F179 : Fld Z T170.heap a1 "com/example/ottawa/ottawa/KeptName" "prefix" "Ljava/lang/String;" u8 := (F163.keep Kq170 (by simp))
  have F180 : Fld Z T170.heap a1 "com/example/ottawa/ottawa/KeptName" "localPart" "Ljava/lang/String;" u9 := (F164.keep Kq170 (by simp))
  have F181 : Fld Z T170.heap a1 "com/example/ottawa/ottawa/KeptName" "place" "I" u10 := (F165.keep Kq170 (by simp))
  have Z182 : n0 ≤ T170.heap.size := (Nat.le_trans Z166 Kq170.1)
  have C183 := (C168.trans Cq170)
  have K184 : Keep h0 T170.heap [a1] := (K169.trans Kq170 (by intro x hx; cases hx))
  have N170 := Fr.app N154 N170q
  refine Go.step (fun _ kt => st170.trans kt) ?_
  show Go p.tables e below _ (T170.setTop (mkF m 26 #[.val (.ref a1), .val (.ref a2), .val (.int p1), .val (.int p2)] [(.ref b170r), (.ref a1)]))
  obtain ⟨T185, h185, X185, e185, W185, st185⟩ := putF X170 hx hZ hown (host := "") (Or.inl (hw _ (List.mem_of_getElem? (i := 132) rfl))) Via.refl rfl F179 F171 (Or.inr ⟨(hw _ (List.mem_of_getElem? (i := 133) rfl)), rfl, hnm⟩) (hw _ (List.mem_of_getElem? (i := 21) rfl)) (ty := (.object "java/lang/String")) (by decide) rfl rfl (g := (mkF m 26 #[.val (.ref a1), .val (.ref a2), .val (.int p1), .val (.int p2)] [(.ref b170r), (.ref a1)])) rfl rfl (hb hby d3_26)
  refine Go.step st185 ?_
  have N185 := Fr.snoc X185 N170 g_a1
  have F186 : Exa Z h185 a1 "com/example/ottawa/ottawa/KeptName" := (F171.wr W185)
  have F187 : Exa Z h185 a2 "java/lang/String" := (F172.wr W185)
  have F188 : Fld Z h185 a2 "java/lang/String" "coder" "B" (.int (0 : Int32)) := (F173.other W185 (Or.inl ne_1))
  have F189 : Fld Z h185 a2 "java/lang/String" "value" "[B" (.ref b2) := (F174.other W185 (Or.inl ne_1))
  have F190 : Arv Z h185 b2 k2 .byte (1 : Int32) [(.int ch)] (.int (0 : Int32)) := (F175.other W185 ne_2)
  have F191 : Sta Z h185 "java/lang/String" "COMPACT_STRINGS" "Z" (.int cs) := (F176.wr W185)
  have F192 : Fld Z h185 a1 "com/example/ottawa/ottawa/Name" "text" "Ljava/lang/String;" (.ref a2) := (F177.other W185 (Or.inr (slot_ne (Or.inr (hw _ (List.mem_of_getElem? (i := 41) rfl))) (Or.inr (hw _ (List.mem_of_getElem? (i := 133) rfl))) (by decide) (t := (.object "java/lang/String")) (t' := (.object "java/lang/String")) (by decide) (by decide))))
  have F193 : Fld Z h185 a1 "com/example/ottawa/ottawa/Name" "colon" "I" (.int (-1 : Int32)) := (F178.other W185 (Or.inr (slot_ne (Or.inr (hw _ (List.mem_of_getElem? (i := 93) rfl))) (Or.inr (hw _ (List.mem_of_getElem? (i := 133) rfl))) (by decide) (t := .int) (t' := (.object "java/lang/String")) (by decide) (by decide))))
  have F194 : Fld Z h185 a1 "com/example/ottawa/ottawa/KeptName" "localPart" "Ljava/lang/String;" u9 := (F180.other W185 (Or.inr (slot_ne (Or.inr (hw _ (List.mem_of_getElem? (i := 139) rfl))) (Or.inr (hw _ (List.mem_of_getElem? (i := 133) rfl))) (by decide) (t := (.object "java/lang/String")) (t' := (.object "java/lang/String")) (by decide) (by decide))))
  have F195 : Fld Z h185 a1 "com/example/ottawa/ottawa/KeptName" "place" "I" u10 := (F181.other W185 (Or.inr (slot_ne (Or.inr (hw _ (List.mem_of_getElem? (i := 141) rfl))) (Or.inr (hw _ (List.mem_of_getElem? (i := 133) rfl))) (by decide) (t := .int) (t' := (.object "java/lang/String")) (by decide) (by decide))))
  have Z196 : n0 ≤ h185.size := (Nat.le_trans Z182 (Nat.le_of_eq W185.size.symm))
  have hk197 : _ ≤ h185.size := (Nat.le_trans hk170 (Nat.le_of_eq W185.size.symm))
  have C198 := (C183.trans (CHr.wr W185 (Safe.exa hZ.alike F171 (by decide) (by decide)) C183.1))
  have K199 : Keep h0 h185 [a1] := (K184.wr W185 (Or.inl (List.mem_of_getElem? (i := 0) rfl)))
  show Go p.tables e below _ (T185.setTop (mkF m 29 #[.val (.ref a1), .val (.ref a2), .val (.int p1), .val (.int p2)] []))
  refine Go.step (fun _ kt => XS.aloadN X185.here hx rfl (hb hby d3_29) rfl rfl (XS.aloadN X185.here hx rfl (hb hby d3_30) rfl rfl kt)) ?_
  show Go p.tables e below _ (T185.setTop (mkF m 31 #[.val (.ref a1), .val (.ref a2), .val (.int p1), .val (.int p2)] [(.ref a1), (.ref a1)]))
  obtain ⟨_, _, ⟨T200, L200, k200, n200⟩, -, X200, ⟨Lc200, hQ200, l200, y200, z200⟩, st200⟩ := superBack X185 hx hZ (y := (⟨"com/example/ottawa/ottawa/Name", "localPart", "()Ljava/lang/String;"⟩ : MethodName)) hown (hw _ (List.mem_of_getElem? (i := 134) rfl)) (own_same (y := (⟨"com/example/ottawa/ottawa/Name", "localPart", "()Ljava/lang/String;"⟩ : MethodName)) (hw _ (List.mem_of_getElem? (i := 135) rfl)) (hw _ (List.mem_of_getElem? (i := 168) rfl)) (by decide)) (hw _ (List.mem_of_getElem? (i := 135) rfl)) (hw _ (List.mem_of_getElem? (i := 128) rfl)) (by decide) (backOf (W := 1) (rm21 l Z a0 hw [] a1 a2 h185 n0 Z196 F193 F192 ) hZ (hw _ (List.mem_of_getElem? (i := 137) rfl)) (hw _ (List.mem_of_getElem? (i := 37) rfl)) (by decide) (by decide)) e185 (Ins.self F186) (g := (mkF m 31 #[.val (.ref a1), .val (.ref a2), .val (.int p1), .val (.int p2)] [(.ref a1), (.ref a1)])) rfl (by rw [hml]; rfl) (hw _ (List.mem_of_getElem? (i := 137) rfl)) (argsL := []) (rest := [(.ref a1)]) (lenOf pd_14 rfl) rfl (by show 2 * 0 + _ ≤ _; exact Nat.le_of_eq rfl) (hb hby d3_31) (fun _ _ => ⟨rfl, e185, (by decide : 7 + 0 ≤ _), (by decide : 53 + 0 ≤ _)⟩)
  dsimp only [Pt.U, Pt.locs, Pt.cells, Pt.slots] at X200 l200 y200 z200 st200 hQ200
  subst l200 y200 z200
  obtain ⟨rfl, N200q, eh200⟩ := hQ200
  have N200 := Fr.app N185 N200q
  refine Go.step (fun _ kt => st200.trans kt) ?_
  show Go p.tables e below _ (T200.setTop (mkF m 34 #[.val (.ref a1), .val (.ref a2), .val (.int p1), .val (.int p2)] [(.ref a2), (.ref a1)]))
  obtain ⟨T201, h201, X201, e201, W201, st201⟩ := putF X200 hx hZ hown (host := "") (Or.inl (hw _ (List.mem_of_getElem? (i := 138) rfl))) Via.refl eh200 F194 F186 (Or.inr ⟨(hw _ (List.mem_of_getElem? (i := 139) rfl)), rfl, hnm⟩) (hw _ (List.mem_of_getElem? (i := 21) rfl)) (ty := (.object "java/lang/String")) (by decide) rfl rfl (g := (mkF m 34 #[.val (.ref a1), .val (.ref a2), .val (.int p1), .val (.int p2)] [(.ref a2), (.ref a1)])) rfl rfl (hb hby d3_34)
  refine Go.step st201 ?_
  have N201 := Fr.snoc X201 N200 g_a1
  have F202 : Exa Z h201 a1 "com/example/ottawa/ottawa/KeptName" := (F186.wr W201)
  have F203 : Exa Z h201 a2 "java/lang/String" := (F187.wr W201)
  have F204 : Fld Z h201 a2 "java/lang/String" "coder" "B" (.int (0 : Int32)) := (F188.other W201 (Or.inl ne_1))
  have F205 : Fld Z h201 a2 "java/lang/String" "value" "[B" (.ref b2) := (F189.other W201 (Or.inl ne_1))
  have F206 : Arv Z h201 b2 k2 .byte (1 : Int32) [(.int ch)] (.int (0 : Int32)) := (F190.other W201 ne_2)
  have F207 : Sta Z h201 "java/lang/String" "COMPACT_STRINGS" "Z" (.int cs) := (F191.wr W201)
  have F208 : Fld Z h201 a1 "com/example/ottawa/ottawa/Name" "text" "Ljava/lang/String;" (.ref a2) := (F192.other W201 (Or.inr (slot_ne (Or.inr (hw _ (List.mem_of_getElem? (i := 41) rfl))) (Or.inr (hw _ (List.mem_of_getElem? (i := 139) rfl))) (by decide) (t := (.object "java/lang/String")) (t' := (.object "java/lang/String")) (by decide) (by decide))))
  have F209 : Fld Z h201 a1 "com/example/ottawa/ottawa/Name" "colon" "I" (.int (-1 : Int32)) := (F193.other W201 (Or.inr (slot_ne (Or.inr (hw _ (List.mem_of_getElem? (i := 93) rfl))) (Or.inr (hw _ (List.mem_of_getElem? (i := 139) rfl))) (by decide) (t := .int) (t' := (.object "java/lang/String")) (by decide) (by decide))))
  have F210 : Fld Z h201 a1 "com/example/ottawa/ottawa/KeptName" "place" "I" u10 := (F195.other W201 (Or.inr (slot_ne (Or.inr (hw _ (List.mem_of_getElem? (i := 141) rfl))) (Or.inr (hw _ (List.mem_of_getElem? (i := 139) rfl))) (by decide) (t := .int) (t' := (.object "java/lang/String")) (by decide) (by decide))))
  have Z211 : n0 ≤ h201.size := (Nat.le_trans Z196 (Nat.le_of_eq W201.size.symm))
  have hk212 : _ ≤ h201.size := (Nat.le_trans hk197 (Nat.le_of_eq W201.size.symm))
  have C213 := (C198.trans (CHr.wr W201 (Safe.exa hZ.alike F186 (by decide) (by decide)) C198.1))
  have K214 : Keep h0 h201 [a1] := (K199.wr W201 (Or.inl (List.mem_of_getElem? (i := 0) rfl)))
  show Go p.tables e below _ (T201.setTop (mkF m 37 #[.val (.ref a1), .val (.ref a2), .val (.int p1), .val (.int p2)] []))
  refine Go.step (fun _ kt => XS.aloadN X201.here hx rfl (hb hby d3_37) rfl rfl (XS.iloadN X201.here hx rfl (hb hby d3_38) rfl kt)) ?_
  show Go p.tables e below _ (T201.setTop (mkF m 39 #[.val (.ref a1), .val (.ref a2), .val (.int p1), .val (.int p2)] [(.int p2), (.ref a1)]))
  obtain ⟨T215, h215, X215, e215, W215, st215⟩ := putF X201 hx hZ hown (host := "") (Or.inl (hw _ (List.mem_of_getElem? (i := 140) rfl))) Via.refl e201 F210 F202 (Or.inr ⟨(hw _ (List.mem_of_getElem? (i := 141) rfl)), rfl, hnm⟩) (hw _ (List.mem_of_getElem? (i := 21) rfl)) (ty := .int) (by decide) rfl rfl (g := (mkF m 39 #[.val (.ref a1), .val (.ref a2), .val (.int p1), .val (.int p2)] [(.int p2), (.ref a1)])) rfl rfl (hb hby d3_39)
  refine Go.step st215 ?_
  have N215 := Fr.snoc X215 N201 g_a1
  have F216 : Exa Z h215 a1 "com/example/ottawa/ottawa/KeptName" := (F202.wr W215)
  have F217 : Exa Z h215 a2 "java/lang/String" := (F203.wr W215)
  have F218 : Fld Z h215 a2 "java/lang/String" "coder" "B" (.int (0 : Int32)) := (F204.other W215 (Or.inl ne_1))
  have F219 : Fld Z h215 a2 "java/lang/String" "value" "[B" (.ref b2) := (F205.other W215 (Or.inl ne_1))
  have F220 : Arv Z h215 b2 k2 .byte (1 : Int32) [(.int ch)] (.int (0 : Int32)) := (F206.other W215 ne_2)
  have F221 : Sta Z h215 "java/lang/String" "COMPACT_STRINGS" "Z" (.int cs) := (F207.wr W215)
  have F222 : Fld Z h215 a1 "com/example/ottawa/ottawa/Name" "text" "Ljava/lang/String;" (.ref a2) := (F208.other W215 (Or.inr (slot_ne (Or.inr (hw _ (List.mem_of_getElem? (i := 41) rfl))) (Or.inr (hw _ (List.mem_of_getElem? (i := 141) rfl))) (by decide) (t := (.object "java/lang/String")) (t' := .int) (by decide) (by decide))))
  have F223 : Fld Z h215 a1 "com/example/ottawa/ottawa/Name" "colon" "I" (.int (-1 : Int32)) := (F209.other W215 (Or.inr (slot_ne (Or.inr (hw _ (List.mem_of_getElem? (i := 93) rfl))) (Or.inr (hw _ (List.mem_of_getElem? (i := 141) rfl))) (by decide) (t := .int) (t' := .int) (by decide) (by decide))))
  have Z224 : n0 ≤ h215.size := (Nat.le_trans Z211 (Nat.le_of_eq W215.size.symm))
  have hk225 : _ ≤ h215.size := (Nat.le_trans hk212 (Nat.le_of_eq W215.size.symm))
  have C226 := (C213.trans (CHr.wr W215 (Safe.exa hZ.alike F202 (by decide) (by decide)) C213.1))
  have K227 : Keep h0 h215 [a1] := (K214.wr W215 (Or.inl (List.mem_of_getElem? (i := 0) rfl)))
  show Go p.tables e below _ (T215.setTop (mkF m 42 #[.val (.ref a1), .val (.ref a2), .val (.int p1), .val (.int p2)] []))
  obtain ⟨fs, hr, hrun, hended, hRW⟩ := X215.leaveW hS170 (by rw [e215]; exact hk225) (v := none) (fun _ => rfl)
  refine ⟨_, _, X215.returnOut hx Bd.returns (hb hby d3_42) hr, hrun, hended, _, _, rfl, ?_, (by have q := C226.trans (CHv.at X215 hZ (own_EW hw) C226.1); rw [hh]; rw [← e215] at q; exact q), hRW.1, hRW.2.1, hRW.2.2.1, hRW.2.2.2.mono (by decide) (by decide)⟩
  show Qrmk1 Z a1 a2 p1 p2 u0 u1 u2 u3 u4 u5 u6 u7 u8 u9 u10 b2 k2 cs ch h0 n0 _ T215.heap _
  rw [e215]
  refine ⟨?_, N215, K227, F216⟩
  rfl
theorem pd_15 : parseMethodDescriptor "(Ljava/lang/String;II)V" = some ⟨[(.object "java/lang/String"), .int, .int], none⟩ := by decide +kernel
theorem ef_rmn2 (m : MethodId) (a1 : Addr) (a2 : Addr) (p1 : Int32) (u0 : Value) (u1 : Value) (u2 : Value) (u3 : Value) (u4 : Value) (u5 : Value) (b2 : Addr) (k2 : ClassId) (cs : Int32) (ch : Int32) : entryFrame m #[(.ref a1), (.ref a2), (.int p1)] 3 = mkF m 0 #[.val (.ref a1), .val (.ref a2), .val (.int p1)] [] := by first | (simp [entryFrame, mkF, argsToLocals, Value.category]; done) | rfl
def Qrmn2 (Z : State) (a1 : Addr) (a2 : Addr) (p1 : Int32) (u0 : Value) (u1 : Value) (u2 : Value) (u3 : Value) (u4 : Value) (u5 : Value) (b2 : Addr) (k2 : ClassId) (cs : Int32) (ch : Int32) (h0 : Heap) (n0 : Nat) (v : Option Value) (h : Heap) (L : List Loc) : Prop := v = none ∧ Fr n0 L ∧ Keep h0 h [a1] ∧ Exa Z h a1 "com/example/ottawa/ottawa/Name" ∧ Fld Z h a1 "com/example/ottawa/ottawa/Name" "text" "Ljava/lang/String;" (.ref a2) ∧ Fld Z h a1 "com/example/ottawa/ottawa/Name" "colon" "I" (.int (-1 : Int32))
set_option maxRecDepth 65536 in
set_option maxHeartbeats 40000000 in
theorem rmn2 (l : Launch) (Z : State) (a0 : Array Value) (hw : ∀ d ∈ tables_1, d.before a0 Z = true) (ws : List Jvm.Cond) (a1 : Addr) (a2 : Addr) (p1 : Int32) (u0 : Value) (u1 : Value) (u2 : Value) (u3 : Value) (u4 : Value) (u5 : Value) (b2 : Addr) (k2 : ClassId) (cs : Int32) (ch : Int32) (h0 : Heap) (n0 : Nat) (Z0 : n0 ≤ h0.size) (E1 : Exa Z h0 a1 "com/example/ottawa/ottawa/Name") (F0 : Fld Z h0 a1 "com/example/ottawa/ottawa/Name" "text" "Ljava/lang/String;" u0) (F1 : Fld Z h0 a1 "com/example/ottawa/ottawa/Name" "hash" "I" u1) (F2 : Fld Z h0 a1 "com/example/ottawa/ottawa/Name" "length" "I" u2) (F3 : Fld Z h0 a1 "com/example/ottawa/ottawa/Name" "colon" "I" u3) (F4 : Fld Z h0 a1 "com/example/ottawa/ottawa/Name" "qName" "Z" u4) (F5 : Fld Z h0 a1 "com/example/ottawa/ottawa/Name" "namespaceDeclaration" "Z" u5) (E2 : Exa Z h0 a2 "java/lang/String") (Fc2 : Fld Z h0 a2 "java/lang/String" "coder" "B" (.int (0 : Int32))) (Fv2 : Fld Z h0 a2 "java/lang/String" "value" "[B" (.ref b2)) (V2 : Arv Z h0 b2 k2 .byte (1 : Int32) [(.int ch)] (.int (0 : Int32))) (S_cs : Sta Z h0 "java/lang/String" "COMPACT_STRINGS" "Z" (.int cs)) (g_a1 : n0 ≤ a1) (hcs : ¬ cs = 0) (ne_1 : a2 ≠ a1) (ne_2 : b2 ≠ a1) (h58 : ¬ ch = 58) :
    MetFree l (⟨"com/example/ottawa/ottawa/Name", "<init>", "(Ljava/lang/String;I)V"⟩ : MethodName) (head1 (Jvm.Cond.code (⟨"com/example/ottawa/ottawa/Name", "<init>", "(Ljava/lang/String;I)V"⟩ : MethodName) prog_26_method_1_code 3 none :: ws) ({ frames := 4, cells := 4, slots := 48, locals := 60 } : Room)) (fun a U => a = #[(.ref a1), (.ref a2), (.int p1)] ∧ Z.Warmed39 U.vm ∧ U.heap = h0 ∧ CHv Z own_EL U.vm h0) (fun _ _ _ _ _ => True) (fun _ U o U' => ∃ v L, o = .returned v ∧ Qrmn2 Z a1 a2 p1 u0 u1 u2 u3 u4 u5 b2 k2 cs ch h0 n0 v U'.heap L ∧ CHr Z own_EL U.vm U.heap U'.vm U'.heap ∧ ReturnedEndW U o U' L ({ frames := 4, cells := 4, slots := 48, locals := 60 } : Room).cells ({ frames := 4, cells := 4, slots := 48, locals := 60 } : Room).slots) := by
  refine MetFree.of_bodySF (plainFor_of_name pn_1) hisR ?_
  intro p e s m args below meth c s₁ Bd hml0 hP hK
  obtain ⟨rfl, hZ, hh, hCH⟩ := hP
  have hx := Bd.exec
  have hby := Bd.bytes
  have hml : c.maxLocals = 3 := hml0
  have hown : s.vm.findClass "com/example/ottawa/ottawa/Name" = some m.cls := findClass_of_methodNamed Bd.named
  have hnm := (name_of_methodNamed Bd.named Bd.method).1
  have X0 : Stand p l e ({ frames := 4, cells := 4, slots := 48, locals := 60 } : Room) (s.setVm s.vm) m #[(.ref a1), (.ref a2), (.int p1)] below meth c s₁ [] 0 0 := Stand.of_body Bd
  have e0 : s₁.heap = h0 := by rw [← hh, Bd.state]; rfl
  have N0 := Fr.nil n0
  have hS0 : s.Since s.vm s.heap.size := (State.WarmedH.refl s).since _
  have hk0 : s.heap.size ≤ h0.size := Nat.le_of_eq (congrArg Array.size hh)
  have C0 := CHr.refl hCH
  show Go p.tables e below (fun o U' => ∃ v L, o = .returned v ∧ Qrmn2 Z a1 a2 p1 u0 u1 u2 u3 u4 u5 b2 k2 cs ch h0 n0 v U'.heap L ∧ CHr Z own_EL s.vm s.heap U'.vm U'.heap ∧ ReturnedEndW s o U' L ({ frames := 4, cells := 4, slots := 48, locals := 60 } : Room).cells ({ frames := 4, cells := 4, slots := 48, locals := 60 } : Room).slots) _
  refine Go.step (fun t kt => castTop (ef_rmn2 m a1 a2 p1 u0 u1 u2 u3 u4 u5 b2 k2 cs ch) kt) ?_
  show Go p.tables e below _ (s₁.setTop (mkF m 0 #[.val (.ref a1), .val (.ref a2), .val (.int p1)] []))
  have K101 : Keep h0 h0 [a1] := (Keep.refl h0 [a1])
  refine Go.step (fun _ kt => XS.aloadN X0.here hx rfl (hb hby d4_0) rfl rfl kt) ?_
  show Go p.tables e below _ (s₁.setTop (mkF m 1 #[.val (.ref a1), .val (.ref a2), .val (.int p1)] [(.ref a1)]))
  obtain ⟨T102, X102, e102, st102⟩ := initO X0 hx hZ hown (hw _ (List.mem_of_getElem? (i := 39) rfl)) (hw _ (List.mem_of_getElem? (i := 8) rfl)) (hw _ (List.mem_of_getElem? (i := 9) rfl)) e0 (g := (mkF m 1 #[.val (.ref a1), .val (.ref a2), .val (.int p1)] [(.ref a1)])) rfl (by rw [hml]; rfl) rfl (hb hby d4_1) (by decide) (W := 0) (by show 2 * 0 + _ ≤ _; exact Nat.le_of_eq rfl) (by decide)
  refine Go.step st102 ?_
  show Go p.tables e below _ (T102.setTop (mkF m 4 #[.val (.ref a1), .val (.ref a2), .val (.int p1)] []))
  refine Go.step (fun _ kt => XS.aloadN X102.here hx rfl (hb hby d4_4) rfl rfl (XS.aloadN X102.here hx rfl (hb hby d4_5) rfl rfl kt)) ?_
  show Go p.tables e below _ (T102.setTop (mkF m 6 #[.val (.ref a1), .val (.ref a2), .val (.int p1)] [(.ref a2), (.ref a1)]))
  obtain ⟨T103, h103, X103, e103, W103, st103⟩ := putF X102 hx hZ hown (host := "") (Or.inl (hw _ (List.mem_of_getElem? (i := 40) rfl))) Via.refl e102 F0 E1 (Or.inr ⟨(hw _ (List.mem_of_getElem? (i := 147) rfl)), rfl, hnm⟩) (hw _ (List.mem_of_getElem? (i := 144) rfl)) (ty := (.object "java/lang/String")) (by decide) rfl rfl (g := (mkF m 6 #[.val (.ref a1), .val (.ref a2), .val (.int p1)] [(.ref a2), (.ref a1)])) rfl rfl (hb hby d4_6)
  refine Go.step st103 ?_
  have N103 := Fr.snoc X103 N0 g_a1
  have F104 : Exa Z h103 a1 "com/example/ottawa/ottawa/Name" := (E1.wr W103)
  have F105 : Fld Z h103 a1 "com/example/ottawa/ottawa/Name" "text" "Ljava/lang/String;" (.ref a2) := (F0.same W103)
  have F106 : Fld Z h103 a1 "com/example/ottawa/ottawa/Name" "hash" "I" u1 := (F1.other W103 (Or.inr (slot_ne (Or.inr (hw _ (List.mem_of_getElem? (i := 148) rfl))) (Or.inr (hw _ (List.mem_of_getElem? (i := 147) rfl))) (by decide) (t := .int) (t' := (.object "java/lang/String")) (by decide) (by decide))))
  have F107 : Fld Z h103 a1 "com/example/ottawa/ottawa/Name" "length" "I" u2 := (F2.other W103 (Or.inr (slot_ne (Or.inr (hw _ (List.mem_of_getElem? (i := 149) rfl))) (Or.inr (hw _ (List.mem_of_getElem? (i := 147) rfl))) (by decide) (t := .int) (t' := (.object "java/lang/String")) (by decide) (by decide))))
  have F108 : Fld Z h103 a1 "com/example/ottawa/ottawa/Name" "colon" "I" u3 := (F3.other W103 (Or.inr (slot_ne (Or.inr (hw _ (List.mem_of_getElem? (i := 150) rfl))) (Or.inr (hw _ (List.mem_of_getElem? (i := 147) rfl))) (by decide) (t := .int) (t' := (.object "java/lang/String")) (by decide) (by decide))))
  have F109 : Fld Z h103 a1 "com/example/ottawa/ottawa/Name" "qName" "Z" u4 := (F4.other W103 (Or.inr (slot_ne (Or.inr (hw _ (List.mem_of_getElem? (i := 151) rfl))) (Or.inr (hw _ (List.mem_of_getElem? (i := 147) rfl))) (by decide) (t := .boolean) (t' := (.object "java/lang/String")) (by decide) (by decide))))
  have F110 : Fld Z h103 a1 "com/example/ottawa/ottawa/Name" "namespaceDeclaration" "Z" u5 := (F5.other W103 (Or.inr (slot_ne (Or.inr (hw _ (List.mem_of_getElem? (i := 152) rfl))) (Or.inr (hw _ (List.mem_of_getElem? (i := 147) rfl))) (by decide) (t := .boolean) (t' := (.object "java/lang/String")) (by decide) (by decide))))
  have F111 : Exa Z h103 a2 "java/lang/String" := (E2.wr W103)
  have F112 : Fld Z h103 a2 "java/lang/String" "coder" "B" (.int (0 : Int32)) := (Fc2.other W103 (Or.inl ne_1))
  have F113 : Fld Z h103 a2 "java/lang/String" "value" "[B" (.ref b2) := (Fv2.other W103 (Or.inl ne_1))
  have F114 : Arv Z h103 b2 k2 .byte (1 : Int32) [(.int ch)] (.int (0 : Int32)) := (V2.other W103 ne_2)
  have F115 : Sta Z h103 "java/lang/String" "COMPACT_STRINGS" "Z" (.int cs) := (S_cs.wr W103)
  have Z116 : n0 ≤ h103.size := (Nat.le_trans Z0 (Nat.le_of_eq W103.size.symm))
  have hk117 : _ ≤ h103.size := (Nat.le_trans hk0 (Nat.le_of_eq W103.size.symm))
  have C118 := (C0.trans (CHr.wr W103 (Safe.exa hZ.alike E1 (by decide) (by decide)) C0.1))
  have K119 : Keep h0 h103 [a1] := (K101.wr W103 (Or.inl (List.mem_of_getElem? (i := 0) rfl)))
  show Go p.tables e below _ (T103.setTop (mkF m 9 #[.val (.ref a1), .val (.ref a2), .val (.int p1)] []))
  refine Go.step (fun _ kt => XS.aloadN X103.here hx rfl (hb hby d4_9) rfl rfl (XS.iloadN X103.here hx rfl (hb hby d4_10) rfl kt)) ?_
  show Go p.tables e below _ (T103.setTop (mkF m 11 #[.val (.ref a1), .val (.ref a2), .val (.int p1)] [(.int p1), (.ref a1)]))
  obtain ⟨T120, h120, X120, e120, W120, st120⟩ := putF X103 hx hZ hown (host := "") (Or.inl (hw _ (List.mem_of_getElem? (i := 42) rfl))) Via.refl e103 F106 F104 (Or.inr ⟨(hw _ (List.mem_of_getElem? (i := 148) rfl)), rfl, hnm⟩) (hw _ (List.mem_of_getElem? (i := 144) rfl)) (ty := .int) (by decide) rfl rfl (g := (mkF m 11 #[.val (.ref a1), .val (.ref a2), .val (.int p1)] [(.int p1), (.ref a1)])) rfl rfl (hb hby d4_11)
  refine Go.step st120 ?_
  have N120 := Fr.snoc X120 N103 g_a1
  have F121 : Exa Z h120 a1 "com/example/ottawa/ottawa/Name" := (F104.wr W120)
  have F122 : Fld Z h120 a1 "com/example/ottawa/ottawa/Name" "text" "Ljava/lang/String;" (.ref a2) := (F105.other W120 (Or.inr (slot_ne (Or.inr (hw _ (List.mem_of_getElem? (i := 147) rfl))) (Or.inr (hw _ (List.mem_of_getElem? (i := 148) rfl))) (by decide) (t := (.object "java/lang/String")) (t' := .int) (by decide) (by decide))))
  have F123 : Fld Z h120 a1 "com/example/ottawa/ottawa/Name" "length" "I" u2 := (F107.other W120 (Or.inr (slot_ne (Or.inr (hw _ (List.mem_of_getElem? (i := 149) rfl))) (Or.inr (hw _ (List.mem_of_getElem? (i := 148) rfl))) (by decide) (t := .int) (t' := .int) (by decide) (by decide))))
  have F124 : Fld Z h120 a1 "com/example/ottawa/ottawa/Name" "colon" "I" u3 := (F108.other W120 (Or.inr (slot_ne (Or.inr (hw _ (List.mem_of_getElem? (i := 150) rfl))) (Or.inr (hw _ (List.mem_of_getElem? (i := 148) rfl))) (by decide) (t := .int) (t' := .int) (by decide) (by decide))))
  have F125 : Fld Z h120 a1 "com/example/ottawa/ottawa/Name" "qName" "Z" u4 := (F109.other W120 (Or.inr (slot_ne (Or.inr (hw _ (List.mem_of_getElem? (i := 151) rfl))) (Or.inr (hw _ (List.mem_of_getElem? (i := 148) rfl))) (by decide) (t := .boolean) (t' := .int) (by decide) (by decide))))
  have F126 : Fld Z h120 a1 "com/example/ottawa/ottawa/Name" "namespaceDeclaration" "Z" u5 := (F110.other W120 (Or.inr (slot_ne (Or.inr (hw _ (List.mem_of_getElem? (i := 152) rfl))) (Or.inr (hw _ (List.mem_of_getElem? (i := 148) rfl))) (by decide) (t := .boolean) (t' := .int) (by decide) (by decide))))
  have F127 : Exa Z h120 a2 "java/lang/String" := (F111.wr W120)
  have F128 : Fld Z h120 a2 "java/lang/String" "coder" "B" (.int (0 : Int32)) := (F112.other W120 (Or.inl ne_1))
  have F129 : Fld Z h120 a2 "java/lang/String" "value" "[B" (.ref b2) := (F113.other W120 (Or.inl ne_1))
  have F130 : Arv Z h120 b2 k2 .byte (1 : Int32) [(.int ch)] (.int (0 : Int32)) := (F114.other W120 ne_2)
  have F131 : Sta Z h120 "java/lang/String" "COMPACT_STRINGS" "Z" (.int cs) := (F115.wr W120)
  have Z132 : n0 ≤ h120.size := (Nat.le_trans Z116 (Nat.le_of_eq W120.size.symm))
  have hk133 : _ ≤ h120.size := (Nat.le_trans hk117 (Nat.le_of_eq W120.size.symm))
  have C134 := (C118.trans (CHr.wr W120 (Safe.exa hZ.alike F104 (by decide) (by decide)) C118.1))
  have K135 : Keep h0 h120 [a1] := (K119.wr W120 (Or.inl (List.mem_of_getElem? (i := 0) rfl)))
  show Go p.tables e below _ (T120.setTop (mkF m 14 #[.val (.ref a1), .val (.ref a2), .val (.int p1)] []))
  refine Go.step (fun _ kt => XS.aloadN X120.here hx rfl (hb hby d4_14) rfl rfl (XS.aloadN X120.here hx rfl (hb hby d4_15) rfl rfl kt)) ?_
  show Go p.tables e below _ (T120.setTop (mkF m 16 #[.val (.ref a1), .val (.ref a2), .val (.int p1)] [(.ref a2), (.ref a1)]))
  obtain ⟨cq136, kq136, q136a, q136b, q136c⟩ := isOf hZ e120 F127
  obtain ⟨_, _, ⟨T136, L136, k136, n136⟩, -, X136, ⟨Lc136, hQ136, l136, y136, z136⟩, st136⟩ := X120.virtualBack hx (y := (⟨"java/lang/String", "length", "()I"⟩ : MethodName)) (z := (⟨"java/lang/String", "length", "()I"⟩ : MethodName)) hown (mvT hZ (hw _ (List.mem_of_getElem? (i := 44) rfl))) (mvT hZ (hw _ (List.mem_of_getElem? (i := 45) rfl))) (notFace_of_selects (args := #[]) (mvT hZ (hw _ (List.mem_of_getElem? (i := 47) rfl)))) (mvT hZ (hw _ (List.mem_of_getElem? (i := 47) rfl))) (mvT hZ (hw _ (List.mem_of_getElem? (i := 46) rfl))) (by decide) (backOf (W := 1) (rmlength1 l Z a0 hw [] a2 b2 k2 cs ch h120 n0 Z132 F127 F128 F129 F130 F131 hcs h58) hZ (hw _ (List.mem_of_getElem? (i := 48) rfl)) (hw _ (List.mem_of_getElem? (i := 24) rfl)) (by decide) (by decide)) q136a q136c (g := (mkF m 16 #[.val (.ref a1), .val (.ref a2), .val (.int p1)] [(.ref a2), (.ref a1)])) rfl (by rw [hml]; rfl) (Steps.refl _) (argsL := []) (rest := [(.ref a1)]) (lenOf pd_2 rfl) rfl (by show 2 * 0 + _ ≤ _; exact Nat.le_of_eq rfl) (hb hby d4_16) (fun _ _ => ⟨rfl, e120, (by decide : 0 + 0 ≤ _), (by decide : 0 + 0 ≤ _)⟩)
  dsimp only [Pt.U, Pt.locs, Pt.cells, Pt.slots] at X136 l136 y136 z136 st136 hQ136
  subst l136 y136 z136
  obtain ⟨rfl, N136q, eh136⟩ := hQ136
  have N136 := Fr.app N120 N136q
  refine Go.step (fun _ kt => st136.trans kt) ?_
  show Go p.tables e below _ (T136.setTop (mkF m 19 #[.val (.ref a1), .val (.ref a2), .val (.int p1)] [(.int (1 : Int32)), (.ref a1)]))
  obtain ⟨T137, h137, X137, e137, W137, st137⟩ := putF X136 hx hZ hown (host := "") (Or.inl (hw _ (List.mem_of_getElem? (i := 57) rfl))) Via.refl eh136 F123 F121 (Or.inr ⟨(hw _ (List.mem_of_getElem? (i := 149) rfl)), rfl, hnm⟩) (hw _ (List.mem_of_getElem? (i := 144) rfl)) (ty := .int) (by decide) rfl rfl (g := (mkF m 19 #[.val (.ref a1), .val (.ref a2), .val (.int p1)] [(.int (1 : Int32)), (.ref a1)])) rfl rfl (hb hby d4_19)
  refine Go.step st137 ?_
  have N137 := Fr.snoc X137 N136 g_a1
  have F138 : Exa Z h137 a1 "com/example/ottawa/ottawa/Name" := (F121.wr W137)
  have F139 : Fld Z h137 a1 "com/example/ottawa/ottawa/Name" "text" "Ljava/lang/String;" (.ref a2) := (F122.other W137 (Or.inr (slot_ne (Or.inr (hw _ (List.mem_of_getElem? (i := 147) rfl))) (Or.inr (hw _ (List.mem_of_getElem? (i := 149) rfl))) (by decide) (t := (.object "java/lang/String")) (t' := .int) (by decide) (by decide))))
  have F140 : Fld Z h137 a1 "com/example/ottawa/ottawa/Name" "colon" "I" u3 := (F124.other W137 (Or.inr (slot_ne (Or.inr (hw _ (List.mem_of_getElem? (i := 150) rfl))) (Or.inr (hw _ (List.mem_of_getElem? (i := 149) rfl))) (by decide) (t := .int) (t' := .int) (by decide) (by decide))))
  have F141 : Fld Z h137 a1 "com/example/ottawa/ottawa/Name" "qName" "Z" u4 := (F125.other W137 (Or.inr (slot_ne (Or.inr (hw _ (List.mem_of_getElem? (i := 151) rfl))) (Or.inr (hw _ (List.mem_of_getElem? (i := 149) rfl))) (by decide) (t := .boolean) (t' := .int) (by decide) (by decide))))
  have F142 : Fld Z h137 a1 "com/example/ottawa/ottawa/Name" "namespaceDeclaration" "Z" u5 := (F126.other W137 (Or.inr (slot_ne (Or.inr (hw _ (List.mem_of_getElem? (i := 152) rfl))) (Or.inr (hw _ (List.mem_of_getElem? (i := 149) rfl))) (by decide) (t := .boolean) (t' := .int) (by decide) (by decide))))
  have F143 : Exa Z h137 a2 "java/lang/String" := (F127.wr W137)
  have F144 : Fld Z h137 a2 "java/lang/String" "coder" "B" (.int (0 : Int32)) := (F128.other W137 (Or.inl ne_1))
  have F145 : Fld Z h137 a2 "java/lang/String" "value" "[B" (.ref b2) := (F129.other W137 (Or.inl ne_1))
  have F146 : Arv Z h137 b2 k2 .byte (1 : Int32) [(.int ch)] (.int (0 : Int32)) := (F130.other W137 ne_2)
  have F147 : Sta Z h137 "java/lang/String" "COMPACT_STRINGS" "Z" (.int cs) := (F131.wr W137)
  have Z148 : n0 ≤ h137.size := (Nat.le_trans Z132 (Nat.le_of_eq W137.size.symm))
  have hk149 : _ ≤ h137.size := (Nat.le_trans hk133 (Nat.le_of_eq W137.size.symm))
  have C150 := (C134.trans (CHr.wr W137 (Safe.exa hZ.alike F121 (by decide) (by decide)) C134.1))
  have K151 : Keep h0 h137 [a1] := (K135.wr W137 (Or.inl (List.mem_of_getElem? (i := 0) rfl)))
  show Go p.tables e below _ (T137.setTop (mkF m 22 #[.val (.ref a1), .val (.ref a2), .val (.int p1)] []))
  refine Go.step (fun _ kt => XS.aloadN X137.here hx rfl (hb hby d4_22) rfl rfl (XS.aloadN X137.here hx rfl (hb hby d4_23) rfl rfl (XS.bipush X137.here hx rfl (hb hby d4_24) kt))) ?_
  show Go p.tables e below _ (T137.setTop (mkF m 26 #[.val (.ref a1), .val (.ref a2), .val (.int p1)] [(.int (58 : Int32)), (.ref a2), (.ref a1)]))
  obtain ⟨cq152, kq152, q152a, q152b, q152c⟩ := isOf hZ e137 F143
  obtain ⟨_, _, ⟨T152, L152, k152, n152⟩, -, X152, ⟨Lc152, hQ152, l152, y152, z152⟩, st152⟩ := X137.virtualBack hx (y := (⟨"java/lang/String", "indexOf", "(I)I"⟩ : MethodName)) (z := (⟨"java/lang/String", "indexOf", "(I)I"⟩ : MethodName)) hown (mvT hZ (hw _ (List.mem_of_getElem? (i := 59) rfl))) (mvT hZ (hw _ (List.mem_of_getElem? (i := 60) rfl))) (notFace_of_selects (args := #[]) (mvT hZ (hw _ (List.mem_of_getElem? (i := 62) rfl)))) (mvT hZ (hw _ (List.mem_of_getElem? (i := 62) rfl))) (mvT hZ (hw _ (List.mem_of_getElem? (i := 61) rfl))) (by decide) (backOf (W := 1) (rmindexOf13 l Z a0 hw [] a2 b2 k2 cs ch h137 n0 Z148 F143 F144 F145 F146 F147 hcs h58) hZ (hw _ (List.mem_of_getElem? (i := 63) rfl)) (hw _ (List.mem_of_getElem? (i := 24) rfl)) (by decide) (by decide)) q152a q152c (g := (mkF m 26 #[.val (.ref a1), .val (.ref a2), .val (.int p1)] [(.int (58 : Int32)), (.ref a2), (.ref a1)])) rfl (by rw [hml]; rfl) (Steps.refl _) (argsL := [(.int (58 : Int32))]) (rest := [(.ref a1)]) (lenOf pd_7 rfl) rfl (by show 2 * 0 + _ ≤ _; exact Nat.le_of_eq rfl) (hb hby d4_26) (fun _ _ => ⟨rfl, e137, (by decide : 0 + 0 ≤ _), (by decide : 0 + 0 ≤ _)⟩)
  dsimp only [Pt.U, Pt.locs, Pt.cells, Pt.slots] at X152 l152 y152 z152 st152 hQ152
  subst l152 y152 z152
  obtain ⟨rfl, N152q, eh152⟩ := hQ152
  have N152 := Fr.app N137 N152q
  refine Go.step (fun _ kt => st152.trans kt) ?_
  show Go p.tables e below _ (T152.setTop (mkF m 29 #[.val (.ref a1), .val (.ref a2), .val (.int p1)] [(.int (-1 : Int32)), (.ref a1)]))
  obtain ⟨T153, h153, X153, e153, W153, st153⟩ := putF X152 hx hZ hown (host := "") (Or.inl (hw _ (List.mem_of_getElem? (i := 92) rfl))) Via.refl eh152 F140 F138 (Or.inr ⟨(hw _ (List.mem_of_getElem? (i := 150) rfl)), rfl, hnm⟩) (hw _ (List.mem_of_getElem? (i := 144) rfl)) (ty := .int) (by decide) rfl rfl (g := (mkF m 29 #[.val (.ref a1), .val (.ref a2), .val (.int p1)] [(.int (-1 : Int32)), (.ref a1)])) rfl rfl (hb hby d4_29)
  refine Go.step st153 ?_
  have N153 := Fr.snoc X153 N152 g_a1
  have F154 : Exa Z h153 a1 "com/example/ottawa/ottawa/Name" := (F138.wr W153)
  have F155 : Fld Z h153 a1 "com/example/ottawa/ottawa/Name" "text" "Ljava/lang/String;" (.ref a2) := (F139.other W153 (Or.inr (slot_ne (Or.inr (hw _ (List.mem_of_getElem? (i := 147) rfl))) (Or.inr (hw _ (List.mem_of_getElem? (i := 150) rfl))) (by decide) (t := (.object "java/lang/String")) (t' := .int) (by decide) (by decide))))
  have F156 : Fld Z h153 a1 "com/example/ottawa/ottawa/Name" "colon" "I" (.int (-1 : Int32)) := (F140.same W153)
  have F157 : Fld Z h153 a1 "com/example/ottawa/ottawa/Name" "qName" "Z" u4 := (F141.other W153 (Or.inr (slot_ne (Or.inr (hw _ (List.mem_of_getElem? (i := 151) rfl))) (Or.inr (hw _ (List.mem_of_getElem? (i := 150) rfl))) (by decide) (t := .boolean) (t' := .int) (by decide) (by decide))))
  have F158 : Fld Z h153 a1 "com/example/ottawa/ottawa/Name" "namespaceDeclaration" "Z" u5 := (F142.other W153 (Or.inr (slot_ne (Or.inr (hw _ (List.mem_of_getElem? (i := 152) rfl))) (Or.inr (hw _ (List.mem_of_getElem? (i := 150) rfl))) (by decide) (t := .boolean) (t' := .int) (by decide) (by decide))))
  have F159 : Exa Z h153 a2 "java/lang/String" := (F143.wr W153)
  have F160 : Fld Z h153 a2 "java/lang/String" "coder" "B" (.int (0 : Int32)) := (F144.other W153 (Or.inl ne_1))
  have F161 : Fld Z h153 a2 "java/lang/String" "value" "[B" (.ref b2) := (F145.other W153 (Or.inl ne_1))
  have F162 : Arv Z h153 b2 k2 .byte (1 : Int32) [(.int ch)] (.int (0 : Int32)) := (F146.other W153 ne_2)
  have F163 : Sta Z h153 "java/lang/String" "COMPACT_STRINGS" "Z" (.int cs) := (F147.wr W153)
  have Z164 : n0 ≤ h153.size := (Nat.le_trans Z148 (Nat.le_of_eq W153.size.symm))
  have hk165 : _ ≤ h153.size := (Nat.le_trans hk149 (Nat.le_of_eq W153.size.symm))
  have C166 := (C150.trans (CHr.wr W153 (Safe.exa hZ.alike F138 (by decide) (by decide)) C150.1))
  have K167 : Keep h0 h153 [a1] := (K151.wr W153 (Or.inl (List.mem_of_getElem? (i := 0) rfl)))
  show Go p.tables e below _ (T153.setTop (mkF m 32 #[.val (.ref a1), .val (.ref a2), .val (.int p1)] []))
  refine Go.step (fun _ kt => XS.aloadN X153.here hx rfl (hb hby d4_32) rfl rfl (XS.aloadN X153.here hx rfl (hb hby d4_33) rfl rfl kt)) ?_
  show Go p.tables e below _ (T153.setTop (mkF m 34 #[.val (.ref a1), .val (.ref a2), .val (.int p1)] [(.ref a1), (.ref a1)]))
  obtain ⟨T168, X168, e168, st168⟩ := getF X153 hx hZ hown (host := "") (Or.inl (hw _ (List.mem_of_getElem? (i := 92) rfl))) Via.refl e153 F156 (g := (mkF m 34 #[.val (.ref a1), .val (.ref a2), .val (.int p1)] [(.ref a1), (.ref a1)])) rfl rfl (hb hby d4_34)
  refine Go.step st168 ?_
  show Go p.tables e below _ (T168.setTop (mkF m 37 #[.val (.ref a1), .val (.ref a2), .val (.int p1)] [(.int (-1 : Int32)), (.ref a1)]))
  refine Go.step (fun _ kt => XS.ifYes X168.here hx rfl (pc0 := 37) (pc' := 89) rfl (hb hby d4_37) rfl ((if0 _ _).trans (tlt (by decide : (-1 : Int32) < (0 : Int32))).1) (by decide) (by decide) (XS.iconst X168.here hx rfl (hb hby d4_89) (XS.goto X168.here hx rfl (pc0 := 90) (pc' := 94) rfl (hb hby d4_90) (by decide) (by decide) kt))) ?_
  show Go p.tables e below _ (T168.setTop (mkF m 94 #[.val (.ref a1), .val (.ref a2), .val (.int p1)] [(.int (1 : Int32)), (.ref a1)]))
  obtain ⟨T169, h169, X169, e169, W169, st169⟩ := putFN X168 hx hZ hown (hw _ (List.mem_of_getElem? (i := 94) rfl)) Via.refl e168 F157 F154 (Or.inr ⟨(hw _ (List.mem_of_getElem? (i := 151) rfl)), rfl, hnm⟩) (hw _ (List.mem_of_getElem? (i := 144) rfl)) (ty := .boolean) (v' := (.int (1 : Int32))) (by decide) rfl rfl (g := (mkF m 94 #[.val (.ref a1), .val (.ref a2), .val (.int p1)] [(.int (1 : Int32)), (.ref a1)])) rfl rfl (hb hby d4_94)
  refine Go.step st169 ?_
  have N169 := Fr.snoc X169 N153 g_a1
  have F170 : Exa Z h169 a1 "com/example/ottawa/ottawa/Name" := (F154.wr W169)
  have F171 : Fld Z h169 a1 "com/example/ottawa/ottawa/Name" "text" "Ljava/lang/String;" (.ref a2) := (F155.other W169 (Or.inr (slot_ne (Or.inr (hw _ (List.mem_of_getElem? (i := 147) rfl))) (Or.inr (hw _ (List.mem_of_getElem? (i := 151) rfl))) (by decide) (t := (.object "java/lang/String")) (t' := .boolean) (by decide) (by decide))))
  have F172 : Fld Z h169 a1 "com/example/ottawa/ottawa/Name" "colon" "I" (.int (-1 : Int32)) := (F156.other W169 (Or.inr (slot_ne (Or.inr (hw _ (List.mem_of_getElem? (i := 150) rfl))) (Or.inr (hw _ (List.mem_of_getElem? (i := 151) rfl))) (by decide) (t := .int) (t' := .boolean) (by decide) (by decide))))
  have F173 : Fld Z h169 a1 "com/example/ottawa/ottawa/Name" "namespaceDeclaration" "Z" u5 := (F158.other W169 (Or.inr (slot_ne (Or.inr (hw _ (List.mem_of_getElem? (i := 152) rfl))) (Or.inr (hw _ (List.mem_of_getElem? (i := 151) rfl))) (by decide) (t := .boolean) (t' := .boolean) (by decide) (by decide))))
  have F174 : Exa Z h169 a2 "java/lang/String" := (F159.wr W169)
  have F175 : Fld Z h169 a2 "java/lang/String" "coder" "B" (.int (0 : Int32)) := (F160.other W169 (Or.inl ne_1))
  have F176 : Fld Z h169 a2 "java/lang/String" "value" "[B" (.ref b2) := (F161.other W169 (Or.inl ne_1))
  have F177 : Arv Z h169 b2 k2 .byte (1 : Int32) [(.int ch)] (.int (0 : Int32)) := (F162.other W169 ne_2)
  have F178 : Sta Z h169 "java/lang/String" "COMPACT_STRINGS" "Z" (.int cs) := (F163.wr W169)
  have Z179 : n0 ≤ h169.size := (Nat.le_trans Z164 (Nat.le_of_eq W169.size.symm))
  have hk180 : _ ≤ h169.size := (Nat.le_trans hk165 (Nat.le_of_eq W169.size.symm))
  have C181 := (C166.trans (CHr.wr W169 (Safe.exa hZ.alike F154 (by decide) (by decide)) C166.1))
  have K182 : Keep h0 h169 [a1] := (K167.wr W169 (Or.inl (List.mem_of_getElem? (i := 0) rfl)))
  show Go p.tables e below _ (T169.setTop (mkF m 97 #[.val (.ref a1), .val (.ref a2), .val (.int p1)] []))
  refine Go.step (fun _ kt => XS.aloadN X169.here hx rfl (hb hby d4_97) rfl rfl (XS.aloadN X169.here hx rfl (hb hby d4_98) rfl rfl kt)) ?_
  show Go p.tables e below _ (T169.setTop (mkF m 99 #[.val (.ref a1), .val (.ref a2), .val (.int p1)] [(.ref a2), (.ref a1)]))
  obtain ⟨b183, T183, h183, k183, ba183, kc183, X183, e183, E183, hS183, hk183, hZ, hown, Ex183, Fc183, Fv183, Vb183, lt183, ltb183, Cq183, Li183, Ne183, st183⟩ := ldcCH (s := s) (EL := own_EL) X169 hx hZ hown (hw _ (List.mem_of_getElem? (i := 96) rfl)) (own_wS hw) e169 hS0 hk180 (own_EW hw) (by decide) C181.1 (vs := [(.int (120 : Int32)), (.int (109 : Int32)), (.int (108 : Int32)), (.int (110 : Int32)), (.int (115 : Int32))]) (z := (5 : Int32)) (by decide) (by decide) rfl (g := (mkF m 99 #[.val (.ref a1), .val (.ref a2), .val (.int p1)] [(.ref a2), (.ref a1)])) rfl (hb hby d4_99) (n := 20) (by decide) (by decide) (by decide) (by decide)
  refine Go.step st183 ?_
  have F184 : Exa Z h183 a1 "com/example/ottawa/ottawa/Name" := (F170.ext E183)
  have F185 : Fld Z h183 a1 "com/example/ottawa/ottawa/Name" "text" "Ljava/lang/String;" (.ref a2) := (F171.ext E183)
  have F186 : Fld Z h183 a1 "com/example/ottawa/ottawa/Name" "colon" "I" (.int (-1 : Int32)) := (F172.ext E183)
  have F187 : Fld Z h183 a1 "com/example/ottawa/ottawa/Name" "namespaceDeclaration" "Z" u5 := (F173.ext E183)
  have F188 : Exa Z h183 a2 "java/lang/String" := (F174.ext E183)
  have F189 : Fld Z h183 a2 "java/lang/String" "coder" "B" (.int (0 : Int32)) := (F175.ext E183)
  have F190 : Fld Z h183 a2 "java/lang/String" "value" "[B" (.ref b2) := (F176.ext E183)
  have F191 : Arv Z h183 b2 k2 .byte (1 : Int32) [(.int ch)] (.int (0 : Int32)) := (F177.ext E183)
  have F192 : Sta Z h183 "java/lang/String" "COMPACT_STRINGS" "Z" (.int cs) := (F178.ext E183)
  have Z193 : n0 ≤ h183.size := (Nat.le_trans Z179 E183.1)
  have C194 := (C181.trans Cq183)
  have K195 : Keep h0 h183 [a1] := (K182.ext E183)
  have nq196 := Ne183 _ (Safe.exa hZ.alike F184 (by decide) (by decide))
  show Go p.tables e below _ (T183.setTop (mkF m 101 #[.val (.ref a1), .val (.ref a2), .val (.int p1)] [(.ref b183), (.ref a2), (.ref a1)]))
  obtain ⟨cq197, kq197, q197a, q197b, q197c⟩ := isOf hZ e183 F188
  obtain ⟨_, _, ⟨T197, L197, k197, n197⟩, -, X197, ⟨Lc197, hQ197, l197, y197, z197⟩, st197⟩ := X183.virtualBack hx (y := (⟨"java/lang/String", "equals", "(Ljava/lang/Object;)Z"⟩ : MethodName)) (z := (⟨"java/lang/String", "equals", "(Ljava/lang/Object;)Z"⟩ : MethodName)) hown (mvT hZ (hw _ (List.mem_of_getElem? (i := 97) rfl))) (mvT hZ (hw _ (List.mem_of_getElem? (i := 98) rfl))) (notFace_of_selects (args := #[]) (mvT hZ (hw _ (List.mem_of_getElem? (i := 100) rfl)))) (mvT hZ (hw _ (List.mem_of_getElem? (i := 100) rfl))) (mvT hZ (hw _ (List.mem_of_getElem? (i := 99) rfl))) (by decide) (backOf (W := 1) (rmeq0 l Z a0 hw [] a2 b183 b2 k2 ba183 kc183 cs ch h183 n0 Z193 F188 F189 F190 F191 Ex183 Fc183 Fv183 Vb183 F192 hcs) hZ (hw _ (List.mem_of_getElem? (i := 101) rfl)) (hw _ (List.mem_of_getElem? (i := 24) rfl)) (by decide) (by decide)) q197a q197c (g := (mkF m 101 #[.val (.ref a1), .val (.ref a2), .val (.int p1)] [(.ref b183), (.ref a2), (.ref a1)])) rfl (by rw [hml]; rfl) (Steps.refl _) (argsL := [(.ref b183)]) (rest := [(.ref a1)]) (lenOf pd_9 rfl) rfl (by show 2 * 0 + _ ≤ _; exact Nat.le_of_eq rfl) (hb hby d4_101) (fun _ _ => ⟨rfl, e183, (by decide : 2 + 0 ≤ _), (by decide : 24 + 0 ≤ _)⟩)
  dsimp only [Pt.U, Pt.locs, Pt.cells, Pt.slots] at X197 l197 y197 z197 st197 hQ197
  subst l197 y197 z197
  obtain ⟨rfl, N197q, eh197⟩ := hQ197
  have N197 := Fr.app N169 N197q
  refine Go.step (fun _ kt => st197.trans kt) ?_
  show Go p.tables e below _ (T197.setTop (mkF m 104 #[.val (.ref a1), .val (.ref a2), .val (.int p1)] [(.int (0 : Int32)), (.ref a1)]))
  refine Go.step (fun _ kt => XS.ifNo X197.here hx rfl (hb hby d4_104) rfl ((if0 _ _).trans (teq (by decide : (0 : Int32) = (0 : Int32))).2) (XS.aloadN X197.here hx rfl (hb hby d4_107) rfl rfl kt)) ?_
  show Go p.tables e below _ (T197.setTop (mkF m 108 #[.val (.ref a1), .val (.ref a2), .val (.int p1)] [(.ref a1), (.ref a1)]))
  obtain ⟨T198, X198, e198, st198⟩ := getF X197 hx hZ hown (host := "") (Or.inl (hw _ (List.mem_of_getElem? (i := 92) rfl))) Via.refl eh197 F186 (g := (mkF m 108 #[.val (.ref a1), .val (.ref a2), .val (.int p1)] [(.ref a1), (.ref a1)])) rfl rfl (hb hby d4_108)
  refine Go.step st198 ?_
  show Go p.tables e below _ (T198.setTop (mkF m 111 #[.val (.ref a1), .val (.ref a2), .val (.int p1)] [(.int (-1 : Int32)), (.ref a1)]))
  obtain ⟨b199, T199, h199, k199, ba199, kc199, X199, e199, E199, hS199, hk199, hZ, hown, Ex199, Fc199, Fv199, Vb199, lt199, ltb199, Cq199, Li199, Ne199, st199⟩ := ldcCH (s := s) (EL := own_EL) X198 hx hZ hown (hw _ (List.mem_of_getElem? (i := 96) rfl)) (own_wS hw) e198 hS183 hk183 (own_EW hw) (by decide) C194.1 (vs := [(.int (120 : Int32)), (.int (109 : Int32)), (.int (108 : Int32)), (.int (110 : Int32)), (.int (115 : Int32))]) (z := (5 : Int32)) (by decide) (by decide) rfl (g := (mkF m 111 #[.val (.ref a1), .val (.ref a2), .val (.int p1)] [(.int (-1 : Int32)), (.ref a1)])) rfl (hb hby d4_111) (n := 20) (by decide) (by decide) (by decide) (by decide)
  refine Go.step st199 ?_
  have F200 : Exa Z h199 a1 "com/example/ottawa/ottawa/Name" := (F184.ext E199)
  have F201 : Fld Z h199 a1 "com/example/ottawa/ottawa/Name" "text" "Ljava/lang/String;" (.ref a2) := (F185.ext E199)
  have F202 : Fld Z h199 a1 "com/example/ottawa/ottawa/Name" "colon" "I" (.int (-1 : Int32)) := (F186.ext E199)
  have F203 : Fld Z h199 a1 "com/example/ottawa/ottawa/Name" "namespaceDeclaration" "Z" u5 := (F187.ext E199)
  have F204 : Exa Z h199 a2 "java/lang/String" := (F188.ext E199)
  have F205 : Fld Z h199 a2 "java/lang/String" "coder" "B" (.int (0 : Int32)) := (F189.ext E199)
  have F206 : Fld Z h199 a2 "java/lang/String" "value" "[B" (.ref b2) := (F190.ext E199)
  have F207 : Arv Z h199 b2 k2 .byte (1 : Int32) [(.int ch)] (.int (0 : Int32)) := (F191.ext E199)
  have F208 : Sta Z h199 "java/lang/String" "COMPACT_STRINGS" "Z" (.int cs) := (F192.ext E199)
  have F209 : Exa Z h199 b183 "java/lang/String" := (Ex183.ext E199)
  have F210 : Fld Z h199 b183 "java/lang/String" "coder" "B" (.int (0 : Int32)) := (Fc183.ext E199)
  have F211 : Fld Z h199 b183 "java/lang/String" "value" "[B" (.ref ba183) := (Fv183.ext E199)
  have F212 : Arv Z h199 ba183 kc183 .byte (5 : Int32) [(.int (120 : Int32)), (.int (109 : Int32)), (.int (108 : Int32)), (.int (110 : Int32)), (.int (115 : Int32))] (.int (0 : Int32)) := (Vb183.ext E199)
  have Z213 : n0 ≤ h199.size := (Nat.le_trans Z193 E199.1)
  have C214 := (C194.trans Cq199)
  have K215 : Keep h0 h199 [a1] := (K195.ext E199)
  have nq216 := Ne199 _ (Safe.exa hZ.alike F200 (by decide) (by decide))
  show Go p.tables e below _ (T199.setTop (mkF m 113 #[.val (.ref a1), .val (.ref a2), .val (.int p1)] [(.ref b199), (.int (-1 : Int32)), (.ref a1)]))
  obtain ⟨cq217, kq217, q217a, q217b, q217c⟩ := isOf hZ e199 Ex199
  obtain ⟨_, _, ⟨T217, L217, k217, n217⟩, -, X217, ⟨Lc217, hQ217, l217, y217, z217⟩, st217⟩ := X199.virtualBack hx (y := (⟨"java/lang/String", "length", "()I"⟩ : MethodName)) (z := (⟨"java/lang/String", "length", "()I"⟩ : MethodName)) hown (mvT hZ (hw _ (List.mem_of_getElem? (i := 44) rfl))) (mvT hZ (hw _ (List.mem_of_getElem? (i := 45) rfl))) (notFace_of_selects (args := #[]) (mvT hZ (hw _ (List.mem_of_getElem? (i := 47) rfl)))) (mvT hZ (hw _ (List.mem_of_getElem? (i := 47) rfl))) (mvT hZ (hw _ (List.mem_of_getElem? (i := 46) rfl))) (by decide) (backOf (W := 2) (rmlength11 l Z a0 hw [] b199 ba199 kc199 cs h199 n0 Z213 Ex199 Fc199 Fv199 Vb199 F208 hcs) hZ (hw _ (List.mem_of_getElem? (i := 48) rfl)) (hw _ (List.mem_of_getElem? (i := 24) rfl)) (by decide) (by decide)) q217a q217c (g := (mkF m 113 #[.val (.ref a1), .val (.ref a2), .val (.int p1)] [(.ref b199), (.int (-1 : Int32)), (.ref a1)])) rfl (by rw [hml]; rfl) (Steps.refl _) (argsL := []) (rest := [(.int (-1 : Int32)), (.ref a1)]) (lenOf pd_2 rfl) rfl (by show 2 * 0 + _ ≤ _; exact Nat.le_of_eq rfl) (hb hby d4_113) (fun _ _ => ⟨rfl, e199, (by decide : 4 + 0 ≤ _), (by decide : 48 + 0 ≤ _)⟩)
  dsimp only [Pt.U, Pt.locs, Pt.cells, Pt.slots] at X217 l217 y217 z217 st217 hQ217
  subst l217 y217 z217
  obtain ⟨rfl, N217q, eh217⟩ := hQ217
  have N217 := Fr.app N197 N217q
  refine Go.step (fun _ kt => st217.trans kt) ?_
  show Go p.tables e below _ (T217.setTop (mkF m 116 #[.val (.ref a1), .val (.ref a2), .val (.int p1)] [(.int (5 : Int32)), (.int (-1 : Int32)), (.ref a1)]))
  refine Go.step (fun _ kt => XS.icmpYes X217.here hx rfl (pc0 := 116) (pc' := 132) rfl (hb hby d4_116) rfl (feq (by decide : ¬ ((-1 : Int32) = (5 : Int32)))).2 (by decide) (by decide) (XS.iconst X217.here hx rfl (hb hby d4_132) kt)) ?_
  show Go p.tables e below _ (T217.setTop (mkF m 133 #[.val (.ref a1), .val (.ref a2), .val (.int p1)] [(.int (0 : Int32)), (.ref a1)]))
  obtain ⟨T218, h218, X218, e218, W218, st218⟩ := putFN X217 hx hZ hown (hw _ (List.mem_of_getElem? (i := 107) rfl)) Via.refl eh217 F203 F200 (Or.inr ⟨(hw _ (List.mem_of_getElem? (i := 152) rfl)), rfl, hnm⟩) (hw _ (List.mem_of_getElem? (i := 144) rfl)) (ty := .boolean) (v' := (.int (0 : Int32))) (by decide) rfl rfl (g := (mkF m 133 #[.val (.ref a1), .val (.ref a2), .val (.int p1)] [(.int (0 : Int32)), (.ref a1)])) rfl rfl (hb hby d4_133)
  refine Go.step st218 ?_
  have N218 := Fr.snoc X218 N217 g_a1
  have F219 : Exa Z h218 a1 "com/example/ottawa/ottawa/Name" := (F200.wr W218)
  have F220 : Fld Z h218 a1 "com/example/ottawa/ottawa/Name" "text" "Ljava/lang/String;" (.ref a2) := (F201.other W218 (Or.inr (slot_ne (Or.inr (hw _ (List.mem_of_getElem? (i := 147) rfl))) (Or.inr (hw _ (List.mem_of_getElem? (i := 152) rfl))) (by decide) (t := (.object "java/lang/String")) (t' := .boolean) (by decide) (by decide))))
  have F221 : Fld Z h218 a1 "com/example/ottawa/ottawa/Name" "colon" "I" (.int (-1 : Int32)) := (F202.other W218 (Or.inr (slot_ne (Or.inr (hw _ (List.mem_of_getElem? (i := 150) rfl))) (Or.inr (hw _ (List.mem_of_getElem? (i := 152) rfl))) (by decide) (t := .int) (t' := .boolean) (by decide) (by decide))))
  have F222 : Exa Z h218 a2 "java/lang/String" := (F204.wr W218)
  have F223 : Fld Z h218 a2 "java/lang/String" "coder" "B" (.int (0 : Int32)) := (F205.other W218 (Or.inl ne_1))
  have F224 : Fld Z h218 a2 "java/lang/String" "value" "[B" (.ref b2) := (F206.other W218 (Or.inl ne_1))
  have F225 : Arv Z h218 b2 k2 .byte (1 : Int32) [(.int ch)] (.int (0 : Int32)) := (F207.other W218 ne_2)
  have F226 : Sta Z h218 "java/lang/String" "COMPACT_STRINGS" "Z" (.int cs) := (F208.wr W218)
  have F227 : Exa Z h218 b183 "java/lang/String" := (F209.wr W218)
  have F228 : Fld Z h218 b183 "java/lang/String" "coder" "B" (.int (0 : Int32)) := (F210.other W218 (Or.inl (Ne.symm nq196.1)))
  have F229 : Fld Z h218 b183 "java/lang/String" "value" "[B" (.ref ba183) := (F211.other W218 (Or.inl (Ne.symm nq196.1)))
  have F230 : Arv Z h218 ba183 kc183 .byte (5 : Int32) [(.int (120 : Int32)), (.int (109 : Int32)), (.int (108 : Int32)), (.int (110 : Int32)), (.int (115 : Int32))] (.int (0 : Int32)) := (F212.other W218 (Ne.symm nq196.2))
  have F231 : Exa Z h218 b199 "java/lang/String" := (Ex199.wr W218)
  have F232 : Fld Z h218 b199 "java/lang/String" "coder" "B" (.int (0 : Int32)) := (Fc199.other W218 (Or.inl (Ne.symm nq216.1)))
  have F233 : Fld Z h218 b199 "java/lang/String" "value" "[B" (.ref ba199) := (Fv199.other W218 (Or.inl (Ne.symm nq216.1)))
  have F234 : Arv Z h218 ba199 kc199 .byte (5 : Int32) [(.int (120 : Int32)), (.int (109 : Int32)), (.int (108 : Int32)), (.int (110 : Int32)), (.int (115 : Int32))] (.int (0 : Int32)) := (Vb199.other W218 (Ne.symm nq216.2))
  have Z235 : n0 ≤ h218.size := (Nat.le_trans Z213 (Nat.le_of_eq W218.size.symm))
  have hk236 : _ ≤ h218.size := (Nat.le_trans hk199 (Nat.le_of_eq W218.size.symm))
  have C237 := (C214.trans (CHr.wr W218 (Safe.exa hZ.alike F200 (by decide) (by decide)) C214.1))
  have K238 : Keep h0 h218 [a1] := (K215.wr W218 (Or.inl (List.mem_of_getElem? (i := 0) rfl)))
  show Go p.tables e below _ (T218.setTop (mkF m 136 #[.val (.ref a1), .val (.ref a2), .val (.int p1)] []))
  obtain ⟨fs, hr, hrun, hended, hRW⟩ := X218.leaveW hS199 (by rw [e218]; exact hk236) (v := none) (fun _ => rfl)
  refine ⟨_, _, X218.returnOut hx Bd.returns (hb hby d4_136) hr, hrun, hended, _, _, rfl, ?_, (by have q := C237.trans (CHv.at X218 hZ (own_EW hw) C237.1); rw [hh]; rw [← e218] at q; exact q), hRW.1, hRW.2.1, hRW.2.2.1, hRW.2.2.2.mono (by decide) (by decide)⟩
  show Qrmn2 Z a1 a2 p1 u0 u1 u2 u3 u4 u5 b2 k2 cs ch h0 n0 _ T218.heap _
  rw [e218]
  refine ⟨?_, N218, K238, F219, F220, F221⟩
  rfl
theorem d22_0 : decode prog_51_method_6_code 0 = .ok (.aload_n 2, 1) := by decide +kernel
theorem d22_1 : decode prog_51_method_6_code 1 = .ok (.instanceof 7, 3) := by decide +kernel
theorem d22_4 : decode prog_51_method_6_code 4 = .ok (.ifCond .eq 14, 3) := by decide +kernel
theorem d22_7 : decode prog_51_method_6_code 7 = .ok (.aload_n 2, 1) := by decide +kernel
theorem d22_8 : decode prog_51_method_6_code 8 = .ok (.checkcast 7, 3) := by decide +kernel
theorem d22_11 : decode prog_51_method_6_code 11 = .ok (.astore 4, 2) := by decide +kernel
theorem d22_13 : decode prog_51_method_6_code 13 = .ok (.aload 4, 2) := by decide +kernel
theorem d22_15 : decode prog_51_method_6_code 15 = .ok (.goto 4, 3) := by decide +kernel
theorem d22_19 : decode prog_51_method_6_code 19 = .ok (.astore_n 3, 1) := by decide +kernel
theorem d22_20 : decode prog_51_method_6_code 20 = .ok (.iload_n 1, 1) := by decide +kernel
theorem d22_21 : decode prog_51_method_6_code 21 = .ok (.ifCond .eq 11, 3) := by decide +kernel
theorem d22_32 : decode prog_51_method_6_code 32 = .ok (.aload_n 0, 1) := by decide +kernel
theorem d22_33 : decode prog_51_method_6_code 33 = .ok (.aload_n 3, 1) := by decide +kernel
theorem d22_34 : decode prog_51_method_6_code 34 = .ok (.putfield 29, 3) := by decide +kernel
theorem d22_37 : decode prog_51_method_6_code 37 = .ok (.return_, 1) := by decide +kernel
theorem ef_rmf0 (m : MethodId) (a1 : Addr) (a2 : Addr) (u1 : Value) (u2 : Value) : entryFrame m #[(.ref a1), (.int (0 : Int32)), (.ref a2)] 5 = mkF m 0 #[.val (.ref a1), .val (.int (0 : Int32)), .val (.ref a2), .unset, .unset] [] := by first | (simp [entryFrame, mkF, argsToLocals, Value.category]; done) | rfl
def Qrmf0 (Z : State) (a1 : Addr) (a2 : Addr) (u1 : Value) (u2 : Value) (h0 : Heap) (n0 : Nat) (v : Option Value) (h : Heap) (L : List Loc) : Prop := v = none ∧ Fr n0 L ∧ Keep h0 h [a1] ∧ Exa Z h a1 "com/example/ottawa/ottawa/TagPattern" ∧ Fld Z h a1 "com/example/ottawa/ottawa/TagPattern" "firstInside" "Lcom/example/ottawa/ottawa/KeptName;" u1 ∧ Fld Z h a1 "com/example/ottawa/ottawa/TagPattern" "firstAfter" "Lcom/example/ottawa/ottawa/KeptName;" (.ref a2)
set_option maxRecDepth 65536 in
set_option maxHeartbeats 40000000 in
theorem rmf0 (l : Launch) (Z : State) (a0 : Array Value) (hw : ∀ d ∈ tables_1, d.before a0 Z = true) (ws : List Jvm.Cond) (a1 : Addr) (a2 : Addr) (u1 : Value) (u2 : Value) (h0 : Heap) (n0 : Nat) (Z0 : n0 ≤ h0.size) (E1 : Exa Z h0 a1 "com/example/ottawa/ottawa/TagPattern") (Fi : Fld Z h0 a1 "com/example/ottawa/ottawa/TagPattern" "firstInside" "Lcom/example/ottawa/ottawa/KeptName;" u1) (Fa : Fld Z h0 a1 "com/example/ottawa/ottawa/TagPattern" "firstAfter" "Lcom/example/ottawa/ottawa/KeptName;" u2) (E2 : Exa Z h0 a2 "com/example/ottawa/ottawa/KeptName") (g_a1 : n0 ≤ a1) (ne_1 : a2 ≠ a1) :
    MetFree l (⟨"com/example/ottawa/ottawa/TagPattern", "follow", "(ZLcom/example/ottawa/ottawa/Name;)V"⟩ : MethodName) (head1 (Jvm.Cond.code (⟨"com/example/ottawa/ottawa/TagPattern", "follow", "(ZLcom/example/ottawa/ottawa/Name;)V"⟩ : MethodName) prog_51_method_6_code 5 none :: ws) ({ frames := 0, cells := 0, slots := 0, locals := 0 } : Room)) (fun a U => a = #[(.ref a1), (.int (0 : Int32)), (.ref a2)] ∧ Z.Warmed39 U.vm ∧ U.heap = h0) (fun _ _ _ _ _ => True) (fun _ U o U' => ∃ v L, o = .returned v ∧ Qrmf0 Z a1 a2 u1 u2 h0 n0 v U'.heap L ∧ FrameEnd U o U' L ({ frames := 0, cells := 0, slots := 0, locals := 0 } : Room).cells ({ frames := 0, cells := 0, slots := 0, locals := 0 } : Room).slots) := by
  refine MetFree.of_bodySF (plainFor_of_name pn_0) hisR ?_
  intro p e s m args below meth c s₁ Bd hml0 hP hK
  obtain ⟨rfl, hZ, hh⟩ := hP
  have hx := Bd.exec
  have hby := Bd.bytes
  have hml : c.maxLocals = 5 := hml0
  have hown : s.vm.findClass "com/example/ottawa/ottawa/TagPattern" = some m.cls := findClass_of_methodNamed Bd.named
  have hnm := (name_of_methodNamed Bd.named Bd.method).1
  have X0 : Stand p l e ({ frames := 0, cells := 0, slots := 0, locals := 0 } : Room) s m #[(.ref a1), (.int (0 : Int32)), (.ref a2)] below meth c s₁ [] 0 0 := Stand.of_body Bd
  have e0 : s₁.heap = h0 := by rw [← hh, Bd.state]; rfl
  have N0 := Fr.nil n0
  show Go p.tables e below (fun o U' => ∃ v L, o = .returned v ∧ Qrmf0 Z a1 a2 u1 u2 h0 n0 v U'.heap L ∧ FrameEnd s o U' L ({ frames := 0, cells := 0, slots := 0, locals := 0 } : Room).cells ({ frames := 0, cells := 0, slots := 0, locals := 0 } : Room).slots) _
  refine Go.step (fun t kt => castTop (ef_rmf0 m a1 a2 u1 u2) kt) ?_
  show Go p.tables e below _ (s₁.setTop (mkF m 0 #[.val (.ref a1), .val (.int (0 : Int32)), .val (.ref a2), .unset, .unset] []))
  have K101 : Keep h0 h0 [a1] := (Keep.refl h0 [a1])
  refine Go.step (fun _ kt => XS.aloadN X0.here hx rfl (hb hby d22_0) rfl rfl kt) ?_
  show Go p.tables e below _ (s₁.setTop (mkF m 1 #[.val (.ref a1), .val (.int (0 : Int32)), .val (.ref a2), .unset, .unset] [(.ref a2)]))
  obtain ⟨T102, X102, e102, st102⟩ := instY X0 hx hZ hown (hw _ (List.mem_of_getElem? (i := 10) rfl)) e0 (Ins.self E2) (g := (mkF m 1 #[.val (.ref a1), .val (.int (0 : Int32)), .val (.ref a2), .unset, .unset] [(.ref a2)])) rfl rfl (hb hby d22_1)
  refine Go.step st102 ?_
  show Go p.tables e below _ (T102.setTop (mkF m 4 #[.val (.ref a1), .val (.int (0 : Int32)), .val (.ref a2), .unset, .unset] [(.int (1 : Int32))]))
  refine Go.step (fun _ kt => XS.ifNo X102.here hx rfl (hb hby d22_4) rfl ((if0 _ _).trans (feq (by decide : ¬ ((1 : Int32) = (0 : Int32)))).1) (XS.aloadN X102.here hx rfl (hb hby d22_7) rfl rfl kt)) ?_
  show Go p.tables e below _ (T102.setTop (mkF m 8 #[.val (.ref a1), .val (.int (0 : Int32)), .val (.ref a2), .unset, .unset] [(.ref a2)]))
  obtain ⟨T103, X103, e103, st103⟩ := castY X102 hx hZ hown (hw _ (List.mem_of_getElem? (i := 10) rfl)) e102 (Ins.self E2) (g := (mkF m 8 #[.val (.ref a1), .val (.int (0 : Int32)), .val (.ref a2), .unset, .unset] [(.ref a2)])) rfl rfl (hb hby d22_8)
  refine Go.step st103 ?_
  show Go p.tables e below _ (T103.setTop (mkF m 11 #[.val (.ref a1), .val (.int (0 : Int32)), .val (.ref a2), .unset, .unset] [(.ref a2)]))
  refine Go.step (fun _ kt => XS.astore X103.here hx rfl (hb hby d22_11) rfl rfl (l' := #[.val (.ref a1), .val (.int (0 : Int32)), .val (.ref a2), .unset, .val (.ref a2)]) rfl (XS.aload X103.here hx rfl (hb hby d22_13) rfl rfl (XS.goto X103.here hx rfl (pc0 := 15) (pc' := 19) rfl (hb hby d22_15) (by decide) (by decide) (XS.astoreN X103.here hx rfl (hb hby d22_19) rfl rfl (l' := #[.val (.ref a1), .val (.int (0 : Int32)), .val (.ref a2), .val (.ref a2), .val (.ref a2)]) rfl (XS.iloadN X103.here hx rfl (hb hby d22_20) rfl (XS.ifYes X103.here hx rfl (pc0 := 21) (pc' := 32) rfl (hb hby d22_21) rfl ((if0 _ _).trans (teq (by decide : (0 : Int32) = (0 : Int32))).1) (by decide) (by decide) (XS.aloadN X103.here hx rfl (hb hby d22_32) rfl rfl (XS.aloadN X103.here hx rfl (hb hby d22_33) rfl rfl kt)))))))) ?_
  show Go p.tables e below _ (T103.setTop (mkF m 34 #[.val (.ref a1), .val (.int (0 : Int32)), .val (.ref a2), .val (.ref a2), .val (.ref a2)] [(.ref a2), (.ref a1)]))
  obtain ⟨T104, h104, X104, e104, W104, st104⟩ := putF X103 hx hZ hown (host := "") (Or.inl (hw _ (List.mem_of_getElem? (i := 161) rfl))) Via.refl e103 Fa E1 (Or.inl (hw _ (List.mem_of_getElem? (i := 162) rfl))) (hw _ (List.mem_of_getElem? (i := 2) rfl)) (ty := (.object "com/example/ottawa/ottawa/KeptName")) (by decide) rfl rfl (g := (mkF m 34 #[.val (.ref a1), .val (.int (0 : Int32)), .val (.ref a2), .val (.ref a2), .val (.ref a2)] [(.ref a2), (.ref a1)])) rfl rfl (hb hby d22_34)
  refine Go.step st104 ?_
  have N104 := Fr.snoc X104 N0 g_a1
  have F105 : Exa Z h104 a1 "com/example/ottawa/ottawa/TagPattern" := (E1.wr W104)
  have F106 : Fld Z h104 a1 "com/example/ottawa/ottawa/TagPattern" "firstInside" "Lcom/example/ottawa/ottawa/KeptName;" u1 := (Fi.other W104 (Or.inr (slot_ne (Or.inl (hw _ (List.mem_of_getElem? (i := 160) rfl))) (Or.inl (hw _ (List.mem_of_getElem? (i := 162) rfl))) (by decide) (t := (.object "com/example/ottawa/ottawa/KeptName")) (t' := (.object "com/example/ottawa/ottawa/KeptName")) (by decide) (by decide))))
  have F107 : Fld Z h104 a1 "com/example/ottawa/ottawa/TagPattern" "firstAfter" "Lcom/example/ottawa/ottawa/KeptName;" (.ref a2) := (Fa.same W104)
  have F108 : Exa Z h104 a2 "com/example/ottawa/ottawa/KeptName" := (E2.wr W104)
  have Z109 : n0 ≤ h104.size := (Nat.le_trans Z0 (Nat.le_of_eq W104.size.symm))
  have K110 : Keep h0 h104 [a1] := (K101.wr W104 (Or.inl (List.mem_of_getElem? (i := 0) rfl)))
  show Go p.tables e below _ (T104.setTop (mkF m 37 #[.val (.ref a1), .val (.int (0 : Int32)), .val (.ref a2), .val (.ref a2), .val (.ref a2)] []))
  obtain ⟨fs, hr, hrun, hended, hW, hsame⟩ := X104.leave (v := none) (fun _ => rfl)
  refine ⟨_, _, X104.returnOut hx Bd.returns (hb hby d22_37) hr, hrun, hended, _, _, rfl, ?_, ⟨_, rfl⟩, hW, hsame.mono (by decide) (by decide)⟩
  show Qrmf0 Z a1 a2 u1 u2 h0 n0 _ T104.heap _
  rw [e104]
  refine ⟨?_, N104, K110, F105, F106, F107⟩
  rfl
theorem pd_16 : parseMethodDescriptor "(ZLcom/example/ottawa/ottawa/Name;)V" = some ⟨[.boolean, (.object "com/example/ottawa/ottawa/Name")], none⟩ := by decide +kernel
theorem d23_0 : decode prog_51_method_5_code 0 = .ok (.iload_n 1, 1) := by decide +kernel
theorem d23_1 : decode prog_51_method_5_code 1 = .ok (.ifCond .eq 10, 3) := by decide +kernel
theorem d23_11 : decode prog_51_method_5_code 11 = .ok (.aload_n 0, 1) := by decide +kernel
theorem d23_12 : decode prog_51_method_5_code 12 = .ok (.getfield 29, 3) := by decide +kernel
theorem d23_15 : decode prog_51_method_5_code 15 = .ok (.areturn, 1) := by decide +kernel
theorem ef_rmg0 (m : MethodId) (a1 : Addr) (r : Addr) : entryFrame m #[(.ref a1), (.int (0 : Int32))] 2 = mkF m 0 #[.val (.ref a1), .val (.int (0 : Int32))] [] := by first | (simp [entryFrame, mkF, argsToLocals, Value.category]; done) | rfl
def Qrmg0 (Z : State) (a1 : Addr) (r : Addr) (h0 : Heap) (n0 : Nat) (v : Option Value) (h : Heap) (L : List Loc) : Prop := v = some (.ref r) ∧ Fr n0 L ∧ h = h0
set_option maxRecDepth 65536 in
set_option maxHeartbeats 40000000 in
theorem rmg0 (l : Launch) (Z : State) (a0 : Array Value) (hw : ∀ d ∈ tables_1, d.before a0 Z = true) (ws : List Jvm.Cond) (a1 : Addr) (r : Addr) (h0 : Heap) (n0 : Nat) (Z0 : n0 ≤ h0.size) (F1 : Fld Z h0 a1 "com/example/ottawa/ottawa/TagPattern" "firstAfter" "Lcom/example/ottawa/ottawa/KeptName;" (.ref r)) :
    MetFree l (⟨"com/example/ottawa/ottawa/TagPattern", "following", "(Z)Lcom/example/ottawa/ottawa/KeptName;"⟩ : MethodName) (head1 (Jvm.Cond.code (⟨"com/example/ottawa/ottawa/TagPattern", "following", "(Z)Lcom/example/ottawa/ottawa/KeptName;"⟩ : MethodName) prog_51_method_5_code 2 (some (.object "com/example/ottawa/ottawa/KeptName")) :: ws) ({ frames := 0, cells := 0, slots := 0, locals := 0 } : Room)) (fun a U => a = #[(.ref a1), (.int (0 : Int32))] ∧ Z.Warmed39 U.vm ∧ U.heap = h0) (fun _ _ _ _ _ => True) (fun _ U o U' => ∃ v L, o = .returned v ∧ Qrmg0 Z a1 r h0 n0 v U'.heap L ∧ FrameEnd U o U' L ({ frames := 0, cells := 0, slots := 0, locals := 0 } : Room).cells ({ frames := 0, cells := 0, slots := 0, locals := 0 } : Room).slots) := by
  refine MetFree.of_bodySF (plainFor_of_name pn_0) hisR ?_
  intro p e s m args below meth c s₁ Bd hml0 hP hK
  obtain ⟨rfl, hZ, hh⟩ := hP
  have hx := Bd.exec
  have hby := Bd.bytes
  have hml : c.maxLocals = 2 := hml0
  have hown : s.vm.findClass "com/example/ottawa/ottawa/TagPattern" = some m.cls := findClass_of_methodNamed Bd.named
  have hnm := (name_of_methodNamed Bd.named Bd.method).1
  have X0 : Stand p l e ({ frames := 0, cells := 0, slots := 0, locals := 0 } : Room) s m #[(.ref a1), (.int (0 : Int32))] below meth c s₁ [] 0 0 := Stand.of_body Bd
  have e0 : s₁.heap = h0 := by rw [← hh, Bd.state]; rfl
  have N0 := Fr.nil n0
  show Go p.tables e below (fun o U' => ∃ v L, o = .returned v ∧ Qrmg0 Z a1 r h0 n0 v U'.heap L ∧ FrameEnd s o U' L ({ frames := 0, cells := 0, slots := 0, locals := 0 } : Room).cells ({ frames := 0, cells := 0, slots := 0, locals := 0 } : Room).slots) _
  refine Go.step (fun t kt => castTop (ef_rmg0 m a1 r) kt) ?_
  show Go p.tables e below _ (s₁.setTop (mkF m 0 #[.val (.ref a1), .val (.int (0 : Int32))] []))
  refine Go.step (fun _ kt => XS.iloadN X0.here hx rfl (hb hby d23_0) rfl (XS.ifYes X0.here hx rfl (pc0 := 1) (pc' := 11) rfl (hb hby d23_1) rfl ((if0 _ _).trans (teq (by decide : (0 : Int32) = (0 : Int32))).1) (by decide) (by decide) (XS.aloadN X0.here hx rfl (hb hby d23_11) rfl rfl kt))) ?_
  show Go p.tables e below _ (s₁.setTop (mkF m 12 #[.val (.ref a1), .val (.int (0 : Int32))] [(.ref a1)]))
  obtain ⟨T101, X101, e101, st101⟩ := getF X0 hx hZ hown (host := "") (Or.inl (hw _ (List.mem_of_getElem? (i := 161) rfl))) Via.refl e0 F1 (g := (mkF m 12 #[.val (.ref a1), .val (.int (0 : Int32))] [(.ref a1)])) rfl rfl (hb hby d23_12)
  refine Go.step st101 ?_
  show Go p.tables e below _ (T101.setTop (mkF m 15 #[.val (.ref a1), .val (.int (0 : Int32))] [(.ref r)]))
  obtain ⟨fs, hr, hrun, hended, hW, hsame⟩ := X101.leave (v := some (.ref r)) (fun h => by rw [Bd.returns] at h; cases h)
  refine ⟨_, _, retOut X101 hx Bd.returns rfl (Or.inr (Or.inr (Or.inr (Or.inr ⟨rfl, rfl, rfl⟩)))) (hb hby d23_15) hr, hrun, hended, _, _, rfl, ?_, ⟨_, rfl⟩, hW, hsame.mono (by decide) (by decide)⟩
  show Qrmg0 Z a1 r h0 n0 _ T101.heap _
  rw [e101]
  refine ⟨?_, N0, rfl⟩
  rfl
theorem pd_17 : parseMethodDescriptor "(Z)Lcom/example/ottawa/ottawa/KeptName;" = some ⟨[.boolean], some (.object "com/example/ottawa/ottawa/KeptName")⟩ := by decide +kernel
theorem d23_4 : decode prog_51_method_5_code 4 = .ok (.aload_n 0, 1) := by decide +kernel
theorem d23_5 : decode prog_51_method_5_code 5 = .ok (.getfield 25, 3) := by decide +kernel
theorem d23_8 : decode prog_51_method_5_code 8 = .ok (.goto 7, 3) := by decide +kernel
theorem ef_rmg1 (m : MethodId) (a1 : Addr) : entryFrame m #[(.ref a1), (.int (1 : Int32))] 2 = mkF m 0 #[.val (.ref a1), .val (.int (1 : Int32))] [] := by first | (simp [entryFrame, mkF, argsToLocals, Value.category]; done) | rfl
def Qrmg1 (Z : State) (a1 : Addr) (h0 : Heap) (n0 : Nat) (v : Option Value) (h : Heap) (L : List Loc) : Prop := v = some .null ∧ Fr n0 L ∧ h = h0
set_option maxRecDepth 65536 in
set_option maxHeartbeats 40000000 in
theorem rmg1 (l : Launch) (Z : State) (a0 : Array Value) (hw : ∀ d ∈ tables_1, d.before a0 Z = true) (ws : List Jvm.Cond) (a1 : Addr) (h0 : Heap) (n0 : Nat) (Z0 : n0 ≤ h0.size) (F1 : Fld Z h0 a1 "com/example/ottawa/ottawa/TagPattern" "firstInside" "Lcom/example/ottawa/ottawa/KeptName;" .null) :
    MetFree l (⟨"com/example/ottawa/ottawa/TagPattern", "following", "(Z)Lcom/example/ottawa/ottawa/KeptName;"⟩ : MethodName) (head1 (Jvm.Cond.code (⟨"com/example/ottawa/ottawa/TagPattern", "following", "(Z)Lcom/example/ottawa/ottawa/KeptName;"⟩ : MethodName) prog_51_method_5_code 2 (some (.object "com/example/ottawa/ottawa/KeptName")) :: ws) ({ frames := 0, cells := 0, slots := 0, locals := 0 } : Room)) (fun a U => a = #[(.ref a1), (.int (1 : Int32))] ∧ Z.Warmed39 U.vm ∧ U.heap = h0) (fun _ _ _ _ _ => True) (fun _ U o U' => ∃ v L, o = .returned v ∧ Qrmg1 Z a1 h0 n0 v U'.heap L ∧ FrameEnd U o U' L ({ frames := 0, cells := 0, slots := 0, locals := 0 } : Room).cells ({ frames := 0, cells := 0, slots := 0, locals := 0 } : Room).slots) := by
  refine MetFree.of_bodySF (plainFor_of_name pn_0) hisR ?_
  intro p e s m args below meth c s₁ Bd hml0 hP hK
  obtain ⟨rfl, hZ, hh⟩ := hP
  have hx := Bd.exec
  have hby := Bd.bytes
  have hml : c.maxLocals = 2 := hml0
  have hown : s.vm.findClass "com/example/ottawa/ottawa/TagPattern" = some m.cls := findClass_of_methodNamed Bd.named
  have hnm := (name_of_methodNamed Bd.named Bd.method).1
  have X0 : Stand p l e ({ frames := 0, cells := 0, slots := 0, locals := 0 } : Room) s m #[(.ref a1), (.int (1 : Int32))] below meth c s₁ [] 0 0 := Stand.of_body Bd
  have e0 : s₁.heap = h0 := by rw [← hh, Bd.state]; rfl
  have N0 := Fr.nil n0
  show Go p.tables e below (fun o U' => ∃ v L, o = .returned v ∧ Qrmg1 Z a1 h0 n0 v U'.heap L ∧ FrameEnd s o U' L ({ frames := 0, cells := 0, slots := 0, locals := 0 } : Room).cells ({ frames := 0, cells := 0, slots := 0, locals := 0 } : Room).slots) _
  refine Go.step (fun t kt => castTop (ef_rmg1 m a1) kt) ?_
  show Go p.tables e below _ (s₁.setTop (mkF m 0 #[.val (.ref a1), .val (.int (1 : Int32))] []))
  refine Go.step (fun _ kt => XS.iloadN X0.here hx rfl (hb hby d23_0) rfl (XS.ifNo X0.here hx rfl (hb hby d23_1) rfl ((if0 _ _).trans (feq (by decide : ¬ ((1 : Int32) = (0 : Int32)))).1) (XS.aloadN X0.here hx rfl (hb hby d23_4) rfl rfl kt))) ?_
  show Go p.tables e below _ (s₁.setTop (mkF m 5 #[.val (.ref a1), .val (.int (1 : Int32))] [(.ref a1)]))
  obtain ⟨T101, X101, e101, st101⟩ := getF X0 hx hZ hown (host := "") (Or.inl (hw _ (List.mem_of_getElem? (i := 159) rfl))) Via.refl e0 F1 (g := (mkF m 5 #[.val (.ref a1), .val (.int (1 : Int32))] [(.ref a1)])) rfl rfl (hb hby d23_5)
  refine Go.step st101 ?_
  show Go p.tables e below _ (T101.setTop (mkF m 8 #[.val (.ref a1), .val (.int (1 : Int32))] [.null]))
  refine Go.step (fun _ kt => XS.goto X101.here hx rfl (pc0 := 8) (pc' := 15) rfl (hb hby d23_8) (by decide) (by decide) kt) ?_
  show Go p.tables e below _ (T101.setTop (mkF m 15 #[.val (.ref a1), .val (.int (1 : Int32))] [.null]))
  obtain ⟨fs, hr, hrun, hended, hW, hsame⟩ := X101.leave (v := some .null) (fun h => by rw [Bd.returns] at h; cases h)
  refine ⟨_, _, retOut X101 hx Bd.returns rfl (Or.inr (Or.inr (Or.inr (Or.inr ⟨rfl, rfl, rfl⟩)))) (hb hby d23_15) hr, hrun, hended, _, _, rfl, ?_, ⟨_, rfl⟩, hW, hsame.mono (by decide) (by decide)⟩
  show Qrmg1 Z a1 h0 n0 _ T101.heap _
  rw [e101]
  refine ⟨?_, N0, rfl⟩
  rfl
theorem d22_24 : decode prog_51_method_6_code 24 = .ok (.aload_n 0, 1) := by decide +kernel
theorem d22_25 : decode prog_51_method_6_code 25 = .ok (.aload_n 3, 1) := by decide +kernel
theorem d22_26 : decode prog_51_method_6_code 26 = .ok (.putfield 25, 3) := by decide +kernel
theorem d22_29 : decode prog_51_method_6_code 29 = .ok (.goto 8, 3) := by decide +kernel
theorem ef_rmf1 (m : MethodId) (a1 : Addr) (a2 : Addr) (u1 : Value) (u2 : Value) : entryFrame m #[(.ref a1), (.int (1 : Int32)), (.ref a2)] 5 = mkF m 0 #[.val (.ref a1), .val (.int (1 : Int32)), .val (.ref a2), .unset, .unset] [] := by first | (simp [entryFrame, mkF, argsToLocals, Value.category]; done) | rfl
def Qrmf1 (Z : State) (a1 : Addr) (a2 : Addr) (u1 : Value) (u2 : Value) (h0 : Heap) (n0 : Nat) (v : Option Value) (h : Heap) (L : List Loc) : Prop := v = none ∧ Fr n0 L ∧ Keep h0 h [a1] ∧ Exa Z h a1 "com/example/ottawa/ottawa/TagPattern" ∧ Fld Z h a1 "com/example/ottawa/ottawa/TagPattern" "firstInside" "Lcom/example/ottawa/ottawa/KeptName;" (.ref a2) ∧ Fld Z h a1 "com/example/ottawa/ottawa/TagPattern" "firstAfter" "Lcom/example/ottawa/ottawa/KeptName;" u2
set_option maxRecDepth 65536 in
set_option maxHeartbeats 40000000 in
theorem rmf1 (l : Launch) (Z : State) (a0 : Array Value) (hw : ∀ d ∈ tables_1, d.before a0 Z = true) (ws : List Jvm.Cond) (a1 : Addr) (a2 : Addr) (u1 : Value) (u2 : Value) (h0 : Heap) (n0 : Nat) (Z0 : n0 ≤ h0.size) (E1 : Exa Z h0 a1 "com/example/ottawa/ottawa/TagPattern") (Fi : Fld Z h0 a1 "com/example/ottawa/ottawa/TagPattern" "firstInside" "Lcom/example/ottawa/ottawa/KeptName;" u1) (Fa : Fld Z h0 a1 "com/example/ottawa/ottawa/TagPattern" "firstAfter" "Lcom/example/ottawa/ottawa/KeptName;" u2) (E2 : Exa Z h0 a2 "com/example/ottawa/ottawa/KeptName") (g_a1 : n0 ≤ a1) (ne_1 : a2 ≠ a1) :
    MetFree l (⟨"com/example/ottawa/ottawa/TagPattern", "follow", "(ZLcom/example/ottawa/ottawa/Name;)V"⟩ : MethodName) (head1 (Jvm.Cond.code (⟨"com/example/ottawa/ottawa/TagPattern", "follow", "(ZLcom/example/ottawa/ottawa/Name;)V"⟩ : MethodName) prog_51_method_6_code 5 none :: ws) ({ frames := 0, cells := 0, slots := 0, locals := 0 } : Room)) (fun a U => a = #[(.ref a1), (.int (1 : Int32)), (.ref a2)] ∧ Z.Warmed39 U.vm ∧ U.heap = h0) (fun _ _ _ _ _ => True) (fun _ U o U' => ∃ v L, o = .returned v ∧ Qrmf1 Z a1 a2 u1 u2 h0 n0 v U'.heap L ∧ FrameEnd U o U' L ({ frames := 0, cells := 0, slots := 0, locals := 0 } : Room).cells ({ frames := 0, cells := 0, slots := 0, locals := 0 } : Room).slots) := by
  refine MetFree.of_bodySF (plainFor_of_name pn_0) hisR ?_
  intro p e s m args below meth c s₁ Bd hml0 hP hK
  obtain ⟨rfl, hZ, hh⟩ := hP
  have hx := Bd.exec
  have hby := Bd.bytes
  have hml : c.maxLocals = 5 := hml0
  have hown : s.vm.findClass "com/example/ottawa/ottawa/TagPattern" = some m.cls := findClass_of_methodNamed Bd.named
  have hnm := (name_of_methodNamed Bd.named Bd.method).1
  have X0 : Stand p l e ({ frames := 0, cells := 0, slots := 0, locals := 0 } : Room) s m #[(.ref a1), (.int (1 : Int32)), (.ref a2)] below meth c s₁ [] 0 0 := Stand.of_body Bd
  have e0 : s₁.heap = h0 := by rw [← hh, Bd.state]; rfl
  have N0 := Fr.nil n0
  show Go p.tables e below (fun o U' => ∃ v L, o = .returned v ∧ Qrmf1 Z a1 a2 u1 u2 h0 n0 v U'.heap L ∧ FrameEnd s o U' L ({ frames := 0, cells := 0, slots := 0, locals := 0 } : Room).cells ({ frames := 0, cells := 0, slots := 0, locals := 0 } : Room).slots) _
  refine Go.step (fun t kt => castTop (ef_rmf1 m a1 a2 u1 u2) kt) ?_
  show Go p.tables e below _ (s₁.setTop (mkF m 0 #[.val (.ref a1), .val (.int (1 : Int32)), .val (.ref a2), .unset, .unset] []))
  have K101 : Keep h0 h0 [a1] := (Keep.refl h0 [a1])
  refine Go.step (fun _ kt => XS.aloadN X0.here hx rfl (hb hby d22_0) rfl rfl kt) ?_
  show Go p.tables e below _ (s₁.setTop (mkF m 1 #[.val (.ref a1), .val (.int (1 : Int32)), .val (.ref a2), .unset, .unset] [(.ref a2)]))
  obtain ⟨T102, X102, e102, st102⟩ := instY X0 hx hZ hown (hw _ (List.mem_of_getElem? (i := 10) rfl)) e0 (Ins.self E2) (g := (mkF m 1 #[.val (.ref a1), .val (.int (1 : Int32)), .val (.ref a2), .unset, .unset] [(.ref a2)])) rfl rfl (hb hby d22_1)
  refine Go.step st102 ?_
  show Go p.tables e below _ (T102.setTop (mkF m 4 #[.val (.ref a1), .val (.int (1 : Int32)), .val (.ref a2), .unset, .unset] [(.int (1 : Int32))]))
  refine Go.step (fun _ kt => XS.ifNo X102.here hx rfl (hb hby d22_4) rfl ((if0 _ _).trans (feq (by decide : ¬ ((1 : Int32) = (0 : Int32)))).1) (XS.aloadN X102.here hx rfl (hb hby d22_7) rfl rfl kt)) ?_
  show Go p.tables e below _ (T102.setTop (mkF m 8 #[.val (.ref a1), .val (.int (1 : Int32)), .val (.ref a2), .unset, .unset] [(.ref a2)]))
  obtain ⟨T103, X103, e103, st103⟩ := castY X102 hx hZ hown (hw _ (List.mem_of_getElem? (i := 10) rfl)) e102 (Ins.self E2) (g := (mkF m 8 #[.val (.ref a1), .val (.int (1 : Int32)), .val (.ref a2), .unset, .unset] [(.ref a2)])) rfl rfl (hb hby d22_8)
  refine Go.step st103 ?_
  show Go p.tables e below _ (T103.setTop (mkF m 11 #[.val (.ref a1), .val (.int (1 : Int32)), .val (.ref a2), .unset, .unset] [(.ref a2)]))
  refine Go.step (fun _ kt => XS.astore X103.here hx rfl (hb hby d22_11) rfl rfl (l' := #[.val (.ref a1), .val (.int (1 : Int32)), .val (.ref a2), .unset, .val (.ref a2)]) rfl (XS.aload X103.here hx rfl (hb hby d22_13) rfl rfl (XS.goto X103.here hx rfl (pc0 := 15) (pc' := 19) rfl (hb hby d22_15) (by decide) (by decide) (XS.astoreN X103.here hx rfl (hb hby d22_19) rfl rfl (l' := #[.val (.ref a1), .val (.int (1 : Int32)), .val (.ref a2), .val (.ref a2), .val (.ref a2)]) rfl (XS.iloadN X103.here hx rfl (hb hby d22_20) rfl (XS.ifNo X103.here hx rfl (hb hby d22_21) rfl ((if0 _ _).trans (feq (by decide : ¬ ((1 : Int32) = (0 : Int32)))).1) (XS.aloadN X103.here hx rfl (hb hby d22_24) rfl rfl (XS.aloadN X103.here hx rfl (hb hby d22_25) rfl rfl kt)))))))) ?_
  show Go p.tables e below _ (T103.setTop (mkF m 26 #[.val (.ref a1), .val (.int (1 : Int32)), .val (.ref a2), .val (.ref a2), .val (.ref a2)] [(.ref a2), (.ref a1)]))
  obtain ⟨T104, h104, X104, e104, W104, st104⟩ := putF X103 hx hZ hown (host := "") (Or.inl (hw _ (List.mem_of_getElem? (i := 159) rfl))) Via.refl e103 Fi E1 (Or.inl (hw _ (List.mem_of_getElem? (i := 160) rfl))) (hw _ (List.mem_of_getElem? (i := 2) rfl)) (ty := (.object "com/example/ottawa/ottawa/KeptName")) (by decide) rfl rfl (g := (mkF m 26 #[.val (.ref a1), .val (.int (1 : Int32)), .val (.ref a2), .val (.ref a2), .val (.ref a2)] [(.ref a2), (.ref a1)])) rfl rfl (hb hby d22_26)
  refine Go.step st104 ?_
  have N104 := Fr.snoc X104 N0 g_a1
  have F105 : Exa Z h104 a1 "com/example/ottawa/ottawa/TagPattern" := (E1.wr W104)
  have F106 : Fld Z h104 a1 "com/example/ottawa/ottawa/TagPattern" "firstInside" "Lcom/example/ottawa/ottawa/KeptName;" (.ref a2) := (Fi.same W104)
  have F107 : Fld Z h104 a1 "com/example/ottawa/ottawa/TagPattern" "firstAfter" "Lcom/example/ottawa/ottawa/KeptName;" u2 := (Fa.other W104 (Or.inr (slot_ne (Or.inl (hw _ (List.mem_of_getElem? (i := 162) rfl))) (Or.inl (hw _ (List.mem_of_getElem? (i := 160) rfl))) (by decide) (t := (.object "com/example/ottawa/ottawa/KeptName")) (t' := (.object "com/example/ottawa/ottawa/KeptName")) (by decide) (by decide))))
  have F108 : Exa Z h104 a2 "com/example/ottawa/ottawa/KeptName" := (E2.wr W104)
  have Z109 : n0 ≤ h104.size := (Nat.le_trans Z0 (Nat.le_of_eq W104.size.symm))
  have K110 : Keep h0 h104 [a1] := (K101.wr W104 (Or.inl (List.mem_of_getElem? (i := 0) rfl)))
  show Go p.tables e below _ (T104.setTop (mkF m 29 #[.val (.ref a1), .val (.int (1 : Int32)), .val (.ref a2), .val (.ref a2), .val (.ref a2)] []))
  refine Go.step (fun _ kt => XS.goto X104.here hx rfl (pc0 := 29) (pc' := 37) rfl (hb hby d22_29) (by decide) (by decide) kt) ?_
  show Go p.tables e below _ (T104.setTop (mkF m 37 #[.val (.ref a1), .val (.int (1 : Int32)), .val (.ref a2), .val (.ref a2), .val (.ref a2)] []))
  obtain ⟨fs, hr, hrun, hended, hW, hsame⟩ := X104.leave (v := none) (fun _ => rfl)
  refine ⟨_, _, X104.returnOut hx Bd.returns (hb hby d22_37) hr, hrun, hended, _, _, rfl, ?_, ⟨_, rfl⟩, hW, hsame.mono (by decide) (by decide)⟩
  show Qrmf1 Z a1 a2 u1 u2 h0 n0 _ T104.heap _
  rw [e104]
  refine ⟨?_, N104, K110, F105, F106, F107⟩
  rfl
theorem ef_rmg2 (m : MethodId) (a1 : Addr) (r : Addr) : entryFrame m #[(.ref a1), (.int (1 : Int32))] 2 = mkF m 0 #[.val (.ref a1), .val (.int (1 : Int32))] [] := by first | (simp [entryFrame, mkF, argsToLocals, Value.category]; done) | rfl
def Qrmg2 (Z : State) (a1 : Addr) (r : Addr) (h0 : Heap) (n0 : Nat) (v : Option Value) (h : Heap) (L : List Loc) : Prop := v = some (.ref r) ∧ Fr n0 L ∧ h = h0
set_option maxRecDepth 65536 in
set_option maxHeartbeats 40000000 in
theorem rmg2 (l : Launch) (Z : State) (a0 : Array Value) (hw : ∀ d ∈ tables_1, d.before a0 Z = true) (ws : List Jvm.Cond) (a1 : Addr) (r : Addr) (h0 : Heap) (n0 : Nat) (Z0 : n0 ≤ h0.size) (F1 : Fld Z h0 a1 "com/example/ottawa/ottawa/TagPattern" "firstInside" "Lcom/example/ottawa/ottawa/KeptName;" (.ref r)) :
    MetFree l (⟨"com/example/ottawa/ottawa/TagPattern", "following", "(Z)Lcom/example/ottawa/ottawa/KeptName;"⟩ : MethodName) (head1 (Jvm.Cond.code (⟨"com/example/ottawa/ottawa/TagPattern", "following", "(Z)Lcom/example/ottawa/ottawa/KeptName;"⟩ : MethodName) prog_51_method_5_code 2 (some (.object "com/example/ottawa/ottawa/KeptName")) :: ws) ({ frames := 0, cells := 0, slots := 0, locals := 0 } : Room)) (fun a U => a = #[(.ref a1), (.int (1 : Int32))] ∧ Z.Warmed39 U.vm ∧ U.heap = h0) (fun _ _ _ _ _ => True) (fun _ U o U' => ∃ v L, o = .returned v ∧ Qrmg2 Z a1 r h0 n0 v U'.heap L ∧ FrameEnd U o U' L ({ frames := 0, cells := 0, slots := 0, locals := 0 } : Room).cells ({ frames := 0, cells := 0, slots := 0, locals := 0 } : Room).slots) := by
  refine MetFree.of_bodySF (plainFor_of_name pn_0) hisR ?_
  intro p e s m args below meth c s₁ Bd hml0 hP hK
  obtain ⟨rfl, hZ, hh⟩ := hP
  have hx := Bd.exec
  have hby := Bd.bytes
  have hml : c.maxLocals = 2 := hml0
  have hown : s.vm.findClass "com/example/ottawa/ottawa/TagPattern" = some m.cls := findClass_of_methodNamed Bd.named
  have hnm := (name_of_methodNamed Bd.named Bd.method).1
  have X0 : Stand p l e ({ frames := 0, cells := 0, slots := 0, locals := 0 } : Room) s m #[(.ref a1), (.int (1 : Int32))] below meth c s₁ [] 0 0 := Stand.of_body Bd
  have e0 : s₁.heap = h0 := by rw [← hh, Bd.state]; rfl
  have N0 := Fr.nil n0
  show Go p.tables e below (fun o U' => ∃ v L, o = .returned v ∧ Qrmg2 Z a1 r h0 n0 v U'.heap L ∧ FrameEnd s o U' L ({ frames := 0, cells := 0, slots := 0, locals := 0 } : Room).cells ({ frames := 0, cells := 0, slots := 0, locals := 0 } : Room).slots) _
  refine Go.step (fun t kt => castTop (ef_rmg2 m a1 r) kt) ?_
  show Go p.tables e below _ (s₁.setTop (mkF m 0 #[.val (.ref a1), .val (.int (1 : Int32))] []))
  refine Go.step (fun _ kt => XS.iloadN X0.here hx rfl (hb hby d23_0) rfl (XS.ifNo X0.here hx rfl (hb hby d23_1) rfl ((if0 _ _).trans (feq (by decide : ¬ ((1 : Int32) = (0 : Int32)))).1) (XS.aloadN X0.here hx rfl (hb hby d23_4) rfl rfl kt))) ?_
  show Go p.tables e below _ (s₁.setTop (mkF m 5 #[.val (.ref a1), .val (.int (1 : Int32))] [(.ref a1)]))
  obtain ⟨T101, X101, e101, st101⟩ := getF X0 hx hZ hown (host := "") (Or.inl (hw _ (List.mem_of_getElem? (i := 159) rfl))) Via.refl e0 F1 (g := (mkF m 5 #[.val (.ref a1), .val (.int (1 : Int32))] [(.ref a1)])) rfl rfl (hb hby d23_5)
  refine Go.step st101 ?_
  show Go p.tables e below _ (T101.setTop (mkF m 8 #[.val (.ref a1), .val (.int (1 : Int32))] [(.ref r)]))
  refine Go.step (fun _ kt => XS.goto X101.here hx rfl (pc0 := 8) (pc' := 15) rfl (hb hby d23_8) (by decide) (by decide) kt) ?_
  show Go p.tables e below _ (T101.setTop (mkF m 15 #[.val (.ref a1), .val (.int (1 : Int32))] [(.ref r)]))
  obtain ⟨fs, hr, hrun, hended, hW, hsame⟩ := X101.leave (v := some (.ref r)) (fun h => by rw [Bd.returns] at h; cases h)
  refine ⟨_, _, retOut X101 hx Bd.returns rfl (Or.inr (Or.inr (Or.inr (Or.inr ⟨rfl, rfl, rfl⟩)))) (hb hby d23_15) hr, hrun, hended, _, _, rfl, ?_, ⟨_, rfl⟩, hW, hsame.mono (by decide) (by decide)⟩
  show Qrmg2 Z a1 r h0 n0 _ T101.heap _
  rw [e101]
  refine ⟨?_, N0, rfl⟩
  rfl
theorem ef_rmg3 (m : MethodId) (a1 : Addr) : entryFrame m #[(.ref a1), (.int (0 : Int32))] 2 = mkF m 0 #[.val (.ref a1), .val (.int (0 : Int32))] [] := by first | (simp [entryFrame, mkF, argsToLocals, Value.category]; done) | rfl
def Qrmg3 (Z : State) (a1 : Addr) (h0 : Heap) (n0 : Nat) (v : Option Value) (h : Heap) (L : List Loc) : Prop := v = some .null ∧ Fr n0 L ∧ h = h0
set_option maxRecDepth 65536 in
set_option maxHeartbeats 40000000 in
theorem rmg3 (l : Launch) (Z : State) (a0 : Array Value) (hw : ∀ d ∈ tables_1, d.before a0 Z = true) (ws : List Jvm.Cond) (a1 : Addr) (h0 : Heap) (n0 : Nat) (Z0 : n0 ≤ h0.size) (F1 : Fld Z h0 a1 "com/example/ottawa/ottawa/TagPattern" "firstAfter" "Lcom/example/ottawa/ottawa/KeptName;" .null) :
    MetFree l (⟨"com/example/ottawa/ottawa/TagPattern", "following", "(Z)Lcom/example/ottawa/ottawa/KeptName;"⟩ : MethodName) (head1 (Jvm.Cond.code (⟨"com/example/ottawa/ottawa/TagPattern", "following", "(Z)Lcom/example/ottawa/ottawa/KeptName;"⟩ : MethodName) prog_51_method_5_code 2 (some (.object "com/example/ottawa/ottawa/KeptName")) :: ws) ({ frames := 0, cells := 0, slots := 0, locals := 0 } : Room)) (fun a U => a = #[(.ref a1), (.int (0 : Int32))] ∧ Z.Warmed39 U.vm ∧ U.heap = h0) (fun _ _ _ _ _ => True) (fun _ U o U' => ∃ v L, o = .returned v ∧ Qrmg3 Z a1 h0 n0 v U'.heap L ∧ FrameEnd U o U' L ({ frames := 0, cells := 0, slots := 0, locals := 0 } : Room).cells ({ frames := 0, cells := 0, slots := 0, locals := 0 } : Room).slots) := by
  refine MetFree.of_bodySF (plainFor_of_name pn_0) hisR ?_
  intro p e s m args below meth c s₁ Bd hml0 hP hK
  obtain ⟨rfl, hZ, hh⟩ := hP
  have hx := Bd.exec
  have hby := Bd.bytes
  have hml : c.maxLocals = 2 := hml0
  have hown : s.vm.findClass "com/example/ottawa/ottawa/TagPattern" = some m.cls := findClass_of_methodNamed Bd.named
  have hnm := (name_of_methodNamed Bd.named Bd.method).1
  have X0 : Stand p l e ({ frames := 0, cells := 0, slots := 0, locals := 0 } : Room) s m #[(.ref a1), (.int (0 : Int32))] below meth c s₁ [] 0 0 := Stand.of_body Bd
  have e0 : s₁.heap = h0 := by rw [← hh, Bd.state]; rfl
  have N0 := Fr.nil n0
  show Go p.tables e below (fun o U' => ∃ v L, o = .returned v ∧ Qrmg3 Z a1 h0 n0 v U'.heap L ∧ FrameEnd s o U' L ({ frames := 0, cells := 0, slots := 0, locals := 0 } : Room).cells ({ frames := 0, cells := 0, slots := 0, locals := 0 } : Room).slots) _
  refine Go.step (fun t kt => castTop (ef_rmg3 m a1) kt) ?_
  show Go p.tables e below _ (s₁.setTop (mkF m 0 #[.val (.ref a1), .val (.int (0 : Int32))] []))
  refine Go.step (fun _ kt => XS.iloadN X0.here hx rfl (hb hby d23_0) rfl (XS.ifYes X0.here hx rfl (pc0 := 1) (pc' := 11) rfl (hb hby d23_1) rfl ((if0 _ _).trans (teq (by decide : (0 : Int32) = (0 : Int32))).1) (by decide) (by decide) (XS.aloadN X0.here hx rfl (hb hby d23_11) rfl rfl kt))) ?_
  show Go p.tables e below _ (s₁.setTop (mkF m 12 #[.val (.ref a1), .val (.int (0 : Int32))] [(.ref a1)]))
  obtain ⟨T101, X101, e101, st101⟩ := getF X0 hx hZ hown (host := "") (Or.inl (hw _ (List.mem_of_getElem? (i := 161) rfl))) Via.refl e0 F1 (g := (mkF m 12 #[.val (.ref a1), .val (.int (0 : Int32))] [(.ref a1)])) rfl rfl (hb hby d23_12)
  refine Go.step st101 ?_
  show Go p.tables e below _ (T101.setTop (mkF m 15 #[.val (.ref a1), .val (.int (0 : Int32))] [.null]))
  obtain ⟨fs, hr, hrun, hended, hW, hsame⟩ := X101.leave (v := some .null) (fun h => by rw [Bd.returns] at h; cases h)
  refine ⟨_, _, retOut X101 hx Bd.returns rfl (Or.inr (Or.inr (Or.inr (Or.inr ⟨rfl, rfl, rfl⟩)))) (hb hby d23_15) hr, hrun, hended, _, _, rfl, ?_, ⟨_, rfl⟩, hW, hsame.mono (by decide) (by decide)⟩
  show Qrmg3 Z a1 h0 n0 _ T101.heap _
  rw [e101]
  refine ⟨?_, N0, rfl⟩
  rfl
theorem d22_18 : decode prog_51_method_6_code 18 = .ok (.aconst_null, 1) := by decide +kernel
theorem ef_rmf2 (m : MethodId) (a1 : Addr) (a2 : Addr) (u1 : Value) (u2 : Value) : entryFrame m #[(.ref a1), (.int (0 : Int32)), (.ref a2)] 5 = mkF m 0 #[.val (.ref a1), .val (.int (0 : Int32)), .val (.ref a2), .unset, .unset] [] := by first | (simp [entryFrame, mkF, argsToLocals, Value.category]; done) | rfl
def Qrmf2 (Z : State) (a1 : Addr) (a2 : Addr) (u1 : Value) (u2 : Value) (h0 : Heap) (n0 : Nat) (v : Option Value) (h : Heap) (L : List Loc) : Prop := v = none ∧ Fr n0 L ∧ Keep h0 h [a1] ∧ Exa Z h a1 "com/example/ottawa/ottawa/TagPattern" ∧ Fld Z h a1 "com/example/ottawa/ottawa/TagPattern" "firstInside" "Lcom/example/ottawa/ottawa/KeptName;" u1 ∧ Fld Z h a1 "com/example/ottawa/ottawa/TagPattern" "firstAfter" "Lcom/example/ottawa/ottawa/KeptName;" .null
set_option maxRecDepth 65536 in
set_option maxHeartbeats 40000000 in
theorem rmf2 (l : Launch) (Z : State) (a0 : Array Value) (hw : ∀ d ∈ tables_1, d.before a0 Z = true) (ws : List Jvm.Cond) (a1 : Addr) (a2 : Addr) (u1 : Value) (u2 : Value) (h0 : Heap) (n0 : Nat) (Z0 : n0 ≤ h0.size) (E1 : Exa Z h0 a1 "com/example/ottawa/ottawa/TagPattern") (Fi : Fld Z h0 a1 "com/example/ottawa/ottawa/TagPattern" "firstInside" "Lcom/example/ottawa/ottawa/KeptName;" u1) (Fa : Fld Z h0 a1 "com/example/ottawa/ottawa/TagPattern" "firstAfter" "Lcom/example/ottawa/ottawa/KeptName;" u2) (E2 : Exa Z h0 a2 "com/example/ottawa/ottawa/Name") (g_a1 : n0 ≤ a1) (ne_1 : a2 ≠ a1) :
    MetFree l (⟨"com/example/ottawa/ottawa/TagPattern", "follow", "(ZLcom/example/ottawa/ottawa/Name;)V"⟩ : MethodName) (head1 (Jvm.Cond.code (⟨"com/example/ottawa/ottawa/TagPattern", "follow", "(ZLcom/example/ottawa/ottawa/Name;)V"⟩ : MethodName) prog_51_method_6_code 5 none :: ws) ({ frames := 0, cells := 0, slots := 0, locals := 0 } : Room)) (fun a U => a = #[(.ref a1), (.int (0 : Int32)), (.ref a2)] ∧ Z.Warmed39 U.vm ∧ U.heap = h0) (fun _ _ _ _ _ => True) (fun _ U o U' => ∃ v L, o = .returned v ∧ Qrmf2 Z a1 a2 u1 u2 h0 n0 v U'.heap L ∧ FrameEnd U o U' L ({ frames := 0, cells := 0, slots := 0, locals := 0 } : Room).cells ({ frames := 0, cells := 0, slots := 0, locals := 0 } : Room).slots) := by
  refine MetFree.of_bodySF (plainFor_of_name pn_0) hisR ?_
  intro p e s m args below meth c s₁ Bd hml0 hP hK
  obtain ⟨rfl, hZ, hh⟩ := hP
  have hx := Bd.exec
  have hby := Bd.bytes
  have hml : c.maxLocals = 5 := hml0
  have hown : s.vm.findClass "com/example/ottawa/ottawa/TagPattern" = some m.cls := findClass_of_methodNamed Bd.named
  have hnm := (name_of_methodNamed Bd.named Bd.method).1
  have X0 : Stand p l e ({ frames := 0, cells := 0, slots := 0, locals := 0 } : Room) s m #[(.ref a1), (.int (0 : Int32)), (.ref a2)] below meth c s₁ [] 0 0 := Stand.of_body Bd
  have e0 : s₁.heap = h0 := by rw [← hh, Bd.state]; rfl
  have N0 := Fr.nil n0
  show Go p.tables e below (fun o U' => ∃ v L, o = .returned v ∧ Qrmf2 Z a1 a2 u1 u2 h0 n0 v U'.heap L ∧ FrameEnd s o U' L ({ frames := 0, cells := 0, slots := 0, locals := 0 } : Room).cells ({ frames := 0, cells := 0, slots := 0, locals := 0 } : Room).slots) _
  refine Go.step (fun t kt => castTop (ef_rmf2 m a1 a2 u1 u2) kt) ?_
  show Go p.tables e below _ (s₁.setTop (mkF m 0 #[.val (.ref a1), .val (.int (0 : Int32)), .val (.ref a2), .unset, .unset] []))
  have K101 : Keep h0 h0 [a1] := (Keep.refl h0 [a1])
  refine Go.step (fun _ kt => XS.aloadN X0.here hx rfl (hb hby d22_0) rfl rfl kt) ?_
  show Go p.tables e below _ (s₁.setTop (mkF m 1 #[.val (.ref a1), .val (.int (0 : Int32)), .val (.ref a2), .unset, .unset] [(.ref a2)]))
  obtain ⟨T102, X102, e102, st102⟩ := instNo X0 hx hZ hown (hw _ (List.mem_of_getElem? (i := 10) rfl)) e0 E2 (own_noins hw) (g := (mkF m 1 #[.val (.ref a1), .val (.int (0 : Int32)), .val (.ref a2), .unset, .unset] [(.ref a2)])) rfl rfl (hb hby d22_1)
  refine Go.step st102 ?_
  show Go p.tables e below _ (T102.setTop (mkF m 4 #[.val (.ref a1), .val (.int (0 : Int32)), .val (.ref a2), .unset, .unset] [(.int (0 : Int32))]))
  refine Go.step (fun _ kt => XS.ifYes X102.here hx rfl (pc0 := 4) (pc' := 18) rfl (hb hby d22_4) rfl ((if0 _ _).trans (teq (by decide : (0 : Int32) = (0 : Int32))).1) (by decide) (by decide) (XS.aconstNull X102.here hx rfl (hb hby d22_18) (XS.astoreN X102.here hx rfl (hb hby d22_19) rfl rfl (l' := #[.val (.ref a1), .val (.int (0 : Int32)), .val (.ref a2), .val .null, .unset]) rfl (XS.iloadN X102.here hx rfl (hb hby d22_20) rfl (XS.ifYes X102.here hx rfl (pc0 := 21) (pc' := 32) rfl (hb hby d22_21) rfl ((if0 _ _).trans (teq (by decide : (0 : Int32) = (0 : Int32))).1) (by decide) (by decide) (XS.aloadN X102.here hx rfl (hb hby d22_32) rfl rfl (XS.aloadN X102.here hx rfl (hb hby d22_33) rfl rfl kt))))))) ?_
  show Go p.tables e below _ (T102.setTop (mkF m 34 #[.val (.ref a1), .val (.int (0 : Int32)), .val (.ref a2), .val .null, .unset] [.null, (.ref a1)]))
  obtain ⟨T103, h103, X103, e103, W103, st103⟩ := putF X102 hx hZ hown (host := "") (Or.inl (hw _ (List.mem_of_getElem? (i := 161) rfl))) Via.refl e102 Fa E1 (Or.inl (hw _ (List.mem_of_getElem? (i := 162) rfl))) (hw _ (List.mem_of_getElem? (i := 2) rfl)) (ty := (.object "com/example/ottawa/ottawa/KeptName")) (by decide) rfl rfl (g := (mkF m 34 #[.val (.ref a1), .val (.int (0 : Int32)), .val (.ref a2), .val .null, .unset] [.null, (.ref a1)])) rfl rfl (hb hby d22_34)
  refine Go.step st103 ?_
  have N103 := Fr.snoc X103 N0 g_a1
  have F104 : Exa Z h103 a1 "com/example/ottawa/ottawa/TagPattern" := (E1.wr W103)
  have F105 : Fld Z h103 a1 "com/example/ottawa/ottawa/TagPattern" "firstInside" "Lcom/example/ottawa/ottawa/KeptName;" u1 := (Fi.other W103 (Or.inr (slot_ne (Or.inl (hw _ (List.mem_of_getElem? (i := 160) rfl))) (Or.inl (hw _ (List.mem_of_getElem? (i := 162) rfl))) (by decide) (t := (.object "com/example/ottawa/ottawa/KeptName")) (t' := (.object "com/example/ottawa/ottawa/KeptName")) (by decide) (by decide))))
  have F106 : Fld Z h103 a1 "com/example/ottawa/ottawa/TagPattern" "firstAfter" "Lcom/example/ottawa/ottawa/KeptName;" .null := (Fa.same W103)
  have F107 : Exa Z h103 a2 "com/example/ottawa/ottawa/Name" := (E2.wr W103)
  have Z108 : n0 ≤ h103.size := (Nat.le_trans Z0 (Nat.le_of_eq W103.size.symm))
  have K109 : Keep h0 h103 [a1] := (K101.wr W103 (Or.inl (List.mem_of_getElem? (i := 0) rfl)))
  show Go p.tables e below _ (T103.setTop (mkF m 37 #[.val (.ref a1), .val (.int (0 : Int32)), .val (.ref a2), .val .null, .unset] []))
  obtain ⟨fs, hr, hrun, hended, hW, hsame⟩ := X103.leave (v := none) (fun _ => rfl)
  refine ⟨_, _, X103.returnOut hx Bd.returns (hb hby d22_37) hr, hrun, hended, _, _, rfl, ?_, ⟨_, rfl⟩, hW, hsame.mono (by decide) (by decide)⟩
  show Qrmf2 Z a1 a2 u1 u2 h0 n0 _ T103.heap _
  rw [e103]
  refine ⟨?_, N103, K109, F104, F105, F106⟩
  rfl
theorem ef_rmf3 (m : MethodId) (a1 : Addr) (a2 : Addr) (u1 : Value) (u2 : Value) : entryFrame m #[(.ref a1), (.int (1 : Int32)), (.ref a2)] 5 = mkF m 0 #[.val (.ref a1), .val (.int (1 : Int32)), .val (.ref a2), .unset, .unset] [] := by first | (simp [entryFrame, mkF, argsToLocals, Value.category]; done) | rfl
def Qrmf3 (Z : State) (a1 : Addr) (a2 : Addr) (u1 : Value) (u2 : Value) (h0 : Heap) (n0 : Nat) (v : Option Value) (h : Heap) (L : List Loc) : Prop := v = none ∧ Fr n0 L ∧ Keep h0 h [a1] ∧ Exa Z h a1 "com/example/ottawa/ottawa/TagPattern" ∧ Fld Z h a1 "com/example/ottawa/ottawa/TagPattern" "firstInside" "Lcom/example/ottawa/ottawa/KeptName;" .null ∧ Fld Z h a1 "com/example/ottawa/ottawa/TagPattern" "firstAfter" "Lcom/example/ottawa/ottawa/KeptName;" u2
set_option maxRecDepth 65536 in
set_option maxHeartbeats 40000000 in
theorem rmf3 (l : Launch) (Z : State) (a0 : Array Value) (hw : ∀ d ∈ tables_1, d.before a0 Z = true) (ws : List Jvm.Cond) (a1 : Addr) (a2 : Addr) (u1 : Value) (u2 : Value) (h0 : Heap) (n0 : Nat) (Z0 : n0 ≤ h0.size) (E1 : Exa Z h0 a1 "com/example/ottawa/ottawa/TagPattern") (Fi : Fld Z h0 a1 "com/example/ottawa/ottawa/TagPattern" "firstInside" "Lcom/example/ottawa/ottawa/KeptName;" u1) (Fa : Fld Z h0 a1 "com/example/ottawa/ottawa/TagPattern" "firstAfter" "Lcom/example/ottawa/ottawa/KeptName;" u2) (E2 : Exa Z h0 a2 "com/example/ottawa/ottawa/Name") (g_a1 : n0 ≤ a1) (ne_1 : a2 ≠ a1) :
    MetFree l (⟨"com/example/ottawa/ottawa/TagPattern", "follow", "(ZLcom/example/ottawa/ottawa/Name;)V"⟩ : MethodName) (head1 (Jvm.Cond.code (⟨"com/example/ottawa/ottawa/TagPattern", "follow", "(ZLcom/example/ottawa/ottawa/Name;)V"⟩ : MethodName) prog_51_method_6_code 5 none :: ws) ({ frames := 0, cells := 0, slots := 0, locals := 0 } : Room)) (fun a U => a = #[(.ref a1), (.int (1 : Int32)), (.ref a2)] ∧ Z.Warmed39 U.vm ∧ U.heap = h0) (fun _ _ _ _ _ => True) (fun _ U o U' => ∃ v L, o = .returned v ∧ Qrmf3 Z a1 a2 u1 u2 h0 n0 v U'.heap L ∧ FrameEnd U o U' L ({ frames := 0, cells := 0, slots := 0, locals := 0 } : Room).cells ({ frames := 0, cells := 0, slots := 0, locals := 0 } : Room).slots) := by
  refine MetFree.of_bodySF (plainFor_of_name pn_0) hisR ?_
  intro p e s m args below meth c s₁ Bd hml0 hP hK
  obtain ⟨rfl, hZ, hh⟩ := hP
  have hx := Bd.exec
  have hby := Bd.bytes
  have hml : c.maxLocals = 5 := hml0
  have hown : s.vm.findClass "com/example/ottawa/ottawa/TagPattern" = some m.cls := findClass_of_methodNamed Bd.named
  have hnm := (name_of_methodNamed Bd.named Bd.method).1
  have X0 : Stand p l e ({ frames := 0, cells := 0, slots := 0, locals := 0 } : Room) s m #[(.ref a1), (.int (1 : Int32)), (.ref a2)] below meth c s₁ [] 0 0 := Stand.of_body Bd
  have e0 : s₁.heap = h0 := by rw [← hh, Bd.state]; rfl
  have N0 := Fr.nil n0
  show Go p.tables e below (fun o U' => ∃ v L, o = .returned v ∧ Qrmf3 Z a1 a2 u1 u2 h0 n0 v U'.heap L ∧ FrameEnd s o U' L ({ frames := 0, cells := 0, slots := 0, locals := 0 } : Room).cells ({ frames := 0, cells := 0, slots := 0, locals := 0 } : Room).slots) _
  refine Go.step (fun t kt => castTop (ef_rmf3 m a1 a2 u1 u2) kt) ?_
  show Go p.tables e below _ (s₁.setTop (mkF m 0 #[.val (.ref a1), .val (.int (1 : Int32)), .val (.ref a2), .unset, .unset] []))
  have K101 : Keep h0 h0 [a1] := (Keep.refl h0 [a1])
  refine Go.step (fun _ kt => XS.aloadN X0.here hx rfl (hb hby d22_0) rfl rfl kt) ?_
  show Go p.tables e below _ (s₁.setTop (mkF m 1 #[.val (.ref a1), .val (.int (1 : Int32)), .val (.ref a2), .unset, .unset] [(.ref a2)]))
  obtain ⟨T102, X102, e102, st102⟩ := instNo X0 hx hZ hown (hw _ (List.mem_of_getElem? (i := 10) rfl)) e0 E2 (own_noins hw) (g := (mkF m 1 #[.val (.ref a1), .val (.int (1 : Int32)), .val (.ref a2), .unset, .unset] [(.ref a2)])) rfl rfl (hb hby d22_1)
  refine Go.step st102 ?_
  show Go p.tables e below _ (T102.setTop (mkF m 4 #[.val (.ref a1), .val (.int (1 : Int32)), .val (.ref a2), .unset, .unset] [(.int (0 : Int32))]))
  refine Go.step (fun _ kt => XS.ifYes X102.here hx rfl (pc0 := 4) (pc' := 18) rfl (hb hby d22_4) rfl ((if0 _ _).trans (teq (by decide : (0 : Int32) = (0 : Int32))).1) (by decide) (by decide) (XS.aconstNull X102.here hx rfl (hb hby d22_18) (XS.astoreN X102.here hx rfl (hb hby d22_19) rfl rfl (l' := #[.val (.ref a1), .val (.int (1 : Int32)), .val (.ref a2), .val .null, .unset]) rfl (XS.iloadN X102.here hx rfl (hb hby d22_20) rfl (XS.ifNo X102.here hx rfl (hb hby d22_21) rfl ((if0 _ _).trans (feq (by decide : ¬ ((1 : Int32) = (0 : Int32)))).1) (XS.aloadN X102.here hx rfl (hb hby d22_24) rfl rfl (XS.aloadN X102.here hx rfl (hb hby d22_25) rfl rfl kt))))))) ?_
  show Go p.tables e below _ (T102.setTop (mkF m 26 #[.val (.ref a1), .val (.int (1 : Int32)), .val (.ref a2), .val .null, .unset] [.null, (.ref a1)]))
  obtain ⟨T103, h103, X103, e103, W103, st103⟩ := putF X102 hx hZ hown (host := "") (Or.inl (hw _ (List.mem_of_getElem? (i := 159) rfl))) Via.refl e102 Fi E1 (Or.inl (hw _ (List.mem_of_getElem? (i := 160) rfl))) (hw _ (List.mem_of_getElem? (i := 2) rfl)) (ty := (.object "com/example/ottawa/ottawa/KeptName")) (by decide) rfl rfl (g := (mkF m 26 #[.val (.ref a1), .val (.int (1 : Int32)), .val (.ref a2), .val .null, .unset] [.null, (.ref a1)])) rfl rfl (hb hby d22_26)
  refine Go.step st103 ?_
  have N103 := Fr.snoc X103 N0 g_a1
  have F104 : Exa Z h103 a1 "com/example/ottawa/ottawa/TagPattern" := (E1.wr W103)
  have F105 : Fld Z h103 a1 "com/example/ottawa/ottawa/TagPattern" "firstInside" "Lcom/example/ottawa/ottawa/KeptName;" .null := (Fi.same W103)
  have F106 : Fld Z h103 a1 "com/example/ottawa/ottawa/TagPattern" "firstAfter" "Lcom/example/ottawa/ottawa/KeptName;" u2 := (Fa.other W103 (Or.inr (slot_ne (Or.inl (hw _ (List.mem_of_getElem? (i := 162) rfl))) (Or.inl (hw _ (List.mem_of_getElem? (i := 160) rfl))) (by decide) (t := (.object "com/example/ottawa/ottawa/KeptName")) (t' := (.object "com/example/ottawa/ottawa/KeptName")) (by decide) (by decide))))
  have F107 : Exa Z h103 a2 "com/example/ottawa/ottawa/Name" := (E2.wr W103)
  have Z108 : n0 ≤ h103.size := (Nat.le_trans Z0 (Nat.le_of_eq W103.size.symm))
  have K109 : Keep h0 h103 [a1] := (K101.wr W103 (Or.inl (List.mem_of_getElem? (i := 0) rfl)))
  show Go p.tables e below _ (T103.setTop (mkF m 29 #[.val (.ref a1), .val (.int (1 : Int32)), .val (.ref a2), .val .null, .unset] []))
  refine Go.step (fun _ kt => XS.goto X103.here hx rfl (pc0 := 29) (pc' := 37) rfl (hb hby d22_29) (by decide) (by decide) kt) ?_
  show Go p.tables e below _ (T103.setTop (mkF m 37 #[.val (.ref a1), .val (.int (1 : Int32)), .val (.ref a2), .val .null, .unset] []))
  obtain ⟨fs, hr, hrun, hended, hW, hsame⟩ := X103.leave (v := none) (fun _ => rfl)
  refine ⟨_, _, X103.returnOut hx Bd.returns (hb hby d22_37) hr, hrun, hended, _, _, rfl, ?_, ⟨_, rfl⟩, hW, hsame.mono (by decide) (by decide)⟩
  show Qrmf3 Z a1 a2 u1 u2 h0 n0 _ T103.heap _
  rw [e103]
  refine ⟨?_, N103, K109, F104, F105, F106⟩
  rfl
theorem ef_rmf4 (m : MethodId) (a1 : Addr) (u1 : Value) (u2 : Value) : entryFrame m #[(.ref a1), (.int (0 : Int32)), .null] 5 = mkF m 0 #[.val (.ref a1), .val (.int (0 : Int32)), .val .null, .unset, .unset] [] := by first | (simp [entryFrame, mkF, argsToLocals, Value.category]; done) | rfl
def Qrmf4 (Z : State) (a1 : Addr) (u1 : Value) (u2 : Value) (h0 : Heap) (n0 : Nat) (v : Option Value) (h : Heap) (L : List Loc) : Prop := v = none ∧ Fr n0 L ∧ Keep h0 h [a1] ∧ Exa Z h a1 "com/example/ottawa/ottawa/TagPattern" ∧ Fld Z h a1 "com/example/ottawa/ottawa/TagPattern" "firstInside" "Lcom/example/ottawa/ottawa/KeptName;" u1 ∧ Fld Z h a1 "com/example/ottawa/ottawa/TagPattern" "firstAfter" "Lcom/example/ottawa/ottawa/KeptName;" .null
set_option maxRecDepth 65536 in
set_option maxHeartbeats 40000000 in
theorem rmf4 (l : Launch) (Z : State) (a0 : Array Value) (hw : ∀ d ∈ tables_1, d.before a0 Z = true) (ws : List Jvm.Cond) (a1 : Addr) (u1 : Value) (u2 : Value) (h0 : Heap) (n0 : Nat) (Z0 : n0 ≤ h0.size) (E1 : Exa Z h0 a1 "com/example/ottawa/ottawa/TagPattern") (Fi : Fld Z h0 a1 "com/example/ottawa/ottawa/TagPattern" "firstInside" "Lcom/example/ottawa/ottawa/KeptName;" u1) (Fa : Fld Z h0 a1 "com/example/ottawa/ottawa/TagPattern" "firstAfter" "Lcom/example/ottawa/ottawa/KeptName;" u2) (g_a1 : n0 ≤ a1) :
    MetFree l (⟨"com/example/ottawa/ottawa/TagPattern", "follow", "(ZLcom/example/ottawa/ottawa/Name;)V"⟩ : MethodName) (head1 (Jvm.Cond.code (⟨"com/example/ottawa/ottawa/TagPattern", "follow", "(ZLcom/example/ottawa/ottawa/Name;)V"⟩ : MethodName) prog_51_method_6_code 5 none :: ws) ({ frames := 0, cells := 0, slots := 0, locals := 0 } : Room)) (fun a U => a = #[(.ref a1), (.int (0 : Int32)), .null] ∧ Z.Warmed39 U.vm ∧ U.heap = h0) (fun _ _ _ _ _ => True) (fun _ U o U' => ∃ v L, o = .returned v ∧ Qrmf4 Z a1 u1 u2 h0 n0 v U'.heap L ∧ FrameEnd U o U' L ({ frames := 0, cells := 0, slots := 0, locals := 0 } : Room).cells ({ frames := 0, cells := 0, slots := 0, locals := 0 } : Room).slots) := by
  refine MetFree.of_bodySF (plainFor_of_name pn_0) hisR ?_
  intro p e s m args below meth c s₁ Bd hml0 hP hK
  obtain ⟨rfl, hZ, hh⟩ := hP
  have hx := Bd.exec
  have hby := Bd.bytes
  have hml : c.maxLocals = 5 := hml0
  have hown : s.vm.findClass "com/example/ottawa/ottawa/TagPattern" = some m.cls := findClass_of_methodNamed Bd.named
  have hnm := (name_of_methodNamed Bd.named Bd.method).1
  have X0 : Stand p l e ({ frames := 0, cells := 0, slots := 0, locals := 0 } : Room) s m #[(.ref a1), (.int (0 : Int32)), .null] below meth c s₁ [] 0 0 := Stand.of_body Bd
  have e0 : s₁.heap = h0 := by rw [← hh, Bd.state]; rfl
  have N0 := Fr.nil n0
  show Go p.tables e below (fun o U' => ∃ v L, o = .returned v ∧ Qrmf4 Z a1 u1 u2 h0 n0 v U'.heap L ∧ FrameEnd s o U' L ({ frames := 0, cells := 0, slots := 0, locals := 0 } : Room).cells ({ frames := 0, cells := 0, slots := 0, locals := 0 } : Room).slots) _
  refine Go.step (fun t kt => castTop (ef_rmf4 m a1 u1 u2) kt) ?_
  show Go p.tables e below _ (s₁.setTop (mkF m 0 #[.val (.ref a1), .val (.int (0 : Int32)), .val .null, .unset, .unset] []))
  have K101 : Keep h0 h0 [a1] := (Keep.refl h0 [a1])
  refine Go.step (fun _ kt => XS.aloadN X0.here hx rfl (hb hby d22_0) rfl rfl kt) ?_
  show Go p.tables e below _ (s₁.setTop (mkF m 1 #[.val (.ref a1), .val (.int (0 : Int32)), .val .null, .unset, .unset] [.null]))
  refine Go.step (X0.instanceofNull hx (g := (mkF m 1 #[.val (.ref a1), .val (.int (0 : Int32)), .val .null, .unset, .unset] [.null])) rfl rfl (hb hby d22_1)) ?_
  show Go p.tables e below _ (s₁.setTop (mkF m 4 #[.val (.ref a1), .val (.int (0 : Int32)), .val .null, .unset, .unset] [(.int (0 : Int32))]))
  refine Go.step (fun _ kt => XS.ifYes X0.here hx rfl (pc0 := 4) (pc' := 18) rfl (hb hby d22_4) rfl ((if0 _ _).trans (teq (by decide : (0 : Int32) = (0 : Int32))).1) (by decide) (by decide) (XS.aconstNull X0.here hx rfl (hb hby d22_18) (XS.astoreN X0.here hx rfl (hb hby d22_19) rfl rfl (l' := #[.val (.ref a1), .val (.int (0 : Int32)), .val .null, .val .null, .unset]) rfl (XS.iloadN X0.here hx rfl (hb hby d22_20) rfl (XS.ifYes X0.here hx rfl (pc0 := 21) (pc' := 32) rfl (hb hby d22_21) rfl ((if0 _ _).trans (teq (by decide : (0 : Int32) = (0 : Int32))).1) (by decide) (by decide) (XS.aloadN X0.here hx rfl (hb hby d22_32) rfl rfl (XS.aloadN X0.here hx rfl (hb hby d22_33) rfl rfl kt))))))) ?_
  show Go p.tables e below _ (s₁.setTop (mkF m 34 #[.val (.ref a1), .val (.int (0 : Int32)), .val .null, .val .null, .unset] [.null, (.ref a1)]))
  obtain ⟨T102, h102, X102, e102, W102, st102⟩ := putF X0 hx hZ hown (host := "") (Or.inl (hw _ (List.mem_of_getElem? (i := 161) rfl))) Via.refl e0 Fa E1 (Or.inl (hw _ (List.mem_of_getElem? (i := 162) rfl))) (hw _ (List.mem_of_getElem? (i := 2) rfl)) (ty := (.object "com/example/ottawa/ottawa/KeptName")) (by decide) rfl rfl (g := (mkF m 34 #[.val (.ref a1), .val (.int (0 : Int32)), .val .null, .val .null, .unset] [.null, (.ref a1)])) rfl rfl (hb hby d22_34)
  refine Go.step st102 ?_
  have N102 := Fr.snoc X102 N0 g_a1
  have F103 : Exa Z h102 a1 "com/example/ottawa/ottawa/TagPattern" := (E1.wr W102)
  have F104 : Fld Z h102 a1 "com/example/ottawa/ottawa/TagPattern" "firstInside" "Lcom/example/ottawa/ottawa/KeptName;" u1 := (Fi.other W102 (Or.inr (slot_ne (Or.inl (hw _ (List.mem_of_getElem? (i := 160) rfl))) (Or.inl (hw _ (List.mem_of_getElem? (i := 162) rfl))) (by decide) (t := (.object "com/example/ottawa/ottawa/KeptName")) (t' := (.object "com/example/ottawa/ottawa/KeptName")) (by decide) (by decide))))
  have F105 : Fld Z h102 a1 "com/example/ottawa/ottawa/TagPattern" "firstAfter" "Lcom/example/ottawa/ottawa/KeptName;" .null := (Fa.same W102)
  have Z106 : n0 ≤ h102.size := (Nat.le_trans Z0 (Nat.le_of_eq W102.size.symm))
  have K107 : Keep h0 h102 [a1] := (K101.wr W102 (Or.inl (List.mem_of_getElem? (i := 0) rfl)))
  show Go p.tables e below _ (T102.setTop (mkF m 37 #[.val (.ref a1), .val (.int (0 : Int32)), .val .null, .val .null, .unset] []))
  obtain ⟨fs, hr, hrun, hended, hW, hsame⟩ := X102.leave (v := none) (fun _ => rfl)
  refine ⟨_, _, X102.returnOut hx Bd.returns (hb hby d22_37) hr, hrun, hended, _, _, rfl, ?_, ⟨_, rfl⟩, hW, hsame.mono (by decide) (by decide)⟩
  show Qrmf4 Z a1 u1 u2 h0 n0 _ T102.heap _
  rw [e102]
  refine ⟨?_, N102, K107, F103, F104, F105⟩
  rfl
theorem ef_rmf5 (m : MethodId) (a1 : Addr) (u1 : Value) (u2 : Value) : entryFrame m #[(.ref a1), (.int (1 : Int32)), .null] 5 = mkF m 0 #[.val (.ref a1), .val (.int (1 : Int32)), .val .null, .unset, .unset] [] := by first | (simp [entryFrame, mkF, argsToLocals, Value.category]; done) | rfl
def Qrmf5 (Z : State) (a1 : Addr) (u1 : Value) (u2 : Value) (h0 : Heap) (n0 : Nat) (v : Option Value) (h : Heap) (L : List Loc) : Prop := v = none ∧ Fr n0 L ∧ Keep h0 h [a1] ∧ Exa Z h a1 "com/example/ottawa/ottawa/TagPattern" ∧ Fld Z h a1 "com/example/ottawa/ottawa/TagPattern" "firstInside" "Lcom/example/ottawa/ottawa/KeptName;" .null ∧ Fld Z h a1 "com/example/ottawa/ottawa/TagPattern" "firstAfter" "Lcom/example/ottawa/ottawa/KeptName;" u2
set_option maxRecDepth 65536 in
set_option maxHeartbeats 40000000 in
theorem rmf5 (l : Launch) (Z : State) (a0 : Array Value) (hw : ∀ d ∈ tables_1, d.before a0 Z = true) (ws : List Jvm.Cond) (a1 : Addr) (u1 : Value) (u2 : Value) (h0 : Heap) (n0 : Nat) (Z0 : n0 ≤ h0.size) (E1 : Exa Z h0 a1 "com/example/ottawa/ottawa/TagPattern") (Fi : Fld Z h0 a1 "com/example/ottawa/ottawa/TagPattern" "firstInside" "Lcom/example/ottawa/ottawa/KeptName;" u1) (Fa : Fld Z h0 a1 "com/example/ottawa/ottawa/TagPattern" "firstAfter" "Lcom/example/ottawa/ottawa/KeptName;" u2) (g_a1 : n0 ≤ a1) :
    MetFree l (⟨"com/example/ottawa/ottawa/TagPattern", "follow", "(ZLcom/example/ottawa/ottawa/Name;)V"⟩ : MethodName) (head1 (Jvm.Cond.code (⟨"com/example/ottawa/ottawa/TagPattern", "follow", "(ZLcom/example/ottawa/ottawa/Name;)V"⟩ : MethodName) prog_51_method_6_code 5 none :: ws) ({ frames := 0, cells := 0, slots := 0, locals := 0 } : Room)) (fun a U => a = #[(.ref a1), (.int (1 : Int32)), .null] ∧ Z.Warmed39 U.vm ∧ U.heap = h0) (fun _ _ _ _ _ => True) (fun _ U o U' => ∃ v L, o = .returned v ∧ Qrmf5 Z a1 u1 u2 h0 n0 v U'.heap L ∧ FrameEnd U o U' L ({ frames := 0, cells := 0, slots := 0, locals := 0 } : Room).cells ({ frames := 0, cells := 0, slots := 0, locals := 0 } : Room).slots) := by
  refine MetFree.of_bodySF (plainFor_of_name pn_0) hisR ?_
  intro p e s m args below meth c s₁ Bd hml0 hP hK
  obtain ⟨rfl, hZ, hh⟩ := hP
  have hx := Bd.exec
  have hby := Bd.bytes
  have hml : c.maxLocals = 5 := hml0
  have hown : s.vm.findClass "com/example/ottawa/ottawa/TagPattern" = some m.cls := findClass_of_methodNamed Bd.named
  have hnm := (name_of_methodNamed Bd.named Bd.method).1
  have X0 : Stand p l e ({ frames := 0, cells := 0, slots := 0, locals := 0 } : Room) s m #[(.ref a1), (.int (1 : Int32)), .null] below meth c s₁ [] 0 0 := Stand.of_body Bd
  have e0 : s₁.heap = h0 := by rw [← hh, Bd.state]; rfl
  have N0 := Fr.nil n0
  show Go p.tables e below (fun o U' => ∃ v L, o = .returned v ∧ Qrmf5 Z a1 u1 u2 h0 n0 v U'.heap L ∧ FrameEnd s o U' L ({ frames := 0, cells := 0, slots := 0, locals := 0 } : Room).cells ({ frames := 0, cells := 0, slots := 0, locals := 0 } : Room).slots) _
  refine Go.step (fun t kt => castTop (ef_rmf5 m a1 u1 u2) kt) ?_
  show Go p.tables e below _ (s₁.setTop (mkF m 0 #[.val (.ref a1), .val (.int (1 : Int32)), .val .null, .unset, .unset] []))
  have K101 : Keep h0 h0 [a1] := (Keep.refl h0 [a1])
  refine Go.step (fun _ kt => XS.aloadN X0.here hx rfl (hb hby d22_0) rfl rfl kt) ?_
  show Go p.tables e below _ (s₁.setTop (mkF m 1 #[.val (.ref a1), .val (.int (1 : Int32)), .val .null, .unset, .unset] [.null]))
  refine Go.step (X0.instanceofNull hx (g := (mkF m 1 #[.val (.ref a1), .val (.int (1 : Int32)), .val .null, .unset, .unset] [.null])) rfl rfl (hb hby d22_1)) ?_
  show Go p.tables e below _ (s₁.setTop (mkF m 4 #[.val (.ref a1), .val (.int (1 : Int32)), .val .null, .unset, .unset] [(.int (0 : Int32))]))
  refine Go.step (fun _ kt => XS.ifYes X0.here hx rfl (pc0 := 4) (pc' := 18) rfl (hb hby d22_4) rfl ((if0 _ _).trans (teq (by decide : (0 : Int32) = (0 : Int32))).1) (by decide) (by decide) (XS.aconstNull X0.here hx rfl (hb hby d22_18) (XS.astoreN X0.here hx rfl (hb hby d22_19) rfl rfl (l' := #[.val (.ref a1), .val (.int (1 : Int32)), .val .null, .val .null, .unset]) rfl (XS.iloadN X0.here hx rfl (hb hby d22_20) rfl (XS.ifNo X0.here hx rfl (hb hby d22_21) rfl ((if0 _ _).trans (feq (by decide : ¬ ((1 : Int32) = (0 : Int32)))).1) (XS.aloadN X0.here hx rfl (hb hby d22_24) rfl rfl (XS.aloadN X0.here hx rfl (hb hby d22_25) rfl rfl kt))))))) ?_
  show Go p.tables e below _ (s₁.setTop (mkF m 26 #[.val (.ref a1), .val (.int (1 : Int32)), .val .null, .val .null, .unset] [.null, (.ref a1)]))
  obtain ⟨T102, h102, X102, e102, W102, st102⟩ := putF X0 hx hZ hown (host := "") (Or.inl (hw _ (List.mem_of_getElem? (i := 159) rfl))) Via.refl e0 Fi E1 (Or.inl (hw _ (List.mem_of_getElem? (i := 160) rfl))) (hw _ (List.mem_of_getElem? (i := 2) rfl)) (ty := (.object "com/example/ottawa/ottawa/KeptName")) (by decide) rfl rfl (g := (mkF m 26 #[.val (.ref a1), .val (.int (1 : Int32)), .val .null, .val .null, .unset] [.null, (.ref a1)])) rfl rfl (hb hby d22_26)
  refine Go.step st102 ?_
  have N102 := Fr.snoc X102 N0 g_a1
  have F103 : Exa Z h102 a1 "com/example/ottawa/ottawa/TagPattern" := (E1.wr W102)
  have F104 : Fld Z h102 a1 "com/example/ottawa/ottawa/TagPattern" "firstInside" "Lcom/example/ottawa/ottawa/KeptName;" .null := (Fi.same W102)
  have F105 : Fld Z h102 a1 "com/example/ottawa/ottawa/TagPattern" "firstAfter" "Lcom/example/ottawa/ottawa/KeptName;" u2 := (Fa.other W102 (Or.inr (slot_ne (Or.inl (hw _ (List.mem_of_getElem? (i := 162) rfl))) (Or.inl (hw _ (List.mem_of_getElem? (i := 160) rfl))) (by decide) (t := (.object "com/example/ottawa/ottawa/KeptName")) (t' := (.object "com/example/ottawa/ottawa/KeptName")) (by decide) (by decide))))
  have Z106 : n0 ≤ h102.size := (Nat.le_trans Z0 (Nat.le_of_eq W102.size.symm))
  have K107 : Keep h0 h102 [a1] := (K101.wr W102 (Or.inl (List.mem_of_getElem? (i := 0) rfl)))
  show Go p.tables e below _ (T102.setTop (mkF m 29 #[.val (.ref a1), .val (.int (1 : Int32)), .val .null, .val .null, .unset] []))
  refine Go.step (fun _ kt => XS.goto X102.here hx rfl (pc0 := 29) (pc' := 37) rfl (hb hby d22_29) (by decide) (by decide) kt) ?_
  show Go p.tables e below _ (T102.setTop (mkF m 37 #[.val (.ref a1), .val (.int (1 : Int32)), .val .null, .val .null, .unset] []))
  obtain ⟨fs, hr, hrun, hended, hW, hsame⟩ := X102.leave (v := none) (fun _ => rfl)
  refine ⟨_, _, X102.returnOut hx Bd.returns (hb hby d22_37) hr, hrun, hended, _, _, rfl, ?_, ⟨_, rfl⟩, hW, hsame.mono (by decide) (by decide)⟩
  show Qrmf5 Z a1 u1 u2 h0 n0 _ T102.heap _
  rw [e102]
  refine ⟨?_, N102, K107, F103, F104, F105⟩
  rfl
theorem pn_5 : plainName "com/example/ottawa/ottawa/TagPatternFollowPinLaw" = true := by first | (simp [plainName, overriddenIn]; done) | decide +kernel
theorem ef_rm0 (m : MethodId) (p1 : Int32) (p2 : Int32) (p3 : Int32) (cs : Int32) : entryFrame m #[(.int p1), (.int p2), (.int p3)] maxLocals = mkF m 0 #[.val (.int p1), .val (.int p2), .val (.int p3), .unset, .unset, .unset, .unset, .unset, .unset, .unset, .unset, .unset, .unset, .unset] [] := by first | (simp [entryFrame, mkF, argsToLocals, Value.category, maxLocals]; done) | rfl
def Qrm0 (Z : State) (p1 : Int32) (p2 : Int32) (p3 : Int32) (cs : Int32) (h0 : Heap) (n0 : Nat) (v : Option Value) (h : Heap) (L : List Loc) : Prop := v = some (.int 1) ∧ Fr n0 L
set_option maxRecDepth 65536 in
set_option maxHeartbeats 40000000 in
theorem rm0 (l : Launch) (Z : State) (a0 : Array Value) (hw : ∀ d ∈ tables_1, d.before a0 Z = true) (ws : List Jvm.Cond) (p1 : Int32) (p2 : Int32) (p3 : Int32) (cs : Int32) (h0 : Heap) (n0 : Nat) (Z0 : n0 ≤ h0.size) (S_cs : Sta Z h0 "java/lang/String" "COMPACT_STRINGS" "Z" (.int cs)) (hcs : ¬ cs = 0) :
    MetFree l x (head1 (Jvm.Cond.code x code maxLocals ret :: ws) room_1) (fun a U => a = #[(.int p1), (.int p2), (.int p3)] ∧ Z.Warmed39 U.vm ∧ U.heap = h0 ∧ CHv Z own_EL U.vm h0) (fun _ _ _ _ _ => True) (fun _ U o U' => ∃ v L, o = .returned v ∧ Qrm0 Z p1 p2 p3 cs h0 n0 v U'.heap L ∧ CHr Z own_EL U.vm U.heap U'.vm U'.heap ∧ ReturnedEndW U o U' L room_1.cells room_1.slots) := by
  refine MetFree.of_bodySF (plainFor_of_name pn_5) hisR ?_
  intro p e s m args below meth c s₁ Bd hml0 hP hK
  obtain ⟨rfl, hZ, hh, hCH⟩ := hP
  have hx := Bd.exec
  have hby := Bd.bytes
  have hml : c.maxLocals = 14 := hml0
  have hown : s.vm.findClass "com/example/ottawa/ottawa/TagPatternFollowPinLaw" = some m.cls := findClass_of_methodNamed Bd.named
  have hnm := (name_of_methodNamed Bd.named Bd.method).1
  have X0 : Stand p l e room_1 (s.setVm s.vm) m #[(.int p1), (.int p2), (.int p3)] below meth c s₁ [] 0 0 := Stand.of_body Bd
  have e0 : s₁.heap = h0 := by rw [← hh, Bd.state]; rfl
  have N0 := Fr.nil n0
  have hS0 : s.Since s.vm s.heap.size := (State.WarmedH.refl s).since _
  have hk0 : s.heap.size ≤ h0.size := Nat.le_of_eq (congrArg Array.size hh)
  have C0 := CHr.refl hCH
  show Go p.tables e below (fun o U' => ∃ v L, o = .returned v ∧ Qrm0 Z p1 p2 p3 cs h0 n0 v U'.heap L ∧ CHr Z own_EL s.vm s.heap U'.vm U'.heap ∧ ReturnedEndW s o U' L room_1.cells room_1.slots) _
  refine Go.step (fun t kt => castTop (ef_rm0 m p1 p2 p3 cs) kt) ?_
  show Go p.tables e below _ (s₁.setTop (mkF m 0 #[.val (.int p1), .val (.int p2), .val (.int p3), .unset, .unset, .unset, .unset, .unset, .unset, .unset, .unset, .unset, .unset, .unset] []))
  have J11 : ∀ (bi : Int32) (h_bi : bi = 0 ∨ bi = 1), Go p.tables e below (fun o U' => ∃ v L, o = .returned v ∧ Qrm0 Z p1 p2 p3 cs h0 n0 v U'.heap L ∧ CHr Z own_EL s.vm s.heap U'.vm U'.heap ∧ ReturnedEndW s o U' L room_1.cells room_1.slots) (s₁.setTop (mkF m 11 #[.val (.int p1), .val (.int p2), .val (.int p3), .unset, .unset, .unset, .unset, .unset, .unset, .unset, .unset, .unset, .unset, .unset] [(.int bi)])) := by
    intro bi h_bi
    show Go p.tables e below _ (s₁.setTop (mkF m 11 #[.val (.int p1), .val (.int p2), .val (.int p3), .unset, .unset, .unset, .unset, .unset, .unset, .unset, .unset, .unset, .unset, .unset] [(.int bi)]))
    refine Go.step (fun _ kt => XS.istoreN X0.here hx rfl (hb hby at_11) rfl (l' := #[.val (.int p1), .val (.int p2), .val (.int p3), .val (.int bi), .unset, .unset, .unset, .unset, .unset, .unset, .unset, .unset, .unset, .unset]) rfl kt) ?_
    show Go p.tables e below _ (s₁.setTop (mkF m 12 #[.val (.int p1), .val (.int p2), .val (.int p3), .val (.int bi), .unset, .unset, .unset, .unset, .unset, .unset, .unset, .unset, .unset, .unset] []))
    have J23 : ∀ (si : Int32) (h_si : si = 0 ∨ si = 1), Go p.tables e below (fun o U' => ∃ v L, o = .returned v ∧ Qrm0 Z p1 p2 p3 cs h0 n0 v U'.heap L ∧ CHr Z own_EL s.vm s.heap U'.vm U'.heap ∧ ReturnedEndW s o U' L room_1.cells room_1.slots) (s₁.setTop (mkF m 23 #[.val (.int p1), .val (.int p2), .val (.int p3), .val (.int bi), .unset, .unset, .unset, .unset, .unset, .unset, .unset, .unset, .unset, .unset] [(.int si)])) := by
      intro si h_si
      show Go p.tables e below _ (s₁.setTop (mkF m 23 #[.val (.int p1), .val (.int p2), .val (.int p3), .val (.int bi), .unset, .unset, .unset, .unset, .unset, .unset, .unset, .unset, .unset, .unset] [(.int si)]))
      refine Go.step (fun _ kt => XS.istore X0.here hx rfl (hb hby at_23) rfl (l' := #[.val (.int p1), .val (.int p2), .val (.int p3), .val (.int bi), .val (.int si), .unset, .unset, .unset, .unset, .unset, .unset, .unset, .unset, .unset]) rfl kt) ?_
      show Go p.tables e below _ (s₁.setTop (mkF m 25 #[.val (.int p1), .val (.int p2), .val (.int p3), .val (.int bi), .val (.int si), .unset, .unset, .unset, .unset, .unset, .unset, .unset, .unset, .unset] []))
      have J36 : ∀ (sa : Int32) (h_sa : sa = 0 ∨ sa = 1), Go p.tables e below (fun o U' => ∃ v L, o = .returned v ∧ Qrm0 Z p1 p2 p3 cs h0 n0 v U'.heap L ∧ CHr Z own_EL s.vm s.heap U'.vm U'.heap ∧ ReturnedEndW s o U' L room_1.cells room_1.slots) (s₁.setTop (mkF m 36 #[.val (.int p1), .val (.int p2), .val (.int p3), .val (.int bi), .val (.int si), .unset, .unset, .unset, .unset, .unset, .unset, .unset, .unset, .unset] [(.int sa)])) := by
        intro sa h_sa
        show Go p.tables e below _ (s₁.setTop (mkF m 36 #[.val (.int p1), .val (.int p2), .val (.int p3), .val (.int bi), .val (.int si), .unset, .unset, .unset, .unset, .unset, .unset, .unset, .unset, .unset] [(.int sa)]))
        refine Go.step (fun _ kt => XS.istore X0.here hx rfl (hb hby at_36) rfl (l' := #[.val (.int p1), .val (.int p2), .val (.int p3), .val (.int bi), .val (.int si), .val (.int sa), .unset, .unset, .unset, .unset, .unset, .unset, .unset, .unset]) rfl (XS.iloadN X0.here hx rfl (hb hby at_38) rfl kt)) ?_
        show Go p.tables e below _ (s₁.setTop (mkF m 39 #[.val (.int p1), .val (.int p2), .val (.int p3), .val (.int bi), .val (.int si), .val (.int sa), .unset, .unset, .unset, .unset, .unset, .unset, .unset, .unset] [(.int p3)]))
        refine Go.step (X0.ldcInt hx hown (mvT hZ (hw _ (List.mem_of_getElem? (i := 0) rfl))) (g := (mkF m 39 #[.val (.int p1), .val (.int p2), .val (.int p3), .val (.int bi), .val (.int si), .val (.int sa), .unset, .unset, .unset, .unset, .unset, .unset, .unset, .unset] [(.int p3)])) rfl (hb hby at_39)) ?_
        show Go p.tables e below _ (s₁.setTop (mkF m 41 #[.val (.int p1), .val (.int p2), .val (.int p3), .val (.int bi), .val (.int si), .val (.int sa), .unset, .unset, .unset, .unset, .unset, .unset, .unset, .unset] [(.int (2147483647 : Int32)), (.int p3)]))
        refine Go.step (fun _ kt => XS.iand X0.here hx rfl (hb hby at_41) rfl (XS.iconst X0.here hx rfl (hb hby at_42) kt)) ?_
        show Go p.tables e below _ (s₁.setTop (mkF m 43 #[.val (.int p1), .val (.int p2), .val (.int p3), .val (.int bi), .val (.int si), .val (.int sa), .unset, .unset, .unset, .unset, .unset, .unset, .unset, .unset] [(.int (3 : Int32)), (.int (p3 &&& (2147483647 : Int32)))]))
        refine Go.step (fun _ kt => iremM (g := (mkF m 43 #[.val (.int p1), .val (.int p2), .val (.int p3), .val (.int bi), .val (.int si), .val (.int sa), .unset, .unset, .unset, .unset, .unset, .unset, .unset, .unset] [(.int (3 : Int32)), (.int (p3 &&& (2147483647 : Int32)))])) X0 hx rfl (hb hby at_43) rfl (by decide) kt) ?_
        show Go p.tables e below _ (s₁.setTop (mkF m 44 #[.val (.int p1), .val (.int p2), .val (.int p3), .val (.int bi), .val (.int si), .val (.int sa), .unset, .unset, .unset, .unset, .unset, .unset, .unset, .unset] [(.int ((p3 &&& (2147483647 : Int32)) % (3 : Int32)))]))
        obtain ⟨wh, e_wh⟩ : ∃ nm_, nm_ = ((p3 &&& (2147483647 : Int32)) % (3 : Int32)) := ⟨_, rfl⟩
        rw [← e_wh]
        show Go p.tables e below _ (s₁.setTop (mkF m 44 #[.val (.int p1), .val (.int p2), .val (.int p3), .val (.int bi), .val (.int si), .val (.int sa), .unset, .unset, .unset, .unset, .unset, .unset, .unset, .unset] [(.int wh)]))
        refine Go.step (fun _ kt => XS.istore X0.here hx rfl (hb hby at_44) rfl (l' := #[.val (.int p1), .val (.int p2), .val (.int p3), .val (.int bi), .val (.int si), .val (.int sa), .val (.int wh), .unset, .unset, .unset, .unset, .unset, .unset, .unset]) rfl kt) ?_
        show Go p.tables e below _ (s₁.setTop (mkF m 46 #[.val (.int p1), .val (.int p2), .val (.int p3), .val (.int bi), .val (.int si), .val (.int sa), .val (.int wh), .unset, .unset, .unset, .unset, .unset, .unset, .unset] []))
        obtain ⟨T101, h101, X101, e101, E101, A101, D101, -, st101⟩ := newO X0 hx hZ hown (hw _ (List.mem_of_getElem? (i := 1) rfl)) (hw _ (List.mem_of_getElem? (i := 2) rfl)) (hw _ (List.mem_of_getElem? (i := 3) rfl)) e0 (g := (mkF m 46 #[.val (.int p1), .val (.int p2), .val (.int p3), .val (.int bi), .val (.int si), .val (.int sa), .val (.int wh), .unset, .unset, .unset, .unset, .unset, .unset, .unset] [])) rfl (hb hby at_46) (by decide) (by decide)
        obtain ⟨b101, g101⟩ : ∃ z, z = h0.size := ⟨_, rfl⟩
        rw [← g101] at A101 D101 st101
        refine Go.step st101 ?_
        have g_b101 : n0 ≤ b101 := Nat.le_trans Z0 (Nat.le_of_eq g101.symm)
        have F102 : Sta Z h101 "java/lang/String" "COMPACT_STRINGS" "Z" (.int cs) := (S_cs.ext E101)
        have Z103 : n0 ≤ h101.size := (Nat.le_trans Z0 E101.1)
        have hk104 : _ ≤ h101.size := (Nat.le_trans hk0 E101.1)
        have C105 := (C0.trans (CHr.ext E101 C0.1))
        have F106 : Fld Z h101 b101 "com/example/ottawa/ottawa/TagPattern" "names" "[Lcom/example/ottawa/ottawa/KeptName;" .null := D101 (Or.inl (hw _ (List.mem_of_getElem? (i := 13) rfl))) (ty := (.array (.object "com/example/ottawa/ottawa/KeptName"))) (by decide)
        have F107 : Fld Z h101 b101 "com/example/ottawa/ottawa/TagPattern" "definitions" "[Lcom/example/ottawa/ottawa/AttributeDefinition;" .null := D101 (Or.inl (hw _ (List.mem_of_getElem? (i := 17) rfl))) (ty := (.array (.object "com/example/ottawa/ottawa/AttributeDefinition"))) (by decide)
        have F108 : Fld Z h101 b101 "com/example/ottawa/ottawa/TagPattern" "elementType" "Lcom/example/ottawa/ottawa/ElementType;" .null := D101 (Or.inr (hw _ (List.mem_of_getElem? (i := 19) rfl))) (ty := (.object "com/example/ottawa/ottawa/ElementType")) (by decide)
        have F109 : Fld Z h101 b101 "com/example/ottawa/ottawa/TagPattern" "firstInside" "Lcom/example/ottawa/ottawa/KeptName;" .null := D101 (Or.inl (hw _ (List.mem_of_getElem? (i := 160) rfl))) (ty := (.object "com/example/ottawa/ottawa/KeptName")) (by decide)
        have F110 : Fld Z h101 b101 "com/example/ottawa/ottawa/TagPattern" "firstAfter" "Lcom/example/ottawa/ottawa/KeptName;" .null := D101 (Or.inl (hw _ (List.mem_of_getElem? (i := 162) rfl))) (ty := (.object "com/example/ottawa/ottawa/KeptName")) (by decide)
        show Go p.tables e below _ (T101.setTop (mkF m 49 #[.val (.int p1), .val (.int p2), .val (.int p3), .val (.int bi), .val (.int si), .val (.int sa), .val (.int wh), .unset, .unset, .unset, .unset, .unset, .unset, .unset] [(.ref b101)]))
        refine Go.step (fun _ kt => XS.dup X101.here hx rfl (hb hby at_49) rfl rfl (XS.aconstNull X101.here hx rfl (hb hby at_50) kt)) ?_
        show Go p.tables e below _ (T101.setTop (mkF m 51 #[.val (.int p1), .val (.int p2), .val (.int p3), .val (.int bi), .val (.int si), .val (.int sa), .val (.int wh), .unset, .unset, .unset, .unset, .unset, .unset, .unset] [.null, (.ref b101), (.ref b101)]))
        obtain ⟨_, _, ⟨T111, L111, k111, n111⟩, -, X111, ⟨Lc111, hQ111, l111, y111, z111⟩, st111⟩ := X101.specialBack hx (y := (⟨"com/example/ottawa/ottawa/TagPattern", "<init>", "(Lcom/example/ottawa/ottawa/ElementType;)V"⟩ : MethodName)) rfl hown (mvT hZ (hw _ (List.mem_of_getElem? (i := 4) rfl))) (mvT hZ (hw _ (List.mem_of_getElem? (i := 5) rfl))) (mvT hZ (hw _ (List.mem_of_getElem? (i := 6) rfl))) (by decide) (backOf (W := 1) (rm1 l Z a0 hw [] b101 .null .null .null h101 n0 Z103 A101 F106 F107 F108 F109 F110 g_b101) hZ (hw _ (List.mem_of_getElem? (i := 6) rfl)) (hw _ (List.mem_of_getElem? (i := 3) rfl)) (by decide) (by decide)) (g := (mkF m 51 #[.val (.int p1), .val (.int p2), .val (.int p3), .val (.int bi), .val (.int si), .val (.int sa), .val (.int wh), .unset, .unset, .unset, .unset, .unset, .unset, .unset] [.null, (.ref b101), (.ref b101)])) rfl (by rw [hml]; rfl) (Steps.refl _) (a := b101) (argsL := [.null]) (rest := [(.ref b101)]) (lenOf pd_0 rfl) rfl (by show 2 * 0 + _ ≤ _; exact Nat.le_of_eq rfl) (hb hby at_51) (fun _ _ => ⟨rfl, e101, (by decide : 1 + 2 ≤ _), (by decide : 5 + 8 ≤ _)⟩)
        dsimp only [Pt.U, Pt.locs, Pt.cells, Pt.slots] at X111 l111 y111 z111 st111 hQ111
        subst l111 y111 z111
        obtain ⟨rfl, N111q, Kq111, P112, P113, P114⟩ := hQ111
        have F115 : Sta Z T111.heap "java/lang/String" "COMPACT_STRINGS" "Z" (.int cs) := (own_sta_keep F102 A101 Kq111)
        have F116 : Exa Z T111.heap b101 "com/example/ottawa/ottawa/TagPattern" := (A101.keep Kq111)
        have Z117 : n0 ≤ T111.heap.size := (Nat.le_trans Z103 Kq111.1)
        have hk118 : _ ≤ T111.heap.size := (Nat.le_trans hk104 Kq111.1)
        have C119 := (C105.trans (CHr.keep Kq111 (by intro x hx; cases List.mem_singleton.mp hx; exact (Safe.exa hZ.alike A101 (by decide) (by decide))) C105.1))
        have N111 := Fr.app N0 N111q
        refine Go.step (fun _ kt => st111.trans kt) ?_
        show Go p.tables e below _ (T111.setTop (mkF m 54 #[.val (.int p1), .val (.int p2), .val (.int p3), .val (.int bi), .val (.int si), .val (.int sa), .val (.int wh), .unset, .unset, .unset, .unset, .unset, .unset, .unset] [(.ref b101)]))
        refine Go.step (fun _ kt => XS.astore X111.here hx rfl (hb hby at_54) rfl rfl (l' := #[.val (.int p1), .val (.int p2), .val (.int p3), .val (.int bi), .val (.int si), .val (.int sa), .val (.int wh), .val (.ref b101), .unset, .unset, .unset, .unset, .unset, .unset]) rfl kt) ?_
        show Go p.tables e below _ (T111.setTop (mkF m 56 #[.val (.int p1), .val (.int p2), .val (.int p3), .val (.int bi), .val (.int si), .val (.int sa), .val (.int wh), .val (.ref b101), .unset, .unset, .unset, .unset, .unset, .unset] []))
        obtain ⟨T120, h120, X120, e120, E120, A120, D120, -, st120⟩ := newO X111 hx hZ hown (hw _ (List.mem_of_getElem? (i := 20) rfl)) (hw _ (List.mem_of_getElem? (i := 21) rfl)) (hw _ (List.mem_of_getElem? (i := 22) rfl)) rfl (g := (mkF m 56 #[.val (.int p1), .val (.int p2), .val (.int p3), .val (.int bi), .val (.int si), .val (.int sa), .val (.int wh), .val (.ref b101), .unset, .unset, .unset, .unset, .unset, .unset] [])) rfl (hb hby at_56) (by decide) (by decide)
        obtain ⟨b120, g120⟩ : ∃ z, z = T111.heap.size := ⟨_, rfl⟩
        rw [← g120] at A120 D120 st120
        refine Go.step st120 ?_
        have ne_b101_b120 : b101 ≠ b120 := Nat.ne_of_lt (Nat.lt_of_lt_of_le P112.lt (Nat.le_of_eq g120.symm))
        have g_b120 : n0 ≤ b120 := Nat.le_trans Z117 (Nat.le_of_eq g120.symm)
        have F121 : Sta Z h120 "java/lang/String" "COMPACT_STRINGS" "Z" (.int cs) := (F115.ext E120)
        have F122 : Exa Z h120 b101 "com/example/ottawa/ottawa/TagPattern" := (P112.ext E120)
        have F123 : Fld Z h120 b101 "com/example/ottawa/ottawa/TagPattern" "firstInside" "Lcom/example/ottawa/ottawa/KeptName;" .null := (P113.ext E120)
        have F124 : Fld Z h120 b101 "com/example/ottawa/ottawa/TagPattern" "firstAfter" "Lcom/example/ottawa/ottawa/KeptName;" .null := (P114.ext E120)
        have Z125 : n0 ≤ h120.size := (Nat.le_trans Z117 E120.1)
        have hk126 : _ ≤ h120.size := (Nat.le_trans hk118 E120.1)
        have C127 := (C119.trans (CHr.ext E120 C119.1))
        have F128 : Fld Z h120 b120 "com/example/ottawa/ottawa/Name" "text" "Ljava/lang/String;" .null := D120 (Or.inr (hw _ (List.mem_of_getElem? (i := 41) rfl))) (ty := (.object "java/lang/String")) (by decide)
        have F129 : Fld Z h120 b120 "com/example/ottawa/ottawa/Name" "hash" "I" (.int (0 : Int32)) := D120 (Or.inr (hw _ (List.mem_of_getElem? (i := 43) rfl))) (ty := .int) (by decide)
        have F130 : Fld Z h120 b120 "com/example/ottawa/ottawa/Name" "length" "I" (.int (0 : Int32)) := D120 (Or.inr (hw _ (List.mem_of_getElem? (i := 58) rfl))) (ty := .int) (by decide)
        have F131 : Fld Z h120 b120 "com/example/ottawa/ottawa/Name" "colon" "I" (.int (0 : Int32)) := D120 (Or.inr (hw _ (List.mem_of_getElem? (i := 93) rfl))) (ty := .int) (by decide)
        have F132 : Fld Z h120 b120 "com/example/ottawa/ottawa/Name" "qName" "Z" (.int (0 : Int32)) := D120 (Or.inr (hw _ (List.mem_of_getElem? (i := 95) rfl))) (ty := .boolean) (by decide)
        have F133 : Fld Z h120 b120 "com/example/ottawa/ottawa/Name" "namespaceDeclaration" "Z" (.int (0 : Int32)) := D120 (Or.inr (hw _ (List.mem_of_getElem? (i := 108) rfl))) (ty := .boolean) (by decide)
        have F134 : Fld Z h120 b120 "com/example/ottawa/ottawa/KeptName" "stamp" "J" (.long (0 : Int64)) := D120 (Or.inl (hw _ (List.mem_of_getElem? (i := 111) rfl))) (ty := .long) (by decide)
        have F135 : Fld Z h120 b120 "com/example/ottawa/ottawa/KeptName" "chars" "[C" .null := D120 (Or.inr (hw _ (List.mem_of_getElem? (i := 125) rfl))) (ty := (.array .char)) (by decide)
        have F136 : Fld Z h120 b120 "com/example/ottawa/ottawa/KeptName" "prefix" "Ljava/lang/String;" .null := D120 (Or.inr (hw _ (List.mem_of_getElem? (i := 133) rfl))) (ty := (.object "java/lang/String")) (by decide)
        have F137 : Fld Z h120 b120 "com/example/ottawa/ottawa/KeptName" "localPart" "Ljava/lang/String;" .null := D120 (Or.inr (hw _ (List.mem_of_getElem? (i := 139) rfl))) (ty := (.object "java/lang/String")) (by decide)
        have F138 : Fld Z h120 b120 "com/example/ottawa/ottawa/KeptName" "place" "I" (.int (0 : Int32)) := D120 (Or.inr (hw _ (List.mem_of_getElem? (i := 141) rfl))) (ty := .int) (by decide)
        show Go p.tables e below _ (T120.setTop (mkF m 59 #[.val (.int p1), .val (.int p2), .val (.int p3), .val (.int bi), .val (.int si), .val (.int sa), .val (.int wh), .val (.ref b101), .unset, .unset, .unset, .unset, .unset, .unset] [(.ref b120)]))
        refine Go.step (fun _ kt => XS.dup X120.here hx rfl (hb hby at_59) rfl rfl kt) ?_
        show Go p.tables e below _ (T120.setTop (mkF m 60 #[.val (.int p1), .val (.int p2), .val (.int p3), .val (.int bi), .val (.int si), .val (.int sa), .val (.int wh), .val (.ref b101), .unset, .unset, .unset, .unset, .unset, .unset] [(.ref b120), (.ref b120)]))
        obtain ⟨b139, T139, h139, k139, ba139, kc139, X139, e139, E139, hS139, hk139, hZ, hown, Ex139, Fc139, Fv139, Vb139, lt139, ltb139, Cq139, Li139, Ne139, st139⟩ := ldcCH (s := s) (EL := own_EL) X120 hx hZ hown (hw _ (List.mem_of_getElem? (i := 23) rfl)) (own_wS hw) e120 hS0 hk126 (own_EW hw) (by decide) C127.1 (vs := [(.int (97 : Int32))]) (z := (1 : Int32)) (by decide) (by decide) rfl (g := (mkF m 60 #[.val (.int p1), .val (.int p2), .val (.int p3), .val (.int bi), .val (.int si), .val (.int sa), .val (.int wh), .val (.ref b101), .unset, .unset, .unset, .unset, .unset, .unset] [(.ref b120), (.ref b120)])) rfl (hb hby at_60) (n := 4) (by decide) (by decide) (by decide) (by decide)
        refine Go.step st139 ?_
        have F140 : Sta Z h139 "java/lang/String" "COMPACT_STRINGS" "Z" (.int cs) := (F121.ext E139)
        have F141 : Exa Z h139 b101 "com/example/ottawa/ottawa/TagPattern" := (F122.ext E139)
        have F142 : Fld Z h139 b101 "com/example/ottawa/ottawa/TagPattern" "firstInside" "Lcom/example/ottawa/ottawa/KeptName;" .null := (F123.ext E139)
        have F143 : Fld Z h139 b101 "com/example/ottawa/ottawa/TagPattern" "firstAfter" "Lcom/example/ottawa/ottawa/KeptName;" .null := (F124.ext E139)
        have F144 : Exa Z h139 b120 "com/example/ottawa/ottawa/KeptName" := (A120.ext E139)
        have F145 : Fld Z h139 b120 "com/example/ottawa/ottawa/Name" "text" "Ljava/lang/String;" .null := (F128.ext E139)
        have F146 : Fld Z h139 b120 "com/example/ottawa/ottawa/Name" "hash" "I" (.int (0 : Int32)) := (F129.ext E139)
        have F147 : Fld Z h139 b120 "com/example/ottawa/ottawa/Name" "length" "I" (.int (0 : Int32)) := (F130.ext E139)
        have F148 : Fld Z h139 b120 "com/example/ottawa/ottawa/Name" "colon" "I" (.int (0 : Int32)) := (F131.ext E139)
        have F149 : Fld Z h139 b120 "com/example/ottawa/ottawa/Name" "qName" "Z" (.int (0 : Int32)) := (F132.ext E139)
        have F150 : Fld Z h139 b120 "com/example/ottawa/ottawa/Name" "namespaceDeclaration" "Z" (.int (0 : Int32)) := (F133.ext E139)
        have F151 : Fld Z h139 b120 "com/example/ottawa/ottawa/KeptName" "stamp" "J" (.long (0 : Int64)) := (F134.ext E139)
        have F152 : Fld Z h139 b120 "com/example/ottawa/ottawa/KeptName" "chars" "[C" .null := (F135.ext E139)
        have F153 : Fld Z h139 b120 "com/example/ottawa/ottawa/KeptName" "prefix" "Ljava/lang/String;" .null := (F136.ext E139)
        have F154 : Fld Z h139 b120 "com/example/ottawa/ottawa/KeptName" "localPart" "Ljava/lang/String;" .null := (F137.ext E139)
        have F155 : Fld Z h139 b120 "com/example/ottawa/ottawa/KeptName" "place" "I" (.int (0 : Int32)) := (F138.ext E139)
        have Z156 : n0 ≤ h139.size := (Nat.le_trans Z125 E139.1)
        have C157 := (C127.trans Cq139)
        have nq158 := Ne139 _ (Safe.exa hZ.alike F141 (by decide) (by decide))
        have nq159 := Ne139 _ (Safe.exa hZ.alike F144 (by decide) (by decide))
        show Go p.tables e below _ (T139.setTop (mkF m 62 #[.val (.int p1), .val (.int p2), .val (.int p3), .val (.int bi), .val (.int si), .val (.int sa), .val (.int wh), .val (.ref b101), .unset, .unset, .unset, .unset, .unset, .unset] [(.ref b139), (.ref b120), (.ref b120)]))
        refine Go.step (fun _ kt => XS.bipush X139.here hx rfl (hb hby at_62) (XS.iconst X139.here hx rfl (hb hby at_64) kt)) ?_
        show Go p.tables e below _ (T139.setTop (mkF m 65 #[.val (.int p1), .val (.int p2), .val (.int p3), .val (.int bi), .val (.int si), .val (.int sa), .val (.int wh), .val (.ref b101), .unset, .unset, .unset, .unset, .unset, .unset] [(.int (0 : Int32)), (.int (97 : Int32)), (.ref b139), (.ref b120), (.ref b120)]))
        obtain ⟨_, _, ⟨T160, L160, k160, n160⟩, -, X160, hSq160, hgq160, ⟨Lc160, hQ160, l160, y160, z160, Cq160⟩, st160⟩ := X139.specialBackS hx (y := (⟨"com/example/ottawa/ottawa/KeptName", "<init>", "(Ljava/lang/String;II)V"⟩ : MethodName)) rfl hown (mvT hZ (hw _ (List.mem_of_getElem? (i := 31) rfl))) (mvT hZ (hw _ (List.mem_of_getElem? (i := 32) rfl))) (mvT hZ (hw _ (List.mem_of_getElem? (i := 33) rfl))) (by decide) (backOfSH (s := s) (EL := own_EL) (W := 1) (rmk1 l Z a0 hw [] b120 b139 (97 : Int32) (0 : Int32) .null (.int (0 : Int32)) (.int (0 : Int32)) (.int (0 : Int32)) (.int (0 : Int32)) (.int (0 : Int32)) (.long (0 : Int64)) .null .null .null (.int (0 : Int32)) ba139 kc139 cs (97 : Int32) h139 n0 Z156 F144 F145 F146 F147 F148 F149 F150 F151 F152 F153 F154 F155 Ex139 Fc139 Fv139 Vb139 F140 g_b120 hcs (Ne.symm nq159.1) (Ne.symm nq159.2) (by decide)) hZ (hw _ (List.mem_of_getElem? (i := 33) rfl)) (hw _ (List.mem_of_getElem? (i := 22) rfl)) (by decide) (by decide) (own_EW hw) C157.1) (g := (mkF m 65 #[.val (.int p1), .val (.int p2), .val (.int p3), .val (.int bi), .val (.int si), .val (.int sa), .val (.int wh), .val (.ref b101), .unset, .unset, .unset, .unset, .unset, .unset] [(.int (0 : Int32)), (.int (97 : Int32)), (.ref b139), (.ref b120), (.ref b120)])) rfl (by rw [hml]; rfl) (Steps.refl _) (a := b120) (argsL := [(.ref b139), (.int (97 : Int32)), (.int (0 : Int32))]) (rest := [(.ref b120)]) (lenOf pd_15 rfl) rfl (by show 2 * 0 + _ ≤ _; exact Nat.le_of_eq rfl) (hb hby at_65) (fun _ _ => ⟨rfl, e139, (by decide : 6 + 7 ≤ _), (by decide : 35 + 53 ≤ _)⟩)
        dsimp only [Pt.U, Pt.locs, Pt.cells, Pt.slots] at X160 l160 y160 z160 st160 hQ160 hSq160 hgq160
        subst l160 y160 z160
        obtain ⟨X160, hS160, hZ, hown⟩ := rebS hS139 (by rw [e139]; exact hk139) X160 hSq160 hgq160 hZ hown
        have hk160 : T160.heap.size ≤ T160.heap.size := Nat.le_refl _
        dsimp only [Pt.U] at Cq160
        obtain ⟨rfl, N160q, Kq160, P161⟩ := hQ160
        have F162 : Sta Z T160.heap "java/lang/String" "COMPACT_STRINGS" "Z" (.int cs) := (own_sta_keep F140 F144 Kq160)
        have F163 : Exa Z T160.heap b101 "com/example/ottawa/ottawa/TagPattern" := (F141.keep Kq160)
        have F164 : Fld Z T160.heap b101 "com/example/ottawa/ottawa/TagPattern" "firstInside" "Lcom/example/ottawa/ottawa/KeptName;" .null := (F142.keep Kq160 (fun q => ne_b101_b120 (List.mem_singleton.mp q)))
        have F165 : Fld Z T160.heap b101 "com/example/ottawa/ottawa/TagPattern" "firstAfter" "Lcom/example/ottawa/ottawa/KeptName;" .null := (F143.keep Kq160 (fun q => ne_b101_b120 (List.mem_singleton.mp q)))
        have F166 : Exa Z T160.heap b120 "com/example/ottawa/ottawa/KeptName" := (F144.keep Kq160)
        have F167 : Exa Z T160.heap b139 "java/lang/String" := (Ex139.keep Kq160)
        have F168 : Fld Z T160.heap b139 "java/lang/String" "coder" "B" (.int (0 : Int32)) := (Fc139.keep Kq160 (fun q => (Ne.symm nq159.1) (List.mem_singleton.mp q)))
        have F169 : Fld Z T160.heap b139 "java/lang/String" "value" "[B" (.ref ba139) := (Fv139.keep Kq160 (fun q => (Ne.symm nq159.1) (List.mem_singleton.mp q)))
        have F170 : Arv Z T160.heap ba139 kc139 .byte (1 : Int32) [(.int (97 : Int32))] (.int (0 : Int32)) := (Vb139.keep Kq160 (fun q => (Ne.symm nq159.2) (List.mem_singleton.mp q)))
        have Z171 : n0 ≤ T160.heap.size := (Nat.le_trans Z156 Kq160.1)
        have C172 := (C157.trans Cq160)
        have N160 := Fr.app N111 N160q
        refine Go.step (fun _ kt => st160.trans kt) ?_
        show Go p.tables e below _ (T160.setTop (mkF m 68 #[.val (.int p1), .val (.int p2), .val (.int p3), .val (.int bi), .val (.int si), .val (.int sa), .val (.int wh), .val (.ref b101), .unset, .unset, .unset, .unset, .unset, .unset] [(.ref b120)]))
        refine Go.step (fun _ kt => XS.astore X160.here hx rfl (hb hby at_68) rfl rfl (l' := #[.val (.int p1), .val (.int p2), .val (.int p3), .val (.int bi), .val (.int si), .val (.int sa), .val (.int wh), .val (.ref b101), .val (.ref b120), .unset, .unset, .unset, .unset, .unset]) rfl kt) ?_
        show Go p.tables e below _ (T160.setTop (mkF m 70 #[.val (.int p1), .val (.int p2), .val (.int p3), .val (.int bi), .val (.int si), .val (.int sa), .val (.int wh), .val (.ref b101), .val (.ref b120), .unset, .unset, .unset, .unset, .unset] []))
        obtain ⟨T173, h173, X173, e173, E173, A173, D173, -, st173⟩ := newO X160 hx hZ hown (hw _ (List.mem_of_getElem? (i := 20) rfl)) (hw _ (List.mem_of_getElem? (i := 21) rfl)) (hw _ (List.mem_of_getElem? (i := 22) rfl)) rfl (g := (mkF m 70 #[.val (.int p1), .val (.int p2), .val (.int p3), .val (.int bi), .val (.int si), .val (.int sa), .val (.int wh), .val (.ref b101), .val (.ref b120), .unset, .unset, .unset, .unset, .unset] [])) rfl (hb hby at_70) (by decide) (by decide)
        obtain ⟨b173, g173⟩ : ∃ z, z = T160.heap.size := ⟨_, rfl⟩
        rw [← g173] at A173 D173 st173
        refine Go.step st173 ?_
        have ne_b101_b173 : b101 ≠ b173 := Nat.ne_of_lt (Nat.lt_of_lt_of_le F163.lt (Nat.le_of_eq g173.symm))
        have ne_b120_b173 : b120 ≠ b173 := Nat.ne_of_lt (Nat.lt_of_lt_of_le P161.lt (Nat.le_of_eq g173.symm))
        have g_b173 : n0 ≤ b173 := Nat.le_trans Z171 (Nat.le_of_eq g173.symm)
        have F174 : Sta Z h173 "java/lang/String" "COMPACT_STRINGS" "Z" (.int cs) := (F162.ext E173)
        have F175 : Exa Z h173 b101 "com/example/ottawa/ottawa/TagPattern" := (F163.ext E173)
        have F176 : Fld Z h173 b101 "com/example/ottawa/ottawa/TagPattern" "firstInside" "Lcom/example/ottawa/ottawa/KeptName;" .null := (F164.ext E173)
        have F177 : Fld Z h173 b101 "com/example/ottawa/ottawa/TagPattern" "firstAfter" "Lcom/example/ottawa/ottawa/KeptName;" .null := (F165.ext E173)
        have F178 : Exa Z h173 b120 "com/example/ottawa/ottawa/KeptName" := (P161.ext E173)
        have Z179 : n0 ≤ h173.size := (Nat.le_trans Z171 E173.1)
        have hk180 : _ ≤ h173.size := (Nat.le_trans hk160 E173.1)
        have C181 := (C172.trans (CHr.ext E173 C172.1))
        have F182 : Fld Z h173 b173 "com/example/ottawa/ottawa/Name" "text" "Ljava/lang/String;" .null := D173 (Or.inr (hw _ (List.mem_of_getElem? (i := 41) rfl))) (ty := (.object "java/lang/String")) (by decide)
        have F183 : Fld Z h173 b173 "com/example/ottawa/ottawa/Name" "hash" "I" (.int (0 : Int32)) := D173 (Or.inr (hw _ (List.mem_of_getElem? (i := 43) rfl))) (ty := .int) (by decide)
        have F184 : Fld Z h173 b173 "com/example/ottawa/ottawa/Name" "length" "I" (.int (0 : Int32)) := D173 (Or.inr (hw _ (List.mem_of_getElem? (i := 58) rfl))) (ty := .int) (by decide)
        have F185 : Fld Z h173 b173 "com/example/ottawa/ottawa/Name" "colon" "I" (.int (0 : Int32)) := D173 (Or.inr (hw _ (List.mem_of_getElem? (i := 93) rfl))) (ty := .int) (by decide)
        have F186 : Fld Z h173 b173 "com/example/ottawa/ottawa/Name" "qName" "Z" (.int (0 : Int32)) := D173 (Or.inr (hw _ (List.mem_of_getElem? (i := 95) rfl))) (ty := .boolean) (by decide)
        have F187 : Fld Z h173 b173 "com/example/ottawa/ottawa/Name" "namespaceDeclaration" "Z" (.int (0 : Int32)) := D173 (Or.inr (hw _ (List.mem_of_getElem? (i := 108) rfl))) (ty := .boolean) (by decide)
        have F188 : Fld Z h173 b173 "com/example/ottawa/ottawa/KeptName" "stamp" "J" (.long (0 : Int64)) := D173 (Or.inl (hw _ (List.mem_of_getElem? (i := 111) rfl))) (ty := .long) (by decide)
        have F189 : Fld Z h173 b173 "com/example/ottawa/ottawa/KeptName" "chars" "[C" .null := D173 (Or.inr (hw _ (List.mem_of_getElem? (i := 125) rfl))) (ty := (.array .char)) (by decide)
        have F190 : Fld Z h173 b173 "com/example/ottawa/ottawa/KeptName" "prefix" "Ljava/lang/String;" .null := D173 (Or.inr (hw _ (List.mem_of_getElem? (i := 133) rfl))) (ty := (.object "java/lang/String")) (by decide)
        have F191 : Fld Z h173 b173 "com/example/ottawa/ottawa/KeptName" "localPart" "Ljava/lang/String;" .null := D173 (Or.inr (hw _ (List.mem_of_getElem? (i := 139) rfl))) (ty := (.object "java/lang/String")) (by decide)
        have F192 : Fld Z h173 b173 "com/example/ottawa/ottawa/KeptName" "place" "I" (.int (0 : Int32)) := D173 (Or.inr (hw _ (List.mem_of_getElem? (i := 141) rfl))) (ty := .int) (by decide)
        show Go p.tables e below _ (T173.setTop (mkF m 73 #[.val (.int p1), .val (.int p2), .val (.int p3), .val (.int bi), .val (.int si), .val (.int sa), .val (.int wh), .val (.ref b101), .val (.ref b120), .unset, .unset, .unset, .unset, .unset] [(.ref b173)]))
        refine Go.step (fun _ kt => XS.dup X173.here hx rfl (hb hby at_73) rfl rfl kt) ?_
        show Go p.tables e below _ (T173.setTop (mkF m 74 #[.val (.int p1), .val (.int p2), .val (.int p3), .val (.int bi), .val (.int si), .val (.int sa), .val (.int wh), .val (.ref b101), .val (.ref b120), .unset, .unset, .unset, .unset, .unset] [(.ref b173), (.ref b173)]))
        obtain ⟨b193, T193, h193, k193, ba193, kc193, X193, e193, E193, hS193, hk193, hZ, hown, Ex193, Fc193, Fv193, Vb193, lt193, ltb193, Cq193, Li193, Ne193, st193⟩ := ldcCH (s := s) (EL := own_EL) X173 hx hZ hown (hw _ (List.mem_of_getElem? (i := 142) rfl)) (own_wS hw) e173 hS160 hk180 (own_EW hw) (by decide) C181.1 (vs := [(.int (98 : Int32))]) (z := (1 : Int32)) (by decide) (by decide) rfl (g := (mkF m 74 #[.val (.int p1), .val (.int p2), .val (.int p3), .val (.int bi), .val (.int si), .val (.int sa), .val (.int wh), .val (.ref b101), .val (.ref b120), .unset, .unset, .unset, .unset, .unset] [(.ref b173), (.ref b173)])) rfl (hb hby at_74) (n := 4) (by decide) (by decide) (by decide) (by decide)
        refine Go.step st193 ?_
        have F194 : Sta Z h193 "java/lang/String" "COMPACT_STRINGS" "Z" (.int cs) := (F174.ext E193)
        have F195 : Exa Z h193 b101 "com/example/ottawa/ottawa/TagPattern" := (F175.ext E193)
        have F196 : Fld Z h193 b101 "com/example/ottawa/ottawa/TagPattern" "firstInside" "Lcom/example/ottawa/ottawa/KeptName;" .null := (F176.ext E193)
        have F197 : Fld Z h193 b101 "com/example/ottawa/ottawa/TagPattern" "firstAfter" "Lcom/example/ottawa/ottawa/KeptName;" .null := (F177.ext E193)
        have F198 : Exa Z h193 b120 "com/example/ottawa/ottawa/KeptName" := (F178.ext E193)
        have F199 : Exa Z h193 b173 "com/example/ottawa/ottawa/KeptName" := (A173.ext E193)
        have F200 : Fld Z h193 b173 "com/example/ottawa/ottawa/Name" "text" "Ljava/lang/String;" .null := (F182.ext E193)
        have F201 : Fld Z h193 b173 "com/example/ottawa/ottawa/Name" "hash" "I" (.int (0 : Int32)) := (F183.ext E193)
        have F202 : Fld Z h193 b173 "com/example/ottawa/ottawa/Name" "length" "I" (.int (0 : Int32)) := (F184.ext E193)
        have F203 : Fld Z h193 b173 "com/example/ottawa/ottawa/Name" "colon" "I" (.int (0 : Int32)) := (F185.ext E193)
        have F204 : Fld Z h193 b173 "com/example/ottawa/ottawa/Name" "qName" "Z" (.int (0 : Int32)) := (F186.ext E193)
        have F205 : Fld Z h193 b173 "com/example/ottawa/ottawa/Name" "namespaceDeclaration" "Z" (.int (0 : Int32)) := (F187.ext E193)
        have F206 : Fld Z h193 b173 "com/example/ottawa/ottawa/KeptName" "stamp" "J" (.long (0 : Int64)) := (F188.ext E193)
        have F207 : Fld Z h193 b173 "com/example/ottawa/ottawa/KeptName" "chars" "[C" .null := (F189.ext E193)
        have F208 : Fld Z h193 b173 "com/example/ottawa/ottawa/KeptName" "prefix" "Ljava/lang/String;" .null := (F190.ext E193)
        have F209 : Fld Z h193 b173 "com/example/ottawa/ottawa/KeptName" "localPart" "Ljava/lang/String;" .null := (F191.ext E193)
        have F210 : Fld Z h193 b173 "com/example/ottawa/ottawa/KeptName" "place" "I" (.int (0 : Int32)) := (F192.ext E193)
        have Z211 : n0 ≤ h193.size := (Nat.le_trans Z179 E193.1)
        have C212 := (C181.trans Cq193)
        have nq213 := Ne193 _ (Safe.exa hZ.alike F195 (by decide) (by decide))
        have nq214 := Ne193 _ (Safe.exa hZ.alike F198 (by decide) (by decide))
        have nq215 := Ne193 _ (Safe.exa hZ.alike F199 (by decide) (by decide))
        show Go p.tables e below _ (T193.setTop (mkF m 76 #[.val (.int p1), .val (.int p2), .val (.int p3), .val (.int bi), .val (.int si), .val (.int sa), .val (.int wh), .val (.ref b101), .val (.ref b120), .unset, .unset, .unset, .unset, .unset] [(.ref b193), (.ref b173), (.ref b173)]))
        refine Go.step (fun _ kt => XS.bipush X193.here hx rfl (hb hby at_76) (XS.iconst X193.here hx rfl (hb hby at_78) kt)) ?_
        show Go p.tables e below _ (T193.setTop (mkF m 79 #[.val (.int p1), .val (.int p2), .val (.int p3), .val (.int bi), .val (.int si), .val (.int sa), .val (.int wh), .val (.ref b101), .val (.ref b120), .unset, .unset, .unset, .unset, .unset] [(.int (1 : Int32)), (.int (98 : Int32)), (.ref b193), (.ref b173), (.ref b173)]))
        obtain ⟨_, _, ⟨T216, L216, k216, n216⟩, -, X216, hSq216, hgq216, ⟨Lc216, hQ216, l216, y216, z216, Cq216⟩, st216⟩ := X193.specialBackS hx (y := (⟨"com/example/ottawa/ottawa/KeptName", "<init>", "(Ljava/lang/String;II)V"⟩ : MethodName)) rfl hown (mvT hZ (hw _ (List.mem_of_getElem? (i := 31) rfl))) (mvT hZ (hw _ (List.mem_of_getElem? (i := 32) rfl))) (mvT hZ (hw _ (List.mem_of_getElem? (i := 33) rfl))) (by decide) (backOfSH (s := s) (EL := own_EL) (W := 1) (rmk1 l Z a0 hw [] b173 b193 (98 : Int32) (1 : Int32) .null (.int (0 : Int32)) (.int (0 : Int32)) (.int (0 : Int32)) (.int (0 : Int32)) (.int (0 : Int32)) (.long (0 : Int64)) .null .null .null (.int (0 : Int32)) ba193 kc193 cs (98 : Int32) h193 n0 Z211 F199 F200 F201 F202 F203 F204 F205 F206 F207 F208 F209 F210 Ex193 Fc193 Fv193 Vb193 F194 g_b173 hcs (Ne.symm nq215.1) (Ne.symm nq215.2) (by decide)) hZ (hw _ (List.mem_of_getElem? (i := 33) rfl)) (hw _ (List.mem_of_getElem? (i := 22) rfl)) (by decide) (by decide) (own_EW hw) C212.1) (g := (mkF m 79 #[.val (.int p1), .val (.int p2), .val (.int p3), .val (.int bi), .val (.int si), .val (.int sa), .val (.int wh), .val (.ref b101), .val (.ref b120), .unset, .unset, .unset, .unset, .unset] [(.int (1 : Int32)), (.int (98 : Int32)), (.ref b193), (.ref b173), (.ref b173)])) rfl (by rw [hml]; rfl) (Steps.refl _) (a := b173) (argsL := [(.ref b193), (.int (98 : Int32)), (.int (1 : Int32))]) (rest := [(.ref b173)]) (lenOf pd_15 rfl) rfl (by show 2 * 0 + _ ≤ _; exact Nat.le_of_eq rfl) (hb hby at_79) (fun _ _ => ⟨rfl, e193, (by decide : 16 + 7 ≤ _), (by decide : 110 + 53 ≤ _)⟩)
        dsimp only [Pt.U, Pt.locs, Pt.cells, Pt.slots] at X216 l216 y216 z216 st216 hQ216 hSq216 hgq216
        subst l216 y216 z216
        obtain ⟨X216, hS216, hZ, hown⟩ := rebS hS193 (by rw [e193]; exact hk193) X216 hSq216 hgq216 hZ hown
        have hk216 : T216.heap.size ≤ T216.heap.size := Nat.le_refl _
        dsimp only [Pt.U] at Cq216
        obtain ⟨rfl, N216q, Kq216, P217⟩ := hQ216
        have F218 : Sta Z T216.heap "java/lang/String" "COMPACT_STRINGS" "Z" (.int cs) := (own_sta_keep F194 F199 Kq216)
        have F219 : Exa Z T216.heap b101 "com/example/ottawa/ottawa/TagPattern" := (F195.keep Kq216)
        have F220 : Fld Z T216.heap b101 "com/example/ottawa/ottawa/TagPattern" "firstInside" "Lcom/example/ottawa/ottawa/KeptName;" .null := (F196.keep Kq216 (fun q => ne_b101_b173 (List.mem_singleton.mp q)))
        have F221 : Fld Z T216.heap b101 "com/example/ottawa/ottawa/TagPattern" "firstAfter" "Lcom/example/ottawa/ottawa/KeptName;" .null := (F197.keep Kq216 (fun q => ne_b101_b173 (List.mem_singleton.mp q)))
        have F222 : Exa Z T216.heap b120 "com/example/ottawa/ottawa/KeptName" := (F198.keep Kq216)
        have F223 : Exa Z T216.heap b173 "com/example/ottawa/ottawa/KeptName" := (F199.keep Kq216)
        have F224 : Exa Z T216.heap b193 "java/lang/String" := (Ex193.keep Kq216)
        have F225 : Fld Z T216.heap b193 "java/lang/String" "coder" "B" (.int (0 : Int32)) := (Fc193.keep Kq216 (fun q => (Ne.symm nq215.1) (List.mem_singleton.mp q)))
        have F226 : Fld Z T216.heap b193 "java/lang/String" "value" "[B" (.ref ba193) := (Fv193.keep Kq216 (fun q => (Ne.symm nq215.1) (List.mem_singleton.mp q)))
        have F227 : Arv Z T216.heap ba193 kc193 .byte (1 : Int32) [(.int (98 : Int32))] (.int (0 : Int32)) := (Vb193.keep Kq216 (fun q => (Ne.symm nq215.2) (List.mem_singleton.mp q)))
        have Z228 : n0 ≤ T216.heap.size := (Nat.le_trans Z211 Kq216.1)
        have C229 := (C212.trans Cq216)
        have N216 := Fr.app N160 N216q
        refine Go.step (fun _ kt => st216.trans kt) ?_
        show Go p.tables e below _ (T216.setTop (mkF m 82 #[.val (.int p1), .val (.int p2), .val (.int p3), .val (.int bi), .val (.int si), .val (.int sa), .val (.int wh), .val (.ref b101), .val (.ref b120), .unset, .unset, .unset, .unset, .unset] [(.ref b173)]))
        refine Go.step (fun _ kt => XS.astore X216.here hx rfl (hb hby at_82) rfl rfl (l' := #[.val (.int p1), .val (.int p2), .val (.int p3), .val (.int bi), .val (.int si), .val (.int sa), .val (.int wh), .val (.ref b101), .val (.ref b120), .val (.ref b173), .unset, .unset, .unset, .unset]) rfl kt) ?_
        show Go p.tables e below _ (T216.setTop (mkF m 84 #[.val (.int p1), .val (.int p2), .val (.int p3), .val (.int bi), .val (.int si), .val (.int sa), .val (.int wh), .val (.ref b101), .val (.ref b120), .val (.ref b173), .unset, .unset, .unset, .unset] []))
        obtain ⟨T230, h230, X230, e230, E230, A230, D230, -, st230⟩ := newO X216 hx hZ hown (hw _ (List.mem_of_getElem? (i := 143) rfl)) (hw _ (List.mem_of_getElem? (i := 144) rfl)) (hw _ (List.mem_of_getElem? (i := 37) rfl)) rfl (g := (mkF m 84 #[.val (.int p1), .val (.int p2), .val (.int p3), .val (.int bi), .val (.int si), .val (.int sa), .val (.int wh), .val (.ref b101), .val (.ref b120), .val (.ref b173), .unset, .unset, .unset, .unset] [])) rfl (hb hby at_84) (by decide) (by decide)
        obtain ⟨b230, g230⟩ : ∃ z, z = T216.heap.size := ⟨_, rfl⟩
        rw [← g230] at A230 D230 st230
        refine Go.step st230 ?_
        have ne_b101_b230 : b101 ≠ b230 := Nat.ne_of_lt (Nat.lt_of_lt_of_le F219.lt (Nat.le_of_eq g230.symm))
        have ne_b120_b230 : b120 ≠ b230 := Nat.ne_of_lt (Nat.lt_of_lt_of_le F222.lt (Nat.le_of_eq g230.symm))
        have ne_b173_b230 : b173 ≠ b230 := Nat.ne_of_lt (Nat.lt_of_lt_of_le P217.lt (Nat.le_of_eq g230.symm))
        have g_b230 : n0 ≤ b230 := Nat.le_trans Z228 (Nat.le_of_eq g230.symm)
        have F231 : Sta Z h230 "java/lang/String" "COMPACT_STRINGS" "Z" (.int cs) := (F218.ext E230)
        have F232 : Exa Z h230 b101 "com/example/ottawa/ottawa/TagPattern" := (F219.ext E230)
        have F233 : Fld Z h230 b101 "com/example/ottawa/ottawa/TagPattern" "firstInside" "Lcom/example/ottawa/ottawa/KeptName;" .null := (F220.ext E230)
        have F234 : Fld Z h230 b101 "com/example/ottawa/ottawa/TagPattern" "firstAfter" "Lcom/example/ottawa/ottawa/KeptName;" .null := (F221.ext E230)
        have F235 : Exa Z h230 b120 "com/example/ottawa/ottawa/KeptName" := (F222.ext E230)
        have F236 : Exa Z h230 b173 "com/example/ottawa/ottawa/KeptName" := (P217.ext E230)
        have Z237 : n0 ≤ h230.size := (Nat.le_trans Z228 E230.1)
        have hk238 : _ ≤ h230.size := (Nat.le_trans hk216 E230.1)
        have C239 := (C229.trans (CHr.ext E230 C229.1))
        have F240 : Fld Z h230 b230 "com/example/ottawa/ottawa/Name" "text" "Ljava/lang/String;" .null := D230 (Or.inr (hw _ (List.mem_of_getElem? (i := 147) rfl))) (ty := (.object "java/lang/String")) (by decide)
        have F241 : Fld Z h230 b230 "com/example/ottawa/ottawa/Name" "hash" "I" (.int (0 : Int32)) := D230 (Or.inr (hw _ (List.mem_of_getElem? (i := 148) rfl))) (ty := .int) (by decide)
        have F242 : Fld Z h230 b230 "com/example/ottawa/ottawa/Name" "length" "I" (.int (0 : Int32)) := D230 (Or.inr (hw _ (List.mem_of_getElem? (i := 149) rfl))) (ty := .int) (by decide)
        have F243 : Fld Z h230 b230 "com/example/ottawa/ottawa/Name" "colon" "I" (.int (0 : Int32)) := D230 (Or.inr (hw _ (List.mem_of_getElem? (i := 150) rfl))) (ty := .int) (by decide)
        have F244 : Fld Z h230 b230 "com/example/ottawa/ottawa/Name" "qName" "Z" (.int (0 : Int32)) := D230 (Or.inr (hw _ (List.mem_of_getElem? (i := 151) rfl))) (ty := .boolean) (by decide)
        have F245 : Fld Z h230 b230 "com/example/ottawa/ottawa/Name" "namespaceDeclaration" "Z" (.int (0 : Int32)) := D230 (Or.inr (hw _ (List.mem_of_getElem? (i := 152) rfl))) (ty := .boolean) (by decide)
        show Go p.tables e below _ (T230.setTop (mkF m 87 #[.val (.int p1), .val (.int p2), .val (.int p3), .val (.int bi), .val (.int si), .val (.int sa), .val (.int wh), .val (.ref b101), .val (.ref b120), .val (.ref b173), .unset, .unset, .unset, .unset] [(.ref b230)]))
        refine Go.step (fun _ kt => XS.dup X230.here hx rfl (hb hby at_87) rfl rfl kt) ?_
        show Go p.tables e below _ (T230.setTop (mkF m 88 #[.val (.int p1), .val (.int p2), .val (.int p3), .val (.int bi), .val (.int si), .val (.int sa), .val (.int wh), .val (.ref b101), .val (.ref b120), .val (.ref b173), .unset, .unset, .unset, .unset] [(.ref b230), (.ref b230)]))
        obtain ⟨b246, T246, h246, k246, ba246, kc246, X246, e246, E246, hS246, hk246, hZ, hown, Ex246, Fc246, Fv246, Vb246, lt246, ltb246, Cq246, Li246, Ne246, st246⟩ := ldcCH (s := s) (EL := own_EL) X230 hx hZ hown (hw _ (List.mem_of_getElem? (i := 145) rfl)) (own_wS hw) e230 hS216 hk238 (own_EW hw) (by decide) C239.1 (vs := [(.int (99 : Int32))]) (z := (1 : Int32)) (by decide) (by decide) rfl (g := (mkF m 88 #[.val (.int p1), .val (.int p2), .val (.int p3), .val (.int bi), .val (.int si), .val (.int sa), .val (.int wh), .val (.ref b101), .val (.ref b120), .val (.ref b173), .unset, .unset, .unset, .unset] [(.ref b230), (.ref b230)])) rfl (hb hby at_88) (n := 4) (by decide) (by decide) (by decide) (by decide)
        refine Go.step st246 ?_
        have F247 : Sta Z h246 "java/lang/String" "COMPACT_STRINGS" "Z" (.int cs) := (F231.ext E246)
        have F248 : Exa Z h246 b101 "com/example/ottawa/ottawa/TagPattern" := (F232.ext E246)
        have F249 : Fld Z h246 b101 "com/example/ottawa/ottawa/TagPattern" "firstInside" "Lcom/example/ottawa/ottawa/KeptName;" .null := (F233.ext E246)
        have F250 : Fld Z h246 b101 "com/example/ottawa/ottawa/TagPattern" "firstAfter" "Lcom/example/ottawa/ottawa/KeptName;" .null := (F234.ext E246)
        have F251 : Exa Z h246 b120 "com/example/ottawa/ottawa/KeptName" := (F235.ext E246)
        have F252 : Exa Z h246 b173 "com/example/ottawa/ottawa/KeptName" := (F236.ext E246)
        have F253 : Exa Z h246 b230 "com/example/ottawa/ottawa/Name" := (A230.ext E246)
        have F254 : Fld Z h246 b230 "com/example/ottawa/ottawa/Name" "text" "Ljava/lang/String;" .null := (F240.ext E246)
        have F255 : Fld Z h246 b230 "com/example/ottawa/ottawa/Name" "hash" "I" (.int (0 : Int32)) := (F241.ext E246)
        have F256 : Fld Z h246 b230 "com/example/ottawa/ottawa/Name" "length" "I" (.int (0 : Int32)) := (F242.ext E246)
        have F257 : Fld Z h246 b230 "com/example/ottawa/ottawa/Name" "colon" "I" (.int (0 : Int32)) := (F243.ext E246)
        have F258 : Fld Z h246 b230 "com/example/ottawa/ottawa/Name" "qName" "Z" (.int (0 : Int32)) := (F244.ext E246)
        have F259 : Fld Z h246 b230 "com/example/ottawa/ottawa/Name" "namespaceDeclaration" "Z" (.int (0 : Int32)) := (F245.ext E246)
        have Z260 : n0 ≤ h246.size := (Nat.le_trans Z237 E246.1)
        have C261 := (C239.trans Cq246)
        have nq262 := Ne246 _ (Safe.exa hZ.alike F248 (by decide) (by decide))
        have nq263 := Ne246 _ (Safe.exa hZ.alike F251 (by decide) (by decide))
        have nq264 := Ne246 _ (Safe.exa hZ.alike F252 (by decide) (by decide))
        have nq265 := Ne246 _ (Safe.exa hZ.alike F253 (by decide) (by decide))
        show Go p.tables e below _ (T246.setTop (mkF m 90 #[.val (.int p1), .val (.int p2), .val (.int p3), .val (.int bi), .val (.int si), .val (.int sa), .val (.int wh), .val (.ref b101), .val (.ref b120), .val (.ref b173), .unset, .unset, .unset, .unset] [(.ref b246), (.ref b230), (.ref b230)]))
        refine Go.step (fun _ kt => XS.bipush X246.here hx rfl (hb hby at_90) kt) ?_
        show Go p.tables e below _ (T246.setTop (mkF m 92 #[.val (.int p1), .val (.int p2), .val (.int p3), .val (.int bi), .val (.int si), .val (.int sa), .val (.int wh), .val (.ref b101), .val (.ref b120), .val (.ref b173), .unset, .unset, .unset, .unset] [(.int (99 : Int32)), (.ref b246), (.ref b230), (.ref b230)]))
        obtain ⟨_, _, ⟨T266, L266, k266, n266⟩, -, X266, hSq266, hgq266, ⟨Lc266, hQ266, l266, y266, z266, Cq266⟩, st266⟩ := X246.specialBackS hx (y := (⟨"com/example/ottawa/ottawa/Name", "<init>", "(Ljava/lang/String;I)V"⟩ : MethodName)) rfl hown (mvT hZ (hw _ (List.mem_of_getElem? (i := 146) rfl))) (mvT hZ (hw _ (List.mem_of_getElem? (i := 35) rfl))) (mvT hZ (hw _ (List.mem_of_getElem? (i := 38) rfl))) (by decide) (backOfSH (s := s) (EL := own_EL) (W := 1) (rmn2 l Z a0 hw [] b230 b246 (99 : Int32) .null (.int (0 : Int32)) (.int (0 : Int32)) (.int (0 : Int32)) (.int (0 : Int32)) (.int (0 : Int32)) ba246 kc246 cs (99 : Int32) h246 n0 Z260 F253 F254 F255 F256 F257 F258 F259 Ex246 Fc246 Fv246 Vb246 F247 g_b230 hcs (Ne.symm nq265.1) (Ne.symm nq265.2) (by decide)) hZ (hw _ (List.mem_of_getElem? (i := 38) rfl)) (hw _ (List.mem_of_getElem? (i := 37) rfl)) (by decide) (by decide) (own_EW hw) C261.1) (g := (mkF m 92 #[.val (.int p1), .val (.int p2), .val (.int p3), .val (.int bi), .val (.int si), .val (.int sa), .val (.int wh), .val (.ref b101), .val (.ref b120), .val (.ref b173), .unset, .unset, .unset, .unset] [(.int (99 : Int32)), (.ref b246), (.ref b230), (.ref b230)])) rfl (by rw [hml]; rfl) (Steps.refl _) (a := b230) (argsL := [(.ref b246), (.int (99 : Int32))]) (rest := [(.ref b230)]) (lenOf pd_10 rfl) rfl (by show 2 * 0 + _ ≤ _; exact Nat.le_of_eq rfl) (hb hby at_92) (fun _ _ => ⟨rfl, e246, (by decide : 26 + 4 ≤ _), (by decide : 177 + 48 ≤ _)⟩)
        dsimp only [Pt.U, Pt.locs, Pt.cells, Pt.slots] at X266 l266 y266 z266 st266 hQ266 hSq266 hgq266
        subst l266 y266 z266
        obtain ⟨X266, hS266, hZ, hown⟩ := rebS hS246 (by rw [e246]; exact hk246) X266 hSq266 hgq266 hZ hown
        have hk266 : T266.heap.size ≤ T266.heap.size := Nat.le_refl _
        dsimp only [Pt.U] at Cq266
        obtain ⟨rfl, N266q, Kq266, P267, P268, P269⟩ := hQ266
        have F270 : Sta Z T266.heap "java/lang/String" "COMPACT_STRINGS" "Z" (.int cs) := (own_sta_keep F247 F253 Kq266)
        have F271 : Exa Z T266.heap b101 "com/example/ottawa/ottawa/TagPattern" := (F248.keep Kq266)
        have F272 : Fld Z T266.heap b101 "com/example/ottawa/ottawa/TagPattern" "firstInside" "Lcom/example/ottawa/ottawa/KeptName;" .null := (F249.keep Kq266 (fun q => ne_b101_b230 (List.mem_singleton.mp q)))
        have F273 : Fld Z T266.heap b101 "com/example/ottawa/ottawa/TagPattern" "firstAfter" "Lcom/example/ottawa/ottawa/KeptName;" .null := (F250.keep Kq266 (fun q => ne_b101_b230 (List.mem_singleton.mp q)))
        have F274 : Exa Z T266.heap b120 "com/example/ottawa/ottawa/KeptName" := (F251.keep Kq266)
        have F275 : Exa Z T266.heap b173 "com/example/ottawa/ottawa/KeptName" := (F252.keep Kq266)
        have F276 : Exa Z T266.heap b230 "com/example/ottawa/ottawa/Name" := (F253.keep Kq266)
        have F277 : Exa Z T266.heap b246 "java/lang/String" := (Ex246.keep Kq266)
        have F278 : Fld Z T266.heap b246 "java/lang/String" "coder" "B" (.int (0 : Int32)) := (Fc246.keep Kq266 (fun q => (Ne.symm nq265.1) (List.mem_singleton.mp q)))
        have F279 : Fld Z T266.heap b246 "java/lang/String" "value" "[B" (.ref ba246) := (Fv246.keep Kq266 (fun q => (Ne.symm nq265.1) (List.mem_singleton.mp q)))
        have F280 : Arv Z T266.heap ba246 kc246 .byte (1 : Int32) [(.int (99 : Int32))] (.int (0 : Int32)) := (Vb246.keep Kq266 (fun q => (Ne.symm nq265.2) (List.mem_singleton.mp q)))
        have Z281 : n0 ≤ T266.heap.size := (Nat.le_trans Z260 Kq266.1)
        have C282 := (C261.trans Cq266)
        have N266 := Fr.app N216 N266q
        refine Go.step (fun _ kt => st266.trans kt) ?_
        show Go p.tables e below _ (T266.setTop (mkF m 95 #[.val (.int p1), .val (.int p2), .val (.int p3), .val (.int bi), .val (.int si), .val (.int sa), .val (.int wh), .val (.ref b101), .val (.ref b120), .val (.ref b173), .unset, .unset, .unset, .unset] [(.ref b230)]))
        refine Go.step (fun _ kt => XS.astore X266.here hx rfl (hb hby at_95) rfl rfl (l' := #[.val (.int p1), .val (.int p2), .val (.int p3), .val (.int bi), .val (.int si), .val (.int sa), .val (.int wh), .val (.ref b101), .val (.ref b120), .val (.ref b173), .val (.ref b230), .unset, .unset, .unset]) rfl kt) ?_
        show Go p.tables e below _ (T266.setTop (mkF m 97 #[.val (.int p1), .val (.int p2), .val (.int p3), .val (.int bi), .val (.int si), .val (.int sa), .val (.int wh), .val (.ref b101), .val (.ref b120), .val (.ref b173), .val (.ref b230), .unset, .unset, .unset] []))
        rcases h_si with hq | hq
        · rw [hq]
          show Go p.tables e below _ (T266.setTop (mkF m 97 #[.val (.int p1), .val (.int p2), .val (.int p3), .val (.int bi), .val (.int (0 : Int32)), .val (.int sa), .val (.int wh), .val (.ref b101), .val (.ref b120), .val (.ref b173), .val (.ref b230), .unset, .unset, .unset] []))
          refine Go.step (fun _ kt => XS.iload X266.here hx rfl (hb hby at_97) rfl (XS.ifYes X266.here hx rfl (pc0 := 99) (pc' := 110) rfl (hb hby at_99) rfl ((if0 _ _).trans (teq (by decide : (0 : Int32) = (0 : Int32))).1) (by decide) (by decide) kt)) ?_
          show Go p.tables e below _ (T266.setTop (mkF m 110 #[.val (.int p1), .val (.int p2), .val (.int p3), .val (.int bi), .val (.int (0 : Int32)), .val (.int sa), .val (.int wh), .val (.ref b101), .val (.ref b120), .val (.ref b173), .val (.ref b230), .unset, .unset, .unset] []))
          rcases h_sa with hq | hq
          · rw [hq]
            show Go p.tables e below _ (T266.setTop (mkF m 110 #[.val (.int p1), .val (.int p2), .val (.int p3), .val (.int bi), .val (.int (0 : Int32)), .val (.int (0 : Int32)), .val (.int wh), .val (.ref b101), .val (.ref b120), .val (.ref b173), .val (.ref b230), .unset, .unset, .unset] []))
            refine Go.step (fun _ kt => XS.iload X266.here hx rfl (hb hby at_110) rfl (XS.ifYes X266.here hx rfl (pc0 := 112) (pc' := 123) rfl (hb hby at_112) rfl ((if0 _ _).trans (teq (by decide : (0 : Int32) = (0 : Int32))).1) (by decide) (by decide) kt)) ?_
            show Go p.tables e below _ (T266.setTop (mkF m 123 #[.val (.int p1), .val (.int p2), .val (.int p3), .val (.int bi), .val (.int (0 : Int32)), .val (.int (0 : Int32)), .val (.int wh), .val (.ref b101), .val (.ref b120), .val (.ref b173), .val (.ref b230), .unset, .unset, .unset] []))
            rcases (show wh = 0 ∨ wh = 1 ∨ wh = 2 by rw [e_wh]; exact own_rem3 p3) with hq | hq | hq
            · rw [hq]
              show Go p.tables e below _ (T266.setTop (mkF m 123 #[.val (.int p1), .val (.int p2), .val (.int p3), .val (.int bi), .val (.int (0 : Int32)), .val (.int (0 : Int32)), .val (.int (0 : Int32)), .val (.ref b101), .val (.ref b120), .val (.ref b173), .val (.ref b230), .unset, .unset, .unset] []))
              refine Go.step (fun _ kt => XS.iload X266.here hx rfl (hb hby at_123) rfl (XS.ifNo X266.here hx rfl (hb hby at_125) rfl ((if0 _ _).trans (teq (by decide : (0 : Int32) = (0 : Int32))).2) (XS.aload X266.here hx rfl (hb hby at_128) rfl rfl (XS.goto X266.here hx rfl (pc0 := 130) (pc' := 145) rfl (hb hby at_130) (by decide) (by decide) (XS.astore X266.here hx rfl (hb hby at_145) rfl rfl (l' := #[.val (.int p1), .val (.int p2), .val (.int p3), .val (.int bi), .val (.int (0 : Int32)), .val (.int (0 : Int32)), .val (.int (0 : Int32)), .val (.ref b101), .val (.ref b120), .val (.ref b173), .val (.ref b230), .val (.ref b173), .unset, .unset]) rfl (XS.iload X266.here hx rfl (hb hby at_147) rfl (XS.ifNo X266.here hx rfl (hb hby at_149) rfl ((if0 _ _).trans (teq (by decide : (0 : Int32) = (0 : Int32))).2) (XS.aload X266.here hx rfl (hb hby at_152) rfl rfl (XS.goto X266.here hx rfl (pc0 := 154) (pc' := 158) rfl (hb hby at_154) (by decide) (by decide) (XS.astore X266.here hx rfl (hb hby at_158) rfl rfl (l' := #[.val (.int p1), .val (.int p2), .val (.int p3), .val (.int bi), .val (.int (0 : Int32)), .val (.int (0 : Int32)), .val (.int (0 : Int32)), .val (.ref b101), .val (.ref b120), .val (.ref b173), .val (.ref b230), .val (.ref b173), .val (.ref b173), .unset]) rfl kt)))))))))) ?_
              show Go p.tables e below _ (T266.setTop (mkF m 160 #[.val (.int p1), .val (.int p2), .val (.int p3), .val (.int bi), .val (.int (0 : Int32)), .val (.int (0 : Int32)), .val (.int (0 : Int32)), .val (.ref b101), .val (.ref b120), .val (.ref b173), .val (.ref b230), .val (.ref b173), .val (.ref b173), .unset] []))
              rcases h_bi with hq | hq
              · rw [hq]
                show Go p.tables e below _ (T266.setTop (mkF m 160 #[.val (.int p1), .val (.int p2), .val (.int p3), .val (.int (0 : Int32)), .val (.int (0 : Int32)), .val (.int (0 : Int32)), .val (.int (0 : Int32)), .val (.ref b101), .val (.ref b120), .val (.ref b173), .val (.ref b230), .val (.ref b173), .val (.ref b173), .unset] []))
                refine Go.step (fun _ kt => XS.iloadN X266.here hx rfl (hb hby at_160) rfl (XS.ifYes X266.here hx rfl (pc0 := 161) (pc' := 178) rfl (hb hby at_161) rfl ((if0 _ _).trans (teq (by decide : (0 : Int32) = (0 : Int32))).1) (by decide) (by decide) (XS.iload X266.here hx rfl (hb hby at_178) rfl (XS.ifYes X266.here hx rfl (pc0 := 180) (pc' := 188) rfl (hb hby at_180) rfl ((if0 _ _).trans (teq (by decide : (0 : Int32) = (0 : Int32))).1) (by decide) (by decide) (XS.aconstNull X266.here hx rfl (hb hby at_188) (XS.astore X266.here hx rfl (hb hby at_189) rfl rfl (l' := #[.val (.int p1), .val (.int p2), .val (.int p3), .val (.int (0 : Int32)), .val (.int (0 : Int32)), .val (.int (0 : Int32)), .val (.int (0 : Int32)), .val (.ref b101), .val (.ref b120), .val (.ref b173), .val (.ref b230), .val (.ref b173), .val (.ref b173), .val .null]) rfl (XS.aload X266.here hx rfl (hb hby at_191) rfl rfl (XS.iloadN X266.here hx rfl (hb hby at_193) rfl (XS.aload X266.here hx rfl (hb hby at_194) rfl rfl kt))))))))) ?_
                show Go p.tables e below _ (T266.setTop (mkF m 196 #[.val (.int p1), .val (.int p2), .val (.int p3), .val (.int (0 : Int32)), .val (.int (0 : Int32)), .val (.int (0 : Int32)), .val (.int (0 : Int32)), .val (.ref b101), .val (.ref b120), .val (.ref b173), .val (.ref b230), .val (.ref b173), .val (.ref b173), .val .null] [(.ref b173), (.int (0 : Int32)), (.ref b101)]))
                obtain ⟨cq283, kq283, q283a, q283b, q283c⟩ := isOf hZ rfl F271
                obtain ⟨_, _, ⟨T283, L283, k283, n283⟩, -, X283, ⟨Lc283, hQ283, l283, y283, z283⟩, st283⟩ := X266.virtualBack hx (y := (⟨"com/example/ottawa/ottawa/TagPattern", "follow", "(ZLcom/example/ottawa/ottawa/Name;)V"⟩ : MethodName)) (z := (⟨"com/example/ottawa/ottawa/TagPattern", "follow", "(ZLcom/example/ottawa/ottawa/Name;)V"⟩ : MethodName)) hown (mvT hZ (hw _ (List.mem_of_getElem? (i := 153) rfl))) (mvT hZ (hw _ (List.mem_of_getElem? (i := 154) rfl))) (notFace_of_selects (args := #[]) (mvT hZ (hw _ (List.mem_of_getElem? (i := 156) rfl)))) (mvT hZ (hw _ (List.mem_of_getElem? (i := 156) rfl))) (mvT hZ (hw _ (List.mem_of_getElem? (i := 155) rfl))) (by decide) (backOf (W := 0) (rmf0 l Z a0 hw [] b101 b173 .null .null T266.heap n0 Z281 F271 F272 F273 F275 g_b101 (Ne.symm ne_b101_b173)) hZ (hw _ (List.mem_of_getElem? (i := 157) rfl)) (hw _ (List.mem_of_getElem? (i := 3) rfl)) (by decide) (by decide)) q283a q283c (g := (mkF m 196 #[.val (.int p1), .val (.int p2), .val (.int p3), .val (.int (0 : Int32)), .val (.int (0 : Int32)), .val (.int (0 : Int32)), .val (.int (0 : Int32)), .val (.ref b101), .val (.ref b120), .val (.ref b173), .val (.ref b230), .val (.ref b173), .val (.ref b173), .val .null] [(.ref b173), (.int (0 : Int32)), (.ref b101)])) rfl (by rw [hml]; rfl) (Steps.refl _) (argsL := [(.int (0 : Int32)), (.ref b173)]) (rest := []) (lenOf pd_16 rfl) rfl (by show 2 * 0 + _ ≤ _; exact Nat.le_of_eq rfl) (hb hby at_196) (fun _ _ => ⟨rfl, rfl, (by decide : 30 + 0 ≤ _), (by decide : 225 + 0 ≤ _)⟩)
                dsimp only [Pt.U, Pt.locs, Pt.cells, Pt.slots] at X283 l283 y283 z283 st283 hQ283
                subst l283 y283 z283
                obtain ⟨rfl, N283q, Kq283, P284, P285, P286⟩ := hQ283
                have F287 : Exa Z T283.heap b101 "com/example/ottawa/ottawa/TagPattern" := (F271.keep Kq283)
                have F288 : Exa Z T283.heap b120 "com/example/ottawa/ottawa/KeptName" := (F274.keep Kq283)
                have F289 : Exa Z T283.heap b173 "com/example/ottawa/ottawa/KeptName" := (F275.keep Kq283)
                have F290 : Exa Z T283.heap b230 "com/example/ottawa/ottawa/Name" := (P267.keep Kq283)
                have Z291 : n0 ≤ T283.heap.size := (Nat.le_trans Z281 Kq283.1)
                have hk292 : _ ≤ T283.heap.size := (Nat.le_trans hk266 Kq283.1)
                have C293 := (C282.trans (CHr.keep Kq283 (by intro x hx; cases List.mem_singleton.mp hx; exact (Safe.exa hZ.alike F271 (by decide) (by decide))) C282.1))
                have N283 := Fr.app N266 N283q
                refine Go.step (fun _ kt => st283.trans kt) ?_
                show Go p.tables e below _ (T283.setTop (mkF m 199 #[.val (.int p1), .val (.int p2), .val (.int p3), .val (.int (0 : Int32)), .val (.int (0 : Int32)), .val (.int (0 : Int32)), .val (.int (0 : Int32)), .val (.ref b101), .val (.ref b120), .val (.ref b173), .val (.ref b230), .val (.ref b173), .val (.ref b173), .val .null] []))
                refine Go.step (fun _ kt => XS.aload X283.here hx rfl (hb hby at_199) rfl rfl (XS.iloadN X283.here hx rfl (hb hby at_201) rfl kt)) ?_
                show Go p.tables e below _ (T283.setTop (mkF m 202 #[.val (.int p1), .val (.int p2), .val (.int p3), .val (.int (0 : Int32)), .val (.int (0 : Int32)), .val (.int (0 : Int32)), .val (.int (0 : Int32)), .val (.ref b101), .val (.ref b120), .val (.ref b173), .val (.ref b230), .val (.ref b173), .val (.ref b173), .val .null] [(.int (0 : Int32)), (.ref b101)]))
                obtain ⟨cq294, kq294, q294a, q294b, q294c⟩ := isOf hZ rfl P284
                obtain ⟨_, _, ⟨T294, L294, k294, n294⟩, -, X294, ⟨Lc294, hQ294, l294, y294, z294⟩, st294⟩ := X283.virtualBack hx (y := (⟨"com/example/ottawa/ottawa/TagPattern", "following", "(Z)Lcom/example/ottawa/ottawa/KeptName;"⟩ : MethodName)) (z := (⟨"com/example/ottawa/ottawa/TagPattern", "following", "(Z)Lcom/example/ottawa/ottawa/KeptName;"⟩ : MethodName)) hown (mvT hZ (hw _ (List.mem_of_getElem? (i := 163) rfl))) (mvT hZ (hw _ (List.mem_of_getElem? (i := 164) rfl))) (notFace_of_selects (args := #[]) (mvT hZ (hw _ (List.mem_of_getElem? (i := 166) rfl)))) (mvT hZ (hw _ (List.mem_of_getElem? (i := 166) rfl))) (mvT hZ (hw _ (List.mem_of_getElem? (i := 165) rfl))) (by decide) (backOf (W := 0) (rmg0 l Z a0 hw [] b101 b173 T283.heap n0 Z291 P286 ) hZ (hw _ (List.mem_of_getElem? (i := 167) rfl)) (hw _ (List.mem_of_getElem? (i := 3) rfl)) (by decide) (by decide)) q294a q294c (g := (mkF m 202 #[.val (.int p1), .val (.int p2), .val (.int p3), .val (.int (0 : Int32)), .val (.int (0 : Int32)), .val (.int (0 : Int32)), .val (.int (0 : Int32)), .val (.ref b101), .val (.ref b120), .val (.ref b173), .val (.ref b230), .val (.ref b173), .val (.ref b173), .val .null] [(.int (0 : Int32)), (.ref b101)])) rfl (by rw [hml]; rfl) (Steps.refl _) (argsL := [(.int (0 : Int32))]) (rest := []) (lenOf pd_17 rfl) rfl (by show 2 * 0 + _ ≤ _; exact Nat.le_of_eq rfl) (hb hby at_202) (fun _ _ => ⟨rfl, rfl, (by decide : 30 + 0 ≤ _), (by decide : 225 + 0 ≤ _)⟩)
                dsimp only [Pt.U, Pt.locs, Pt.cells, Pt.slots] at X294 l294 y294 z294 st294 hQ294
                subst l294 y294 z294
                obtain ⟨rfl, N294q, eh294⟩ := hQ294
                have N294 := Fr.app N283 N294q
                refine Go.step (fun _ kt => st294.trans kt) ?_
                show Go p.tables e below _ (T294.setTop (mkF m 205 #[.val (.int p1), .val (.int p2), .val (.int p3), .val (.int (0 : Int32)), .val (.int (0 : Int32)), .val (.int (0 : Int32)), .val (.int (0 : Int32)), .val (.ref b101), .val (.ref b120), .val (.ref b173), .val (.ref b230), .val (.ref b173), .val (.ref b173), .val .null] [(.ref b173)]))
                refine Go.step (fun _ kt => XS.aload X294.here hx rfl (hb hby at_205) rfl rfl kt) ?_
                show Go p.tables e below _ (T294.setTop (mkF m 207 #[.val (.int p1), .val (.int p2), .val (.int p3), .val (.int (0 : Int32)), .val (.int (0 : Int32)), .val (.int (0 : Int32)), .val (.int (0 : Int32)), .val (.ref b101), .val (.ref b120), .val (.ref b173), .val (.ref b230), .val (.ref b173), .val (.ref b173), .val .null] [(.ref b173), (.ref b173)]))
                refine Go.step (fun _ kt => Jvm.RoadKit.acmp (g := (mkF m 207 #[.val (.int p1), .val (.int p2), .val (.int p3), .val (.int (0 : Int32)), .val (.int (0 : Int32)), .val (.int (0 : Int32)), .val (.int (0 : Int32)), .val (.ref b101), .val (.ref b120), .val (.ref b173), .val (.ref b230), .val (.ref b173), .val (.ref b173), .val .null] [(.ref b173), (.ref b173)])) X294 hx rfl rfl rfl (pc0 := 207) (pc' := 210) (same := true) rfl (hb hby at_207) rfl (decide_eq_true rfl) (by decide) (by decide) kt) ?_
                show Go p.tables e below _ (T294.setTop (mkF m 210 #[.val (.int p1), .val (.int p2), .val (.int p3), .val (.int (0 : Int32)), .val (.int (0 : Int32)), .val (.int (0 : Int32)), .val (.int (0 : Int32)), .val (.ref b101), .val (.ref b120), .val (.ref b173), .val (.ref b230), .val (.ref b173), .val (.ref b173), .val .null] []))
                refine Go.step (fun _ kt => XS.aload X294.here hx rfl (hb hby at_210) rfl rfl (XS.iloadN X294.here hx rfl (hb hby at_212) rfl (XS.ifNo X294.here hx rfl (hb hby at_213) rfl ((if0 _ _).trans (teq (by decide : (0 : Int32) = (0 : Int32))).2) (XS.iconst X294.here hx rfl (hb hby at_216) (XS.goto X294.here hx rfl (pc0 := 217) (pc' := 221) rfl (hb hby at_217) (by decide) (by decide) kt))))) ?_
                show Go p.tables e below _ (T294.setTop (mkF m 221 #[.val (.int p1), .val (.int p2), .val (.int p3), .val (.int (0 : Int32)), .val (.int (0 : Int32)), .val (.int (0 : Int32)), .val (.int (0 : Int32)), .val (.ref b101), .val (.ref b120), .val (.ref b173), .val (.ref b230), .val (.ref b173), .val (.ref b173), .val .null] [(.int (1 : Int32)), (.ref b101)]))
                obtain ⟨cq295, kq295, q295a, q295b, q295c⟩ := isOf hZ eh294 P284
                obtain ⟨_, _, ⟨T295, L295, k295, n295⟩, -, X295, ⟨Lc295, hQ295, l295, y295, z295⟩, st295⟩ := X294.virtualBack hx (y := (⟨"com/example/ottawa/ottawa/TagPattern", "following", "(Z)Lcom/example/ottawa/ottawa/KeptName;"⟩ : MethodName)) (z := (⟨"com/example/ottawa/ottawa/TagPattern", "following", "(Z)Lcom/example/ottawa/ottawa/KeptName;"⟩ : MethodName)) hown (mvT hZ (hw _ (List.mem_of_getElem? (i := 163) rfl))) (mvT hZ (hw _ (List.mem_of_getElem? (i := 164) rfl))) (notFace_of_selects (args := #[]) (mvT hZ (hw _ (List.mem_of_getElem? (i := 166) rfl)))) (mvT hZ (hw _ (List.mem_of_getElem? (i := 166) rfl))) (mvT hZ (hw _ (List.mem_of_getElem? (i := 165) rfl))) (by decide) (backOf (W := 0) (rmg1 l Z a0 hw [] b101  T283.heap n0 Z291 P285 ) hZ (hw _ (List.mem_of_getElem? (i := 167) rfl)) (hw _ (List.mem_of_getElem? (i := 3) rfl)) (by decide) (by decide)) q295a q295c (g := (mkF m 221 #[.val (.int p1), .val (.int p2), .val (.int p3), .val (.int (0 : Int32)), .val (.int (0 : Int32)), .val (.int (0 : Int32)), .val (.int (0 : Int32)), .val (.ref b101), .val (.ref b120), .val (.ref b173), .val (.ref b230), .val (.ref b173), .val (.ref b173), .val .null] [(.int (1 : Int32)), (.ref b101)])) rfl (by rw [hml]; rfl) (Steps.refl _) (argsL := [(.int (1 : Int32))]) (rest := []) (lenOf pd_17 rfl) rfl (by show 2 * 0 + _ ≤ _; exact Nat.le_of_eq rfl) (hb hby at_221) (fun _ _ => ⟨rfl, eh294, (by decide : 30 + 0 ≤ _), (by decide : 225 + 0 ≤ _)⟩)
                dsimp only [Pt.U, Pt.locs, Pt.cells, Pt.slots] at X295 l295 y295 z295 st295 hQ295
                subst l295 y295 z295
                obtain ⟨rfl, N295q, eh295⟩ := hQ295
                have N295 := Fr.app N294 N295q
                refine Go.step (fun _ kt => st295.trans kt) ?_
                show Go p.tables e below _ (T295.setTop (mkF m 224 #[.val (.int p1), .val (.int p2), .val (.int p3), .val (.int (0 : Int32)), .val (.int (0 : Int32)), .val (.int (0 : Int32)), .val (.int (0 : Int32)), .val (.ref b101), .val (.ref b120), .val (.ref b173), .val (.ref b230), .val (.ref b173), .val (.ref b173), .val .null] [.null]))
                refine Go.step (fun _ kt => XS.aload X295.here hx rfl (hb hby at_224) rfl rfl kt) ?_
                show Go p.tables e below _ (T295.setTop (mkF m 226 #[.val (.int p1), .val (.int p2), .val (.int p3), .val (.int (0 : Int32)), .val (.int (0 : Int32)), .val (.int (0 : Int32)), .val (.int (0 : Int32)), .val (.ref b101), .val (.ref b120), .val (.ref b173), .val (.ref b230), .val (.ref b173), .val (.ref b173), .val .null] [.null, .null]))
                refine Go.step (fun _ kt => Jvm.RoadKit.acmp (g := (mkF m 226 #[.val (.int p1), .val (.int p2), .val (.int p3), .val (.int (0 : Int32)), .val (.int (0 : Int32)), .val (.int (0 : Int32)), .val (.int (0 : Int32)), .val (.ref b101), .val (.ref b120), .val (.ref b173), .val (.ref b230), .val (.ref b173), .val (.ref b173), .val .null] [.null, .null])) X295 hx rfl rfl rfl (pc0 := 226) (pc' := 229) (same := true) rfl (hb hby at_226) rfl (decide_eq_true rfl) (by decide) (by decide) kt) ?_
                show Go p.tables e below _ (T295.setTop (mkF m 229 #[.val (.int p1), .val (.int p2), .val (.int p3), .val (.int (0 : Int32)), .val (.int (0 : Int32)), .val (.int (0 : Int32)), .val (.int (0 : Int32)), .val (.ref b101), .val (.ref b120), .val (.ref b173), .val (.ref b230), .val (.ref b173), .val (.ref b173), .val .null] []))
                refine Go.step (fun _ kt => XS.iconst X295.here hx rfl (hb hby at_229) (XS.goto X295.here hx rfl (pc0 := 230) (pc' := 234) rfl (hb hby at_230) (by decide) (by decide) kt)) ?_
                show Go p.tables e below _ (T295.setTop (mkF m 234 #[.val (.int p1), .val (.int p2), .val (.int p3), .val (.int (0 : Int32)), .val (.int (0 : Int32)), .val (.int (0 : Int32)), .val (.int (0 : Int32)), .val (.ref b101), .val (.ref b120), .val (.ref b173), .val (.ref b230), .val (.ref b173), .val (.ref b173), .val .null] [(.int (1 : Int32))]))
                obtain ⟨fs, hr, hrun, hended, hRW⟩ := X295.leaveW hS266 (by rw [eh295]; exact hk292) (v := some (.int (1 : Int32))) (fun h => by rw [Bd.returns] at h; cases h)
                refine ⟨_, _, retN X295 hx (t := .boolean) Bd.returns (by simp) (hb hby at_234) hr, hrun, hended, _, _, rfl, ?_, (by have q := C293.trans (CHv.at X295 hZ (own_EW hw) C293.1); rw [hh]; rw [← eh295] at q; exact q), hRW.1, hRW.2.1, hRW.2.2.1, hRW.2.2.2.mono (by decide) (by decide)⟩
                show Qrm0 Z p1 p2 p3 cs h0 n0 _ T295.heap _
                rw [eh295]
                exact ⟨rfl, N295⟩
              · rw [hq]
                show Go p.tables e below _ (T266.setTop (mkF m 160 #[.val (.int p1), .val (.int p2), .val (.int p3), .val (.int (1 : Int32)), .val (.int (0 : Int32)), .val (.int (0 : Int32)), .val (.int (0 : Int32)), .val (.ref b101), .val (.ref b120), .val (.ref b173), .val (.ref b230), .val (.ref b173), .val (.ref b173), .unset] []))
                refine Go.step (fun _ kt => XS.iloadN X266.here hx rfl (hb hby at_160) rfl (XS.ifNo X266.here hx rfl (hb hby at_161) rfl ((if0 _ _).trans (feq (by decide : ¬ ((1 : Int32) = (0 : Int32)))).1) (XS.iload X266.here hx rfl (hb hby at_164) rfl (XS.ifYes X266.here hx rfl (pc0 := 166) (pc' := 174) rfl (hb hby at_166) rfl ((if0 _ _).trans (teq (by decide : (0 : Int32) = (0 : Int32))).1) (by decide) (by decide) (XS.aconstNull X266.here hx rfl (hb hby at_174) (XS.goto X266.here hx rfl (pc0 := 175) (pc' := 189) rfl (hb hby at_175) (by decide) (by decide) (XS.astore X266.here hx rfl (hb hby at_189) rfl rfl (l' := #[.val (.int p1), .val (.int p2), .val (.int p3), .val (.int (1 : Int32)), .val (.int (0 : Int32)), .val (.int (0 : Int32)), .val (.int (0 : Int32)), .val (.ref b101), .val (.ref b120), .val (.ref b173), .val (.ref b230), .val (.ref b173), .val (.ref b173), .val .null]) rfl (XS.aload X266.here hx rfl (hb hby at_191) rfl rfl (XS.iloadN X266.here hx rfl (hb hby at_193) rfl (XS.aload X266.here hx rfl (hb hby at_194) rfl rfl kt)))))))))) ?_
                show Go p.tables e below _ (T266.setTop (mkF m 196 #[.val (.int p1), .val (.int p2), .val (.int p3), .val (.int (1 : Int32)), .val (.int (0 : Int32)), .val (.int (0 : Int32)), .val (.int (0 : Int32)), .val (.ref b101), .val (.ref b120), .val (.ref b173), .val (.ref b230), .val (.ref b173), .val (.ref b173), .val .null] [(.ref b173), (.int (1 : Int32)), (.ref b101)]))
                obtain ⟨cq296, kq296, q296a, q296b, q296c⟩ := isOf hZ rfl F271
                obtain ⟨_, _, ⟨T296, L296, k296, n296⟩, -, X296, ⟨Lc296, hQ296, l296, y296, z296⟩, st296⟩ := X266.virtualBack hx (y := (⟨"com/example/ottawa/ottawa/TagPattern", "follow", "(ZLcom/example/ottawa/ottawa/Name;)V"⟩ : MethodName)) (z := (⟨"com/example/ottawa/ottawa/TagPattern", "follow", "(ZLcom/example/ottawa/ottawa/Name;)V"⟩ : MethodName)) hown (mvT hZ (hw _ (List.mem_of_getElem? (i := 153) rfl))) (mvT hZ (hw _ (List.mem_of_getElem? (i := 154) rfl))) (notFace_of_selects (args := #[]) (mvT hZ (hw _ (List.mem_of_getElem? (i := 156) rfl)))) (mvT hZ (hw _ (List.mem_of_getElem? (i := 156) rfl))) (mvT hZ (hw _ (List.mem_of_getElem? (i := 155) rfl))) (by decide) (backOf (W := 0) (rmf1 l Z a0 hw [] b101 b173 .null .null T266.heap n0 Z281 F271 F272 F273 F275 g_b101 (Ne.symm ne_b101_b173)) hZ (hw _ (List.mem_of_getElem? (i := 157) rfl)) (hw _ (List.mem_of_getElem? (i := 3) rfl)) (by decide) (by decide)) q296a q296c (g := (mkF m 196 #[.val (.int p1), .val (.int p2), .val (.int p3), .val (.int (1 : Int32)), .val (.int (0 : Int32)), .val (.int (0 : Int32)), .val (.int (0 : Int32)), .val (.ref b101), .val (.ref b120), .val (.ref b173), .val (.ref b230), .val (.ref b173), .val (.ref b173), .val .null] [(.ref b173), (.int (1 : Int32)), (.ref b101)])) rfl (by rw [hml]; rfl) (Steps.refl _) (argsL := [(.int (1 : Int32)), (.ref b173)]) (rest := []) (lenOf pd_16 rfl) rfl (by show 2 * 0 + _ ≤ _; exact Nat.le_of_eq rfl) (hb hby at_196) (fun _ _ => ⟨rfl, rfl, (by decide : 30 + 0 ≤ _), (by decide : 225 + 0 ≤ _)⟩)
                dsimp only [Pt.U, Pt.locs, Pt.cells, Pt.slots] at X296 l296 y296 z296 st296 hQ296
                subst l296 y296 z296
                obtain ⟨rfl, N296q, Kq296, P297, P298, P299⟩ := hQ296
                have F300 : Exa Z T296.heap b101 "com/example/ottawa/ottawa/TagPattern" := (F271.keep Kq296)
                have F301 : Exa Z T296.heap b120 "com/example/ottawa/ottawa/KeptName" := (F274.keep Kq296)
                have F302 : Exa Z T296.heap b173 "com/example/ottawa/ottawa/KeptName" := (F275.keep Kq296)
                have F303 : Exa Z T296.heap b230 "com/example/ottawa/ottawa/Name" := (P267.keep Kq296)
                have Z304 : n0 ≤ T296.heap.size := (Nat.le_trans Z281 Kq296.1)
                have hk305 : _ ≤ T296.heap.size := (Nat.le_trans hk266 Kq296.1)
                have C306 := (C282.trans (CHr.keep Kq296 (by intro x hx; cases List.mem_singleton.mp hx; exact (Safe.exa hZ.alike F271 (by decide) (by decide))) C282.1))
                have N296 := Fr.app N266 N296q
                refine Go.step (fun _ kt => st296.trans kt) ?_
                show Go p.tables e below _ (T296.setTop (mkF m 199 #[.val (.int p1), .val (.int p2), .val (.int p3), .val (.int (1 : Int32)), .val (.int (0 : Int32)), .val (.int (0 : Int32)), .val (.int (0 : Int32)), .val (.ref b101), .val (.ref b120), .val (.ref b173), .val (.ref b230), .val (.ref b173), .val (.ref b173), .val .null] []))
                refine Go.step (fun _ kt => XS.aload X296.here hx rfl (hb hby at_199) rfl rfl (XS.iloadN X296.here hx rfl (hb hby at_201) rfl kt)) ?_
                show Go p.tables e below _ (T296.setTop (mkF m 202 #[.val (.int p1), .val (.int p2), .val (.int p3), .val (.int (1 : Int32)), .val (.int (0 : Int32)), .val (.int (0 : Int32)), .val (.int (0 : Int32)), .val (.ref b101), .val (.ref b120), .val (.ref b173), .val (.ref b230), .val (.ref b173), .val (.ref b173), .val .null] [(.int (1 : Int32)), (.ref b101)]))
                obtain ⟨cq307, kq307, q307a, q307b, q307c⟩ := isOf hZ rfl P297
                obtain ⟨_, _, ⟨T307, L307, k307, n307⟩, -, X307, ⟨Lc307, hQ307, l307, y307, z307⟩, st307⟩ := X296.virtualBack hx (y := (⟨"com/example/ottawa/ottawa/TagPattern", "following", "(Z)Lcom/example/ottawa/ottawa/KeptName;"⟩ : MethodName)) (z := (⟨"com/example/ottawa/ottawa/TagPattern", "following", "(Z)Lcom/example/ottawa/ottawa/KeptName;"⟩ : MethodName)) hown (mvT hZ (hw _ (List.mem_of_getElem? (i := 163) rfl))) (mvT hZ (hw _ (List.mem_of_getElem? (i := 164) rfl))) (notFace_of_selects (args := #[]) (mvT hZ (hw _ (List.mem_of_getElem? (i := 166) rfl)))) (mvT hZ (hw _ (List.mem_of_getElem? (i := 166) rfl))) (mvT hZ (hw _ (List.mem_of_getElem? (i := 165) rfl))) (by decide) (backOf (W := 0) (rmg2 l Z a0 hw [] b101 b173 T296.heap n0 Z304 P298 ) hZ (hw _ (List.mem_of_getElem? (i := 167) rfl)) (hw _ (List.mem_of_getElem? (i := 3) rfl)) (by decide) (by decide)) q307a q307c (g := (mkF m 202 #[.val (.int p1), .val (.int p2), .val (.int p3), .val (.int (1 : Int32)), .val (.int (0 : Int32)), .val (.int (0 : Int32)), .val (.int (0 : Int32)), .val (.ref b101), .val (.ref b120), .val (.ref b173), .val (.ref b230), .val (.ref b173), .val (.ref b173), .val .null] [(.int (1 : Int32)), (.ref b101)])) rfl (by rw [hml]; rfl) (Steps.refl _) (argsL := [(.int (1 : Int32))]) (rest := []) (lenOf pd_17 rfl) rfl (by show 2 * 0 + _ ≤ _; exact Nat.le_of_eq rfl) (hb hby at_202) (fun _ _ => ⟨rfl, rfl, (by decide : 30 + 0 ≤ _), (by decide : 225 + 0 ≤ _)⟩)
                dsimp only [Pt.U, Pt.locs, Pt.cells, Pt.slots] at X307 l307 y307 z307 st307 hQ307
                subst l307 y307 z307
                obtain ⟨rfl, N307q, eh307⟩ := hQ307
                have N307 := Fr.app N296 N307q
                refine Go.step (fun _ kt => st307.trans kt) ?_
                show Go p.tables e below _ (T307.setTop (mkF m 205 #[.val (.int p1), .val (.int p2), .val (.int p3), .val (.int (1 : Int32)), .val (.int (0 : Int32)), .val (.int (0 : Int32)), .val (.int (0 : Int32)), .val (.ref b101), .val (.ref b120), .val (.ref b173), .val (.ref b230), .val (.ref b173), .val (.ref b173), .val .null] [(.ref b173)]))
                refine Go.step (fun _ kt => XS.aload X307.here hx rfl (hb hby at_205) rfl rfl kt) ?_
                show Go p.tables e below _ (T307.setTop (mkF m 207 #[.val (.int p1), .val (.int p2), .val (.int p3), .val (.int (1 : Int32)), .val (.int (0 : Int32)), .val (.int (0 : Int32)), .val (.int (0 : Int32)), .val (.ref b101), .val (.ref b120), .val (.ref b173), .val (.ref b230), .val (.ref b173), .val (.ref b173), .val .null] [(.ref b173), (.ref b173)]))
                refine Go.step (fun _ kt => Jvm.RoadKit.acmp (g := (mkF m 207 #[.val (.int p1), .val (.int p2), .val (.int p3), .val (.int (1 : Int32)), .val (.int (0 : Int32)), .val (.int (0 : Int32)), .val (.int (0 : Int32)), .val (.ref b101), .val (.ref b120), .val (.ref b173), .val (.ref b230), .val (.ref b173), .val (.ref b173), .val .null] [(.ref b173), (.ref b173)])) X307 hx rfl rfl rfl (pc0 := 207) (pc' := 210) (same := true) rfl (hb hby at_207) rfl (decide_eq_true rfl) (by decide) (by decide) kt) ?_
                show Go p.tables e below _ (T307.setTop (mkF m 210 #[.val (.int p1), .val (.int p2), .val (.int p3), .val (.int (1 : Int32)), .val (.int (0 : Int32)), .val (.int (0 : Int32)), .val (.int (0 : Int32)), .val (.ref b101), .val (.ref b120), .val (.ref b173), .val (.ref b230), .val (.ref b173), .val (.ref b173), .val .null] []))
                refine Go.step (fun _ kt => XS.aload X307.here hx rfl (hb hby at_210) rfl rfl (XS.iloadN X307.here hx rfl (hb hby at_212) rfl (XS.ifYes X307.here hx rfl (pc0 := 213) (pc' := 220) rfl (hb hby at_213) rfl ((if0 _ _).trans (feq (by decide : ¬ ((1 : Int32) = (0 : Int32)))).2) (by decide) (by decide) (XS.iconst X307.here hx rfl (hb hby at_220) kt)))) ?_
                show Go p.tables e below _ (T307.setTop (mkF m 221 #[.val (.int p1), .val (.int p2), .val (.int p3), .val (.int (1 : Int32)), .val (.int (0 : Int32)), .val (.int (0 : Int32)), .val (.int (0 : Int32)), .val (.ref b101), .val (.ref b120), .val (.ref b173), .val (.ref b230), .val (.ref b173), .val (.ref b173), .val .null] [(.int (0 : Int32)), (.ref b101)]))
                obtain ⟨cq308, kq308, q308a, q308b, q308c⟩ := isOf hZ eh307 P297
                obtain ⟨_, _, ⟨T308, L308, k308, n308⟩, -, X308, ⟨Lc308, hQ308, l308, y308, z308⟩, st308⟩ := X307.virtualBack hx (y := (⟨"com/example/ottawa/ottawa/TagPattern", "following", "(Z)Lcom/example/ottawa/ottawa/KeptName;"⟩ : MethodName)) (z := (⟨"com/example/ottawa/ottawa/TagPattern", "following", "(Z)Lcom/example/ottawa/ottawa/KeptName;"⟩ : MethodName)) hown (mvT hZ (hw _ (List.mem_of_getElem? (i := 163) rfl))) (mvT hZ (hw _ (List.mem_of_getElem? (i := 164) rfl))) (notFace_of_selects (args := #[]) (mvT hZ (hw _ (List.mem_of_getElem? (i := 166) rfl)))) (mvT hZ (hw _ (List.mem_of_getElem? (i := 166) rfl))) (mvT hZ (hw _ (List.mem_of_getElem? (i := 165) rfl))) (by decide) (backOf (W := 0) (rmg3 l Z a0 hw [] b101  T296.heap n0 Z304 P299 ) hZ (hw _ (List.mem_of_getElem? (i := 167) rfl)) (hw _ (List.mem_of_getElem? (i := 3) rfl)) (by decide) (by decide)) q308a q308c (g := (mkF m 221 #[.val (.int p1), .val (.int p2), .val (.int p3), .val (.int (1 : Int32)), .val (.int (0 : Int32)), .val (.int (0 : Int32)), .val (.int (0 : Int32)), .val (.ref b101), .val (.ref b120), .val (.ref b173), .val (.ref b230), .val (.ref b173), .val (.ref b173), .val .null] [(.int (0 : Int32)), (.ref b101)])) rfl (by rw [hml]; rfl) (Steps.refl _) (argsL := [(.int (0 : Int32))]) (rest := []) (lenOf pd_17 rfl) rfl (by show 2 * 0 + _ ≤ _; exact Nat.le_of_eq rfl) (hb hby at_221) (fun _ _ => ⟨rfl, eh307, (by decide : 30 + 0 ≤ _), (by decide : 225 + 0 ≤ _)⟩)
                dsimp only [Pt.U, Pt.locs, Pt.cells, Pt.slots] at X308 l308 y308 z308 st308 hQ308
                subst l308 y308 z308
                obtain ⟨rfl, N308q, eh308⟩ := hQ308
                have N308 := Fr.app N307 N308q
                refine Go.step (fun _ kt => st308.trans kt) ?_
                show Go p.tables e below _ (T308.setTop (mkF m 224 #[.val (.int p1), .val (.int p2), .val (.int p3), .val (.int (1 : Int32)), .val (.int (0 : Int32)), .val (.int (0 : Int32)), .val (.int (0 : Int32)), .val (.ref b101), .val (.ref b120), .val (.ref b173), .val (.ref b230), .val (.ref b173), .val (.ref b173), .val .null] [.null]))
                refine Go.step (fun _ kt => XS.aload X308.here hx rfl (hb hby at_224) rfl rfl kt) ?_
                show Go p.tables e below _ (T308.setTop (mkF m 226 #[.val (.int p1), .val (.int p2), .val (.int p3), .val (.int (1 : Int32)), .val (.int (0 : Int32)), .val (.int (0 : Int32)), .val (.int (0 : Int32)), .val (.ref b101), .val (.ref b120), .val (.ref b173), .val (.ref b230), .val (.ref b173), .val (.ref b173), .val .null] [.null, .null]))
                refine Go.step (fun _ kt => Jvm.RoadKit.acmp (g := (mkF m 226 #[.val (.int p1), .val (.int p2), .val (.int p3), .val (.int (1 : Int32)), .val (.int (0 : Int32)), .val (.int (0 : Int32)), .val (.int (0 : Int32)), .val (.ref b101), .val (.ref b120), .val (.ref b173), .val (.ref b230), .val (.ref b173), .val (.ref b173), .val .null] [.null, .null])) X308 hx rfl rfl rfl (pc0 := 226) (pc' := 229) (same := true) rfl (hb hby at_226) rfl (decide_eq_true rfl) (by decide) (by decide) kt) ?_
                show Go p.tables e below _ (T308.setTop (mkF m 229 #[.val (.int p1), .val (.int p2), .val (.int p3), .val (.int (1 : Int32)), .val (.int (0 : Int32)), .val (.int (0 : Int32)), .val (.int (0 : Int32)), .val (.ref b101), .val (.ref b120), .val (.ref b173), .val (.ref b230), .val (.ref b173), .val (.ref b173), .val .null] []))
                refine Go.step (fun _ kt => XS.iconst X308.here hx rfl (hb hby at_229) (XS.goto X308.here hx rfl (pc0 := 230) (pc' := 234) rfl (hb hby at_230) (by decide) (by decide) kt)) ?_
                show Go p.tables e below _ (T308.setTop (mkF m 234 #[.val (.int p1), .val (.int p2), .val (.int p3), .val (.int (1 : Int32)), .val (.int (0 : Int32)), .val (.int (0 : Int32)), .val (.int (0 : Int32)), .val (.ref b101), .val (.ref b120), .val (.ref b173), .val (.ref b230), .val (.ref b173), .val (.ref b173), .val .null] [(.int (1 : Int32))]))
                obtain ⟨fs, hr, hrun, hended, hRW⟩ := X308.leaveW hS266 (by rw [eh308]; exact hk305) (v := some (.int (1 : Int32))) (fun h => by rw [Bd.returns] at h; cases h)
                refine ⟨_, _, retN X308 hx (t := .boolean) Bd.returns (by simp) (hb hby at_234) hr, hrun, hended, _, _, rfl, ?_, (by have q := C306.trans (CHv.at X308 hZ (own_EW hw) C306.1); rw [hh]; rw [← eh308] at q; exact q), hRW.1, hRW.2.1, hRW.2.2.1, hRW.2.2.2.mono (by decide) (by decide)⟩
                show Qrm0 Z p1 p2 p3 cs h0 n0 _ T308.heap _
                rw [eh308]
                exact ⟨rfl, N308⟩
            · rw [hq]
              show Go p.tables e below _ (T266.setTop (mkF m 123 #[.val (.int p1), .val (.int p2), .val (.int p3), .val (.int bi), .val (.int (0 : Int32)), .val (.int (0 : Int32)), .val (.int (1 : Int32)), .val (.ref b101), .val (.ref b120), .val (.ref b173), .val (.ref b230), .unset, .unset, .unset] []))
              refine Go.step (fun _ kt => XS.iload X266.here hx rfl (hb hby at_123) rfl (XS.ifYes X266.here hx rfl (pc0 := 125) (pc' := 133) rfl (hb hby at_125) rfl ((if0 _ _).trans (feq (by decide : ¬ ((1 : Int32) = (0 : Int32)))).2) (by decide) (by decide) (XS.iload X266.here hx rfl (hb hby at_133) rfl (XS.iconst X266.here hx rfl (hb hby at_135) (XS.icmpNo X266.here hx rfl (hb hby at_136) rfl (teq (by decide : (1 : Int32) = (1 : Int32))).2 (XS.aload X266.here hx rfl (hb hby at_139) rfl rfl (XS.goto X266.here hx rfl (pc0 := 141) (pc' := 145) rfl (hb hby at_141) (by decide) (by decide) (XS.astore X266.here hx rfl (hb hby at_145) rfl rfl (l' := #[.val (.int p1), .val (.int p2), .val (.int p3), .val (.int bi), .val (.int (0 : Int32)), .val (.int (0 : Int32)), .val (.int (1 : Int32)), .val (.ref b101), .val (.ref b120), .val (.ref b173), .val (.ref b230), .val (.ref b230), .unset, .unset]) rfl (XS.iload X266.here hx rfl (hb hby at_147) rfl (XS.ifYes X266.here hx rfl (pc0 := 149) (pc' := 157) rfl (hb hby at_149) rfl ((if0 _ _).trans (feq (by decide : ¬ ((1 : Int32) = (0 : Int32)))).2) (by decide) (by decide) (XS.aconstNull X266.here hx rfl (hb hby at_157) (XS.astore X266.here hx rfl (hb hby at_158) rfl rfl (l' := #[.val (.int p1), .val (.int p2), .val (.int p3), .val (.int bi), .val (.int (0 : Int32)), .val (.int (0 : Int32)), .val (.int (1 : Int32)), .val (.ref b101), .val (.ref b120), .val (.ref b173), .val (.ref b230), .val (.ref b230), .val .null, .unset]) rfl kt)))))))))))) ?_
              show Go p.tables e below _ (T266.setTop (mkF m 160 #[.val (.int p1), .val (.int p2), .val (.int p3), .val (.int bi), .val (.int (0 : Int32)), .val (.int (0 : Int32)), .val (.int (1 : Int32)), .val (.ref b101), .val (.ref b120), .val (.ref b173), .val (.ref b230), .val (.ref b230), .val .null, .unset] []))
              rcases h_bi with hq | hq
              · rw [hq]
                show Go p.tables e below _ (T266.setTop (mkF m 160 #[.val (.int p1), .val (.int p2), .val (.int p3), .val (.int (0 : Int32)), .val (.int (0 : Int32)), .val (.int (0 : Int32)), .val (.int (1 : Int32)), .val (.ref b101), .val (.ref b120), .val (.ref b173), .val (.ref b230), .val (.ref b230), .val .null, .unset] []))
                refine Go.step (fun _ kt => XS.iloadN X266.here hx rfl (hb hby at_160) rfl (XS.ifYes X266.here hx rfl (pc0 := 161) (pc' := 178) rfl (hb hby at_161) rfl ((if0 _ _).trans (teq (by decide : (0 : Int32) = (0 : Int32))).1) (by decide) (by decide) (XS.iload X266.here hx rfl (hb hby at_178) rfl (XS.ifYes X266.here hx rfl (pc0 := 180) (pc' := 188) rfl (hb hby at_180) rfl ((if0 _ _).trans (teq (by decide : (0 : Int32) = (0 : Int32))).1) (by decide) (by decide) (XS.aconstNull X266.here hx rfl (hb hby at_188) (XS.astore X266.here hx rfl (hb hby at_189) rfl rfl (l' := #[.val (.int p1), .val (.int p2), .val (.int p3), .val (.int (0 : Int32)), .val (.int (0 : Int32)), .val (.int (0 : Int32)), .val (.int (1 : Int32)), .val (.ref b101), .val (.ref b120), .val (.ref b173), .val (.ref b230), .val (.ref b230), .val .null, .val .null]) rfl (XS.aload X266.here hx rfl (hb hby at_191) rfl rfl (XS.iloadN X266.here hx rfl (hb hby at_193) rfl (XS.aload X266.here hx rfl (hb hby at_194) rfl rfl kt))))))))) ?_
                show Go p.tables e below _ (T266.setTop (mkF m 196 #[.val (.int p1), .val (.int p2), .val (.int p3), .val (.int (0 : Int32)), .val (.int (0 : Int32)), .val (.int (0 : Int32)), .val (.int (1 : Int32)), .val (.ref b101), .val (.ref b120), .val (.ref b173), .val (.ref b230), .val (.ref b230), .val .null, .val .null] [(.ref b230), (.int (0 : Int32)), (.ref b101)]))
                obtain ⟨cq309, kq309, q309a, q309b, q309c⟩ := isOf hZ rfl F271
                obtain ⟨_, _, ⟨T309, L309, k309, n309⟩, -, X309, ⟨Lc309, hQ309, l309, y309, z309⟩, st309⟩ := X266.virtualBack hx (y := (⟨"com/example/ottawa/ottawa/TagPattern", "follow", "(ZLcom/example/ottawa/ottawa/Name;)V"⟩ : MethodName)) (z := (⟨"com/example/ottawa/ottawa/TagPattern", "follow", "(ZLcom/example/ottawa/ottawa/Name;)V"⟩ : MethodName)) hown (mvT hZ (hw _ (List.mem_of_getElem? (i := 153) rfl))) (mvT hZ (hw _ (List.mem_of_getElem? (i := 154) rfl))) (notFace_of_selects (args := #[]) (mvT hZ (hw _ (List.mem_of_getElem? (i := 156) rfl)))) (mvT hZ (hw _ (List.mem_of_getElem? (i := 156) rfl))) (mvT hZ (hw _ (List.mem_of_getElem? (i := 155) rfl))) (by decide) (backOf (W := 0) (rmf2 l Z a0 hw [] b101 b230 .null .null T266.heap n0 Z281 F271 F272 F273 P267 g_b101 (Ne.symm ne_b101_b230)) hZ (hw _ (List.mem_of_getElem? (i := 157) rfl)) (hw _ (List.mem_of_getElem? (i := 3) rfl)) (by decide) (by decide)) q309a q309c (g := (mkF m 196 #[.val (.int p1), .val (.int p2), .val (.int p3), .val (.int (0 : Int32)), .val (.int (0 : Int32)), .val (.int (0 : Int32)), .val (.int (1 : Int32)), .val (.ref b101), .val (.ref b120), .val (.ref b173), .val (.ref b230), .val (.ref b230), .val .null, .val .null] [(.ref b230), (.int (0 : Int32)), (.ref b101)])) rfl (by rw [hml]; rfl) (Steps.refl _) (argsL := [(.int (0 : Int32)), (.ref b230)]) (rest := []) (lenOf pd_16 rfl) rfl (by show 2 * 0 + _ ≤ _; exact Nat.le_of_eq rfl) (hb hby at_196) (fun _ _ => ⟨rfl, rfl, (by decide : 30 + 0 ≤ _), (by decide : 225 + 0 ≤ _)⟩)
                dsimp only [Pt.U, Pt.locs, Pt.cells, Pt.slots] at X309 l309 y309 z309 st309 hQ309
                subst l309 y309 z309
                obtain ⟨rfl, N309q, Kq309, P310, P311, P312⟩ := hQ309
                have F313 : Exa Z T309.heap b101 "com/example/ottawa/ottawa/TagPattern" := (F271.keep Kq309)
                have F314 : Exa Z T309.heap b120 "com/example/ottawa/ottawa/KeptName" := (F274.keep Kq309)
                have F315 : Exa Z T309.heap b173 "com/example/ottawa/ottawa/KeptName" := (F275.keep Kq309)
                have F316 : Exa Z T309.heap b230 "com/example/ottawa/ottawa/Name" := (P267.keep Kq309)
                have Z317 : n0 ≤ T309.heap.size := (Nat.le_trans Z281 Kq309.1)
                have hk318 : _ ≤ T309.heap.size := (Nat.le_trans hk266 Kq309.1)
                have C319 := (C282.trans (CHr.keep Kq309 (by intro x hx; cases List.mem_singleton.mp hx; exact (Safe.exa hZ.alike F271 (by decide) (by decide))) C282.1))
                have N309 := Fr.app N266 N309q
                refine Go.step (fun _ kt => st309.trans kt) ?_
                show Go p.tables e below _ (T309.setTop (mkF m 199 #[.val (.int p1), .val (.int p2), .val (.int p3), .val (.int (0 : Int32)), .val (.int (0 : Int32)), .val (.int (0 : Int32)), .val (.int (1 : Int32)), .val (.ref b101), .val (.ref b120), .val (.ref b173), .val (.ref b230), .val (.ref b230), .val .null, .val .null] []))
                refine Go.step (fun _ kt => XS.aload X309.here hx rfl (hb hby at_199) rfl rfl (XS.iloadN X309.here hx rfl (hb hby at_201) rfl kt)) ?_
                show Go p.tables e below _ (T309.setTop (mkF m 202 #[.val (.int p1), .val (.int p2), .val (.int p3), .val (.int (0 : Int32)), .val (.int (0 : Int32)), .val (.int (0 : Int32)), .val (.int (1 : Int32)), .val (.ref b101), .val (.ref b120), .val (.ref b173), .val (.ref b230), .val (.ref b230), .val .null, .val .null] [(.int (0 : Int32)), (.ref b101)]))
                obtain ⟨cq320, kq320, q320a, q320b, q320c⟩ := isOf hZ rfl P310
                obtain ⟨_, _, ⟨T320, L320, k320, n320⟩, -, X320, ⟨Lc320, hQ320, l320, y320, z320⟩, st320⟩ := X309.virtualBack hx (y := (⟨"com/example/ottawa/ottawa/TagPattern", "following", "(Z)Lcom/example/ottawa/ottawa/KeptName;"⟩ : MethodName)) (z := (⟨"com/example/ottawa/ottawa/TagPattern", "following", "(Z)Lcom/example/ottawa/ottawa/KeptName;"⟩ : MethodName)) hown (mvT hZ (hw _ (List.mem_of_getElem? (i := 163) rfl))) (mvT hZ (hw _ (List.mem_of_getElem? (i := 164) rfl))) (notFace_of_selects (args := #[]) (mvT hZ (hw _ (List.mem_of_getElem? (i := 166) rfl)))) (mvT hZ (hw _ (List.mem_of_getElem? (i := 166) rfl))) (mvT hZ (hw _ (List.mem_of_getElem? (i := 165) rfl))) (by decide) (backOf (W := 0) (rmg3 l Z a0 hw [] b101  T309.heap n0 Z317 P312 ) hZ (hw _ (List.mem_of_getElem? (i := 167) rfl)) (hw _ (List.mem_of_getElem? (i := 3) rfl)) (by decide) (by decide)) q320a q320c (g := (mkF m 202 #[.val (.int p1), .val (.int p2), .val (.int p3), .val (.int (0 : Int32)), .val (.int (0 : Int32)), .val (.int (0 : Int32)), .val (.int (1 : Int32)), .val (.ref b101), .val (.ref b120), .val (.ref b173), .val (.ref b230), .val (.ref b230), .val .null, .val .null] [(.int (0 : Int32)), (.ref b101)])) rfl (by rw [hml]; rfl) (Steps.refl _) (argsL := [(.int (0 : Int32))]) (rest := []) (lenOf pd_17 rfl) rfl (by show 2 * 0 + _ ≤ _; exact Nat.le_of_eq rfl) (hb hby at_202) (fun _ _ => ⟨rfl, rfl, (by decide : 30 + 0 ≤ _), (by decide : 225 + 0 ≤ _)⟩)
                dsimp only [Pt.U, Pt.locs, Pt.cells, Pt.slots] at X320 l320 y320 z320 st320 hQ320
                subst l320 y320 z320
                obtain ⟨rfl, N320q, eh320⟩ := hQ320
                have N320 := Fr.app N309 N320q
                refine Go.step (fun _ kt => st320.trans kt) ?_
                show Go p.tables e below _ (T320.setTop (mkF m 205 #[.val (.int p1), .val (.int p2), .val (.int p3), .val (.int (0 : Int32)), .val (.int (0 : Int32)), .val (.int (0 : Int32)), .val (.int (1 : Int32)), .val (.ref b101), .val (.ref b120), .val (.ref b173), .val (.ref b230), .val (.ref b230), .val .null, .val .null] [.null]))
                refine Go.step (fun _ kt => XS.aload X320.here hx rfl (hb hby at_205) rfl rfl kt) ?_
                show Go p.tables e below _ (T320.setTop (mkF m 207 #[.val (.int p1), .val (.int p2), .val (.int p3), .val (.int (0 : Int32)), .val (.int (0 : Int32)), .val (.int (0 : Int32)), .val (.int (1 : Int32)), .val (.ref b101), .val (.ref b120), .val (.ref b173), .val (.ref b230), .val (.ref b230), .val .null, .val .null] [.null, .null]))
                refine Go.step (fun _ kt => Jvm.RoadKit.acmp (g := (mkF m 207 #[.val (.int p1), .val (.int p2), .val (.int p3), .val (.int (0 : Int32)), .val (.int (0 : Int32)), .val (.int (0 : Int32)), .val (.int (1 : Int32)), .val (.ref b101), .val (.ref b120), .val (.ref b173), .val (.ref b230), .val (.ref b230), .val .null, .val .null] [.null, .null])) X320 hx rfl rfl rfl (pc0 := 207) (pc' := 210) (same := true) rfl (hb hby at_207) rfl (decide_eq_true rfl) (by decide) (by decide) kt) ?_
                show Go p.tables e below _ (T320.setTop (mkF m 210 #[.val (.int p1), .val (.int p2), .val (.int p3), .val (.int (0 : Int32)), .val (.int (0 : Int32)), .val (.int (0 : Int32)), .val (.int (1 : Int32)), .val (.ref b101), .val (.ref b120), .val (.ref b173), .val (.ref b230), .val (.ref b230), .val .null, .val .null] []))
                refine Go.step (fun _ kt => XS.aload X320.here hx rfl (hb hby at_210) rfl rfl (XS.iloadN X320.here hx rfl (hb hby at_212) rfl (XS.ifNo X320.here hx rfl (hb hby at_213) rfl ((if0 _ _).trans (teq (by decide : (0 : Int32) = (0 : Int32))).2) (XS.iconst X320.here hx rfl (hb hby at_216) (XS.goto X320.here hx rfl (pc0 := 217) (pc' := 221) rfl (hb hby at_217) (by decide) (by decide) kt))))) ?_
                show Go p.tables e below _ (T320.setTop (mkF m 221 #[.val (.int p1), .val (.int p2), .val (.int p3), .val (.int (0 : Int32)), .val (.int (0 : Int32)), .val (.int (0 : Int32)), .val (.int (1 : Int32)), .val (.ref b101), .val (.ref b120), .val (.ref b173), .val (.ref b230), .val (.ref b230), .val .null, .val .null] [(.int (1 : Int32)), (.ref b101)]))
                obtain ⟨cq321, kq321, q321a, q321b, q321c⟩ := isOf hZ eh320 P310
                obtain ⟨_, _, ⟨T321, L321, k321, n321⟩, -, X321, ⟨Lc321, hQ321, l321, y321, z321⟩, st321⟩ := X320.virtualBack hx (y := (⟨"com/example/ottawa/ottawa/TagPattern", "following", "(Z)Lcom/example/ottawa/ottawa/KeptName;"⟩ : MethodName)) (z := (⟨"com/example/ottawa/ottawa/TagPattern", "following", "(Z)Lcom/example/ottawa/ottawa/KeptName;"⟩ : MethodName)) hown (mvT hZ (hw _ (List.mem_of_getElem? (i := 163) rfl))) (mvT hZ (hw _ (List.mem_of_getElem? (i := 164) rfl))) (notFace_of_selects (args := #[]) (mvT hZ (hw _ (List.mem_of_getElem? (i := 166) rfl)))) (mvT hZ (hw _ (List.mem_of_getElem? (i := 166) rfl))) (mvT hZ (hw _ (List.mem_of_getElem? (i := 165) rfl))) (by decide) (backOf (W := 0) (rmg1 l Z a0 hw [] b101  T309.heap n0 Z317 P311 ) hZ (hw _ (List.mem_of_getElem? (i := 167) rfl)) (hw _ (List.mem_of_getElem? (i := 3) rfl)) (by decide) (by decide)) q321a q321c (g := (mkF m 221 #[.val (.int p1), .val (.int p2), .val (.int p3), .val (.int (0 : Int32)), .val (.int (0 : Int32)), .val (.int (0 : Int32)), .val (.int (1 : Int32)), .val (.ref b101), .val (.ref b120), .val (.ref b173), .val (.ref b230), .val (.ref b230), .val .null, .val .null] [(.int (1 : Int32)), (.ref b101)])) rfl (by rw [hml]; rfl) (Steps.refl _) (argsL := [(.int (1 : Int32))]) (rest := []) (lenOf pd_17 rfl) rfl (by show 2 * 0 + _ ≤ _; exact Nat.le_of_eq rfl) (hb hby at_221) (fun _ _ => ⟨rfl, eh320, (by decide : 30 + 0 ≤ _), (by decide : 225 + 0 ≤ _)⟩)
                dsimp only [Pt.U, Pt.locs, Pt.cells, Pt.slots] at X321 l321 y321 z321 st321 hQ321
                subst l321 y321 z321
                obtain ⟨rfl, N321q, eh321⟩ := hQ321
                have N321 := Fr.app N320 N321q
                refine Go.step (fun _ kt => st321.trans kt) ?_
                show Go p.tables e below _ (T321.setTop (mkF m 224 #[.val (.int p1), .val (.int p2), .val (.int p3), .val (.int (0 : Int32)), .val (.int (0 : Int32)), .val (.int (0 : Int32)), .val (.int (1 : Int32)), .val (.ref b101), .val (.ref b120), .val (.ref b173), .val (.ref b230), .val (.ref b230), .val .null, .val .null] [.null]))
                refine Go.step (fun _ kt => XS.aload X321.here hx rfl (hb hby at_224) rfl rfl kt) ?_
                show Go p.tables e below _ (T321.setTop (mkF m 226 #[.val (.int p1), .val (.int p2), .val (.int p3), .val (.int (0 : Int32)), .val (.int (0 : Int32)), .val (.int (0 : Int32)), .val (.int (1 : Int32)), .val (.ref b101), .val (.ref b120), .val (.ref b173), .val (.ref b230), .val (.ref b230), .val .null, .val .null] [.null, .null]))
                refine Go.step (fun _ kt => Jvm.RoadKit.acmp (g := (mkF m 226 #[.val (.int p1), .val (.int p2), .val (.int p3), .val (.int (0 : Int32)), .val (.int (0 : Int32)), .val (.int (0 : Int32)), .val (.int (1 : Int32)), .val (.ref b101), .val (.ref b120), .val (.ref b173), .val (.ref b230), .val (.ref b230), .val .null, .val .null] [.null, .null])) X321 hx rfl rfl rfl (pc0 := 226) (pc' := 229) (same := true) rfl (hb hby at_226) rfl (decide_eq_true rfl) (by decide) (by decide) kt) ?_
                show Go p.tables e below _ (T321.setTop (mkF m 229 #[.val (.int p1), .val (.int p2), .val (.int p3), .val (.int (0 : Int32)), .val (.int (0 : Int32)), .val (.int (0 : Int32)), .val (.int (1 : Int32)), .val (.ref b101), .val (.ref b120), .val (.ref b173), .val (.ref b230), .val (.ref b230), .val .null, .val .null] []))
                refine Go.step (fun _ kt => XS.iconst X321.here hx rfl (hb hby at_229) (XS.goto X321.here hx rfl (pc0 := 230) (pc' := 234) rfl (hb hby at_230) (by decide) (by decide) kt)) ?_
                show Go p.tables e below _ (T321.setTop (mkF m 234 #[.val (.int p1), .val (.int p2), .val (.int p3), .val (.int (0 : Int32)), .val (.int (0 : Int32)), .val (.int (0 : Int32)), .val (.int (1 : Int32)), .val (.ref b101), .val (.ref b120), .val (.ref b173), .val (.ref b230), .val (.ref b230), .val .null, .val .null] [(.int (1 : Int32))]))
                obtain ⟨fs, hr, hrun, hended, hRW⟩ := X321.leaveW hS266 (by rw [eh321]; exact hk318) (v := some (.int (1 : Int32))) (fun h => by rw [Bd.returns] at h; cases h)
                refine ⟨_, _, retN X321 hx (t := .boolean) Bd.returns (by simp) (hb hby at_234) hr, hrun, hended, _, _, rfl, ?_, (by have q := C319.trans (CHv.at X321 hZ (own_EW hw) C319.1); rw [hh]; rw [← eh321] at q; exact q), hRW.1, hRW.2.1, hRW.2.2.1, hRW.2.2.2.mono (by decide) (by decide)⟩
                show Qrm0 Z p1 p2 p3 cs h0 n0 _ T321.heap _
                rw [eh321]
                exact ⟨rfl, N321⟩
              · rw [hq]
                show Go p.tables e below _ (T266.setTop (mkF m 160 #[.val (.int p1), .val (.int p2), .val (.int p3), .val (.int (1 : Int32)), .val (.int (0 : Int32)), .val (.int (0 : Int32)), .val (.int (1 : Int32)), .val (.ref b101), .val (.ref b120), .val (.ref b173), .val (.ref b230), .val (.ref b230), .val .null, .unset] []))
                refine Go.step (fun _ kt => XS.iloadN X266.here hx rfl (hb hby at_160) rfl (XS.ifNo X266.here hx rfl (hb hby at_161) rfl ((if0 _ _).trans (feq (by decide : ¬ ((1 : Int32) = (0 : Int32)))).1) (XS.iload X266.here hx rfl (hb hby at_164) rfl (XS.ifYes X266.here hx rfl (pc0 := 166) (pc' := 174) rfl (hb hby at_166) rfl ((if0 _ _).trans (teq (by decide : (0 : Int32) = (0 : Int32))).1) (by decide) (by decide) (XS.aconstNull X266.here hx rfl (hb hby at_174) (XS.goto X266.here hx rfl (pc0 := 175) (pc' := 189) rfl (hb hby at_175) (by decide) (by decide) (XS.astore X266.here hx rfl (hb hby at_189) rfl rfl (l' := #[.val (.int p1), .val (.int p2), .val (.int p3), .val (.int (1 : Int32)), .val (.int (0 : Int32)), .val (.int (0 : Int32)), .val (.int (1 : Int32)), .val (.ref b101), .val (.ref b120), .val (.ref b173), .val (.ref b230), .val (.ref b230), .val .null, .val .null]) rfl (XS.aload X266.here hx rfl (hb hby at_191) rfl rfl (XS.iloadN X266.here hx rfl (hb hby at_193) rfl (XS.aload X266.here hx rfl (hb hby at_194) rfl rfl kt)))))))))) ?_
                show Go p.tables e below _ (T266.setTop (mkF m 196 #[.val (.int p1), .val (.int p2), .val (.int p3), .val (.int (1 : Int32)), .val (.int (0 : Int32)), .val (.int (0 : Int32)), .val (.int (1 : Int32)), .val (.ref b101), .val (.ref b120), .val (.ref b173), .val (.ref b230), .val (.ref b230), .val .null, .val .null] [(.ref b230), (.int (1 : Int32)), (.ref b101)]))
                obtain ⟨cq322, kq322, q322a, q322b, q322c⟩ := isOf hZ rfl F271
                obtain ⟨_, _, ⟨T322, L322, k322, n322⟩, -, X322, ⟨Lc322, hQ322, l322, y322, z322⟩, st322⟩ := X266.virtualBack hx (y := (⟨"com/example/ottawa/ottawa/TagPattern", "follow", "(ZLcom/example/ottawa/ottawa/Name;)V"⟩ : MethodName)) (z := (⟨"com/example/ottawa/ottawa/TagPattern", "follow", "(ZLcom/example/ottawa/ottawa/Name;)V"⟩ : MethodName)) hown (mvT hZ (hw _ (List.mem_of_getElem? (i := 153) rfl))) (mvT hZ (hw _ (List.mem_of_getElem? (i := 154) rfl))) (notFace_of_selects (args := #[]) (mvT hZ (hw _ (List.mem_of_getElem? (i := 156) rfl)))) (mvT hZ (hw _ (List.mem_of_getElem? (i := 156) rfl))) (mvT hZ (hw _ (List.mem_of_getElem? (i := 155) rfl))) (by decide) (backOf (W := 0) (rmf3 l Z a0 hw [] b101 b230 .null .null T266.heap n0 Z281 F271 F272 F273 P267 g_b101 (Ne.symm ne_b101_b230)) hZ (hw _ (List.mem_of_getElem? (i := 157) rfl)) (hw _ (List.mem_of_getElem? (i := 3) rfl)) (by decide) (by decide)) q322a q322c (g := (mkF m 196 #[.val (.int p1), .val (.int p2), .val (.int p3), .val (.int (1 : Int32)), .val (.int (0 : Int32)), .val (.int (0 : Int32)), .val (.int (1 : Int32)), .val (.ref b101), .val (.ref b120), .val (.ref b173), .val (.ref b230), .val (.ref b230), .val .null, .val .null] [(.ref b230), (.int (1 : Int32)), (.ref b101)])) rfl (by rw [hml]; rfl) (Steps.refl _) (argsL := [(.int (1 : Int32)), (.ref b230)]) (rest := []) (lenOf pd_16 rfl) rfl (by show 2 * 0 + _ ≤ _; exact Nat.le_of_eq rfl) (hb hby at_196) (fun _ _ => ⟨rfl, rfl, (by decide : 30 + 0 ≤ _), (by decide : 225 + 0 ≤ _)⟩)
                dsimp only [Pt.U, Pt.locs, Pt.cells, Pt.slots] at X322 l322 y322 z322 st322 hQ322
                subst l322 y322 z322
                obtain ⟨rfl, N322q, Kq322, P323, P324, P325⟩ := hQ322
                have F326 : Exa Z T322.heap b101 "com/example/ottawa/ottawa/TagPattern" := (F271.keep Kq322)
                have F327 : Exa Z T322.heap b120 "com/example/ottawa/ottawa/KeptName" := (F274.keep Kq322)
                have F328 : Exa Z T322.heap b173 "com/example/ottawa/ottawa/KeptName" := (F275.keep Kq322)
                have F329 : Exa Z T322.heap b230 "com/example/ottawa/ottawa/Name" := (P267.keep Kq322)
                have Z330 : n0 ≤ T322.heap.size := (Nat.le_trans Z281 Kq322.1)
                have hk331 : _ ≤ T322.heap.size := (Nat.le_trans hk266 Kq322.1)
                have C332 := (C282.trans (CHr.keep Kq322 (by intro x hx; cases List.mem_singleton.mp hx; exact (Safe.exa hZ.alike F271 (by decide) (by decide))) C282.1))
                have N322 := Fr.app N266 N322q
                refine Go.step (fun _ kt => st322.trans kt) ?_
                show Go p.tables e below _ (T322.setTop (mkF m 199 #[.val (.int p1), .val (.int p2), .val (.int p3), .val (.int (1 : Int32)), .val (.int (0 : Int32)), .val (.int (0 : Int32)), .val (.int (1 : Int32)), .val (.ref b101), .val (.ref b120), .val (.ref b173), .val (.ref b230), .val (.ref b230), .val .null, .val .null] []))
                refine Go.step (fun _ kt => XS.aload X322.here hx rfl (hb hby at_199) rfl rfl (XS.iloadN X322.here hx rfl (hb hby at_201) rfl kt)) ?_
                show Go p.tables e below _ (T322.setTop (mkF m 202 #[.val (.int p1), .val (.int p2), .val (.int p3), .val (.int (1 : Int32)), .val (.int (0 : Int32)), .val (.int (0 : Int32)), .val (.int (1 : Int32)), .val (.ref b101), .val (.ref b120), .val (.ref b173), .val (.ref b230), .val (.ref b230), .val .null, .val .null] [(.int (1 : Int32)), (.ref b101)]))
                obtain ⟨cq333, kq333, q333a, q333b, q333c⟩ := isOf hZ rfl P323
                obtain ⟨_, _, ⟨T333, L333, k333, n333⟩, -, X333, ⟨Lc333, hQ333, l333, y333, z333⟩, st333⟩ := X322.virtualBack hx (y := (⟨"com/example/ottawa/ottawa/TagPattern", "following", "(Z)Lcom/example/ottawa/ottawa/KeptName;"⟩ : MethodName)) (z := (⟨"com/example/ottawa/ottawa/TagPattern", "following", "(Z)Lcom/example/ottawa/ottawa/KeptName;"⟩ : MethodName)) hown (mvT hZ (hw _ (List.mem_of_getElem? (i := 163) rfl))) (mvT hZ (hw _ (List.mem_of_getElem? (i := 164) rfl))) (notFace_of_selects (args := #[]) (mvT hZ (hw _ (List.mem_of_getElem? (i := 166) rfl)))) (mvT hZ (hw _ (List.mem_of_getElem? (i := 166) rfl))) (mvT hZ (hw _ (List.mem_of_getElem? (i := 165) rfl))) (by decide) (backOf (W := 0) (rmg1 l Z a0 hw [] b101  T322.heap n0 Z330 P324 ) hZ (hw _ (List.mem_of_getElem? (i := 167) rfl)) (hw _ (List.mem_of_getElem? (i := 3) rfl)) (by decide) (by decide)) q333a q333c (g := (mkF m 202 #[.val (.int p1), .val (.int p2), .val (.int p3), .val (.int (1 : Int32)), .val (.int (0 : Int32)), .val (.int (0 : Int32)), .val (.int (1 : Int32)), .val (.ref b101), .val (.ref b120), .val (.ref b173), .val (.ref b230), .val (.ref b230), .val .null, .val .null] [(.int (1 : Int32)), (.ref b101)])) rfl (by rw [hml]; rfl) (Steps.refl _) (argsL := [(.int (1 : Int32))]) (rest := []) (lenOf pd_17 rfl) rfl (by show 2 * 0 + _ ≤ _; exact Nat.le_of_eq rfl) (hb hby at_202) (fun _ _ => ⟨rfl, rfl, (by decide : 30 + 0 ≤ _), (by decide : 225 + 0 ≤ _)⟩)
                dsimp only [Pt.U, Pt.locs, Pt.cells, Pt.slots] at X333 l333 y333 z333 st333 hQ333
                subst l333 y333 z333
                obtain ⟨rfl, N333q, eh333⟩ := hQ333
                have N333 := Fr.app N322 N333q
                refine Go.step (fun _ kt => st333.trans kt) ?_
                show Go p.tables e below _ (T333.setTop (mkF m 205 #[.val (.int p1), .val (.int p2), .val (.int p3), .val (.int (1 : Int32)), .val (.int (0 : Int32)), .val (.int (0 : Int32)), .val (.int (1 : Int32)), .val (.ref b101), .val (.ref b120), .val (.ref b173), .val (.ref b230), .val (.ref b230), .val .null, .val .null] [.null]))
                refine Go.step (fun _ kt => XS.aload X333.here hx rfl (hb hby at_205) rfl rfl kt) ?_
                show Go p.tables e below _ (T333.setTop (mkF m 207 #[.val (.int p1), .val (.int p2), .val (.int p3), .val (.int (1 : Int32)), .val (.int (0 : Int32)), .val (.int (0 : Int32)), .val (.int (1 : Int32)), .val (.ref b101), .val (.ref b120), .val (.ref b173), .val (.ref b230), .val (.ref b230), .val .null, .val .null] [.null, .null]))
                refine Go.step (fun _ kt => Jvm.RoadKit.acmp (g := (mkF m 207 #[.val (.int p1), .val (.int p2), .val (.int p3), .val (.int (1 : Int32)), .val (.int (0 : Int32)), .val (.int (0 : Int32)), .val (.int (1 : Int32)), .val (.ref b101), .val (.ref b120), .val (.ref b173), .val (.ref b230), .val (.ref b230), .val .null, .val .null] [.null, .null])) X333 hx rfl rfl rfl (pc0 := 207) (pc' := 210) (same := true) rfl (hb hby at_207) rfl (decide_eq_true rfl) (by decide) (by decide) kt) ?_
                show Go p.tables e below _ (T333.setTop (mkF m 210 #[.val (.int p1), .val (.int p2), .val (.int p3), .val (.int (1 : Int32)), .val (.int (0 : Int32)), .val (.int (0 : Int32)), .val (.int (1 : Int32)), .val (.ref b101), .val (.ref b120), .val (.ref b173), .val (.ref b230), .val (.ref b230), .val .null, .val .null] []))
                refine Go.step (fun _ kt => XS.aload X333.here hx rfl (hb hby at_210) rfl rfl (XS.iloadN X333.here hx rfl (hb hby at_212) rfl (XS.ifYes X333.here hx rfl (pc0 := 213) (pc' := 220) rfl (hb hby at_213) rfl ((if0 _ _).trans (feq (by decide : ¬ ((1 : Int32) = (0 : Int32)))).2) (by decide) (by decide) (XS.iconst X333.here hx rfl (hb hby at_220) kt)))) ?_
                show Go p.tables e below _ (T333.setTop (mkF m 221 #[.val (.int p1), .val (.int p2), .val (.int p3), .val (.int (1 : Int32)), .val (.int (0 : Int32)), .val (.int (0 : Int32)), .val (.int (1 : Int32)), .val (.ref b101), .val (.ref b120), .val (.ref b173), .val (.ref b230), .val (.ref b230), .val .null, .val .null] [(.int (0 : Int32)), (.ref b101)]))
                obtain ⟨cq334, kq334, q334a, q334b, q334c⟩ := isOf hZ eh333 P323
                obtain ⟨_, _, ⟨T334, L334, k334, n334⟩, -, X334, ⟨Lc334, hQ334, l334, y334, z334⟩, st334⟩ := X333.virtualBack hx (y := (⟨"com/example/ottawa/ottawa/TagPattern", "following", "(Z)Lcom/example/ottawa/ottawa/KeptName;"⟩ : MethodName)) (z := (⟨"com/example/ottawa/ottawa/TagPattern", "following", "(Z)Lcom/example/ottawa/ottawa/KeptName;"⟩ : MethodName)) hown (mvT hZ (hw _ (List.mem_of_getElem? (i := 163) rfl))) (mvT hZ (hw _ (List.mem_of_getElem? (i := 164) rfl))) (notFace_of_selects (args := #[]) (mvT hZ (hw _ (List.mem_of_getElem? (i := 166) rfl)))) (mvT hZ (hw _ (List.mem_of_getElem? (i := 166) rfl))) (mvT hZ (hw _ (List.mem_of_getElem? (i := 165) rfl))) (by decide) (backOf (W := 0) (rmg3 l Z a0 hw [] b101  T322.heap n0 Z330 P325 ) hZ (hw _ (List.mem_of_getElem? (i := 167) rfl)) (hw _ (List.mem_of_getElem? (i := 3) rfl)) (by decide) (by decide)) q334a q334c (g := (mkF m 221 #[.val (.int p1), .val (.int p2), .val (.int p3), .val (.int (1 : Int32)), .val (.int (0 : Int32)), .val (.int (0 : Int32)), .val (.int (1 : Int32)), .val (.ref b101), .val (.ref b120), .val (.ref b173), .val (.ref b230), .val (.ref b230), .val .null, .val .null] [(.int (0 : Int32)), (.ref b101)])) rfl (by rw [hml]; rfl) (Steps.refl _) (argsL := [(.int (0 : Int32))]) (rest := []) (lenOf pd_17 rfl) rfl (by show 2 * 0 + _ ≤ _; exact Nat.le_of_eq rfl) (hb hby at_221) (fun _ _ => ⟨rfl, eh333, (by decide : 30 + 0 ≤ _), (by decide : 225 + 0 ≤ _)⟩)
                dsimp only [Pt.U, Pt.locs, Pt.cells, Pt.slots] at X334 l334 y334 z334 st334 hQ334
                subst l334 y334 z334
                obtain ⟨rfl, N334q, eh334⟩ := hQ334
                have N334 := Fr.app N333 N334q
                refine Go.step (fun _ kt => st334.trans kt) ?_
                show Go p.tables e below _ (T334.setTop (mkF m 224 #[.val (.int p1), .val (.int p2), .val (.int p3), .val (.int (1 : Int32)), .val (.int (0 : Int32)), .val (.int (0 : Int32)), .val (.int (1 : Int32)), .val (.ref b101), .val (.ref b120), .val (.ref b173), .val (.ref b230), .val (.ref b230), .val .null, .val .null] [.null]))
                refine Go.step (fun _ kt => XS.aload X334.here hx rfl (hb hby at_224) rfl rfl kt) ?_
                show Go p.tables e below _ (T334.setTop (mkF m 226 #[.val (.int p1), .val (.int p2), .val (.int p3), .val (.int (1 : Int32)), .val (.int (0 : Int32)), .val (.int (0 : Int32)), .val (.int (1 : Int32)), .val (.ref b101), .val (.ref b120), .val (.ref b173), .val (.ref b230), .val (.ref b230), .val .null, .val .null] [.null, .null]))
                refine Go.step (fun _ kt => Jvm.RoadKit.acmp (g := (mkF m 226 #[.val (.int p1), .val (.int p2), .val (.int p3), .val (.int (1 : Int32)), .val (.int (0 : Int32)), .val (.int (0 : Int32)), .val (.int (1 : Int32)), .val (.ref b101), .val (.ref b120), .val (.ref b173), .val (.ref b230), .val (.ref b230), .val .null, .val .null] [.null, .null])) X334 hx rfl rfl rfl (pc0 := 226) (pc' := 229) (same := true) rfl (hb hby at_226) rfl (decide_eq_true rfl) (by decide) (by decide) kt) ?_
                show Go p.tables e below _ (T334.setTop (mkF m 229 #[.val (.int p1), .val (.int p2), .val (.int p3), .val (.int (1 : Int32)), .val (.int (0 : Int32)), .val (.int (0 : Int32)), .val (.int (1 : Int32)), .val (.ref b101), .val (.ref b120), .val (.ref b173), .val (.ref b230), .val (.ref b230), .val .null, .val .null] []))
                refine Go.step (fun _ kt => XS.iconst X334.here hx rfl (hb hby at_229) (XS.goto X334.here hx rfl (pc0 := 230) (pc' := 234) rfl (hb hby at_230) (by decide) (by decide) kt)) ?_
                show Go p.tables e below _ (T334.setTop (mkF m 234 #[.val (.int p1), .val (.int p2), .val (.int p3), .val (.int (1 : Int32)), .val (.int (0 : Int32)), .val (.int (0 : Int32)), .val (.int (1 : Int32)), .val (.ref b101), .val (.ref b120), .val (.ref b173), .val (.ref b230), .val (.ref b230), .val .null, .val .null] [(.int (1 : Int32))]))
                obtain ⟨fs, hr, hrun, hended, hRW⟩ := X334.leaveW hS266 (by rw [eh334]; exact hk331) (v := some (.int (1 : Int32))) (fun h => by rw [Bd.returns] at h; cases h)
                refine ⟨_, _, retN X334 hx (t := .boolean) Bd.returns (by simp) (hb hby at_234) hr, hrun, hended, _, _, rfl, ?_, (by have q := C332.trans (CHv.at X334 hZ (own_EW hw) C332.1); rw [hh]; rw [← eh334] at q; exact q), hRW.1, hRW.2.1, hRW.2.2.1, hRW.2.2.2.mono (by decide) (by decide)⟩
                show Qrm0 Z p1 p2 p3 cs h0 n0 _ T334.heap _
                rw [eh334]
                exact ⟨rfl, N334⟩
            · rw [hq]
              show Go p.tables e below _ (T266.setTop (mkF m 123 #[.val (.int p1), .val (.int p2), .val (.int p3), .val (.int bi), .val (.int (0 : Int32)), .val (.int (0 : Int32)), .val (.int (2 : Int32)), .val (.ref b101), .val (.ref b120), .val (.ref b173), .val (.ref b230), .unset, .unset, .unset] []))
              refine Go.step (fun _ kt => XS.iload X266.here hx rfl (hb hby at_123) rfl (XS.ifYes X266.here hx rfl (pc0 := 125) (pc' := 133) rfl (hb hby at_125) rfl ((if0 _ _).trans (feq (by decide : ¬ ((2 : Int32) = (0 : Int32)))).2) (by decide) (by decide) (XS.iload X266.here hx rfl (hb hby at_133) rfl (XS.iconst X266.here hx rfl (hb hby at_135) (XS.icmpYes X266.here hx rfl (pc0 := 136) (pc' := 144) rfl (hb hby at_136) rfl (feq (by decide : ¬ ((2 : Int32) = (1 : Int32)))).2 (by decide) (by decide) (XS.aconstNull X266.here hx rfl (hb hby at_144) (XS.astore X266.here hx rfl (hb hby at_145) rfl rfl (l' := #[.val (.int p1), .val (.int p2), .val (.int p3), .val (.int bi), .val (.int (0 : Int32)), .val (.int (0 : Int32)), .val (.int (2 : Int32)), .val (.ref b101), .val (.ref b120), .val (.ref b173), .val (.ref b230), .val .null, .unset, .unset]) rfl (XS.iload X266.here hx rfl (hb hby at_147) rfl (XS.ifYes X266.here hx rfl (pc0 := 149) (pc' := 157) rfl (hb hby at_149) rfl ((if0 _ _).trans (feq (by decide : ¬ ((2 : Int32) = (0 : Int32)))).2) (by decide) (by decide) (XS.aconstNull X266.here hx rfl (hb hby at_157) (XS.astore X266.here hx rfl (hb hby at_158) rfl rfl (l' := #[.val (.int p1), .val (.int p2), .val (.int p3), .val (.int bi), .val (.int (0 : Int32)), .val (.int (0 : Int32)), .val (.int (2 : Int32)), .val (.ref b101), .val (.ref b120), .val (.ref b173), .val (.ref b230), .val .null, .val .null, .unset]) rfl kt))))))))))) ?_
              show Go p.tables e below _ (T266.setTop (mkF m 160 #[.val (.int p1), .val (.int p2), .val (.int p3), .val (.int bi), .val (.int (0 : Int32)), .val (.int (0 : Int32)), .val (.int (2 : Int32)), .val (.ref b101), .val (.ref b120), .val (.ref b173), .val (.ref b230), .val .null, .val .null, .unset] []))
              rcases h_bi with hq | hq
              · rw [hq]
                show Go p.tables e below _ (T266.setTop (mkF m 160 #[.val (.int p1), .val (.int p2), .val (.int p3), .val (.int (0 : Int32)), .val (.int (0 : Int32)), .val (.int (0 : Int32)), .val (.int (2 : Int32)), .val (.ref b101), .val (.ref b120), .val (.ref b173), .val (.ref b230), .val .null, .val .null, .unset] []))
                refine Go.step (fun _ kt => XS.iloadN X266.here hx rfl (hb hby at_160) rfl (XS.ifYes X266.here hx rfl (pc0 := 161) (pc' := 178) rfl (hb hby at_161) rfl ((if0 _ _).trans (teq (by decide : (0 : Int32) = (0 : Int32))).1) (by decide) (by decide) (XS.iload X266.here hx rfl (hb hby at_178) rfl (XS.ifYes X266.here hx rfl (pc0 := 180) (pc' := 188) rfl (hb hby at_180) rfl ((if0 _ _).trans (teq (by decide : (0 : Int32) = (0 : Int32))).1) (by decide) (by decide) (XS.aconstNull X266.here hx rfl (hb hby at_188) (XS.astore X266.here hx rfl (hb hby at_189) rfl rfl (l' := #[.val (.int p1), .val (.int p2), .val (.int p3), .val (.int (0 : Int32)), .val (.int (0 : Int32)), .val (.int (0 : Int32)), .val (.int (2 : Int32)), .val (.ref b101), .val (.ref b120), .val (.ref b173), .val (.ref b230), .val .null, .val .null, .val .null]) rfl (XS.aload X266.here hx rfl (hb hby at_191) rfl rfl (XS.iloadN X266.here hx rfl (hb hby at_193) rfl (XS.aload X266.here hx rfl (hb hby at_194) rfl rfl kt))))))))) ?_
                show Go p.tables e below _ (T266.setTop (mkF m 196 #[.val (.int p1), .val (.int p2), .val (.int p3), .val (.int (0 : Int32)), .val (.int (0 : Int32)), .val (.int (0 : Int32)), .val (.int (2 : Int32)), .val (.ref b101), .val (.ref b120), .val (.ref b173), .val (.ref b230), .val .null, .val .null, .val .null] [.null, (.int (0 : Int32)), (.ref b101)]))
                obtain ⟨cq335, kq335, q335a, q335b, q335c⟩ := isOf hZ rfl F271
                obtain ⟨_, _, ⟨T335, L335, k335, n335⟩, -, X335, ⟨Lc335, hQ335, l335, y335, z335⟩, st335⟩ := X266.virtualBack hx (y := (⟨"com/example/ottawa/ottawa/TagPattern", "follow", "(ZLcom/example/ottawa/ottawa/Name;)V"⟩ : MethodName)) (z := (⟨"com/example/ottawa/ottawa/TagPattern", "follow", "(ZLcom/example/ottawa/ottawa/Name;)V"⟩ : MethodName)) hown (mvT hZ (hw _ (List.mem_of_getElem? (i := 153) rfl))) (mvT hZ (hw _ (List.mem_of_getElem? (i := 154) rfl))) (notFace_of_selects (args := #[]) (mvT hZ (hw _ (List.mem_of_getElem? (i := 156) rfl)))) (mvT hZ (hw _ (List.mem_of_getElem? (i := 156) rfl))) (mvT hZ (hw _ (List.mem_of_getElem? (i := 155) rfl))) (by decide) (backOf (W := 0) (rmf4 l Z a0 hw [] b101 .null .null T266.heap n0 Z281 F271 F272 F273 g_b101) hZ (hw _ (List.mem_of_getElem? (i := 157) rfl)) (hw _ (List.mem_of_getElem? (i := 3) rfl)) (by decide) (by decide)) q335a q335c (g := (mkF m 196 #[.val (.int p1), .val (.int p2), .val (.int p3), .val (.int (0 : Int32)), .val (.int (0 : Int32)), .val (.int (0 : Int32)), .val (.int (2 : Int32)), .val (.ref b101), .val (.ref b120), .val (.ref b173), .val (.ref b230), .val .null, .val .null, .val .null] [.null, (.int (0 : Int32)), (.ref b101)])) rfl (by rw [hml]; rfl) (Steps.refl _) (argsL := [(.int (0 : Int32)), .null]) (rest := []) (lenOf pd_16 rfl) rfl (by show 2 * 0 + _ ≤ _; exact Nat.le_of_eq rfl) (hb hby at_196) (fun _ _ => ⟨rfl, rfl, (by decide : 30 + 0 ≤ _), (by decide : 225 + 0 ≤ _)⟩)
                dsimp only [Pt.U, Pt.locs, Pt.cells, Pt.slots] at X335 l335 y335 z335 st335 hQ335
                subst l335 y335 z335
                obtain ⟨rfl, N335q, Kq335, P336, P337, P338⟩ := hQ335
                have F339 : Exa Z T335.heap b101 "com/example/ottawa/ottawa/TagPattern" := (F271.keep Kq335)
                have F340 : Exa Z T335.heap b120 "com/example/ottawa/ottawa/KeptName" := (F274.keep Kq335)
                have F341 : Exa Z T335.heap b173 "com/example/ottawa/ottawa/KeptName" := (F275.keep Kq335)
                have F342 : Exa Z T335.heap b230 "com/example/ottawa/ottawa/Name" := (P267.keep Kq335)
                have Z343 : n0 ≤ T335.heap.size := (Nat.le_trans Z281 Kq335.1)
                have hk344 : _ ≤ T335.heap.size := (Nat.le_trans hk266 Kq335.1)
                have C345 := (C282.trans (CHr.keep Kq335 (by intro x hx; cases List.mem_singleton.mp hx; exact (Safe.exa hZ.alike F271 (by decide) (by decide))) C282.1))
                have N335 := Fr.app N266 N335q
                refine Go.step (fun _ kt => st335.trans kt) ?_
                show Go p.tables e below _ (T335.setTop (mkF m 199 #[.val (.int p1), .val (.int p2), .val (.int p3), .val (.int (0 : Int32)), .val (.int (0 : Int32)), .val (.int (0 : Int32)), .val (.int (2 : Int32)), .val (.ref b101), .val (.ref b120), .val (.ref b173), .val (.ref b230), .val .null, .val .null, .val .null] []))
                refine Go.step (fun _ kt => XS.aload X335.here hx rfl (hb hby at_199) rfl rfl (XS.iloadN X335.here hx rfl (hb hby at_201) rfl kt)) ?_
                show Go p.tables e below _ (T335.setTop (mkF m 202 #[.val (.int p1), .val (.int p2), .val (.int p3), .val (.int (0 : Int32)), .val (.int (0 : Int32)), .val (.int (0 : Int32)), .val (.int (2 : Int32)), .val (.ref b101), .val (.ref b120), .val (.ref b173), .val (.ref b230), .val .null, .val .null, .val .null] [(.int (0 : Int32)), (.ref b101)]))
                obtain ⟨cq346, kq346, q346a, q346b, q346c⟩ := isOf hZ rfl P336
                obtain ⟨_, _, ⟨T346, L346, k346, n346⟩, -, X346, ⟨Lc346, hQ346, l346, y346, z346⟩, st346⟩ := X335.virtualBack hx (y := (⟨"com/example/ottawa/ottawa/TagPattern", "following", "(Z)Lcom/example/ottawa/ottawa/KeptName;"⟩ : MethodName)) (z := (⟨"com/example/ottawa/ottawa/TagPattern", "following", "(Z)Lcom/example/ottawa/ottawa/KeptName;"⟩ : MethodName)) hown (mvT hZ (hw _ (List.mem_of_getElem? (i := 163) rfl))) (mvT hZ (hw _ (List.mem_of_getElem? (i := 164) rfl))) (notFace_of_selects (args := #[]) (mvT hZ (hw _ (List.mem_of_getElem? (i := 166) rfl)))) (mvT hZ (hw _ (List.mem_of_getElem? (i := 166) rfl))) (mvT hZ (hw _ (List.mem_of_getElem? (i := 165) rfl))) (by decide) (backOf (W := 0) (rmg3 l Z a0 hw [] b101  T335.heap n0 Z343 P338 ) hZ (hw _ (List.mem_of_getElem? (i := 167) rfl)) (hw _ (List.mem_of_getElem? (i := 3) rfl)) (by decide) (by decide)) q346a q346c (g := (mkF m 202 #[.val (.int p1), .val (.int p2), .val (.int p3), .val (.int (0 : Int32)), .val (.int (0 : Int32)), .val (.int (0 : Int32)), .val (.int (2 : Int32)), .val (.ref b101), .val (.ref b120), .val (.ref b173), .val (.ref b230), .val .null, .val .null, .val .null] [(.int (0 : Int32)), (.ref b101)])) rfl (by rw [hml]; rfl) (Steps.refl _) (argsL := [(.int (0 : Int32))]) (rest := []) (lenOf pd_17 rfl) rfl (by show 2 * 0 + _ ≤ _; exact Nat.le_of_eq rfl) (hb hby at_202) (fun _ _ => ⟨rfl, rfl, (by decide : 30 + 0 ≤ _), (by decide : 225 + 0 ≤ _)⟩)
                dsimp only [Pt.U, Pt.locs, Pt.cells, Pt.slots] at X346 l346 y346 z346 st346 hQ346
                subst l346 y346 z346
                obtain ⟨rfl, N346q, eh346⟩ := hQ346
                have N346 := Fr.app N335 N346q
                refine Go.step (fun _ kt => st346.trans kt) ?_
                show Go p.tables e below _ (T346.setTop (mkF m 205 #[.val (.int p1), .val (.int p2), .val (.int p3), .val (.int (0 : Int32)), .val (.int (0 : Int32)), .val (.int (0 : Int32)), .val (.int (2 : Int32)), .val (.ref b101), .val (.ref b120), .val (.ref b173), .val (.ref b230), .val .null, .val .null, .val .null] [.null]))
                refine Go.step (fun _ kt => XS.aload X346.here hx rfl (hb hby at_205) rfl rfl kt) ?_
                show Go p.tables e below _ (T346.setTop (mkF m 207 #[.val (.int p1), .val (.int p2), .val (.int p3), .val (.int (0 : Int32)), .val (.int (0 : Int32)), .val (.int (0 : Int32)), .val (.int (2 : Int32)), .val (.ref b101), .val (.ref b120), .val (.ref b173), .val (.ref b230), .val .null, .val .null, .val .null] [.null, .null]))
                refine Go.step (fun _ kt => Jvm.RoadKit.acmp (g := (mkF m 207 #[.val (.int p1), .val (.int p2), .val (.int p3), .val (.int (0 : Int32)), .val (.int (0 : Int32)), .val (.int (0 : Int32)), .val (.int (2 : Int32)), .val (.ref b101), .val (.ref b120), .val (.ref b173), .val (.ref b230), .val .null, .val .null, .val .null] [.null, .null])) X346 hx rfl rfl rfl (pc0 := 207) (pc' := 210) (same := true) rfl (hb hby at_207) rfl (decide_eq_true rfl) (by decide) (by decide) kt) ?_
                show Go p.tables e below _ (T346.setTop (mkF m 210 #[.val (.int p1), .val (.int p2), .val (.int p3), .val (.int (0 : Int32)), .val (.int (0 : Int32)), .val (.int (0 : Int32)), .val (.int (2 : Int32)), .val (.ref b101), .val (.ref b120), .val (.ref b173), .val (.ref b230), .val .null, .val .null, .val .null] []))
                refine Go.step (fun _ kt => XS.aload X346.here hx rfl (hb hby at_210) rfl rfl (XS.iloadN X346.here hx rfl (hb hby at_212) rfl (XS.ifNo X346.here hx rfl (hb hby at_213) rfl ((if0 _ _).trans (teq (by decide : (0 : Int32) = (0 : Int32))).2) (XS.iconst X346.here hx rfl (hb hby at_216) (XS.goto X346.here hx rfl (pc0 := 217) (pc' := 221) rfl (hb hby at_217) (by decide) (by decide) kt))))) ?_
                show Go p.tables e below _ (T346.setTop (mkF m 221 #[.val (.int p1), .val (.int p2), .val (.int p3), .val (.int (0 : Int32)), .val (.int (0 : Int32)), .val (.int (0 : Int32)), .val (.int (2 : Int32)), .val (.ref b101), .val (.ref b120), .val (.ref b173), .val (.ref b230), .val .null, .val .null, .val .null] [(.int (1 : Int32)), (.ref b101)]))
                obtain ⟨cq347, kq347, q347a, q347b, q347c⟩ := isOf hZ eh346 P336
                obtain ⟨_, _, ⟨T347, L347, k347, n347⟩, -, X347, ⟨Lc347, hQ347, l347, y347, z347⟩, st347⟩ := X346.virtualBack hx (y := (⟨"com/example/ottawa/ottawa/TagPattern", "following", "(Z)Lcom/example/ottawa/ottawa/KeptName;"⟩ : MethodName)) (z := (⟨"com/example/ottawa/ottawa/TagPattern", "following", "(Z)Lcom/example/ottawa/ottawa/KeptName;"⟩ : MethodName)) hown (mvT hZ (hw _ (List.mem_of_getElem? (i := 163) rfl))) (mvT hZ (hw _ (List.mem_of_getElem? (i := 164) rfl))) (notFace_of_selects (args := #[]) (mvT hZ (hw _ (List.mem_of_getElem? (i := 166) rfl)))) (mvT hZ (hw _ (List.mem_of_getElem? (i := 166) rfl))) (mvT hZ (hw _ (List.mem_of_getElem? (i := 165) rfl))) (by decide) (backOf (W := 0) (rmg1 l Z a0 hw [] b101  T335.heap n0 Z343 P337 ) hZ (hw _ (List.mem_of_getElem? (i := 167) rfl)) (hw _ (List.mem_of_getElem? (i := 3) rfl)) (by decide) (by decide)) q347a q347c (g := (mkF m 221 #[.val (.int p1), .val (.int p2), .val (.int p3), .val (.int (0 : Int32)), .val (.int (0 : Int32)), .val (.int (0 : Int32)), .val (.int (2 : Int32)), .val (.ref b101), .val (.ref b120), .val (.ref b173), .val (.ref b230), .val .null, .val .null, .val .null] [(.int (1 : Int32)), (.ref b101)])) rfl (by rw [hml]; rfl) (Steps.refl _) (argsL := [(.int (1 : Int32))]) (rest := []) (lenOf pd_17 rfl) rfl (by show 2 * 0 + _ ≤ _; exact Nat.le_of_eq rfl) (hb hby at_221) (fun _ _ => ⟨rfl, eh346, (by decide : 30 + 0 ≤ _), (by decide : 225 + 0 ≤ _)⟩)
                dsimp only [Pt.U, Pt.locs, Pt.cells, Pt.slots] at X347 l347 y347 z347 st347 hQ347
                subst l347 y347 z347
                obtain ⟨rfl, N347q, eh347⟩ := hQ347
                have N347 := Fr.app N346 N347q
                refine Go.step (fun _ kt => st347.trans kt) ?_
                show Go p.tables e below _ (T347.setTop (mkF m 224 #[.val (.int p1), .val (.int p2), .val (.int p3), .val (.int (0 : Int32)), .val (.int (0 : Int32)), .val (.int (0 : Int32)), .val (.int (2 : Int32)), .val (.ref b101), .val (.ref b120), .val (.ref b173), .val (.ref b230), .val .null, .val .null, .val .null] [.null]))
                refine Go.step (fun _ kt => XS.aload X347.here hx rfl (hb hby at_224) rfl rfl kt) ?_
                show Go p.tables e below _ (T347.setTop (mkF m 226 #[.val (.int p1), .val (.int p2), .val (.int p3), .val (.int (0 : Int32)), .val (.int (0 : Int32)), .val (.int (0 : Int32)), .val (.int (2 : Int32)), .val (.ref b101), .val (.ref b120), .val (.ref b173), .val (.ref b230), .val .null, .val .null, .val .null] [.null, .null]))
                refine Go.step (fun _ kt => Jvm.RoadKit.acmp (g := (mkF m 226 #[.val (.int p1), .val (.int p2), .val (.int p3), .val (.int (0 : Int32)), .val (.int (0 : Int32)), .val (.int (0 : Int32)), .val (.int (2 : Int32)), .val (.ref b101), .val (.ref b120), .val (.ref b173), .val (.ref b230), .val .null, .val .null, .val .null] [.null, .null])) X347 hx rfl rfl rfl (pc0 := 226) (pc' := 229) (same := true) rfl (hb hby at_226) rfl (decide_eq_true rfl) (by decide) (by decide) kt) ?_
                show Go p.tables e below _ (T347.setTop (mkF m 229 #[.val (.int p1), .val (.int p2), .val (.int p3), .val (.int (0 : Int32)), .val (.int (0 : Int32)), .val (.int (0 : Int32)), .val (.int (2 : Int32)), .val (.ref b101), .val (.ref b120), .val (.ref b173), .val (.ref b230), .val .null, .val .null, .val .null] []))
                refine Go.step (fun _ kt => XS.iconst X347.here hx rfl (hb hby at_229) (XS.goto X347.here hx rfl (pc0 := 230) (pc' := 234) rfl (hb hby at_230) (by decide) (by decide) kt)) ?_
                show Go p.tables e below _ (T347.setTop (mkF m 234 #[.val (.int p1), .val (.int p2), .val (.int p3), .val (.int (0 : Int32)), .val (.int (0 : Int32)), .val (.int (0 : Int32)), .val (.int (2 : Int32)), .val (.ref b101), .val (.ref b120), .val (.ref b173), .val (.ref b230), .val .null, .val .null, .val .null] [(.int (1 : Int32))]))
                obtain ⟨fs, hr, hrun, hended, hRW⟩ := X347.leaveW hS266 (by rw [eh347]; exact hk344) (v := some (.int (1 : Int32))) (fun h => by rw [Bd.returns] at h; cases h)
                refine ⟨_, _, retN X347 hx (t := .boolean) Bd.returns (by simp) (hb hby at_234) hr, hrun, hended, _, _, rfl, ?_, (by have q := C345.trans (CHv.at X347 hZ (own_EW hw) C345.1); rw [hh]; rw [← eh347] at q; exact q), hRW.1, hRW.2.1, hRW.2.2.1, hRW.2.2.2.mono (by decide) (by decide)⟩
                show Qrm0 Z p1 p2 p3 cs h0 n0 _ T347.heap _
                rw [eh347]
                exact ⟨rfl, N347⟩
              · rw [hq]
                show Go p.tables e below _ (T266.setTop (mkF m 160 #[.val (.int p1), .val (.int p2), .val (.int p3), .val (.int (1 : Int32)), .val (.int (0 : Int32)), .val (.int (0 : Int32)), .val (.int (2 : Int32)), .val (.ref b101), .val (.ref b120), .val (.ref b173), .val (.ref b230), .val .null, .val .null, .unset] []))
                refine Go.step (fun _ kt => XS.iloadN X266.here hx rfl (hb hby at_160) rfl (XS.ifNo X266.here hx rfl (hb hby at_161) rfl ((if0 _ _).trans (feq (by decide : ¬ ((1 : Int32) = (0 : Int32)))).1) (XS.iload X266.here hx rfl (hb hby at_164) rfl (XS.ifYes X266.here hx rfl (pc0 := 166) (pc' := 174) rfl (hb hby at_166) rfl ((if0 _ _).trans (teq (by decide : (0 : Int32) = (0 : Int32))).1) (by decide) (by decide) (XS.aconstNull X266.here hx rfl (hb hby at_174) (XS.goto X266.here hx rfl (pc0 := 175) (pc' := 189) rfl (hb hby at_175) (by decide) (by decide) (XS.astore X266.here hx rfl (hb hby at_189) rfl rfl (l' := #[.val (.int p1), .val (.int p2), .val (.int p3), .val (.int (1 : Int32)), .val (.int (0 : Int32)), .val (.int (0 : Int32)), .val (.int (2 : Int32)), .val (.ref b101), .val (.ref b120), .val (.ref b173), .val (.ref b230), .val .null, .val .null, .val .null]) rfl (XS.aload X266.here hx rfl (hb hby at_191) rfl rfl (XS.iloadN X266.here hx rfl (hb hby at_193) rfl (XS.aload X266.here hx rfl (hb hby at_194) rfl rfl kt)))))))))) ?_
                show Go p.tables e below _ (T266.setTop (mkF m 196 #[.val (.int p1), .val (.int p2), .val (.int p3), .val (.int (1 : Int32)), .val (.int (0 : Int32)), .val (.int (0 : Int32)), .val (.int (2 : Int32)), .val (.ref b101), .val (.ref b120), .val (.ref b173), .val (.ref b230), .val .null, .val .null, .val .null] [.null, (.int (1 : Int32)), (.ref b101)]))
                obtain ⟨cq348, kq348, q348a, q348b, q348c⟩ := isOf hZ rfl F271
                obtain ⟨_, _, ⟨T348, L348, k348, n348⟩, -, X348, ⟨Lc348, hQ348, l348, y348, z348⟩, st348⟩ := X266.virtualBack hx (y := (⟨"com/example/ottawa/ottawa/TagPattern", "follow", "(ZLcom/example/ottawa/ottawa/Name;)V"⟩ : MethodName)) (z := (⟨"com/example/ottawa/ottawa/TagPattern", "follow", "(ZLcom/example/ottawa/ottawa/Name;)V"⟩ : MethodName)) hown (mvT hZ (hw _ (List.mem_of_getElem? (i := 153) rfl))) (mvT hZ (hw _ (List.mem_of_getElem? (i := 154) rfl))) (notFace_of_selects (args := #[]) (mvT hZ (hw _ (List.mem_of_getElem? (i := 156) rfl)))) (mvT hZ (hw _ (List.mem_of_getElem? (i := 156) rfl))) (mvT hZ (hw _ (List.mem_of_getElem? (i := 155) rfl))) (by decide) (backOf (W := 0) (rmf5 l Z a0 hw [] b101 .null .null T266.heap n0 Z281 F271 F272 F273 g_b101) hZ (hw _ (List.mem_of_getElem? (i := 157) rfl)) (hw _ (List.mem_of_getElem? (i := 3) rfl)) (by decide) (by decide)) q348a q348c (g := (mkF m 196 #[.val (.int p1), .val (.int p2), .val (.int p3), .val (.int (1 : Int32)), .val (.int (0 : Int32)), .val (.int (0 : Int32)), .val (.int (2 : Int32)), .val (.ref b101), .val (.ref b120), .val (.ref b173), .val (.ref b230), .val .null, .val .null, .val .null] [.null, (.int (1 : Int32)), (.ref b101)])) rfl (by rw [hml]; rfl) (Steps.refl _) (argsL := [(.int (1 : Int32)), .null]) (rest := []) (lenOf pd_16 rfl) rfl (by show 2 * 0 + _ ≤ _; exact Nat.le_of_eq rfl) (hb hby at_196) (fun _ _ => ⟨rfl, rfl, (by decide : 30 + 0 ≤ _), (by decide : 225 + 0 ≤ _)⟩)
                dsimp only [Pt.U, Pt.locs, Pt.cells, Pt.slots] at X348 l348 y348 z348 st348 hQ348
                subst l348 y348 z348
                obtain ⟨rfl, N348q, Kq348, P349, P350, P351⟩ := hQ348
                have F352 : Exa Z T348.heap b101 "com/example/ottawa/ottawa/TagPattern" := (F271.keep Kq348)
                have F353 : Exa Z T348.heap b120 "com/example/ottawa/ottawa/KeptName" := (F274.keep Kq348)
                have F354 : Exa Z T348.heap b173 "com/example/ottawa/ottawa/KeptName" := (F275.keep Kq348)
                have F355 : Exa Z T348.heap b230 "com/example/ottawa/ottawa/Name" := (P267.keep Kq348)
                have Z356 : n0 ≤ T348.heap.size := (Nat.le_trans Z281 Kq348.1)
                have hk357 : _ ≤ T348.heap.size := (Nat.le_trans hk266 Kq348.1)
                have C358 := (C282.trans (CHr.keep Kq348 (by intro x hx; cases List.mem_singleton.mp hx; exact (Safe.exa hZ.alike F271 (by decide) (by decide))) C282.1))
                have N348 := Fr.app N266 N348q
                refine Go.step (fun _ kt => st348.trans kt) ?_
                show Go p.tables e below _ (T348.setTop (mkF m 199 #[.val (.int p1), .val (.int p2), .val (.int p3), .val (.int (1 : Int32)), .val (.int (0 : Int32)), .val (.int (0 : Int32)), .val (.int (2 : Int32)), .val (.ref b101), .val (.ref b120), .val (.ref b173), .val (.ref b230), .val .null, .val .null, .val .null] []))
                refine Go.step (fun _ kt => XS.aload X348.here hx rfl (hb hby at_199) rfl rfl (XS.iloadN X348.here hx rfl (hb hby at_201) rfl kt)) ?_
                show Go p.tables e below _ (T348.setTop (mkF m 202 #[.val (.int p1), .val (.int p2), .val (.int p3), .val (.int (1 : Int32)), .val (.int (0 : Int32)), .val (.int (0 : Int32)), .val (.int (2 : Int32)), .val (.ref b101), .val (.ref b120), .val (.ref b173), .val (.ref b230), .val .null, .val .null, .val .null] [(.int (1 : Int32)), (.ref b101)]))
                obtain ⟨cq359, kq359, q359a, q359b, q359c⟩ := isOf hZ rfl P349
                obtain ⟨_, _, ⟨T359, L359, k359, n359⟩, -, X359, ⟨Lc359, hQ359, l359, y359, z359⟩, st359⟩ := X348.virtualBack hx (y := (⟨"com/example/ottawa/ottawa/TagPattern", "following", "(Z)Lcom/example/ottawa/ottawa/KeptName;"⟩ : MethodName)) (z := (⟨"com/example/ottawa/ottawa/TagPattern", "following", "(Z)Lcom/example/ottawa/ottawa/KeptName;"⟩ : MethodName)) hown (mvT hZ (hw _ (List.mem_of_getElem? (i := 163) rfl))) (mvT hZ (hw _ (List.mem_of_getElem? (i := 164) rfl))) (notFace_of_selects (args := #[]) (mvT hZ (hw _ (List.mem_of_getElem? (i := 166) rfl)))) (mvT hZ (hw _ (List.mem_of_getElem? (i := 166) rfl))) (mvT hZ (hw _ (List.mem_of_getElem? (i := 165) rfl))) (by decide) (backOf (W := 0) (rmg1 l Z a0 hw [] b101  T348.heap n0 Z356 P350 ) hZ (hw _ (List.mem_of_getElem? (i := 167) rfl)) (hw _ (List.mem_of_getElem? (i := 3) rfl)) (by decide) (by decide)) q359a q359c (g := (mkF m 202 #[.val (.int p1), .val (.int p2), .val (.int p3), .val (.int (1 : Int32)), .val (.int (0 : Int32)), .val (.int (0 : Int32)), .val (.int (2 : Int32)), .val (.ref b101), .val (.ref b120), .val (.ref b173), .val (.ref b230), .val .null, .val .null, .val .null] [(.int (1 : Int32)), (.ref b101)])) rfl (by rw [hml]; rfl) (Steps.refl _) (argsL := [(.int (1 : Int32))]) (rest := []) (lenOf pd_17 rfl) rfl (by show 2 * 0 + _ ≤ _; exact Nat.le_of_eq rfl) (hb hby at_202) (fun _ _ => ⟨rfl, rfl, (by decide : 30 + 0 ≤ _), (by decide : 225 + 0 ≤ _)⟩)
                dsimp only [Pt.U, Pt.locs, Pt.cells, Pt.slots] at X359 l359 y359 z359 st359 hQ359
                subst l359 y359 z359
                obtain ⟨rfl, N359q, eh359⟩ := hQ359
                have N359 := Fr.app N348 N359q
                refine Go.step (fun _ kt => st359.trans kt) ?_
                show Go p.tables e below _ (T359.setTop (mkF m 205 #[.val (.int p1), .val (.int p2), .val (.int p3), .val (.int (1 : Int32)), .val (.int (0 : Int32)), .val (.int (0 : Int32)), .val (.int (2 : Int32)), .val (.ref b101), .val (.ref b120), .val (.ref b173), .val (.ref b230), .val .null, .val .null, .val .null] [.null]))
                refine Go.step (fun _ kt => XS.aload X359.here hx rfl (hb hby at_205) rfl rfl kt) ?_
                show Go p.tables e below _ (T359.setTop (mkF m 207 #[.val (.int p1), .val (.int p2), .val (.int p3), .val (.int (1 : Int32)), .val (.int (0 : Int32)), .val (.int (0 : Int32)), .val (.int (2 : Int32)), .val (.ref b101), .val (.ref b120), .val (.ref b173), .val (.ref b230), .val .null, .val .null, .val .null] [.null, .null]))
                refine Go.step (fun _ kt => Jvm.RoadKit.acmp (g := (mkF m 207 #[.val (.int p1), .val (.int p2), .val (.int p3), .val (.int (1 : Int32)), .val (.int (0 : Int32)), .val (.int (0 : Int32)), .val (.int (2 : Int32)), .val (.ref b101), .val (.ref b120), .val (.ref b173), .val (.ref b230), .val .null, .val .null, .val .null] [.null, .null])) X359 hx rfl rfl rfl (pc0 := 207) (pc' := 210) (same := true) rfl (hb hby at_207) rfl (decide_eq_true rfl) (by decide) (by decide) kt) ?_
                show Go p.tables e below _ (T359.setTop (mkF m 210 #[.val (.int p1), .val (.int p2), .val (.int p3), .val (.int (1 : Int32)), .val (.int (0 : Int32)), .val (.int (0 : Int32)), .val (.int (2 : Int32)), .val (.ref b101), .val (.ref b120), .val (.ref b173), .val (.ref b230), .val .null, .val .null, .val .null] []))
                refine Go.step (fun _ kt => XS.aload X359.here hx rfl (hb hby at_210) rfl rfl (XS.iloadN X359.here hx rfl (hb hby at_212) rfl (XS.ifYes X359.here hx rfl (pc0 := 213) (pc' := 220) rfl (hb hby at_213) rfl ((if0 _ _).trans (feq (by decide : ¬ ((1 : Int32) = (0 : Int32)))).2) (by decide) (by decide) (XS.iconst X359.here hx rfl (hb hby at_220) kt)))) ?_
                show Go p.tables e below _ (T359.setTop (mkF m 221 #[.val (.int p1), .val (.int p2), .val (.int p3), .val (.int (1 : Int32)), .val (.int (0 : Int32)), .val (.int (0 : Int32)), .val (.int (2 : Int32)), .val (.ref b101), .val (.ref b120), .val (.ref b173), .val (.ref b230), .val .null, .val .null, .val .null] [(.int (0 : Int32)), (.ref b101)]))
                obtain ⟨cq360, kq360, q360a, q360b, q360c⟩ := isOf hZ eh359 P349
                obtain ⟨_, _, ⟨T360, L360, k360, n360⟩, -, X360, ⟨Lc360, hQ360, l360, y360, z360⟩, st360⟩ := X359.virtualBack hx (y := (⟨"com/example/ottawa/ottawa/TagPattern", "following", "(Z)Lcom/example/ottawa/ottawa/KeptName;"⟩ : MethodName)) (z := (⟨"com/example/ottawa/ottawa/TagPattern", "following", "(Z)Lcom/example/ottawa/ottawa/KeptName;"⟩ : MethodName)) hown (mvT hZ (hw _ (List.mem_of_getElem? (i := 163) rfl))) (mvT hZ (hw _ (List.mem_of_getElem? (i := 164) rfl))) (notFace_of_selects (args := #[]) (mvT hZ (hw _ (List.mem_of_getElem? (i := 166) rfl)))) (mvT hZ (hw _ (List.mem_of_getElem? (i := 166) rfl))) (mvT hZ (hw _ (List.mem_of_getElem? (i := 165) rfl))) (by decide) (backOf (W := 0) (rmg3 l Z a0 hw [] b101  T348.heap n0 Z356 P351 ) hZ (hw _ (List.mem_of_getElem? (i := 167) rfl)) (hw _ (List.mem_of_getElem? (i := 3) rfl)) (by decide) (by decide)) q360a q360c (g := (mkF m 221 #[.val (.int p1), .val (.int p2), .val (.int p3), .val (.int (1 : Int32)), .val (.int (0 : Int32)), .val (.int (0 : Int32)), .val (.int (2 : Int32)), .val (.ref b101), .val (.ref b120), .val (.ref b173), .val (.ref b230), .val .null, .val .null, .val .null] [(.int (0 : Int32)), (.ref b101)])) rfl (by rw [hml]; rfl) (Steps.refl _) (argsL := [(.int (0 : Int32))]) (rest := []) (lenOf pd_17 rfl) rfl (by show 2 * 0 + _ ≤ _; exact Nat.le_of_eq rfl) (hb hby at_221) (fun _ _ => ⟨rfl, eh359, (by decide : 30 + 0 ≤ _), (by decide : 225 + 0 ≤ _)⟩)
                dsimp only [Pt.U, Pt.locs, Pt.cells, Pt.slots] at X360 l360 y360 z360 st360 hQ360
                subst l360 y360 z360
                obtain ⟨rfl, N360q, eh360⟩ := hQ360
                have N360 := Fr.app N359 N360q
                refine Go.step (fun _ kt => st360.trans kt) ?_
                show Go p.tables e below _ (T360.setTop (mkF m 224 #[.val (.int p1), .val (.int p2), .val (.int p3), .val (.int (1 : Int32)), .val (.int (0 : Int32)), .val (.int (0 : Int32)), .val (.int (2 : Int32)), .val (.ref b101), .val (.ref b120), .val (.ref b173), .val (.ref b230), .val .null, .val .null, .val .null] [.null]))
                refine Go.step (fun _ kt => XS.aload X360.here hx rfl (hb hby at_224) rfl rfl kt) ?_
                show Go p.tables e below _ (T360.setTop (mkF m 226 #[.val (.int p1), .val (.int p2), .val (.int p3), .val (.int (1 : Int32)), .val (.int (0 : Int32)), .val (.int (0 : Int32)), .val (.int (2 : Int32)), .val (.ref b101), .val (.ref b120), .val (.ref b173), .val (.ref b230), .val .null, .val .null, .val .null] [.null, .null]))
                refine Go.step (fun _ kt => Jvm.RoadKit.acmp (g := (mkF m 226 #[.val (.int p1), .val (.int p2), .val (.int p3), .val (.int (1 : Int32)), .val (.int (0 : Int32)), .val (.int (0 : Int32)), .val (.int (2 : Int32)), .val (.ref b101), .val (.ref b120), .val (.ref b173), .val (.ref b230), .val .null, .val .null, .val .null] [.null, .null])) X360 hx rfl rfl rfl (pc0 := 226) (pc' := 229) (same := true) rfl (hb hby at_226) rfl (decide_eq_true rfl) (by decide) (by decide) kt) ?_
                show Go p.tables e below _ (T360.setTop (mkF m 229 #[.val (.int p1), .val (.int p2), .val (.int p3), .val (.int (1 : Int32)), .val (.int (0 : Int32)), .val (.int (0 : Int32)), .val (.int (2 : Int32)), .val (.ref b101), .val (.ref b120), .val (.ref b173), .val (.ref b230), .val .null, .val .null, .val .null] []))
                refine Go.step (fun _ kt => XS.iconst X360.here hx rfl (hb hby at_229) (XS.goto X360.here hx rfl (pc0 := 230) (pc' := 234) rfl (hb hby at_230) (by decide) (by decide) kt)) ?_
                show Go p.tables e below _ (T360.setTop (mkF m 234 #[.val (.int p1), .val (.int p2), .val (.int p3), .val (.int (1 : Int32)), .val (.int (0 : Int32)), .val (.int (0 : Int32)), .val (.int (2 : Int32)), .val (.ref b101), .val (.ref b120), .val (.ref b173), .val (.ref b230), .val .null, .val .null, .val .null] [(.int (1 : Int32))]))
                obtain ⟨fs, hr, hrun, hended, hRW⟩ := X360.leaveW hS266 (by rw [eh360]; exact hk357) (v := some (.int (1 : Int32))) (fun h => by rw [Bd.returns] at h; cases h)
                refine ⟨_, _, retN X360 hx (t := .boolean) Bd.returns (by simp) (hb hby at_234) hr, hrun, hended, _, _, rfl, ?_, (by have q := C358.trans (CHv.at X360 hZ (own_EW hw) C358.1); rw [hh]; rw [← eh360] at q; exact q), hRW.1, hRW.2.1, hRW.2.2.1, hRW.2.2.2.mono (by decide) (by decide)⟩
                show Qrm0 Z p1 p2 p3 cs h0 n0 _ T360.heap _
                rw [eh360]
                exact ⟨rfl, N360⟩
          · rw [hq]
            show Go p.tables e below _ (T266.setTop (mkF m 110 #[.val (.int p1), .val (.int p2), .val (.int p3), .val (.int bi), .val (.int (0 : Int32)), .val (.int (1 : Int32)), .val (.int wh), .val (.ref b101), .val (.ref b120), .val (.ref b173), .val (.ref b230), .unset, .unset, .unset] []))
            refine Go.step (fun _ kt => XS.iload X266.here hx rfl (hb hby at_110) rfl (XS.ifNo X266.here hx rfl (hb hby at_112) rfl ((if0 _ _).trans (feq (by decide : ¬ ((1 : Int32) = (0 : Int32)))).1) (XS.aload X266.here hx rfl (hb hby at_115) rfl rfl (XS.iconst X266.here hx rfl (hb hby at_117) (XS.aload X266.here hx rfl (hb hby at_118) rfl rfl kt))))) ?_
            show Go p.tables e below _ (T266.setTop (mkF m 120 #[.val (.int p1), .val (.int p2), .val (.int p3), .val (.int bi), .val (.int (0 : Int32)), .val (.int (1 : Int32)), .val (.int wh), .val (.ref b101), .val (.ref b120), .val (.ref b173), .val (.ref b230), .unset, .unset, .unset] [(.ref b120), (.int (0 : Int32)), (.ref b101)]))
            obtain ⟨cq361, kq361, q361a, q361b, q361c⟩ := isOf hZ rfl F271
            obtain ⟨_, _, ⟨T361, L361, k361, n361⟩, -, X361, ⟨Lc361, hQ361, l361, y361, z361⟩, st361⟩ := X266.virtualBack hx (y := (⟨"com/example/ottawa/ottawa/TagPattern", "follow", "(ZLcom/example/ottawa/ottawa/Name;)V"⟩ : MethodName)) (z := (⟨"com/example/ottawa/ottawa/TagPattern", "follow", "(ZLcom/example/ottawa/ottawa/Name;)V"⟩ : MethodName)) hown (mvT hZ (hw _ (List.mem_of_getElem? (i := 153) rfl))) (mvT hZ (hw _ (List.mem_of_getElem? (i := 154) rfl))) (notFace_of_selects (args := #[]) (mvT hZ (hw _ (List.mem_of_getElem? (i := 156) rfl)))) (mvT hZ (hw _ (List.mem_of_getElem? (i := 156) rfl))) (mvT hZ (hw _ (List.mem_of_getElem? (i := 155) rfl))) (by decide) (backOf (W := 0) (rmf0 l Z a0 hw [] b101 b120 .null .null T266.heap n0 Z281 F271 F272 F273 F274 g_b101 (Ne.symm ne_b101_b120)) hZ (hw _ (List.mem_of_getElem? (i := 157) rfl)) (hw _ (List.mem_of_getElem? (i := 3) rfl)) (by decide) (by decide)) q361a q361c (g := (mkF m 120 #[.val (.int p1), .val (.int p2), .val (.int p3), .val (.int bi), .val (.int (0 : Int32)), .val (.int (1 : Int32)), .val (.int wh), .val (.ref b101), .val (.ref b120), .val (.ref b173), .val (.ref b230), .unset, .unset, .unset] [(.ref b120), (.int (0 : Int32)), (.ref b101)])) rfl (by rw [hml]; rfl) (Steps.refl _) (argsL := [(.int (0 : Int32)), (.ref b120)]) (rest := []) (lenOf pd_16 rfl) rfl (by show 2 * 0 + _ ≤ _; exact Nat.le_of_eq rfl) (hb hby at_120) (fun _ _ => ⟨rfl, rfl, (by decide : 30 + 0 ≤ _), (by decide : 225 + 0 ≤ _)⟩)
            dsimp only [Pt.U, Pt.locs, Pt.cells, Pt.slots] at X361 l361 y361 z361 st361 hQ361
            subst l361 y361 z361
            obtain ⟨rfl, N361q, Kq361, P362, P363, P364⟩ := hQ361
            have F365 : Exa Z T361.heap b101 "com/example/ottawa/ottawa/TagPattern" := (F271.keep Kq361)
            have F366 : Exa Z T361.heap b120 "com/example/ottawa/ottawa/KeptName" := (F274.keep Kq361)
            have F367 : Exa Z T361.heap b173 "com/example/ottawa/ottawa/KeptName" := (F275.keep Kq361)
            have F368 : Exa Z T361.heap b230 "com/example/ottawa/ottawa/Name" := (P267.keep Kq361)
            have Z369 : n0 ≤ T361.heap.size := (Nat.le_trans Z281 Kq361.1)
            have hk370 : _ ≤ T361.heap.size := (Nat.le_trans hk266 Kq361.1)
            have C371 := (C282.trans (CHr.keep Kq361 (by intro x hx; cases List.mem_singleton.mp hx; exact (Safe.exa hZ.alike F271 (by decide) (by decide))) C282.1))
            have N361 := Fr.app N266 N361q
            refine Go.step (fun _ kt => st361.trans kt) ?_
            show Go p.tables e below _ (T361.setTop (mkF m 123 #[.val (.int p1), .val (.int p2), .val (.int p3), .val (.int bi), .val (.int (0 : Int32)), .val (.int (1 : Int32)), .val (.int wh), .val (.ref b101), .val (.ref b120), .val (.ref b173), .val (.ref b230), .unset, .unset, .unset] []))
            rcases (show wh = 0 ∨ wh = 1 ∨ wh = 2 by rw [e_wh]; exact own_rem3 p3) with hq | hq | hq
            · rw [hq]
              show Go p.tables e below _ (T361.setTop (mkF m 123 #[.val (.int p1), .val (.int p2), .val (.int p3), .val (.int bi), .val (.int (0 : Int32)), .val (.int (1 : Int32)), .val (.int (0 : Int32)), .val (.ref b101), .val (.ref b120), .val (.ref b173), .val (.ref b230), .unset, .unset, .unset] []))
              refine Go.step (fun _ kt => XS.iload X361.here hx rfl (hb hby at_123) rfl (XS.ifNo X361.here hx rfl (hb hby at_125) rfl ((if0 _ _).trans (teq (by decide : (0 : Int32) = (0 : Int32))).2) (XS.aload X361.here hx rfl (hb hby at_128) rfl rfl (XS.goto X361.here hx rfl (pc0 := 130) (pc' := 145) rfl (hb hby at_130) (by decide) (by decide) (XS.astore X361.here hx rfl (hb hby at_145) rfl rfl (l' := #[.val (.int p1), .val (.int p2), .val (.int p3), .val (.int bi), .val (.int (0 : Int32)), .val (.int (1 : Int32)), .val (.int (0 : Int32)), .val (.ref b101), .val (.ref b120), .val (.ref b173), .val (.ref b230), .val (.ref b173), .unset, .unset]) rfl (XS.iload X361.here hx rfl (hb hby at_147) rfl (XS.ifNo X361.here hx rfl (hb hby at_149) rfl ((if0 _ _).trans (teq (by decide : (0 : Int32) = (0 : Int32))).2) (XS.aload X361.here hx rfl (hb hby at_152) rfl rfl (XS.goto X361.here hx rfl (pc0 := 154) (pc' := 158) rfl (hb hby at_154) (by decide) (by decide) (XS.astore X361.here hx rfl (hb hby at_158) rfl rfl (l' := #[.val (.int p1), .val (.int p2), .val (.int p3), .val (.int bi), .val (.int (0 : Int32)), .val (.int (1 : Int32)), .val (.int (0 : Int32)), .val (.ref b101), .val (.ref b120), .val (.ref b173), .val (.ref b230), .val (.ref b173), .val (.ref b173), .unset]) rfl kt)))))))))) ?_
              show Go p.tables e below _ (T361.setTop (mkF m 160 #[.val (.int p1), .val (.int p2), .val (.int p3), .val (.int bi), .val (.int (0 : Int32)), .val (.int (1 : Int32)), .val (.int (0 : Int32)), .val (.ref b101), .val (.ref b120), .val (.ref b173), .val (.ref b230), .val (.ref b173), .val (.ref b173), .unset] []))
              rcases h_bi with hq | hq
              · rw [hq]
                show Go p.tables e below _ (T361.setTop (mkF m 160 #[.val (.int p1), .val (.int p2), .val (.int p3), .val (.int (0 : Int32)), .val (.int (0 : Int32)), .val (.int (1 : Int32)), .val (.int (0 : Int32)), .val (.ref b101), .val (.ref b120), .val (.ref b173), .val (.ref b230), .val (.ref b173), .val (.ref b173), .unset] []))
                refine Go.step (fun _ kt => XS.iloadN X361.here hx rfl (hb hby at_160) rfl (XS.ifYes X361.here hx rfl (pc0 := 161) (pc' := 178) rfl (hb hby at_161) rfl ((if0 _ _).trans (teq (by decide : (0 : Int32) = (0 : Int32))).1) (by decide) (by decide) (XS.iload X361.here hx rfl (hb hby at_178) rfl (XS.ifYes X361.here hx rfl (pc0 := 180) (pc' := 188) rfl (hb hby at_180) rfl ((if0 _ _).trans (teq (by decide : (0 : Int32) = (0 : Int32))).1) (by decide) (by decide) (XS.aconstNull X361.here hx rfl (hb hby at_188) (XS.astore X361.here hx rfl (hb hby at_189) rfl rfl (l' := #[.val (.int p1), .val (.int p2), .val (.int p3), .val (.int (0 : Int32)), .val (.int (0 : Int32)), .val (.int (1 : Int32)), .val (.int (0 : Int32)), .val (.ref b101), .val (.ref b120), .val (.ref b173), .val (.ref b230), .val (.ref b173), .val (.ref b173), .val .null]) rfl (XS.aload X361.here hx rfl (hb hby at_191) rfl rfl (XS.iloadN X361.here hx rfl (hb hby at_193) rfl (XS.aload X361.here hx rfl (hb hby at_194) rfl rfl kt))))))))) ?_
                show Go p.tables e below _ (T361.setTop (mkF m 196 #[.val (.int p1), .val (.int p2), .val (.int p3), .val (.int (0 : Int32)), .val (.int (0 : Int32)), .val (.int (1 : Int32)), .val (.int (0 : Int32)), .val (.ref b101), .val (.ref b120), .val (.ref b173), .val (.ref b230), .val (.ref b173), .val (.ref b173), .val .null] [(.ref b173), (.int (0 : Int32)), (.ref b101)]))
                obtain ⟨cq372, kq372, q372a, q372b, q372c⟩ := isOf hZ rfl P362
                obtain ⟨_, _, ⟨T372, L372, k372, n372⟩, -, X372, ⟨Lc372, hQ372, l372, y372, z372⟩, st372⟩ := X361.virtualBack hx (y := (⟨"com/example/ottawa/ottawa/TagPattern", "follow", "(ZLcom/example/ottawa/ottawa/Name;)V"⟩ : MethodName)) (z := (⟨"com/example/ottawa/ottawa/TagPattern", "follow", "(ZLcom/example/ottawa/ottawa/Name;)V"⟩ : MethodName)) hown (mvT hZ (hw _ (List.mem_of_getElem? (i := 153) rfl))) (mvT hZ (hw _ (List.mem_of_getElem? (i := 154) rfl))) (notFace_of_selects (args := #[]) (mvT hZ (hw _ (List.mem_of_getElem? (i := 156) rfl)))) (mvT hZ (hw _ (List.mem_of_getElem? (i := 156) rfl))) (mvT hZ (hw _ (List.mem_of_getElem? (i := 155) rfl))) (by decide) (backOf (W := 0) (rmf0 l Z a0 hw [] b101 b173 .null (.ref b120) T361.heap n0 Z369 P362 P363 P364 F367 g_b101 (Ne.symm ne_b101_b173)) hZ (hw _ (List.mem_of_getElem? (i := 157) rfl)) (hw _ (List.mem_of_getElem? (i := 3) rfl)) (by decide) (by decide)) q372a q372c (g := (mkF m 196 #[.val (.int p1), .val (.int p2), .val (.int p3), .val (.int (0 : Int32)), .val (.int (0 : Int32)), .val (.int (1 : Int32)), .val (.int (0 : Int32)), .val (.ref b101), .val (.ref b120), .val (.ref b173), .val (.ref b230), .val (.ref b173), .val (.ref b173), .val .null] [(.ref b173), (.int (0 : Int32)), (.ref b101)])) rfl (by rw [hml]; rfl) (Steps.refl _) (argsL := [(.int (0 : Int32)), (.ref b173)]) (rest := []) (lenOf pd_16 rfl) rfl (by show 2 * 0 + _ ≤ _; exact Nat.le_of_eq rfl) (hb hby at_196) (fun _ _ => ⟨rfl, rfl, (by decide : 30 + 0 ≤ _), (by decide : 225 + 0 ≤ _)⟩)
                dsimp only [Pt.U, Pt.locs, Pt.cells, Pt.slots] at X372 l372 y372 z372 st372 hQ372
                subst l372 y372 z372
                obtain ⟨rfl, N372q, Kq372, P373, P374, P375⟩ := hQ372
                have F376 : Exa Z T372.heap b101 "com/example/ottawa/ottawa/TagPattern" := (P362.keep Kq372)
                have F377 : Exa Z T372.heap b120 "com/example/ottawa/ottawa/KeptName" := (F366.keep Kq372)
                have F378 : Exa Z T372.heap b173 "com/example/ottawa/ottawa/KeptName" := (F367.keep Kq372)
                have F379 : Exa Z T372.heap b230 "com/example/ottawa/ottawa/Name" := (F368.keep Kq372)
                have Z380 : n0 ≤ T372.heap.size := (Nat.le_trans Z369 Kq372.1)
                have hk381 : _ ≤ T372.heap.size := (Nat.le_trans hk370 Kq372.1)
                have C382 := (C371.trans (CHr.keep Kq372 (by intro x hx; cases List.mem_singleton.mp hx; exact (Safe.exa hZ.alike P362 (by decide) (by decide))) C371.1))
                have N372 := Fr.app N361 N372q
                refine Go.step (fun _ kt => st372.trans kt) ?_
                show Go p.tables e below _ (T372.setTop (mkF m 199 #[.val (.int p1), .val (.int p2), .val (.int p3), .val (.int (0 : Int32)), .val (.int (0 : Int32)), .val (.int (1 : Int32)), .val (.int (0 : Int32)), .val (.ref b101), .val (.ref b120), .val (.ref b173), .val (.ref b230), .val (.ref b173), .val (.ref b173), .val .null] []))
                refine Go.step (fun _ kt => XS.aload X372.here hx rfl (hb hby at_199) rfl rfl (XS.iloadN X372.here hx rfl (hb hby at_201) rfl kt)) ?_
                show Go p.tables e below _ (T372.setTop (mkF m 202 #[.val (.int p1), .val (.int p2), .val (.int p3), .val (.int (0 : Int32)), .val (.int (0 : Int32)), .val (.int (1 : Int32)), .val (.int (0 : Int32)), .val (.ref b101), .val (.ref b120), .val (.ref b173), .val (.ref b230), .val (.ref b173), .val (.ref b173), .val .null] [(.int (0 : Int32)), (.ref b101)]))
                obtain ⟨cq383, kq383, q383a, q383b, q383c⟩ := isOf hZ rfl P373
                obtain ⟨_, _, ⟨T383, L383, k383, n383⟩, -, X383, ⟨Lc383, hQ383, l383, y383, z383⟩, st383⟩ := X372.virtualBack hx (y := (⟨"com/example/ottawa/ottawa/TagPattern", "following", "(Z)Lcom/example/ottawa/ottawa/KeptName;"⟩ : MethodName)) (z := (⟨"com/example/ottawa/ottawa/TagPattern", "following", "(Z)Lcom/example/ottawa/ottawa/KeptName;"⟩ : MethodName)) hown (mvT hZ (hw _ (List.mem_of_getElem? (i := 163) rfl))) (mvT hZ (hw _ (List.mem_of_getElem? (i := 164) rfl))) (notFace_of_selects (args := #[]) (mvT hZ (hw _ (List.mem_of_getElem? (i := 166) rfl)))) (mvT hZ (hw _ (List.mem_of_getElem? (i := 166) rfl))) (mvT hZ (hw _ (List.mem_of_getElem? (i := 165) rfl))) (by decide) (backOf (W := 0) (rmg0 l Z a0 hw [] b101 b173 T372.heap n0 Z380 P375 ) hZ (hw _ (List.mem_of_getElem? (i := 167) rfl)) (hw _ (List.mem_of_getElem? (i := 3) rfl)) (by decide) (by decide)) q383a q383c (g := (mkF m 202 #[.val (.int p1), .val (.int p2), .val (.int p3), .val (.int (0 : Int32)), .val (.int (0 : Int32)), .val (.int (1 : Int32)), .val (.int (0 : Int32)), .val (.ref b101), .val (.ref b120), .val (.ref b173), .val (.ref b230), .val (.ref b173), .val (.ref b173), .val .null] [(.int (0 : Int32)), (.ref b101)])) rfl (by rw [hml]; rfl) (Steps.refl _) (argsL := [(.int (0 : Int32))]) (rest := []) (lenOf pd_17 rfl) rfl (by show 2 * 0 + _ ≤ _; exact Nat.le_of_eq rfl) (hb hby at_202) (fun _ _ => ⟨rfl, rfl, (by decide : 30 + 0 ≤ _), (by decide : 225 + 0 ≤ _)⟩)
                dsimp only [Pt.U, Pt.locs, Pt.cells, Pt.slots] at X383 l383 y383 z383 st383 hQ383
                subst l383 y383 z383
                obtain ⟨rfl, N383q, eh383⟩ := hQ383
                have N383 := Fr.app N372 N383q
                refine Go.step (fun _ kt => st383.trans kt) ?_
                show Go p.tables e below _ (T383.setTop (mkF m 205 #[.val (.int p1), .val (.int p2), .val (.int p3), .val (.int (0 : Int32)), .val (.int (0 : Int32)), .val (.int (1 : Int32)), .val (.int (0 : Int32)), .val (.ref b101), .val (.ref b120), .val (.ref b173), .val (.ref b230), .val (.ref b173), .val (.ref b173), .val .null] [(.ref b173)]))
                refine Go.step (fun _ kt => XS.aload X383.here hx rfl (hb hby at_205) rfl rfl kt) ?_
                show Go p.tables e below _ (T383.setTop (mkF m 207 #[.val (.int p1), .val (.int p2), .val (.int p3), .val (.int (0 : Int32)), .val (.int (0 : Int32)), .val (.int (1 : Int32)), .val (.int (0 : Int32)), .val (.ref b101), .val (.ref b120), .val (.ref b173), .val (.ref b230), .val (.ref b173), .val (.ref b173), .val .null] [(.ref b173), (.ref b173)]))
                refine Go.step (fun _ kt => Jvm.RoadKit.acmp (g := (mkF m 207 #[.val (.int p1), .val (.int p2), .val (.int p3), .val (.int (0 : Int32)), .val (.int (0 : Int32)), .val (.int (1 : Int32)), .val (.int (0 : Int32)), .val (.ref b101), .val (.ref b120), .val (.ref b173), .val (.ref b230), .val (.ref b173), .val (.ref b173), .val .null] [(.ref b173), (.ref b173)])) X383 hx rfl rfl rfl (pc0 := 207) (pc' := 210) (same := true) rfl (hb hby at_207) rfl (decide_eq_true rfl) (by decide) (by decide) kt) ?_
                show Go p.tables e below _ (T383.setTop (mkF m 210 #[.val (.int p1), .val (.int p2), .val (.int p3), .val (.int (0 : Int32)), .val (.int (0 : Int32)), .val (.int (1 : Int32)), .val (.int (0 : Int32)), .val (.ref b101), .val (.ref b120), .val (.ref b173), .val (.ref b230), .val (.ref b173), .val (.ref b173), .val .null] []))
                refine Go.step (fun _ kt => XS.aload X383.here hx rfl (hb hby at_210) rfl rfl (XS.iloadN X383.here hx rfl (hb hby at_212) rfl (XS.ifNo X383.here hx rfl (hb hby at_213) rfl ((if0 _ _).trans (teq (by decide : (0 : Int32) = (0 : Int32))).2) (XS.iconst X383.here hx rfl (hb hby at_216) (XS.goto X383.here hx rfl (pc0 := 217) (pc' := 221) rfl (hb hby at_217) (by decide) (by decide) kt))))) ?_
                show Go p.tables e below _ (T383.setTop (mkF m 221 #[.val (.int p1), .val (.int p2), .val (.int p3), .val (.int (0 : Int32)), .val (.int (0 : Int32)), .val (.int (1 : Int32)), .val (.int (0 : Int32)), .val (.ref b101), .val (.ref b120), .val (.ref b173), .val (.ref b230), .val (.ref b173), .val (.ref b173), .val .null] [(.int (1 : Int32)), (.ref b101)]))
                obtain ⟨cq384, kq384, q384a, q384b, q384c⟩ := isOf hZ eh383 P373
                obtain ⟨_, _, ⟨T384, L384, k384, n384⟩, -, X384, ⟨Lc384, hQ384, l384, y384, z384⟩, st384⟩ := X383.virtualBack hx (y := (⟨"com/example/ottawa/ottawa/TagPattern", "following", "(Z)Lcom/example/ottawa/ottawa/KeptName;"⟩ : MethodName)) (z := (⟨"com/example/ottawa/ottawa/TagPattern", "following", "(Z)Lcom/example/ottawa/ottawa/KeptName;"⟩ : MethodName)) hown (mvT hZ (hw _ (List.mem_of_getElem? (i := 163) rfl))) (mvT hZ (hw _ (List.mem_of_getElem? (i := 164) rfl))) (notFace_of_selects (args := #[]) (mvT hZ (hw _ (List.mem_of_getElem? (i := 166) rfl)))) (mvT hZ (hw _ (List.mem_of_getElem? (i := 166) rfl))) (mvT hZ (hw _ (List.mem_of_getElem? (i := 165) rfl))) (by decide) (backOf (W := 0) (rmg1 l Z a0 hw [] b101  T372.heap n0 Z380 P374 ) hZ (hw _ (List.mem_of_getElem? (i := 167) rfl)) (hw _ (List.mem_of_getElem? (i := 3) rfl)) (by decide) (by decide)) q384a q384c (g := (mkF m 221 #[.val (.int p1), .val (.int p2), .val (.int p3), .val (.int (0 : Int32)), .val (.int (0 : Int32)), .val (.int (1 : Int32)), .val (.int (0 : Int32)), .val (.ref b101), .val (.ref b120), .val (.ref b173), .val (.ref b230), .val (.ref b173), .val (.ref b173), .val .null] [(.int (1 : Int32)), (.ref b101)])) rfl (by rw [hml]; rfl) (Steps.refl _) (argsL := [(.int (1 : Int32))]) (rest := []) (lenOf pd_17 rfl) rfl (by show 2 * 0 + _ ≤ _; exact Nat.le_of_eq rfl) (hb hby at_221) (fun _ _ => ⟨rfl, eh383, (by decide : 30 + 0 ≤ _), (by decide : 225 + 0 ≤ _)⟩)
                dsimp only [Pt.U, Pt.locs, Pt.cells, Pt.slots] at X384 l384 y384 z384 st384 hQ384
                subst l384 y384 z384
                obtain ⟨rfl, N384q, eh384⟩ := hQ384
                have N384 := Fr.app N383 N384q
                refine Go.step (fun _ kt => st384.trans kt) ?_
                show Go p.tables e below _ (T384.setTop (mkF m 224 #[.val (.int p1), .val (.int p2), .val (.int p3), .val (.int (0 : Int32)), .val (.int (0 : Int32)), .val (.int (1 : Int32)), .val (.int (0 : Int32)), .val (.ref b101), .val (.ref b120), .val (.ref b173), .val (.ref b230), .val (.ref b173), .val (.ref b173), .val .null] [.null]))
                refine Go.step (fun _ kt => XS.aload X384.here hx rfl (hb hby at_224) rfl rfl kt) ?_
                show Go p.tables e below _ (T384.setTop (mkF m 226 #[.val (.int p1), .val (.int p2), .val (.int p3), .val (.int (0 : Int32)), .val (.int (0 : Int32)), .val (.int (1 : Int32)), .val (.int (0 : Int32)), .val (.ref b101), .val (.ref b120), .val (.ref b173), .val (.ref b230), .val (.ref b173), .val (.ref b173), .val .null] [.null, .null]))
                refine Go.step (fun _ kt => Jvm.RoadKit.acmp (g := (mkF m 226 #[.val (.int p1), .val (.int p2), .val (.int p3), .val (.int (0 : Int32)), .val (.int (0 : Int32)), .val (.int (1 : Int32)), .val (.int (0 : Int32)), .val (.ref b101), .val (.ref b120), .val (.ref b173), .val (.ref b230), .val (.ref b173), .val (.ref b173), .val .null] [.null, .null])) X384 hx rfl rfl rfl (pc0 := 226) (pc' := 229) (same := true) rfl (hb hby at_226) rfl (decide_eq_true rfl) (by decide) (by decide) kt) ?_
                show Go p.tables e below _ (T384.setTop (mkF m 229 #[.val (.int p1), .val (.int p2), .val (.int p3), .val (.int (0 : Int32)), .val (.int (0 : Int32)), .val (.int (1 : Int32)), .val (.int (0 : Int32)), .val (.ref b101), .val (.ref b120), .val (.ref b173), .val (.ref b230), .val (.ref b173), .val (.ref b173), .val .null] []))
                refine Go.step (fun _ kt => XS.iconst X384.here hx rfl (hb hby at_229) (XS.goto X384.here hx rfl (pc0 := 230) (pc' := 234) rfl (hb hby at_230) (by decide) (by decide) kt)) ?_
                show Go p.tables e below _ (T384.setTop (mkF m 234 #[.val (.int p1), .val (.int p2), .val (.int p3), .val (.int (0 : Int32)), .val (.int (0 : Int32)), .val (.int (1 : Int32)), .val (.int (0 : Int32)), .val (.ref b101), .val (.ref b120), .val (.ref b173), .val (.ref b230), .val (.ref b173), .val (.ref b173), .val .null] [(.int (1 : Int32))]))
                obtain ⟨fs, hr, hrun, hended, hRW⟩ := X384.leaveW hS266 (by rw [eh384]; exact hk381) (v := some (.int (1 : Int32))) (fun h => by rw [Bd.returns] at h; cases h)
                refine ⟨_, _, retN X384 hx (t := .boolean) Bd.returns (by simp) (hb hby at_234) hr, hrun, hended, _, _, rfl, ?_, (by have q := C382.trans (CHv.at X384 hZ (own_EW hw) C382.1); rw [hh]; rw [← eh384] at q; exact q), hRW.1, hRW.2.1, hRW.2.2.1, hRW.2.2.2.mono (by decide) (by decide)⟩
                show Qrm0 Z p1 p2 p3 cs h0 n0 _ T384.heap _
                rw [eh384]
                exact ⟨rfl, N384⟩
              · rw [hq]
                show Go p.tables e below _ (T361.setTop (mkF m 160 #[.val (.int p1), .val (.int p2), .val (.int p3), .val (.int (1 : Int32)), .val (.int (0 : Int32)), .val (.int (1 : Int32)), .val (.int (0 : Int32)), .val (.ref b101), .val (.ref b120), .val (.ref b173), .val (.ref b230), .val (.ref b173), .val (.ref b173), .unset] []))
                refine Go.step (fun _ kt => XS.iloadN X361.here hx rfl (hb hby at_160) rfl (XS.ifNo X361.here hx rfl (hb hby at_161) rfl ((if0 _ _).trans (feq (by decide : ¬ ((1 : Int32) = (0 : Int32)))).1) (XS.iload X361.here hx rfl (hb hby at_164) rfl (XS.ifNo X361.here hx rfl (hb hby at_166) rfl ((if0 _ _).trans (feq (by decide : ¬ ((1 : Int32) = (0 : Int32)))).1) (XS.aload X361.here hx rfl (hb hby at_169) rfl rfl (XS.goto X361.here hx rfl (pc0 := 171) (pc' := 189) rfl (hb hby at_171) (by decide) (by decide) (XS.astore X361.here hx rfl (hb hby at_189) rfl rfl (l' := #[.val (.int p1), .val (.int p2), .val (.int p3), .val (.int (1 : Int32)), .val (.int (0 : Int32)), .val (.int (1 : Int32)), .val (.int (0 : Int32)), .val (.ref b101), .val (.ref b120), .val (.ref b173), .val (.ref b230), .val (.ref b173), .val (.ref b173), .val (.ref b120)]) rfl (XS.aload X361.here hx rfl (hb hby at_191) rfl rfl (XS.iloadN X361.here hx rfl (hb hby at_193) rfl (XS.aload X361.here hx rfl (hb hby at_194) rfl rfl kt)))))))))) ?_
                show Go p.tables e below _ (T361.setTop (mkF m 196 #[.val (.int p1), .val (.int p2), .val (.int p3), .val (.int (1 : Int32)), .val (.int (0 : Int32)), .val (.int (1 : Int32)), .val (.int (0 : Int32)), .val (.ref b101), .val (.ref b120), .val (.ref b173), .val (.ref b230), .val (.ref b173), .val (.ref b173), .val (.ref b120)] [(.ref b173), (.int (1 : Int32)), (.ref b101)]))
                obtain ⟨cq385, kq385, q385a, q385b, q385c⟩ := isOf hZ rfl P362
                obtain ⟨_, _, ⟨T385, L385, k385, n385⟩, -, X385, ⟨Lc385, hQ385, l385, y385, z385⟩, st385⟩ := X361.virtualBack hx (y := (⟨"com/example/ottawa/ottawa/TagPattern", "follow", "(ZLcom/example/ottawa/ottawa/Name;)V"⟩ : MethodName)) (z := (⟨"com/example/ottawa/ottawa/TagPattern", "follow", "(ZLcom/example/ottawa/ottawa/Name;)V"⟩ : MethodName)) hown (mvT hZ (hw _ (List.mem_of_getElem? (i := 153) rfl))) (mvT hZ (hw _ (List.mem_of_getElem? (i := 154) rfl))) (notFace_of_selects (args := #[]) (mvT hZ (hw _ (List.mem_of_getElem? (i := 156) rfl)))) (mvT hZ (hw _ (List.mem_of_getElem? (i := 156) rfl))) (mvT hZ (hw _ (List.mem_of_getElem? (i := 155) rfl))) (by decide) (backOf (W := 0) (rmf1 l Z a0 hw [] b101 b173 .null (.ref b120) T361.heap n0 Z369 P362 P363 P364 F367 g_b101 (Ne.symm ne_b101_b173)) hZ (hw _ (List.mem_of_getElem? (i := 157) rfl)) (hw _ (List.mem_of_getElem? (i := 3) rfl)) (by decide) (by decide)) q385a q385c (g := (mkF m 196 #[.val (.int p1), .val (.int p2), .val (.int p3), .val (.int (1 : Int32)), .val (.int (0 : Int32)), .val (.int (1 : Int32)), .val (.int (0 : Int32)), .val (.ref b101), .val (.ref b120), .val (.ref b173), .val (.ref b230), .val (.ref b173), .val (.ref b173), .val (.ref b120)] [(.ref b173), (.int (1 : Int32)), (.ref b101)])) rfl (by rw [hml]; rfl) (Steps.refl _) (argsL := [(.int (1 : Int32)), (.ref b173)]) (rest := []) (lenOf pd_16 rfl) rfl (by show 2 * 0 + _ ≤ _; exact Nat.le_of_eq rfl) (hb hby at_196) (fun _ _ => ⟨rfl, rfl, (by decide : 30 + 0 ≤ _), (by decide : 225 + 0 ≤ _)⟩)
                dsimp only [Pt.U, Pt.locs, Pt.cells, Pt.slots] at X385 l385 y385 z385 st385 hQ385
                subst l385 y385 z385
                obtain ⟨rfl, N385q, Kq385, P386, P387, P388⟩ := hQ385
                have F389 : Exa Z T385.heap b101 "com/example/ottawa/ottawa/TagPattern" := (P362.keep Kq385)
                have F390 : Exa Z T385.heap b120 "com/example/ottawa/ottawa/KeptName" := (F366.keep Kq385)
                have F391 : Exa Z T385.heap b173 "com/example/ottawa/ottawa/KeptName" := (F367.keep Kq385)
                have F392 : Exa Z T385.heap b230 "com/example/ottawa/ottawa/Name" := (F368.keep Kq385)
                have Z393 : n0 ≤ T385.heap.size := (Nat.le_trans Z369 Kq385.1)
                have hk394 : _ ≤ T385.heap.size := (Nat.le_trans hk370 Kq385.1)
                have C395 := (C371.trans (CHr.keep Kq385 (by intro x hx; cases List.mem_singleton.mp hx; exact (Safe.exa hZ.alike P362 (by decide) (by decide))) C371.1))
                have N385 := Fr.app N361 N385q
                refine Go.step (fun _ kt => st385.trans kt) ?_
                show Go p.tables e below _ (T385.setTop (mkF m 199 #[.val (.int p1), .val (.int p2), .val (.int p3), .val (.int (1 : Int32)), .val (.int (0 : Int32)), .val (.int (1 : Int32)), .val (.int (0 : Int32)), .val (.ref b101), .val (.ref b120), .val (.ref b173), .val (.ref b230), .val (.ref b173), .val (.ref b173), .val (.ref b120)] []))
                refine Go.step (fun _ kt => XS.aload X385.here hx rfl (hb hby at_199) rfl rfl (XS.iloadN X385.here hx rfl (hb hby at_201) rfl kt)) ?_
                show Go p.tables e below _ (T385.setTop (mkF m 202 #[.val (.int p1), .val (.int p2), .val (.int p3), .val (.int (1 : Int32)), .val (.int (0 : Int32)), .val (.int (1 : Int32)), .val (.int (0 : Int32)), .val (.ref b101), .val (.ref b120), .val (.ref b173), .val (.ref b230), .val (.ref b173), .val (.ref b173), .val (.ref b120)] [(.int (1 : Int32)), (.ref b101)]))
                obtain ⟨cq396, kq396, q396a, q396b, q396c⟩ := isOf hZ rfl P386
                obtain ⟨_, _, ⟨T396, L396, k396, n396⟩, -, X396, ⟨Lc396, hQ396, l396, y396, z396⟩, st396⟩ := X385.virtualBack hx (y := (⟨"com/example/ottawa/ottawa/TagPattern", "following", "(Z)Lcom/example/ottawa/ottawa/KeptName;"⟩ : MethodName)) (z := (⟨"com/example/ottawa/ottawa/TagPattern", "following", "(Z)Lcom/example/ottawa/ottawa/KeptName;"⟩ : MethodName)) hown (mvT hZ (hw _ (List.mem_of_getElem? (i := 163) rfl))) (mvT hZ (hw _ (List.mem_of_getElem? (i := 164) rfl))) (notFace_of_selects (args := #[]) (mvT hZ (hw _ (List.mem_of_getElem? (i := 166) rfl)))) (mvT hZ (hw _ (List.mem_of_getElem? (i := 166) rfl))) (mvT hZ (hw _ (List.mem_of_getElem? (i := 165) rfl))) (by decide) (backOf (W := 0) (rmg2 l Z a0 hw [] b101 b173 T385.heap n0 Z393 P387 ) hZ (hw _ (List.mem_of_getElem? (i := 167) rfl)) (hw _ (List.mem_of_getElem? (i := 3) rfl)) (by decide) (by decide)) q396a q396c (g := (mkF m 202 #[.val (.int p1), .val (.int p2), .val (.int p3), .val (.int (1 : Int32)), .val (.int (0 : Int32)), .val (.int (1 : Int32)), .val (.int (0 : Int32)), .val (.ref b101), .val (.ref b120), .val (.ref b173), .val (.ref b230), .val (.ref b173), .val (.ref b173), .val (.ref b120)] [(.int (1 : Int32)), (.ref b101)])) rfl (by rw [hml]; rfl) (Steps.refl _) (argsL := [(.int (1 : Int32))]) (rest := []) (lenOf pd_17 rfl) rfl (by show 2 * 0 + _ ≤ _; exact Nat.le_of_eq rfl) (hb hby at_202) (fun _ _ => ⟨rfl, rfl, (by decide : 30 + 0 ≤ _), (by decide : 225 + 0 ≤ _)⟩)
                dsimp only [Pt.U, Pt.locs, Pt.cells, Pt.slots] at X396 l396 y396 z396 st396 hQ396
                subst l396 y396 z396
                obtain ⟨rfl, N396q, eh396⟩ := hQ396
                have N396 := Fr.app N385 N396q
                refine Go.step (fun _ kt => st396.trans kt) ?_
                show Go p.tables e below _ (T396.setTop (mkF m 205 #[.val (.int p1), .val (.int p2), .val (.int p3), .val (.int (1 : Int32)), .val (.int (0 : Int32)), .val (.int (1 : Int32)), .val (.int (0 : Int32)), .val (.ref b101), .val (.ref b120), .val (.ref b173), .val (.ref b230), .val (.ref b173), .val (.ref b173), .val (.ref b120)] [(.ref b173)]))
                refine Go.step (fun _ kt => XS.aload X396.here hx rfl (hb hby at_205) rfl rfl kt) ?_
                show Go p.tables e below _ (T396.setTop (mkF m 207 #[.val (.int p1), .val (.int p2), .val (.int p3), .val (.int (1 : Int32)), .val (.int (0 : Int32)), .val (.int (1 : Int32)), .val (.int (0 : Int32)), .val (.ref b101), .val (.ref b120), .val (.ref b173), .val (.ref b230), .val (.ref b173), .val (.ref b173), .val (.ref b120)] [(.ref b173), (.ref b173)]))
                refine Go.step (fun _ kt => Jvm.RoadKit.acmp (g := (mkF m 207 #[.val (.int p1), .val (.int p2), .val (.int p3), .val (.int (1 : Int32)), .val (.int (0 : Int32)), .val (.int (1 : Int32)), .val (.int (0 : Int32)), .val (.ref b101), .val (.ref b120), .val (.ref b173), .val (.ref b230), .val (.ref b173), .val (.ref b173), .val (.ref b120)] [(.ref b173), (.ref b173)])) X396 hx rfl rfl rfl (pc0 := 207) (pc' := 210) (same := true) rfl (hb hby at_207) rfl (decide_eq_true rfl) (by decide) (by decide) kt) ?_
                show Go p.tables e below _ (T396.setTop (mkF m 210 #[.val (.int p1), .val (.int p2), .val (.int p3), .val (.int (1 : Int32)), .val (.int (0 : Int32)), .val (.int (1 : Int32)), .val (.int (0 : Int32)), .val (.ref b101), .val (.ref b120), .val (.ref b173), .val (.ref b230), .val (.ref b173), .val (.ref b173), .val (.ref b120)] []))
                refine Go.step (fun _ kt => XS.aload X396.here hx rfl (hb hby at_210) rfl rfl (XS.iloadN X396.here hx rfl (hb hby at_212) rfl (XS.ifYes X396.here hx rfl (pc0 := 213) (pc' := 220) rfl (hb hby at_213) rfl ((if0 _ _).trans (feq (by decide : ¬ ((1 : Int32) = (0 : Int32)))).2) (by decide) (by decide) (XS.iconst X396.here hx rfl (hb hby at_220) kt)))) ?_
                show Go p.tables e below _ (T396.setTop (mkF m 221 #[.val (.int p1), .val (.int p2), .val (.int p3), .val (.int (1 : Int32)), .val (.int (0 : Int32)), .val (.int (1 : Int32)), .val (.int (0 : Int32)), .val (.ref b101), .val (.ref b120), .val (.ref b173), .val (.ref b230), .val (.ref b173), .val (.ref b173), .val (.ref b120)] [(.int (0 : Int32)), (.ref b101)]))
                obtain ⟨cq397, kq397, q397a, q397b, q397c⟩ := isOf hZ eh396 P386
                obtain ⟨_, _, ⟨T397, L397, k397, n397⟩, -, X397, ⟨Lc397, hQ397, l397, y397, z397⟩, st397⟩ := X396.virtualBack hx (y := (⟨"com/example/ottawa/ottawa/TagPattern", "following", "(Z)Lcom/example/ottawa/ottawa/KeptName;"⟩ : MethodName)) (z := (⟨"com/example/ottawa/ottawa/TagPattern", "following", "(Z)Lcom/example/ottawa/ottawa/KeptName;"⟩ : MethodName)) hown (mvT hZ (hw _ (List.mem_of_getElem? (i := 163) rfl))) (mvT hZ (hw _ (List.mem_of_getElem? (i := 164) rfl))) (notFace_of_selects (args := #[]) (mvT hZ (hw _ (List.mem_of_getElem? (i := 166) rfl)))) (mvT hZ (hw _ (List.mem_of_getElem? (i := 166) rfl))) (mvT hZ (hw _ (List.mem_of_getElem? (i := 165) rfl))) (by decide) (backOf (W := 0) (rmg0 l Z a0 hw [] b101 b120 T385.heap n0 Z393 P388 ) hZ (hw _ (List.mem_of_getElem? (i := 167) rfl)) (hw _ (List.mem_of_getElem? (i := 3) rfl)) (by decide) (by decide)) q397a q397c (g := (mkF m 221 #[.val (.int p1), .val (.int p2), .val (.int p3), .val (.int (1 : Int32)), .val (.int (0 : Int32)), .val (.int (1 : Int32)), .val (.int (0 : Int32)), .val (.ref b101), .val (.ref b120), .val (.ref b173), .val (.ref b230), .val (.ref b173), .val (.ref b173), .val (.ref b120)] [(.int (0 : Int32)), (.ref b101)])) rfl (by rw [hml]; rfl) (Steps.refl _) (argsL := [(.int (0 : Int32))]) (rest := []) (lenOf pd_17 rfl) rfl (by show 2 * 0 + _ ≤ _; exact Nat.le_of_eq rfl) (hb hby at_221) (fun _ _ => ⟨rfl, eh396, (by decide : 30 + 0 ≤ _), (by decide : 225 + 0 ≤ _)⟩)
                dsimp only [Pt.U, Pt.locs, Pt.cells, Pt.slots] at X397 l397 y397 z397 st397 hQ397
                subst l397 y397 z397
                obtain ⟨rfl, N397q, eh397⟩ := hQ397
                have N397 := Fr.app N396 N397q
                refine Go.step (fun _ kt => st397.trans kt) ?_
                show Go p.tables e below _ (T397.setTop (mkF m 224 #[.val (.int p1), .val (.int p2), .val (.int p3), .val (.int (1 : Int32)), .val (.int (0 : Int32)), .val (.int (1 : Int32)), .val (.int (0 : Int32)), .val (.ref b101), .val (.ref b120), .val (.ref b173), .val (.ref b230), .val (.ref b173), .val (.ref b173), .val (.ref b120)] [(.ref b120)]))
                refine Go.step (fun _ kt => XS.aload X397.here hx rfl (hb hby at_224) rfl rfl kt) ?_
                show Go p.tables e below _ (T397.setTop (mkF m 226 #[.val (.int p1), .val (.int p2), .val (.int p3), .val (.int (1 : Int32)), .val (.int (0 : Int32)), .val (.int (1 : Int32)), .val (.int (0 : Int32)), .val (.ref b101), .val (.ref b120), .val (.ref b173), .val (.ref b230), .val (.ref b173), .val (.ref b173), .val (.ref b120)] [(.ref b120), (.ref b120)]))
                refine Go.step (fun _ kt => Jvm.RoadKit.acmp (g := (mkF m 226 #[.val (.int p1), .val (.int p2), .val (.int p3), .val (.int (1 : Int32)), .val (.int (0 : Int32)), .val (.int (1 : Int32)), .val (.int (0 : Int32)), .val (.ref b101), .val (.ref b120), .val (.ref b173), .val (.ref b230), .val (.ref b173), .val (.ref b173), .val (.ref b120)] [(.ref b120), (.ref b120)])) X397 hx rfl rfl rfl (pc0 := 226) (pc' := 229) (same := true) rfl (hb hby at_226) rfl (decide_eq_true rfl) (by decide) (by decide) kt) ?_
                show Go p.tables e below _ (T397.setTop (mkF m 229 #[.val (.int p1), .val (.int p2), .val (.int p3), .val (.int (1 : Int32)), .val (.int (0 : Int32)), .val (.int (1 : Int32)), .val (.int (0 : Int32)), .val (.ref b101), .val (.ref b120), .val (.ref b173), .val (.ref b230), .val (.ref b173), .val (.ref b173), .val (.ref b120)] []))
                refine Go.step (fun _ kt => XS.iconst X397.here hx rfl (hb hby at_229) (XS.goto X397.here hx rfl (pc0 := 230) (pc' := 234) rfl (hb hby at_230) (by decide) (by decide) kt)) ?_
                show Go p.tables e below _ (T397.setTop (mkF m 234 #[.val (.int p1), .val (.int p2), .val (.int p3), .val (.int (1 : Int32)), .val (.int (0 : Int32)), .val (.int (1 : Int32)), .val (.int (0 : Int32)), .val (.ref b101), .val (.ref b120), .val (.ref b173), .val (.ref b230), .val (.ref b173), .val (.ref b173), .val (.ref b120)] [(.int (1 : Int32))]))
                obtain ⟨fs, hr, hrun, hended, hRW⟩ := X397.leaveW hS266 (by rw [eh397]; exact hk394) (v := some (.int (1 : Int32))) (fun h => by rw [Bd.returns] at h; cases h)
                refine ⟨_, _, retN X397 hx (t := .boolean) Bd.returns (by simp) (hb hby at_234) hr, hrun, hended, _, _, rfl, ?_, (by have q := C395.trans (CHv.at X397 hZ (own_EW hw) C395.1); rw [hh]; rw [← eh397] at q; exact q), hRW.1, hRW.2.1, hRW.2.2.1, hRW.2.2.2.mono (by decide) (by decide)⟩
                show Qrm0 Z p1 p2 p3 cs h0 n0 _ T397.heap _
                rw [eh397]
                exact ⟨rfl, N397⟩
            · rw [hq]
              show Go p.tables e below _ (T361.setTop (mkF m 123 #[.val (.int p1), .val (.int p2), .val (.int p3), .val (.int bi), .val (.int (0 : Int32)), .val (.int (1 : Int32)), .val (.int (1 : Int32)), .val (.ref b101), .val (.ref b120), .val (.ref b173), .val (.ref b230), .unset, .unset, .unset] []))
              refine Go.step (fun _ kt => XS.iload X361.here hx rfl (hb hby at_123) rfl (XS.ifYes X361.here hx rfl (pc0 := 125) (pc' := 133) rfl (hb hby at_125) rfl ((if0 _ _).trans (feq (by decide : ¬ ((1 : Int32) = (0 : Int32)))).2) (by decide) (by decide) (XS.iload X361.here hx rfl (hb hby at_133) rfl (XS.iconst X361.here hx rfl (hb hby at_135) (XS.icmpNo X361.here hx rfl (hb hby at_136) rfl (teq (by decide : (1 : Int32) = (1 : Int32))).2 (XS.aload X361.here hx rfl (hb hby at_139) rfl rfl (XS.goto X361.here hx rfl (pc0 := 141) (pc' := 145) rfl (hb hby at_141) (by decide) (by decide) (XS.astore X361.here hx rfl (hb hby at_145) rfl rfl (l' := #[.val (.int p1), .val (.int p2), .val (.int p3), .val (.int bi), .val (.int (0 : Int32)), .val (.int (1 : Int32)), .val (.int (1 : Int32)), .val (.ref b101), .val (.ref b120), .val (.ref b173), .val (.ref b230), .val (.ref b230), .unset, .unset]) rfl (XS.iload X361.here hx rfl (hb hby at_147) rfl (XS.ifYes X361.here hx rfl (pc0 := 149) (pc' := 157) rfl (hb hby at_149) rfl ((if0 _ _).trans (feq (by decide : ¬ ((1 : Int32) = (0 : Int32)))).2) (by decide) (by decide) (XS.aconstNull X361.here hx rfl (hb hby at_157) (XS.astore X361.here hx rfl (hb hby at_158) rfl rfl (l' := #[.val (.int p1), .val (.int p2), .val (.int p3), .val (.int bi), .val (.int (0 : Int32)), .val (.int (1 : Int32)), .val (.int (1 : Int32)), .val (.ref b101), .val (.ref b120), .val (.ref b173), .val (.ref b230), .val (.ref b230), .val .null, .unset]) rfl kt)))))))))))) ?_
              show Go p.tables e below _ (T361.setTop (mkF m 160 #[.val (.int p1), .val (.int p2), .val (.int p3), .val (.int bi), .val (.int (0 : Int32)), .val (.int (1 : Int32)), .val (.int (1 : Int32)), .val (.ref b101), .val (.ref b120), .val (.ref b173), .val (.ref b230), .val (.ref b230), .val .null, .unset] []))
              rcases h_bi with hq | hq
              · rw [hq]
                show Go p.tables e below _ (T361.setTop (mkF m 160 #[.val (.int p1), .val (.int p2), .val (.int p3), .val (.int (0 : Int32)), .val (.int (0 : Int32)), .val (.int (1 : Int32)), .val (.int (1 : Int32)), .val (.ref b101), .val (.ref b120), .val (.ref b173), .val (.ref b230), .val (.ref b230), .val .null, .unset] []))
                refine Go.step (fun _ kt => XS.iloadN X361.here hx rfl (hb hby at_160) rfl (XS.ifYes X361.here hx rfl (pc0 := 161) (pc' := 178) rfl (hb hby at_161) rfl ((if0 _ _).trans (teq (by decide : (0 : Int32) = (0 : Int32))).1) (by decide) (by decide) (XS.iload X361.here hx rfl (hb hby at_178) rfl (XS.ifYes X361.here hx rfl (pc0 := 180) (pc' := 188) rfl (hb hby at_180) rfl ((if0 _ _).trans (teq (by decide : (0 : Int32) = (0 : Int32))).1) (by decide) (by decide) (XS.aconstNull X361.here hx rfl (hb hby at_188) (XS.astore X361.here hx rfl (hb hby at_189) rfl rfl (l' := #[.val (.int p1), .val (.int p2), .val (.int p3), .val (.int (0 : Int32)), .val (.int (0 : Int32)), .val (.int (1 : Int32)), .val (.int (1 : Int32)), .val (.ref b101), .val (.ref b120), .val (.ref b173), .val (.ref b230), .val (.ref b230), .val .null, .val .null]) rfl (XS.aload X361.here hx rfl (hb hby at_191) rfl rfl (XS.iloadN X361.here hx rfl (hb hby at_193) rfl (XS.aload X361.here hx rfl (hb hby at_194) rfl rfl kt))))))))) ?_
                show Go p.tables e below _ (T361.setTop (mkF m 196 #[.val (.int p1), .val (.int p2), .val (.int p3), .val (.int (0 : Int32)), .val (.int (0 : Int32)), .val (.int (1 : Int32)), .val (.int (1 : Int32)), .val (.ref b101), .val (.ref b120), .val (.ref b173), .val (.ref b230), .val (.ref b230), .val .null, .val .null] [(.ref b230), (.int (0 : Int32)), (.ref b101)]))
                obtain ⟨cq398, kq398, q398a, q398b, q398c⟩ := isOf hZ rfl P362
                obtain ⟨_, _, ⟨T398, L398, k398, n398⟩, -, X398, ⟨Lc398, hQ398, l398, y398, z398⟩, st398⟩ := X361.virtualBack hx (y := (⟨"com/example/ottawa/ottawa/TagPattern", "follow", "(ZLcom/example/ottawa/ottawa/Name;)V"⟩ : MethodName)) (z := (⟨"com/example/ottawa/ottawa/TagPattern", "follow", "(ZLcom/example/ottawa/ottawa/Name;)V"⟩ : MethodName)) hown (mvT hZ (hw _ (List.mem_of_getElem? (i := 153) rfl))) (mvT hZ (hw _ (List.mem_of_getElem? (i := 154) rfl))) (notFace_of_selects (args := #[]) (mvT hZ (hw _ (List.mem_of_getElem? (i := 156) rfl)))) (mvT hZ (hw _ (List.mem_of_getElem? (i := 156) rfl))) (mvT hZ (hw _ (List.mem_of_getElem? (i := 155) rfl))) (by decide) (backOf (W := 0) (rmf2 l Z a0 hw [] b101 b230 .null (.ref b120) T361.heap n0 Z369 P362 P363 P364 F368 g_b101 (Ne.symm ne_b101_b230)) hZ (hw _ (List.mem_of_getElem? (i := 157) rfl)) (hw _ (List.mem_of_getElem? (i := 3) rfl)) (by decide) (by decide)) q398a q398c (g := (mkF m 196 #[.val (.int p1), .val (.int p2), .val (.int p3), .val (.int (0 : Int32)), .val (.int (0 : Int32)), .val (.int (1 : Int32)), .val (.int (1 : Int32)), .val (.ref b101), .val (.ref b120), .val (.ref b173), .val (.ref b230), .val (.ref b230), .val .null, .val .null] [(.ref b230), (.int (0 : Int32)), (.ref b101)])) rfl (by rw [hml]; rfl) (Steps.refl _) (argsL := [(.int (0 : Int32)), (.ref b230)]) (rest := []) (lenOf pd_16 rfl) rfl (by show 2 * 0 + _ ≤ _; exact Nat.le_of_eq rfl) (hb hby at_196) (fun _ _ => ⟨rfl, rfl, (by decide : 30 + 0 ≤ _), (by decide : 225 + 0 ≤ _)⟩)
                dsimp only [Pt.U, Pt.locs, Pt.cells, Pt.slots] at X398 l398 y398 z398 st398 hQ398
                subst l398 y398 z398
                obtain ⟨rfl, N398q, Kq398, P399, P400, P401⟩ := hQ398
                have F402 : Exa Z T398.heap b101 "com/example/ottawa/ottawa/TagPattern" := (P362.keep Kq398)
                have F403 : Exa Z T398.heap b120 "com/example/ottawa/ottawa/KeptName" := (F366.keep Kq398)
                have F404 : Exa Z T398.heap b173 "com/example/ottawa/ottawa/KeptName" := (F367.keep Kq398)
                have F405 : Exa Z T398.heap b230 "com/example/ottawa/ottawa/Name" := (F368.keep Kq398)
                have Z406 : n0 ≤ T398.heap.size := (Nat.le_trans Z369 Kq398.1)
                have hk407 : _ ≤ T398.heap.size := (Nat.le_trans hk370 Kq398.1)
                have C408 := (C371.trans (CHr.keep Kq398 (by intro x hx; cases List.mem_singleton.mp hx; exact (Safe.exa hZ.alike P362 (by decide) (by decide))) C371.1))
                have N398 := Fr.app N361 N398q
                refine Go.step (fun _ kt => st398.trans kt) ?_
                show Go p.tables e below _ (T398.setTop (mkF m 199 #[.val (.int p1), .val (.int p2), .val (.int p3), .val (.int (0 : Int32)), .val (.int (0 : Int32)), .val (.int (1 : Int32)), .val (.int (1 : Int32)), .val (.ref b101), .val (.ref b120), .val (.ref b173), .val (.ref b230), .val (.ref b230), .val .null, .val .null] []))
                refine Go.step (fun _ kt => XS.aload X398.here hx rfl (hb hby at_199) rfl rfl (XS.iloadN X398.here hx rfl (hb hby at_201) rfl kt)) ?_
                show Go p.tables e below _ (T398.setTop (mkF m 202 #[.val (.int p1), .val (.int p2), .val (.int p3), .val (.int (0 : Int32)), .val (.int (0 : Int32)), .val (.int (1 : Int32)), .val (.int (1 : Int32)), .val (.ref b101), .val (.ref b120), .val (.ref b173), .val (.ref b230), .val (.ref b230), .val .null, .val .null] [(.int (0 : Int32)), (.ref b101)]))
                obtain ⟨cq409, kq409, q409a, q409b, q409c⟩ := isOf hZ rfl P399
                obtain ⟨_, _, ⟨T409, L409, k409, n409⟩, -, X409, ⟨Lc409, hQ409, l409, y409, z409⟩, st409⟩ := X398.virtualBack hx (y := (⟨"com/example/ottawa/ottawa/TagPattern", "following", "(Z)Lcom/example/ottawa/ottawa/KeptName;"⟩ : MethodName)) (z := (⟨"com/example/ottawa/ottawa/TagPattern", "following", "(Z)Lcom/example/ottawa/ottawa/KeptName;"⟩ : MethodName)) hown (mvT hZ (hw _ (List.mem_of_getElem? (i := 163) rfl))) (mvT hZ (hw _ (List.mem_of_getElem? (i := 164) rfl))) (notFace_of_selects (args := #[]) (mvT hZ (hw _ (List.mem_of_getElem? (i := 166) rfl)))) (mvT hZ (hw _ (List.mem_of_getElem? (i := 166) rfl))) (mvT hZ (hw _ (List.mem_of_getElem? (i := 165) rfl))) (by decide) (backOf (W := 0) (rmg3 l Z a0 hw [] b101  T398.heap n0 Z406 P401 ) hZ (hw _ (List.mem_of_getElem? (i := 167) rfl)) (hw _ (List.mem_of_getElem? (i := 3) rfl)) (by decide) (by decide)) q409a q409c (g := (mkF m 202 #[.val (.int p1), .val (.int p2), .val (.int p3), .val (.int (0 : Int32)), .val (.int (0 : Int32)), .val (.int (1 : Int32)), .val (.int (1 : Int32)), .val (.ref b101), .val (.ref b120), .val (.ref b173), .val (.ref b230), .val (.ref b230), .val .null, .val .null] [(.int (0 : Int32)), (.ref b101)])) rfl (by rw [hml]; rfl) (Steps.refl _) (argsL := [(.int (0 : Int32))]) (rest := []) (lenOf pd_17 rfl) rfl (by show 2 * 0 + _ ≤ _; exact Nat.le_of_eq rfl) (hb hby at_202) (fun _ _ => ⟨rfl, rfl, (by decide : 30 + 0 ≤ _), (by decide : 225 + 0 ≤ _)⟩)
                dsimp only [Pt.U, Pt.locs, Pt.cells, Pt.slots] at X409 l409 y409 z409 st409 hQ409
                subst l409 y409 z409
                obtain ⟨rfl, N409q, eh409⟩ := hQ409
                have N409 := Fr.app N398 N409q
                refine Go.step (fun _ kt => st409.trans kt) ?_
                show Go p.tables e below _ (T409.setTop (mkF m 205 #[.val (.int p1), .val (.int p2), .val (.int p3), .val (.int (0 : Int32)), .val (.int (0 : Int32)), .val (.int (1 : Int32)), .val (.int (1 : Int32)), .val (.ref b101), .val (.ref b120), .val (.ref b173), .val (.ref b230), .val (.ref b230), .val .null, .val .null] [.null]))
                refine Go.step (fun _ kt => XS.aload X409.here hx rfl (hb hby at_205) rfl rfl kt) ?_
                show Go p.tables e below _ (T409.setTop (mkF m 207 #[.val (.int p1), .val (.int p2), .val (.int p3), .val (.int (0 : Int32)), .val (.int (0 : Int32)), .val (.int (1 : Int32)), .val (.int (1 : Int32)), .val (.ref b101), .val (.ref b120), .val (.ref b173), .val (.ref b230), .val (.ref b230), .val .null, .val .null] [.null, .null]))
                refine Go.step (fun _ kt => Jvm.RoadKit.acmp (g := (mkF m 207 #[.val (.int p1), .val (.int p2), .val (.int p3), .val (.int (0 : Int32)), .val (.int (0 : Int32)), .val (.int (1 : Int32)), .val (.int (1 : Int32)), .val (.ref b101), .val (.ref b120), .val (.ref b173), .val (.ref b230), .val (.ref b230), .val .null, .val .null] [.null, .null])) X409 hx rfl rfl rfl (pc0 := 207) (pc' := 210) (same := true) rfl (hb hby at_207) rfl (decide_eq_true rfl) (by decide) (by decide) kt) ?_
                show Go p.tables e below _ (T409.setTop (mkF m 210 #[.val (.int p1), .val (.int p2), .val (.int p3), .val (.int (0 : Int32)), .val (.int (0 : Int32)), .val (.int (1 : Int32)), .val (.int (1 : Int32)), .val (.ref b101), .val (.ref b120), .val (.ref b173), .val (.ref b230), .val (.ref b230), .val .null, .val .null] []))
                refine Go.step (fun _ kt => XS.aload X409.here hx rfl (hb hby at_210) rfl rfl (XS.iloadN X409.here hx rfl (hb hby at_212) rfl (XS.ifNo X409.here hx rfl (hb hby at_213) rfl ((if0 _ _).trans (teq (by decide : (0 : Int32) = (0 : Int32))).2) (XS.iconst X409.here hx rfl (hb hby at_216) (XS.goto X409.here hx rfl (pc0 := 217) (pc' := 221) rfl (hb hby at_217) (by decide) (by decide) kt))))) ?_
                show Go p.tables e below _ (T409.setTop (mkF m 221 #[.val (.int p1), .val (.int p2), .val (.int p3), .val (.int (0 : Int32)), .val (.int (0 : Int32)), .val (.int (1 : Int32)), .val (.int (1 : Int32)), .val (.ref b101), .val (.ref b120), .val (.ref b173), .val (.ref b230), .val (.ref b230), .val .null, .val .null] [(.int (1 : Int32)), (.ref b101)]))
                obtain ⟨cq410, kq410, q410a, q410b, q410c⟩ := isOf hZ eh409 P399
                obtain ⟨_, _, ⟨T410, L410, k410, n410⟩, -, X410, ⟨Lc410, hQ410, l410, y410, z410⟩, st410⟩ := X409.virtualBack hx (y := (⟨"com/example/ottawa/ottawa/TagPattern", "following", "(Z)Lcom/example/ottawa/ottawa/KeptName;"⟩ : MethodName)) (z := (⟨"com/example/ottawa/ottawa/TagPattern", "following", "(Z)Lcom/example/ottawa/ottawa/KeptName;"⟩ : MethodName)) hown (mvT hZ (hw _ (List.mem_of_getElem? (i := 163) rfl))) (mvT hZ (hw _ (List.mem_of_getElem? (i := 164) rfl))) (notFace_of_selects (args := #[]) (mvT hZ (hw _ (List.mem_of_getElem? (i := 166) rfl)))) (mvT hZ (hw _ (List.mem_of_getElem? (i := 166) rfl))) (mvT hZ (hw _ (List.mem_of_getElem? (i := 165) rfl))) (by decide) (backOf (W := 0) (rmg1 l Z a0 hw [] b101  T398.heap n0 Z406 P400 ) hZ (hw _ (List.mem_of_getElem? (i := 167) rfl)) (hw _ (List.mem_of_getElem? (i := 3) rfl)) (by decide) (by decide)) q410a q410c (g := (mkF m 221 #[.val (.int p1), .val (.int p2), .val (.int p3), .val (.int (0 : Int32)), .val (.int (0 : Int32)), .val (.int (1 : Int32)), .val (.int (1 : Int32)), .val (.ref b101), .val (.ref b120), .val (.ref b173), .val (.ref b230), .val (.ref b230), .val .null, .val .null] [(.int (1 : Int32)), (.ref b101)])) rfl (by rw [hml]; rfl) (Steps.refl _) (argsL := [(.int (1 : Int32))]) (rest := []) (lenOf pd_17 rfl) rfl (by show 2 * 0 + _ ≤ _; exact Nat.le_of_eq rfl) (hb hby at_221) (fun _ _ => ⟨rfl, eh409, (by decide : 30 + 0 ≤ _), (by decide : 225 + 0 ≤ _)⟩)
                dsimp only [Pt.U, Pt.locs, Pt.cells, Pt.slots] at X410 l410 y410 z410 st410 hQ410
                subst l410 y410 z410
                obtain ⟨rfl, N410q, eh410⟩ := hQ410
                have N410 := Fr.app N409 N410q
                refine Go.step (fun _ kt => st410.trans kt) ?_
                show Go p.tables e below _ (T410.setTop (mkF m 224 #[.val (.int p1), .val (.int p2), .val (.int p3), .val (.int (0 : Int32)), .val (.int (0 : Int32)), .val (.int (1 : Int32)), .val (.int (1 : Int32)), .val (.ref b101), .val (.ref b120), .val (.ref b173), .val (.ref b230), .val (.ref b230), .val .null, .val .null] [.null]))
                refine Go.step (fun _ kt => XS.aload X410.here hx rfl (hb hby at_224) rfl rfl kt) ?_
                show Go p.tables e below _ (T410.setTop (mkF m 226 #[.val (.int p1), .val (.int p2), .val (.int p3), .val (.int (0 : Int32)), .val (.int (0 : Int32)), .val (.int (1 : Int32)), .val (.int (1 : Int32)), .val (.ref b101), .val (.ref b120), .val (.ref b173), .val (.ref b230), .val (.ref b230), .val .null, .val .null] [.null, .null]))
                refine Go.step (fun _ kt => Jvm.RoadKit.acmp (g := (mkF m 226 #[.val (.int p1), .val (.int p2), .val (.int p3), .val (.int (0 : Int32)), .val (.int (0 : Int32)), .val (.int (1 : Int32)), .val (.int (1 : Int32)), .val (.ref b101), .val (.ref b120), .val (.ref b173), .val (.ref b230), .val (.ref b230), .val .null, .val .null] [.null, .null])) X410 hx rfl rfl rfl (pc0 := 226) (pc' := 229) (same := true) rfl (hb hby at_226) rfl (decide_eq_true rfl) (by decide) (by decide) kt) ?_
                show Go p.tables e below _ (T410.setTop (mkF m 229 #[.val (.int p1), .val (.int p2), .val (.int p3), .val (.int (0 : Int32)), .val (.int (0 : Int32)), .val (.int (1 : Int32)), .val (.int (1 : Int32)), .val (.ref b101), .val (.ref b120), .val (.ref b173), .val (.ref b230), .val (.ref b230), .val .null, .val .null] []))
                refine Go.step (fun _ kt => XS.iconst X410.here hx rfl (hb hby at_229) (XS.goto X410.here hx rfl (pc0 := 230) (pc' := 234) rfl (hb hby at_230) (by decide) (by decide) kt)) ?_
                show Go p.tables e below _ (T410.setTop (mkF m 234 #[.val (.int p1), .val (.int p2), .val (.int p3), .val (.int (0 : Int32)), .val (.int (0 : Int32)), .val (.int (1 : Int32)), .val (.int (1 : Int32)), .val (.ref b101), .val (.ref b120), .val (.ref b173), .val (.ref b230), .val (.ref b230), .val .null, .val .null] [(.int (1 : Int32))]))
                obtain ⟨fs, hr, hrun, hended, hRW⟩ := X410.leaveW hS266 (by rw [eh410]; exact hk407) (v := some (.int (1 : Int32))) (fun h => by rw [Bd.returns] at h; cases h)
                refine ⟨_, _, retN X410 hx (t := .boolean) Bd.returns (by simp) (hb hby at_234) hr, hrun, hended, _, _, rfl, ?_, (by have q := C408.trans (CHv.at X410 hZ (own_EW hw) C408.1); rw [hh]; rw [← eh410] at q; exact q), hRW.1, hRW.2.1, hRW.2.2.1, hRW.2.2.2.mono (by decide) (by decide)⟩
                show Qrm0 Z p1 p2 p3 cs h0 n0 _ T410.heap _
                rw [eh410]
                exact ⟨rfl, N410⟩
              · rw [hq]
                show Go p.tables e below _ (T361.setTop (mkF m 160 #[.val (.int p1), .val (.int p2), .val (.int p3), .val (.int (1 : Int32)), .val (.int (0 : Int32)), .val (.int (1 : Int32)), .val (.int (1 : Int32)), .val (.ref b101), .val (.ref b120), .val (.ref b173), .val (.ref b230), .val (.ref b230), .val .null, .unset] []))
                refine Go.step (fun _ kt => XS.iloadN X361.here hx rfl (hb hby at_160) rfl (XS.ifNo X361.here hx rfl (hb hby at_161) rfl ((if0 _ _).trans (feq (by decide : ¬ ((1 : Int32) = (0 : Int32)))).1) (XS.iload X361.here hx rfl (hb hby at_164) rfl (XS.ifNo X361.here hx rfl (hb hby at_166) rfl ((if0 _ _).trans (feq (by decide : ¬ ((1 : Int32) = (0 : Int32)))).1) (XS.aload X361.here hx rfl (hb hby at_169) rfl rfl (XS.goto X361.here hx rfl (pc0 := 171) (pc' := 189) rfl (hb hby at_171) (by decide) (by decide) (XS.astore X361.here hx rfl (hb hby at_189) rfl rfl (l' := #[.val (.int p1), .val (.int p2), .val (.int p3), .val (.int (1 : Int32)), .val (.int (0 : Int32)), .val (.int (1 : Int32)), .val (.int (1 : Int32)), .val (.ref b101), .val (.ref b120), .val (.ref b173), .val (.ref b230), .val (.ref b230), .val .null, .val (.ref b120)]) rfl (XS.aload X361.here hx rfl (hb hby at_191) rfl rfl (XS.iloadN X361.here hx rfl (hb hby at_193) rfl (XS.aload X361.here hx rfl (hb hby at_194) rfl rfl kt)))))))))) ?_
                show Go p.tables e below _ (T361.setTop (mkF m 196 #[.val (.int p1), .val (.int p2), .val (.int p3), .val (.int (1 : Int32)), .val (.int (0 : Int32)), .val (.int (1 : Int32)), .val (.int (1 : Int32)), .val (.ref b101), .val (.ref b120), .val (.ref b173), .val (.ref b230), .val (.ref b230), .val .null, .val (.ref b120)] [(.ref b230), (.int (1 : Int32)), (.ref b101)]))
                obtain ⟨cq411, kq411, q411a, q411b, q411c⟩ := isOf hZ rfl P362
                obtain ⟨_, _, ⟨T411, L411, k411, n411⟩, -, X411, ⟨Lc411, hQ411, l411, y411, z411⟩, st411⟩ := X361.virtualBack hx (y := (⟨"com/example/ottawa/ottawa/TagPattern", "follow", "(ZLcom/example/ottawa/ottawa/Name;)V"⟩ : MethodName)) (z := (⟨"com/example/ottawa/ottawa/TagPattern", "follow", "(ZLcom/example/ottawa/ottawa/Name;)V"⟩ : MethodName)) hown (mvT hZ (hw _ (List.mem_of_getElem? (i := 153) rfl))) (mvT hZ (hw _ (List.mem_of_getElem? (i := 154) rfl))) (notFace_of_selects (args := #[]) (mvT hZ (hw _ (List.mem_of_getElem? (i := 156) rfl)))) (mvT hZ (hw _ (List.mem_of_getElem? (i := 156) rfl))) (mvT hZ (hw _ (List.mem_of_getElem? (i := 155) rfl))) (by decide) (backOf (W := 0) (rmf3 l Z a0 hw [] b101 b230 .null (.ref b120) T361.heap n0 Z369 P362 P363 P364 F368 g_b101 (Ne.symm ne_b101_b230)) hZ (hw _ (List.mem_of_getElem? (i := 157) rfl)) (hw _ (List.mem_of_getElem? (i := 3) rfl)) (by decide) (by decide)) q411a q411c (g := (mkF m 196 #[.val (.int p1), .val (.int p2), .val (.int p3), .val (.int (1 : Int32)), .val (.int (0 : Int32)), .val (.int (1 : Int32)), .val (.int (1 : Int32)), .val (.ref b101), .val (.ref b120), .val (.ref b173), .val (.ref b230), .val (.ref b230), .val .null, .val (.ref b120)] [(.ref b230), (.int (1 : Int32)), (.ref b101)])) rfl (by rw [hml]; rfl) (Steps.refl _) (argsL := [(.int (1 : Int32)), (.ref b230)]) (rest := []) (lenOf pd_16 rfl) rfl (by show 2 * 0 + _ ≤ _; exact Nat.le_of_eq rfl) (hb hby at_196) (fun _ _ => ⟨rfl, rfl, (by decide : 30 + 0 ≤ _), (by decide : 225 + 0 ≤ _)⟩)
                dsimp only [Pt.U, Pt.locs, Pt.cells, Pt.slots] at X411 l411 y411 z411 st411 hQ411
                subst l411 y411 z411
                obtain ⟨rfl, N411q, Kq411, P412, P413, P414⟩ := hQ411
                have F415 : Exa Z T411.heap b101 "com/example/ottawa/ottawa/TagPattern" := (P362.keep Kq411)
                have F416 : Exa Z T411.heap b120 "com/example/ottawa/ottawa/KeptName" := (F366.keep Kq411)
                have F417 : Exa Z T411.heap b173 "com/example/ottawa/ottawa/KeptName" := (F367.keep Kq411)
                have F418 : Exa Z T411.heap b230 "com/example/ottawa/ottawa/Name" := (F368.keep Kq411)
                have Z419 : n0 ≤ T411.heap.size := (Nat.le_trans Z369 Kq411.1)
                have hk420 : _ ≤ T411.heap.size := (Nat.le_trans hk370 Kq411.1)
                have C421 := (C371.trans (CHr.keep Kq411 (by intro x hx; cases List.mem_singleton.mp hx; exact (Safe.exa hZ.alike P362 (by decide) (by decide))) C371.1))
                have N411 := Fr.app N361 N411q
                refine Go.step (fun _ kt => st411.trans kt) ?_
                show Go p.tables e below _ (T411.setTop (mkF m 199 #[.val (.int p1), .val (.int p2), .val (.int p3), .val (.int (1 : Int32)), .val (.int (0 : Int32)), .val (.int (1 : Int32)), .val (.int (1 : Int32)), .val (.ref b101), .val (.ref b120), .val (.ref b173), .val (.ref b230), .val (.ref b230), .val .null, .val (.ref b120)] []))
                refine Go.step (fun _ kt => XS.aload X411.here hx rfl (hb hby at_199) rfl rfl (XS.iloadN X411.here hx rfl (hb hby at_201) rfl kt)) ?_
                show Go p.tables e below _ (T411.setTop (mkF m 202 #[.val (.int p1), .val (.int p2), .val (.int p3), .val (.int (1 : Int32)), .val (.int (0 : Int32)), .val (.int (1 : Int32)), .val (.int (1 : Int32)), .val (.ref b101), .val (.ref b120), .val (.ref b173), .val (.ref b230), .val (.ref b230), .val .null, .val (.ref b120)] [(.int (1 : Int32)), (.ref b101)]))
                obtain ⟨cq422, kq422, q422a, q422b, q422c⟩ := isOf hZ rfl P412
                obtain ⟨_, _, ⟨T422, L422, k422, n422⟩, -, X422, ⟨Lc422, hQ422, l422, y422, z422⟩, st422⟩ := X411.virtualBack hx (y := (⟨"com/example/ottawa/ottawa/TagPattern", "following", "(Z)Lcom/example/ottawa/ottawa/KeptName;"⟩ : MethodName)) (z := (⟨"com/example/ottawa/ottawa/TagPattern", "following", "(Z)Lcom/example/ottawa/ottawa/KeptName;"⟩ : MethodName)) hown (mvT hZ (hw _ (List.mem_of_getElem? (i := 163) rfl))) (mvT hZ (hw _ (List.mem_of_getElem? (i := 164) rfl))) (notFace_of_selects (args := #[]) (mvT hZ (hw _ (List.mem_of_getElem? (i := 166) rfl)))) (mvT hZ (hw _ (List.mem_of_getElem? (i := 166) rfl))) (mvT hZ (hw _ (List.mem_of_getElem? (i := 165) rfl))) (by decide) (backOf (W := 0) (rmg1 l Z a0 hw [] b101  T411.heap n0 Z419 P413 ) hZ (hw _ (List.mem_of_getElem? (i := 167) rfl)) (hw _ (List.mem_of_getElem? (i := 3) rfl)) (by decide) (by decide)) q422a q422c (g := (mkF m 202 #[.val (.int p1), .val (.int p2), .val (.int p3), .val (.int (1 : Int32)), .val (.int (0 : Int32)), .val (.int (1 : Int32)), .val (.int (1 : Int32)), .val (.ref b101), .val (.ref b120), .val (.ref b173), .val (.ref b230), .val (.ref b230), .val .null, .val (.ref b120)] [(.int (1 : Int32)), (.ref b101)])) rfl (by rw [hml]; rfl) (Steps.refl _) (argsL := [(.int (1 : Int32))]) (rest := []) (lenOf pd_17 rfl) rfl (by show 2 * 0 + _ ≤ _; exact Nat.le_of_eq rfl) (hb hby at_202) (fun _ _ => ⟨rfl, rfl, (by decide : 30 + 0 ≤ _), (by decide : 225 + 0 ≤ _)⟩)
                dsimp only [Pt.U, Pt.locs, Pt.cells, Pt.slots] at X422 l422 y422 z422 st422 hQ422
                subst l422 y422 z422
                obtain ⟨rfl, N422q, eh422⟩ := hQ422
                have N422 := Fr.app N411 N422q
                refine Go.step (fun _ kt => st422.trans kt) ?_
                show Go p.tables e below _ (T422.setTop (mkF m 205 #[.val (.int p1), .val (.int p2), .val (.int p3), .val (.int (1 : Int32)), .val (.int (0 : Int32)), .val (.int (1 : Int32)), .val (.int (1 : Int32)), .val (.ref b101), .val (.ref b120), .val (.ref b173), .val (.ref b230), .val (.ref b230), .val .null, .val (.ref b120)] [.null]))
                refine Go.step (fun _ kt => XS.aload X422.here hx rfl (hb hby at_205) rfl rfl kt) ?_
                show Go p.tables e below _ (T422.setTop (mkF m 207 #[.val (.int p1), .val (.int p2), .val (.int p3), .val (.int (1 : Int32)), .val (.int (0 : Int32)), .val (.int (1 : Int32)), .val (.int (1 : Int32)), .val (.ref b101), .val (.ref b120), .val (.ref b173), .val (.ref b230), .val (.ref b230), .val .null, .val (.ref b120)] [.null, .null]))
                refine Go.step (fun _ kt => Jvm.RoadKit.acmp (g := (mkF m 207 #[.val (.int p1), .val (.int p2), .val (.int p3), .val (.int (1 : Int32)), .val (.int (0 : Int32)), .val (.int (1 : Int32)), .val (.int (1 : Int32)), .val (.ref b101), .val (.ref b120), .val (.ref b173), .val (.ref b230), .val (.ref b230), .val .null, .val (.ref b120)] [.null, .null])) X422 hx rfl rfl rfl (pc0 := 207) (pc' := 210) (same := true) rfl (hb hby at_207) rfl (decide_eq_true rfl) (by decide) (by decide) kt) ?_
                show Go p.tables e below _ (T422.setTop (mkF m 210 #[.val (.int p1), .val (.int p2), .val (.int p3), .val (.int (1 : Int32)), .val (.int (0 : Int32)), .val (.int (1 : Int32)), .val (.int (1 : Int32)), .val (.ref b101), .val (.ref b120), .val (.ref b173), .val (.ref b230), .val (.ref b230), .val .null, .val (.ref b120)] []))
                refine Go.step (fun _ kt => XS.aload X422.here hx rfl (hb hby at_210) rfl rfl (XS.iloadN X422.here hx rfl (hb hby at_212) rfl (XS.ifYes X422.here hx rfl (pc0 := 213) (pc' := 220) rfl (hb hby at_213) rfl ((if0 _ _).trans (feq (by decide : ¬ ((1 : Int32) = (0 : Int32)))).2) (by decide) (by decide) (XS.iconst X422.here hx rfl (hb hby at_220) kt)))) ?_
                show Go p.tables e below _ (T422.setTop (mkF m 221 #[.val (.int p1), .val (.int p2), .val (.int p3), .val (.int (1 : Int32)), .val (.int (0 : Int32)), .val (.int (1 : Int32)), .val (.int (1 : Int32)), .val (.ref b101), .val (.ref b120), .val (.ref b173), .val (.ref b230), .val (.ref b230), .val .null, .val (.ref b120)] [(.int (0 : Int32)), (.ref b101)]))
                obtain ⟨cq423, kq423, q423a, q423b, q423c⟩ := isOf hZ eh422 P412
                obtain ⟨_, _, ⟨T423, L423, k423, n423⟩, -, X423, ⟨Lc423, hQ423, l423, y423, z423⟩, st423⟩ := X422.virtualBack hx (y := (⟨"com/example/ottawa/ottawa/TagPattern", "following", "(Z)Lcom/example/ottawa/ottawa/KeptName;"⟩ : MethodName)) (z := (⟨"com/example/ottawa/ottawa/TagPattern", "following", "(Z)Lcom/example/ottawa/ottawa/KeptName;"⟩ : MethodName)) hown (mvT hZ (hw _ (List.mem_of_getElem? (i := 163) rfl))) (mvT hZ (hw _ (List.mem_of_getElem? (i := 164) rfl))) (notFace_of_selects (args := #[]) (mvT hZ (hw _ (List.mem_of_getElem? (i := 166) rfl)))) (mvT hZ (hw _ (List.mem_of_getElem? (i := 166) rfl))) (mvT hZ (hw _ (List.mem_of_getElem? (i := 165) rfl))) (by decide) (backOf (W := 0) (rmg0 l Z a0 hw [] b101 b120 T411.heap n0 Z419 P414 ) hZ (hw _ (List.mem_of_getElem? (i := 167) rfl)) (hw _ (List.mem_of_getElem? (i := 3) rfl)) (by decide) (by decide)) q423a q423c (g := (mkF m 221 #[.val (.int p1), .val (.int p2), .val (.int p3), .val (.int (1 : Int32)), .val (.int (0 : Int32)), .val (.int (1 : Int32)), .val (.int (1 : Int32)), .val (.ref b101), .val (.ref b120), .val (.ref b173), .val (.ref b230), .val (.ref b230), .val .null, .val (.ref b120)] [(.int (0 : Int32)), (.ref b101)])) rfl (by rw [hml]; rfl) (Steps.refl _) (argsL := [(.int (0 : Int32))]) (rest := []) (lenOf pd_17 rfl) rfl (by show 2 * 0 + _ ≤ _; exact Nat.le_of_eq rfl) (hb hby at_221) (fun _ _ => ⟨rfl, eh422, (by decide : 30 + 0 ≤ _), (by decide : 225 + 0 ≤ _)⟩)
                dsimp only [Pt.U, Pt.locs, Pt.cells, Pt.slots] at X423 l423 y423 z423 st423 hQ423
                subst l423 y423 z423
                obtain ⟨rfl, N423q, eh423⟩ := hQ423
                have N423 := Fr.app N422 N423q
                refine Go.step (fun _ kt => st423.trans kt) ?_
                show Go p.tables e below _ (T423.setTop (mkF m 224 #[.val (.int p1), .val (.int p2), .val (.int p3), .val (.int (1 : Int32)), .val (.int (0 : Int32)), .val (.int (1 : Int32)), .val (.int (1 : Int32)), .val (.ref b101), .val (.ref b120), .val (.ref b173), .val (.ref b230), .val (.ref b230), .val .null, .val (.ref b120)] [(.ref b120)]))
                refine Go.step (fun _ kt => XS.aload X423.here hx rfl (hb hby at_224) rfl rfl kt) ?_
                show Go p.tables e below _ (T423.setTop (mkF m 226 #[.val (.int p1), .val (.int p2), .val (.int p3), .val (.int (1 : Int32)), .val (.int (0 : Int32)), .val (.int (1 : Int32)), .val (.int (1 : Int32)), .val (.ref b101), .val (.ref b120), .val (.ref b173), .val (.ref b230), .val (.ref b230), .val .null, .val (.ref b120)] [(.ref b120), (.ref b120)]))
                refine Go.step (fun _ kt => Jvm.RoadKit.acmp (g := (mkF m 226 #[.val (.int p1), .val (.int p2), .val (.int p3), .val (.int (1 : Int32)), .val (.int (0 : Int32)), .val (.int (1 : Int32)), .val (.int (1 : Int32)), .val (.ref b101), .val (.ref b120), .val (.ref b173), .val (.ref b230), .val (.ref b230), .val .null, .val (.ref b120)] [(.ref b120), (.ref b120)])) X423 hx rfl rfl rfl (pc0 := 226) (pc' := 229) (same := true) rfl (hb hby at_226) rfl (decide_eq_true rfl) (by decide) (by decide) kt) ?_
                show Go p.tables e below _ (T423.setTop (mkF m 229 #[.val (.int p1), .val (.int p2), .val (.int p3), .val (.int (1 : Int32)), .val (.int (0 : Int32)), .val (.int (1 : Int32)), .val (.int (1 : Int32)), .val (.ref b101), .val (.ref b120), .val (.ref b173), .val (.ref b230), .val (.ref b230), .val .null, .val (.ref b120)] []))
                refine Go.step (fun _ kt => XS.iconst X423.here hx rfl (hb hby at_229) (XS.goto X423.here hx rfl (pc0 := 230) (pc' := 234) rfl (hb hby at_230) (by decide) (by decide) kt)) ?_
                show Go p.tables e below _ (T423.setTop (mkF m 234 #[.val (.int p1), .val (.int p2), .val (.int p3), .val (.int (1 : Int32)), .val (.int (0 : Int32)), .val (.int (1 : Int32)), .val (.int (1 : Int32)), .val (.ref b101), .val (.ref b120), .val (.ref b173), .val (.ref b230), .val (.ref b230), .val .null, .val (.ref b120)] [(.int (1 : Int32))]))
                obtain ⟨fs, hr, hrun, hended, hRW⟩ := X423.leaveW hS266 (by rw [eh423]; exact hk420) (v := some (.int (1 : Int32))) (fun h => by rw [Bd.returns] at h; cases h)
                refine ⟨_, _, retN X423 hx (t := .boolean) Bd.returns (by simp) (hb hby at_234) hr, hrun, hended, _, _, rfl, ?_, (by have q := C421.trans (CHv.at X423 hZ (own_EW hw) C421.1); rw [hh]; rw [← eh423] at q; exact q), hRW.1, hRW.2.1, hRW.2.2.1, hRW.2.2.2.mono (by decide) (by decide)⟩
                show Qrm0 Z p1 p2 p3 cs h0 n0 _ T423.heap _
                rw [eh423]
                exact ⟨rfl, N423⟩
            · rw [hq]
              show Go p.tables e below _ (T361.setTop (mkF m 123 #[.val (.int p1), .val (.int p2), .val (.int p3), .val (.int bi), .val (.int (0 : Int32)), .val (.int (1 : Int32)), .val (.int (2 : Int32)), .val (.ref b101), .val (.ref b120), .val (.ref b173), .val (.ref b230), .unset, .unset, .unset] []))
              refine Go.step (fun _ kt => XS.iload X361.here hx rfl (hb hby at_123) rfl (XS.ifYes X361.here hx rfl (pc0 := 125) (pc' := 133) rfl (hb hby at_125) rfl ((if0 _ _).trans (feq (by decide : ¬ ((2 : Int32) = (0 : Int32)))).2) (by decide) (by decide) (XS.iload X361.here hx rfl (hb hby at_133) rfl (XS.iconst X361.here hx rfl (hb hby at_135) (XS.icmpYes X361.here hx rfl (pc0 := 136) (pc' := 144) rfl (hb hby at_136) rfl (feq (by decide : ¬ ((2 : Int32) = (1 : Int32)))).2 (by decide) (by decide) (XS.aconstNull X361.here hx rfl (hb hby at_144) (XS.astore X361.here hx rfl (hb hby at_145) rfl rfl (l' := #[.val (.int p1), .val (.int p2), .val (.int p3), .val (.int bi), .val (.int (0 : Int32)), .val (.int (1 : Int32)), .val (.int (2 : Int32)), .val (.ref b101), .val (.ref b120), .val (.ref b173), .val (.ref b230), .val .null, .unset, .unset]) rfl (XS.iload X361.here hx rfl (hb hby at_147) rfl (XS.ifYes X361.here hx rfl (pc0 := 149) (pc' := 157) rfl (hb hby at_149) rfl ((if0 _ _).trans (feq (by decide : ¬ ((2 : Int32) = (0 : Int32)))).2) (by decide) (by decide) (XS.aconstNull X361.here hx rfl (hb hby at_157) (XS.astore X361.here hx rfl (hb hby at_158) rfl rfl (l' := #[.val (.int p1), .val (.int p2), .val (.int p3), .val (.int bi), .val (.int (0 : Int32)), .val (.int (1 : Int32)), .val (.int (2 : Int32)), .val (.ref b101), .val (.ref b120), .val (.ref b173), .val (.ref b230), .val .null, .val .null, .unset]) rfl kt))))))))))) ?_
              show Go p.tables e below _ (T361.setTop (mkF m 160 #[.val (.int p1), .val (.int p2), .val (.int p3), .val (.int bi), .val (.int (0 : Int32)), .val (.int (1 : Int32)), .val (.int (2 : Int32)), .val (.ref b101), .val (.ref b120), .val (.ref b173), .val (.ref b230), .val .null, .val .null, .unset] []))
              rcases h_bi with hq | hq
              · rw [hq]
                show Go p.tables e below _ (T361.setTop (mkF m 160 #[.val (.int p1), .val (.int p2), .val (.int p3), .val (.int (0 : Int32)), .val (.int (0 : Int32)), .val (.int (1 : Int32)), .val (.int (2 : Int32)), .val (.ref b101), .val (.ref b120), .val (.ref b173), .val (.ref b230), .val .null, .val .null, .unset] []))
                refine Go.step (fun _ kt => XS.iloadN X361.here hx rfl (hb hby at_160) rfl (XS.ifYes X361.here hx rfl (pc0 := 161) (pc' := 178) rfl (hb hby at_161) rfl ((if0 _ _).trans (teq (by decide : (0 : Int32) = (0 : Int32))).1) (by decide) (by decide) (XS.iload X361.here hx rfl (hb hby at_178) rfl (XS.ifYes X361.here hx rfl (pc0 := 180) (pc' := 188) rfl (hb hby at_180) rfl ((if0 _ _).trans (teq (by decide : (0 : Int32) = (0 : Int32))).1) (by decide) (by decide) (XS.aconstNull X361.here hx rfl (hb hby at_188) (XS.astore X361.here hx rfl (hb hby at_189) rfl rfl (l' := #[.val (.int p1), .val (.int p2), .val (.int p3), .val (.int (0 : Int32)), .val (.int (0 : Int32)), .val (.int (1 : Int32)), .val (.int (2 : Int32)), .val (.ref b101), .val (.ref b120), .val (.ref b173), .val (.ref b230), .val .null, .val .null, .val .null]) rfl (XS.aload X361.here hx rfl (hb hby at_191) rfl rfl (XS.iloadN X361.here hx rfl (hb hby at_193) rfl (XS.aload X361.here hx rfl (hb hby at_194) rfl rfl kt))))))))) ?_
                show Go p.tables e below _ (T361.setTop (mkF m 196 #[.val (.int p1), .val (.int p2), .val (.int p3), .val (.int (0 : Int32)), .val (.int (0 : Int32)), .val (.int (1 : Int32)), .val (.int (2 : Int32)), .val (.ref b101), .val (.ref b120), .val (.ref b173), .val (.ref b230), .val .null, .val .null, .val .null] [.null, (.int (0 : Int32)), (.ref b101)]))
                obtain ⟨cq424, kq424, q424a, q424b, q424c⟩ := isOf hZ rfl P362
                obtain ⟨_, _, ⟨T424, L424, k424, n424⟩, -, X424, ⟨Lc424, hQ424, l424, y424, z424⟩, st424⟩ := X361.virtualBack hx (y := (⟨"com/example/ottawa/ottawa/TagPattern", "follow", "(ZLcom/example/ottawa/ottawa/Name;)V"⟩ : MethodName)) (z := (⟨"com/example/ottawa/ottawa/TagPattern", "follow", "(ZLcom/example/ottawa/ottawa/Name;)V"⟩ : MethodName)) hown (mvT hZ (hw _ (List.mem_of_getElem? (i := 153) rfl))) (mvT hZ (hw _ (List.mem_of_getElem? (i := 154) rfl))) (notFace_of_selects (args := #[]) (mvT hZ (hw _ (List.mem_of_getElem? (i := 156) rfl)))) (mvT hZ (hw _ (List.mem_of_getElem? (i := 156) rfl))) (mvT hZ (hw _ (List.mem_of_getElem? (i := 155) rfl))) (by decide) (backOf (W := 0) (rmf4 l Z a0 hw [] b101 .null (.ref b120) T361.heap n0 Z369 P362 P363 P364 g_b101) hZ (hw _ (List.mem_of_getElem? (i := 157) rfl)) (hw _ (List.mem_of_getElem? (i := 3) rfl)) (by decide) (by decide)) q424a q424c (g := (mkF m 196 #[.val (.int p1), .val (.int p2), .val (.int p3), .val (.int (0 : Int32)), .val (.int (0 : Int32)), .val (.int (1 : Int32)), .val (.int (2 : Int32)), .val (.ref b101), .val (.ref b120), .val (.ref b173), .val (.ref b230), .val .null, .val .null, .val .null] [.null, (.int (0 : Int32)), (.ref b101)])) rfl (by rw [hml]; rfl) (Steps.refl _) (argsL := [(.int (0 : Int32)), .null]) (rest := []) (lenOf pd_16 rfl) rfl (by show 2 * 0 + _ ≤ _; exact Nat.le_of_eq rfl) (hb hby at_196) (fun _ _ => ⟨rfl, rfl, (by decide : 30 + 0 ≤ _), (by decide : 225 + 0 ≤ _)⟩)
                dsimp only [Pt.U, Pt.locs, Pt.cells, Pt.slots] at X424 l424 y424 z424 st424 hQ424
                subst l424 y424 z424
                obtain ⟨rfl, N424q, Kq424, P425, P426, P427⟩ := hQ424
                have F428 : Exa Z T424.heap b101 "com/example/ottawa/ottawa/TagPattern" := (P362.keep Kq424)
                have F429 : Exa Z T424.heap b120 "com/example/ottawa/ottawa/KeptName" := (F366.keep Kq424)
                have F430 : Exa Z T424.heap b173 "com/example/ottawa/ottawa/KeptName" := (F367.keep Kq424)
                have F431 : Exa Z T424.heap b230 "com/example/ottawa/ottawa/Name" := (F368.keep Kq424)
                have Z432 : n0 ≤ T424.heap.size := (Nat.le_trans Z369 Kq424.1)
                have hk433 : _ ≤ T424.heap.size := (Nat.le_trans hk370 Kq424.1)
                have C434 := (C371.trans (CHr.keep Kq424 (by intro x hx; cases List.mem_singleton.mp hx; exact (Safe.exa hZ.alike P362 (by decide) (by decide))) C371.1))
                have N424 := Fr.app N361 N424q
                refine Go.step (fun _ kt => st424.trans kt) ?_
                show Go p.tables e below _ (T424.setTop (mkF m 199 #[.val (.int p1), .val (.int p2), .val (.int p3), .val (.int (0 : Int32)), .val (.int (0 : Int32)), .val (.int (1 : Int32)), .val (.int (2 : Int32)), .val (.ref b101), .val (.ref b120), .val (.ref b173), .val (.ref b230), .val .null, .val .null, .val .null] []))
                refine Go.step (fun _ kt => XS.aload X424.here hx rfl (hb hby at_199) rfl rfl (XS.iloadN X424.here hx rfl (hb hby at_201) rfl kt)) ?_
                show Go p.tables e below _ (T424.setTop (mkF m 202 #[.val (.int p1), .val (.int p2), .val (.int p3), .val (.int (0 : Int32)), .val (.int (0 : Int32)), .val (.int (1 : Int32)), .val (.int (2 : Int32)), .val (.ref b101), .val (.ref b120), .val (.ref b173), .val (.ref b230), .val .null, .val .null, .val .null] [(.int (0 : Int32)), (.ref b101)]))
                obtain ⟨cq435, kq435, q435a, q435b, q435c⟩ := isOf hZ rfl P425
                obtain ⟨_, _, ⟨T435, L435, k435, n435⟩, -, X435, ⟨Lc435, hQ435, l435, y435, z435⟩, st435⟩ := X424.virtualBack hx (y := (⟨"com/example/ottawa/ottawa/TagPattern", "following", "(Z)Lcom/example/ottawa/ottawa/KeptName;"⟩ : MethodName)) (z := (⟨"com/example/ottawa/ottawa/TagPattern", "following", "(Z)Lcom/example/ottawa/ottawa/KeptName;"⟩ : MethodName)) hown (mvT hZ (hw _ (List.mem_of_getElem? (i := 163) rfl))) (mvT hZ (hw _ (List.mem_of_getElem? (i := 164) rfl))) (notFace_of_selects (args := #[]) (mvT hZ (hw _ (List.mem_of_getElem? (i := 166) rfl)))) (mvT hZ (hw _ (List.mem_of_getElem? (i := 166) rfl))) (mvT hZ (hw _ (List.mem_of_getElem? (i := 165) rfl))) (by decide) (backOf (W := 0) (rmg3 l Z a0 hw [] b101  T424.heap n0 Z432 P427 ) hZ (hw _ (List.mem_of_getElem? (i := 167) rfl)) (hw _ (List.mem_of_getElem? (i := 3) rfl)) (by decide) (by decide)) q435a q435c (g := (mkF m 202 #[.val (.int p1), .val (.int p2), .val (.int p3), .val (.int (0 : Int32)), .val (.int (0 : Int32)), .val (.int (1 : Int32)), .val (.int (2 : Int32)), .val (.ref b101), .val (.ref b120), .val (.ref b173), .val (.ref b230), .val .null, .val .null, .val .null] [(.int (0 : Int32)), (.ref b101)])) rfl (by rw [hml]; rfl) (Steps.refl _) (argsL := [(.int (0 : Int32))]) (rest := []) (lenOf pd_17 rfl) rfl (by show 2 * 0 + _ ≤ _; exact Nat.le_of_eq rfl) (hb hby at_202) (fun _ _ => ⟨rfl, rfl, (by decide : 30 + 0 ≤ _), (by decide : 225 + 0 ≤ _)⟩)
                dsimp only [Pt.U, Pt.locs, Pt.cells, Pt.slots] at X435 l435 y435 z435 st435 hQ435
                subst l435 y435 z435
                obtain ⟨rfl, N435q, eh435⟩ := hQ435
                have N435 := Fr.app N424 N435q
                refine Go.step (fun _ kt => st435.trans kt) ?_
                show Go p.tables e below _ (T435.setTop (mkF m 205 #[.val (.int p1), .val (.int p2), .val (.int p3), .val (.int (0 : Int32)), .val (.int (0 : Int32)), .val (.int (1 : Int32)), .val (.int (2 : Int32)), .val (.ref b101), .val (.ref b120), .val (.ref b173), .val (.ref b230), .val .null, .val .null, .val .null] [.null]))
                refine Go.step (fun _ kt => XS.aload X435.here hx rfl (hb hby at_205) rfl rfl kt) ?_
                show Go p.tables e below _ (T435.setTop (mkF m 207 #[.val (.int p1), .val (.int p2), .val (.int p3), .val (.int (0 : Int32)), .val (.int (0 : Int32)), .val (.int (1 : Int32)), .val (.int (2 : Int32)), .val (.ref b101), .val (.ref b120), .val (.ref b173), .val (.ref b230), .val .null, .val .null, .val .null] [.null, .null]))
                refine Go.step (fun _ kt => Jvm.RoadKit.acmp (g := (mkF m 207 #[.val (.int p1), .val (.int p2), .val (.int p3), .val (.int (0 : Int32)), .val (.int (0 : Int32)), .val (.int (1 : Int32)), .val (.int (2 : Int32)), .val (.ref b101), .val (.ref b120), .val (.ref b173), .val (.ref b230), .val .null, .val .null, .val .null] [.null, .null])) X435 hx rfl rfl rfl (pc0 := 207) (pc' := 210) (same := true) rfl (hb hby at_207) rfl (decide_eq_true rfl) (by decide) (by decide) kt) ?_
                show Go p.tables e below _ (T435.setTop (mkF m 210 #[.val (.int p1), .val (.int p2), .val (.int p3), .val (.int (0 : Int32)), .val (.int (0 : Int32)), .val (.int (1 : Int32)), .val (.int (2 : Int32)), .val (.ref b101), .val (.ref b120), .val (.ref b173), .val (.ref b230), .val .null, .val .null, .val .null] []))
                refine Go.step (fun _ kt => XS.aload X435.here hx rfl (hb hby at_210) rfl rfl (XS.iloadN X435.here hx rfl (hb hby at_212) rfl (XS.ifNo X435.here hx rfl (hb hby at_213) rfl ((if0 _ _).trans (teq (by decide : (0 : Int32) = (0 : Int32))).2) (XS.iconst X435.here hx rfl (hb hby at_216) (XS.goto X435.here hx rfl (pc0 := 217) (pc' := 221) rfl (hb hby at_217) (by decide) (by decide) kt))))) ?_
                show Go p.tables e below _ (T435.setTop (mkF m 221 #[.val (.int p1), .val (.int p2), .val (.int p3), .val (.int (0 : Int32)), .val (.int (0 : Int32)), .val (.int (1 : Int32)), .val (.int (2 : Int32)), .val (.ref b101), .val (.ref b120), .val (.ref b173), .val (.ref b230), .val .null, .val .null, .val .null] [(.int (1 : Int32)), (.ref b101)]))
                obtain ⟨cq436, kq436, q436a, q436b, q436c⟩ := isOf hZ eh435 P425
                obtain ⟨_, _, ⟨T436, L436, k436, n436⟩, -, X436, ⟨Lc436, hQ436, l436, y436, z436⟩, st436⟩ := X435.virtualBack hx (y := (⟨"com/example/ottawa/ottawa/TagPattern", "following", "(Z)Lcom/example/ottawa/ottawa/KeptName;"⟩ : MethodName)) (z := (⟨"com/example/ottawa/ottawa/TagPattern", "following", "(Z)Lcom/example/ottawa/ottawa/KeptName;"⟩ : MethodName)) hown (mvT hZ (hw _ (List.mem_of_getElem? (i := 163) rfl))) (mvT hZ (hw _ (List.mem_of_getElem? (i := 164) rfl))) (notFace_of_selects (args := #[]) (mvT hZ (hw _ (List.mem_of_getElem? (i := 166) rfl)))) (mvT hZ (hw _ (List.mem_of_getElem? (i := 166) rfl))) (mvT hZ (hw _ (List.mem_of_getElem? (i := 165) rfl))) (by decide) (backOf (W := 0) (rmg1 l Z a0 hw [] b101  T424.heap n0 Z432 P426 ) hZ (hw _ (List.mem_of_getElem? (i := 167) rfl)) (hw _ (List.mem_of_getElem? (i := 3) rfl)) (by decide) (by decide)) q436a q436c (g := (mkF m 221 #[.val (.int p1), .val (.int p2), .val (.int p3), .val (.int (0 : Int32)), .val (.int (0 : Int32)), .val (.int (1 : Int32)), .val (.int (2 : Int32)), .val (.ref b101), .val (.ref b120), .val (.ref b173), .val (.ref b230), .val .null, .val .null, .val .null] [(.int (1 : Int32)), (.ref b101)])) rfl (by rw [hml]; rfl) (Steps.refl _) (argsL := [(.int (1 : Int32))]) (rest := []) (lenOf pd_17 rfl) rfl (by show 2 * 0 + _ ≤ _; exact Nat.le_of_eq rfl) (hb hby at_221) (fun _ _ => ⟨rfl, eh435, (by decide : 30 + 0 ≤ _), (by decide : 225 + 0 ≤ _)⟩)
                dsimp only [Pt.U, Pt.locs, Pt.cells, Pt.slots] at X436 l436 y436 z436 st436 hQ436
                subst l436 y436 z436
                obtain ⟨rfl, N436q, eh436⟩ := hQ436
                have N436 := Fr.app N435 N436q
                refine Go.step (fun _ kt => st436.trans kt) ?_
                show Go p.tables e below _ (T436.setTop (mkF m 224 #[.val (.int p1), .val (.int p2), .val (.int p3), .val (.int (0 : Int32)), .val (.int (0 : Int32)), .val (.int (1 : Int32)), .val (.int (2 : Int32)), .val (.ref b101), .val (.ref b120), .val (.ref b173), .val (.ref b230), .val .null, .val .null, .val .null] [.null]))
                refine Go.step (fun _ kt => XS.aload X436.here hx rfl (hb hby at_224) rfl rfl kt) ?_
                show Go p.tables e below _ (T436.setTop (mkF m 226 #[.val (.int p1), .val (.int p2), .val (.int p3), .val (.int (0 : Int32)), .val (.int (0 : Int32)), .val (.int (1 : Int32)), .val (.int (2 : Int32)), .val (.ref b101), .val (.ref b120), .val (.ref b173), .val (.ref b230), .val .null, .val .null, .val .null] [.null, .null]))
                refine Go.step (fun _ kt => Jvm.RoadKit.acmp (g := (mkF m 226 #[.val (.int p1), .val (.int p2), .val (.int p3), .val (.int (0 : Int32)), .val (.int (0 : Int32)), .val (.int (1 : Int32)), .val (.int (2 : Int32)), .val (.ref b101), .val (.ref b120), .val (.ref b173), .val (.ref b230), .val .null, .val .null, .val .null] [.null, .null])) X436 hx rfl rfl rfl (pc0 := 226) (pc' := 229) (same := true) rfl (hb hby at_226) rfl (decide_eq_true rfl) (by decide) (by decide) kt) ?_
                show Go p.tables e below _ (T436.setTop (mkF m 229 #[.val (.int p1), .val (.int p2), .val (.int p3), .val (.int (0 : Int32)), .val (.int (0 : Int32)), .val (.int (1 : Int32)), .val (.int (2 : Int32)), .val (.ref b101), .val (.ref b120), .val (.ref b173), .val (.ref b230), .val .null, .val .null, .val .null] []))
                refine Go.step (fun _ kt => XS.iconst X436.here hx rfl (hb hby at_229) (XS.goto X436.here hx rfl (pc0 := 230) (pc' := 234) rfl (hb hby at_230) (by decide) (by decide) kt)) ?_
                show Go p.tables e below _ (T436.setTop (mkF m 234 #[.val (.int p1), .val (.int p2), .val (.int p3), .val (.int (0 : Int32)), .val (.int (0 : Int32)), .val (.int (1 : Int32)), .val (.int (2 : Int32)), .val (.ref b101), .val (.ref b120), .val (.ref b173), .val (.ref b230), .val .null, .val .null, .val .null] [(.int (1 : Int32))]))
                obtain ⟨fs, hr, hrun, hended, hRW⟩ := X436.leaveW hS266 (by rw [eh436]; exact hk433) (v := some (.int (1 : Int32))) (fun h => by rw [Bd.returns] at h; cases h)
                refine ⟨_, _, retN X436 hx (t := .boolean) Bd.returns (by simp) (hb hby at_234) hr, hrun, hended, _, _, rfl, ?_, (by have q := C434.trans (CHv.at X436 hZ (own_EW hw) C434.1); rw [hh]; rw [← eh436] at q; exact q), hRW.1, hRW.2.1, hRW.2.2.1, hRW.2.2.2.mono (by decide) (by decide)⟩
                show Qrm0 Z p1 p2 p3 cs h0 n0 _ T436.heap _
                rw [eh436]
                exact ⟨rfl, N436⟩
              · rw [hq]
                show Go p.tables e below _ (T361.setTop (mkF m 160 #[.val (.int p1), .val (.int p2), .val (.int p3), .val (.int (1 : Int32)), .val (.int (0 : Int32)), .val (.int (1 : Int32)), .val (.int (2 : Int32)), .val (.ref b101), .val (.ref b120), .val (.ref b173), .val (.ref b230), .val .null, .val .null, .unset] []))
                refine Go.step (fun _ kt => XS.iloadN X361.here hx rfl (hb hby at_160) rfl (XS.ifNo X361.here hx rfl (hb hby at_161) rfl ((if0 _ _).trans (feq (by decide : ¬ ((1 : Int32) = (0 : Int32)))).1) (XS.iload X361.here hx rfl (hb hby at_164) rfl (XS.ifNo X361.here hx rfl (hb hby at_166) rfl ((if0 _ _).trans (feq (by decide : ¬ ((1 : Int32) = (0 : Int32)))).1) (XS.aload X361.here hx rfl (hb hby at_169) rfl rfl (XS.goto X361.here hx rfl (pc0 := 171) (pc' := 189) rfl (hb hby at_171) (by decide) (by decide) (XS.astore X361.here hx rfl (hb hby at_189) rfl rfl (l' := #[.val (.int p1), .val (.int p2), .val (.int p3), .val (.int (1 : Int32)), .val (.int (0 : Int32)), .val (.int (1 : Int32)), .val (.int (2 : Int32)), .val (.ref b101), .val (.ref b120), .val (.ref b173), .val (.ref b230), .val .null, .val .null, .val (.ref b120)]) rfl (XS.aload X361.here hx rfl (hb hby at_191) rfl rfl (XS.iloadN X361.here hx rfl (hb hby at_193) rfl (XS.aload X361.here hx rfl (hb hby at_194) rfl rfl kt)))))))))) ?_
                show Go p.tables e below _ (T361.setTop (mkF m 196 #[.val (.int p1), .val (.int p2), .val (.int p3), .val (.int (1 : Int32)), .val (.int (0 : Int32)), .val (.int (1 : Int32)), .val (.int (2 : Int32)), .val (.ref b101), .val (.ref b120), .val (.ref b173), .val (.ref b230), .val .null, .val .null, .val (.ref b120)] [.null, (.int (1 : Int32)), (.ref b101)]))
                obtain ⟨cq437, kq437, q437a, q437b, q437c⟩ := isOf hZ rfl P362
                obtain ⟨_, _, ⟨T437, L437, k437, n437⟩, -, X437, ⟨Lc437, hQ437, l437, y437, z437⟩, st437⟩ := X361.virtualBack hx (y := (⟨"com/example/ottawa/ottawa/TagPattern", "follow", "(ZLcom/example/ottawa/ottawa/Name;)V"⟩ : MethodName)) (z := (⟨"com/example/ottawa/ottawa/TagPattern", "follow", "(ZLcom/example/ottawa/ottawa/Name;)V"⟩ : MethodName)) hown (mvT hZ (hw _ (List.mem_of_getElem? (i := 153) rfl))) (mvT hZ (hw _ (List.mem_of_getElem? (i := 154) rfl))) (notFace_of_selects (args := #[]) (mvT hZ (hw _ (List.mem_of_getElem? (i := 156) rfl)))) (mvT hZ (hw _ (List.mem_of_getElem? (i := 156) rfl))) (mvT hZ (hw _ (List.mem_of_getElem? (i := 155) rfl))) (by decide) (backOf (W := 0) (rmf5 l Z a0 hw [] b101 .null (.ref b120) T361.heap n0 Z369 P362 P363 P364 g_b101) hZ (hw _ (List.mem_of_getElem? (i := 157) rfl)) (hw _ (List.mem_of_getElem? (i := 3) rfl)) (by decide) (by decide)) q437a q437c (g := (mkF m 196 #[.val (.int p1), .val (.int p2), .val (.int p3), .val (.int (1 : Int32)), .val (.int (0 : Int32)), .val (.int (1 : Int32)), .val (.int (2 : Int32)), .val (.ref b101), .val (.ref b120), .val (.ref b173), .val (.ref b230), .val .null, .val .null, .val (.ref b120)] [.null, (.int (1 : Int32)), (.ref b101)])) rfl (by rw [hml]; rfl) (Steps.refl _) (argsL := [(.int (1 : Int32)), .null]) (rest := []) (lenOf pd_16 rfl) rfl (by show 2 * 0 + _ ≤ _; exact Nat.le_of_eq rfl) (hb hby at_196) (fun _ _ => ⟨rfl, rfl, (by decide : 30 + 0 ≤ _), (by decide : 225 + 0 ≤ _)⟩)
                dsimp only [Pt.U, Pt.locs, Pt.cells, Pt.slots] at X437 l437 y437 z437 st437 hQ437
                subst l437 y437 z437
                obtain ⟨rfl, N437q, Kq437, P438, P439, P440⟩ := hQ437
                have F441 : Exa Z T437.heap b101 "com/example/ottawa/ottawa/TagPattern" := (P362.keep Kq437)
                have F442 : Exa Z T437.heap b120 "com/example/ottawa/ottawa/KeptName" := (F366.keep Kq437)
                have F443 : Exa Z T437.heap b173 "com/example/ottawa/ottawa/KeptName" := (F367.keep Kq437)
                have F444 : Exa Z T437.heap b230 "com/example/ottawa/ottawa/Name" := (F368.keep Kq437)
                have Z445 : n0 ≤ T437.heap.size := (Nat.le_trans Z369 Kq437.1)
                have hk446 : _ ≤ T437.heap.size := (Nat.le_trans hk370 Kq437.1)
                have C447 := (C371.trans (CHr.keep Kq437 (by intro x hx; cases List.mem_singleton.mp hx; exact (Safe.exa hZ.alike P362 (by decide) (by decide))) C371.1))
                have N437 := Fr.app N361 N437q
                refine Go.step (fun _ kt => st437.trans kt) ?_
                show Go p.tables e below _ (T437.setTop (mkF m 199 #[.val (.int p1), .val (.int p2), .val (.int p3), .val (.int (1 : Int32)), .val (.int (0 : Int32)), .val (.int (1 : Int32)), .val (.int (2 : Int32)), .val (.ref b101), .val (.ref b120), .val (.ref b173), .val (.ref b230), .val .null, .val .null, .val (.ref b120)] []))
                refine Go.step (fun _ kt => XS.aload X437.here hx rfl (hb hby at_199) rfl rfl (XS.iloadN X437.here hx rfl (hb hby at_201) rfl kt)) ?_
                show Go p.tables e below _ (T437.setTop (mkF m 202 #[.val (.int p1), .val (.int p2), .val (.int p3), .val (.int (1 : Int32)), .val (.int (0 : Int32)), .val (.int (1 : Int32)), .val (.int (2 : Int32)), .val (.ref b101), .val (.ref b120), .val (.ref b173), .val (.ref b230), .val .null, .val .null, .val (.ref b120)] [(.int (1 : Int32)), (.ref b101)]))
                obtain ⟨cq448, kq448, q448a, q448b, q448c⟩ := isOf hZ rfl P438
                obtain ⟨_, _, ⟨T448, L448, k448, n448⟩, -, X448, ⟨Lc448, hQ448, l448, y448, z448⟩, st448⟩ := X437.virtualBack hx (y := (⟨"com/example/ottawa/ottawa/TagPattern", "following", "(Z)Lcom/example/ottawa/ottawa/KeptName;"⟩ : MethodName)) (z := (⟨"com/example/ottawa/ottawa/TagPattern", "following", "(Z)Lcom/example/ottawa/ottawa/KeptName;"⟩ : MethodName)) hown (mvT hZ (hw _ (List.mem_of_getElem? (i := 163) rfl))) (mvT hZ (hw _ (List.mem_of_getElem? (i := 164) rfl))) (notFace_of_selects (args := #[]) (mvT hZ (hw _ (List.mem_of_getElem? (i := 166) rfl)))) (mvT hZ (hw _ (List.mem_of_getElem? (i := 166) rfl))) (mvT hZ (hw _ (List.mem_of_getElem? (i := 165) rfl))) (by decide) (backOf (W := 0) (rmg1 l Z a0 hw [] b101  T437.heap n0 Z445 P439 ) hZ (hw _ (List.mem_of_getElem? (i := 167) rfl)) (hw _ (List.mem_of_getElem? (i := 3) rfl)) (by decide) (by decide)) q448a q448c (g := (mkF m 202 #[.val (.int p1), .val (.int p2), .val (.int p3), .val (.int (1 : Int32)), .val (.int (0 : Int32)), .val (.int (1 : Int32)), .val (.int (2 : Int32)), .val (.ref b101), .val (.ref b120), .val (.ref b173), .val (.ref b230), .val .null, .val .null, .val (.ref b120)] [(.int (1 : Int32)), (.ref b101)])) rfl (by rw [hml]; rfl) (Steps.refl _) (argsL := [(.int (1 : Int32))]) (rest := []) (lenOf pd_17 rfl) rfl (by show 2 * 0 + _ ≤ _; exact Nat.le_of_eq rfl) (hb hby at_202) (fun _ _ => ⟨rfl, rfl, (by decide : 30 + 0 ≤ _), (by decide : 225 + 0 ≤ _)⟩)
                dsimp only [Pt.U, Pt.locs, Pt.cells, Pt.slots] at X448 l448 y448 z448 st448 hQ448
                subst l448 y448 z448
                obtain ⟨rfl, N448q, eh448⟩ := hQ448
                have N448 := Fr.app N437 N448q
                refine Go.step (fun _ kt => st448.trans kt) ?_
                show Go p.tables e below _ (T448.setTop (mkF m 205 #[.val (.int p1), .val (.int p2), .val (.int p3), .val (.int (1 : Int32)), .val (.int (0 : Int32)), .val (.int (1 : Int32)), .val (.int (2 : Int32)), .val (.ref b101), .val (.ref b120), .val (.ref b173), .val (.ref b230), .val .null, .val .null, .val (.ref b120)] [.null]))
                refine Go.step (fun _ kt => XS.aload X448.here hx rfl (hb hby at_205) rfl rfl kt) ?_
                show Go p.tables e below _ (T448.setTop (mkF m 207 #[.val (.int p1), .val (.int p2), .val (.int p3), .val (.int (1 : Int32)), .val (.int (0 : Int32)), .val (.int (1 : Int32)), .val (.int (2 : Int32)), .val (.ref b101), .val (.ref b120), .val (.ref b173), .val (.ref b230), .val .null, .val .null, .val (.ref b120)] [.null, .null]))
                refine Go.step (fun _ kt => Jvm.RoadKit.acmp (g := (mkF m 207 #[.val (.int p1), .val (.int p2), .val (.int p3), .val (.int (1 : Int32)), .val (.int (0 : Int32)), .val (.int (1 : Int32)), .val (.int (2 : Int32)), .val (.ref b101), .val (.ref b120), .val (.ref b173), .val (.ref b230), .val .null, .val .null, .val (.ref b120)] [.null, .null])) X448 hx rfl rfl rfl (pc0 := 207) (pc' := 210) (same := true) rfl (hb hby at_207) rfl (decide_eq_true rfl) (by decide) (by decide) kt) ?_
                show Go p.tables e below _ (T448.setTop (mkF m 210 #[.val (.int p1), .val (.int p2), .val (.int p3), .val (.int (1 : Int32)), .val (.int (0 : Int32)), .val (.int (1 : Int32)), .val (.int (2 : Int32)), .val (.ref b101), .val (.ref b120), .val (.ref b173), .val (.ref b230), .val .null, .val .null, .val (.ref b120)] []))
                refine Go.step (fun _ kt => XS.aload X448.here hx rfl (hb hby at_210) rfl rfl (XS.iloadN X448.here hx rfl (hb hby at_212) rfl (XS.ifYes X448.here hx rfl (pc0 := 213) (pc' := 220) rfl (hb hby at_213) rfl ((if0 _ _).trans (feq (by decide : ¬ ((1 : Int32) = (0 : Int32)))).2) (by decide) (by decide) (XS.iconst X448.here hx rfl (hb hby at_220) kt)))) ?_
                show Go p.tables e below _ (T448.setTop (mkF m 221 #[.val (.int p1), .val (.int p2), .val (.int p3), .val (.int (1 : Int32)), .val (.int (0 : Int32)), .val (.int (1 : Int32)), .val (.int (2 : Int32)), .val (.ref b101), .val (.ref b120), .val (.ref b173), .val (.ref b230), .val .null, .val .null, .val (.ref b120)] [(.int (0 : Int32)), (.ref b101)]))
                obtain ⟨cq449, kq449, q449a, q449b, q449c⟩ := isOf hZ eh448 P438
                obtain ⟨_, _, ⟨T449, L449, k449, n449⟩, -, X449, ⟨Lc449, hQ449, l449, y449, z449⟩, st449⟩ := X448.virtualBack hx (y := (⟨"com/example/ottawa/ottawa/TagPattern", "following", "(Z)Lcom/example/ottawa/ottawa/KeptName;"⟩ : MethodName)) (z := (⟨"com/example/ottawa/ottawa/TagPattern", "following", "(Z)Lcom/example/ottawa/ottawa/KeptName;"⟩ : MethodName)) hown (mvT hZ (hw _ (List.mem_of_getElem? (i := 163) rfl))) (mvT hZ (hw _ (List.mem_of_getElem? (i := 164) rfl))) (notFace_of_selects (args := #[]) (mvT hZ (hw _ (List.mem_of_getElem? (i := 166) rfl)))) (mvT hZ (hw _ (List.mem_of_getElem? (i := 166) rfl))) (mvT hZ (hw _ (List.mem_of_getElem? (i := 165) rfl))) (by decide) (backOf (W := 0) (rmg0 l Z a0 hw [] b101 b120 T437.heap n0 Z445 P440 ) hZ (hw _ (List.mem_of_getElem? (i := 167) rfl)) (hw _ (List.mem_of_getElem? (i := 3) rfl)) (by decide) (by decide)) q449a q449c (g := (mkF m 221 #[.val (.int p1), .val (.int p2), .val (.int p3), .val (.int (1 : Int32)), .val (.int (0 : Int32)), .val (.int (1 : Int32)), .val (.int (2 : Int32)), .val (.ref b101), .val (.ref b120), .val (.ref b173), .val (.ref b230), .val .null, .val .null, .val (.ref b120)] [(.int (0 : Int32)), (.ref b101)])) rfl (by rw [hml]; rfl) (Steps.refl _) (argsL := [(.int (0 : Int32))]) (rest := []) (lenOf pd_17 rfl) rfl (by show 2 * 0 + _ ≤ _; exact Nat.le_of_eq rfl) (hb hby at_221) (fun _ _ => ⟨rfl, eh448, (by decide : 30 + 0 ≤ _), (by decide : 225 + 0 ≤ _)⟩)
                dsimp only [Pt.U, Pt.locs, Pt.cells, Pt.slots] at X449 l449 y449 z449 st449 hQ449
                subst l449 y449 z449
                obtain ⟨rfl, N449q, eh449⟩ := hQ449
                have N449 := Fr.app N448 N449q
                refine Go.step (fun _ kt => st449.trans kt) ?_
                show Go p.tables e below _ (T449.setTop (mkF m 224 #[.val (.int p1), .val (.int p2), .val (.int p3), .val (.int (1 : Int32)), .val (.int (0 : Int32)), .val (.int (1 : Int32)), .val (.int (2 : Int32)), .val (.ref b101), .val (.ref b120), .val (.ref b173), .val (.ref b230), .val .null, .val .null, .val (.ref b120)] [(.ref b120)]))
                refine Go.step (fun _ kt => XS.aload X449.here hx rfl (hb hby at_224) rfl rfl kt) ?_
                show Go p.tables e below _ (T449.setTop (mkF m 226 #[.val (.int p1), .val (.int p2), .val (.int p3), .val (.int (1 : Int32)), .val (.int (0 : Int32)), .val (.int (1 : Int32)), .val (.int (2 : Int32)), .val (.ref b101), .val (.ref b120), .val (.ref b173), .val (.ref b230), .val .null, .val .null, .val (.ref b120)] [(.ref b120), (.ref b120)]))
                refine Go.step (fun _ kt => Jvm.RoadKit.acmp (g := (mkF m 226 #[.val (.int p1), .val (.int p2), .val (.int p3), .val (.int (1 : Int32)), .val (.int (0 : Int32)), .val (.int (1 : Int32)), .val (.int (2 : Int32)), .val (.ref b101), .val (.ref b120), .val (.ref b173), .val (.ref b230), .val .null, .val .null, .val (.ref b120)] [(.ref b120), (.ref b120)])) X449 hx rfl rfl rfl (pc0 := 226) (pc' := 229) (same := true) rfl (hb hby at_226) rfl (decide_eq_true rfl) (by decide) (by decide) kt) ?_
                show Go p.tables e below _ (T449.setTop (mkF m 229 #[.val (.int p1), .val (.int p2), .val (.int p3), .val (.int (1 : Int32)), .val (.int (0 : Int32)), .val (.int (1 : Int32)), .val (.int (2 : Int32)), .val (.ref b101), .val (.ref b120), .val (.ref b173), .val (.ref b230), .val .null, .val .null, .val (.ref b120)] []))
                refine Go.step (fun _ kt => XS.iconst X449.here hx rfl (hb hby at_229) (XS.goto X449.here hx rfl (pc0 := 230) (pc' := 234) rfl (hb hby at_230) (by decide) (by decide) kt)) ?_
                show Go p.tables e below _ (T449.setTop (mkF m 234 #[.val (.int p1), .val (.int p2), .val (.int p3), .val (.int (1 : Int32)), .val (.int (0 : Int32)), .val (.int (1 : Int32)), .val (.int (2 : Int32)), .val (.ref b101), .val (.ref b120), .val (.ref b173), .val (.ref b230), .val .null, .val .null, .val (.ref b120)] [(.int (1 : Int32))]))
                obtain ⟨fs, hr, hrun, hended, hRW⟩ := X449.leaveW hS266 (by rw [eh449]; exact hk446) (v := some (.int (1 : Int32))) (fun h => by rw [Bd.returns] at h; cases h)
                refine ⟨_, _, retN X449 hx (t := .boolean) Bd.returns (by simp) (hb hby at_234) hr, hrun, hended, _, _, rfl, ?_, (by have q := C447.trans (CHv.at X449 hZ (own_EW hw) C447.1); rw [hh]; rw [← eh449] at q; exact q), hRW.1, hRW.2.1, hRW.2.2.1, hRW.2.2.2.mono (by decide) (by decide)⟩
                show Qrm0 Z p1 p2 p3 cs h0 n0 _ T449.heap _
                rw [eh449]
                exact ⟨rfl, N449⟩
        · rw [hq]
          show Go p.tables e below _ (T266.setTop (mkF m 97 #[.val (.int p1), .val (.int p2), .val (.int p3), .val (.int bi), .val (.int (1 : Int32)), .val (.int sa), .val (.int wh), .val (.ref b101), .val (.ref b120), .val (.ref b173), .val (.ref b230), .unset, .unset, .unset] []))
          refine Go.step (fun _ kt => XS.iload X266.here hx rfl (hb hby at_97) rfl (XS.ifNo X266.here hx rfl (hb hby at_99) rfl ((if0 _ _).trans (feq (by decide : ¬ ((1 : Int32) = (0 : Int32)))).1) (XS.aload X266.here hx rfl (hb hby at_102) rfl rfl (XS.iconst X266.here hx rfl (hb hby at_104) (XS.aload X266.here hx rfl (hb hby at_105) rfl rfl kt))))) ?_
          show Go p.tables e below _ (T266.setTop (mkF m 107 #[.val (.int p1), .val (.int p2), .val (.int p3), .val (.int bi), .val (.int (1 : Int32)), .val (.int sa), .val (.int wh), .val (.ref b101), .val (.ref b120), .val (.ref b173), .val (.ref b230), .unset, .unset, .unset] [(.ref b120), (.int (1 : Int32)), (.ref b101)]))
          obtain ⟨cq450, kq450, q450a, q450b, q450c⟩ := isOf hZ rfl F271
          obtain ⟨_, _, ⟨T450, L450, k450, n450⟩, -, X450, ⟨Lc450, hQ450, l450, y450, z450⟩, st450⟩ := X266.virtualBack hx (y := (⟨"com/example/ottawa/ottawa/TagPattern", "follow", "(ZLcom/example/ottawa/ottawa/Name;)V"⟩ : MethodName)) (z := (⟨"com/example/ottawa/ottawa/TagPattern", "follow", "(ZLcom/example/ottawa/ottawa/Name;)V"⟩ : MethodName)) hown (mvT hZ (hw _ (List.mem_of_getElem? (i := 153) rfl))) (mvT hZ (hw _ (List.mem_of_getElem? (i := 154) rfl))) (notFace_of_selects (args := #[]) (mvT hZ (hw _ (List.mem_of_getElem? (i := 156) rfl)))) (mvT hZ (hw _ (List.mem_of_getElem? (i := 156) rfl))) (mvT hZ (hw _ (List.mem_of_getElem? (i := 155) rfl))) (by decide) (backOf (W := 0) (rmf1 l Z a0 hw [] b101 b120 .null .null T266.heap n0 Z281 F271 F272 F273 F274 g_b101 (Ne.symm ne_b101_b120)) hZ (hw _ (List.mem_of_getElem? (i := 157) rfl)) (hw _ (List.mem_of_getElem? (i := 3) rfl)) (by decide) (by decide)) q450a q450c (g := (mkF m 107 #[.val (.int p1), .val (.int p2), .val (.int p3), .val (.int bi), .val (.int (1 : Int32)), .val (.int sa), .val (.int wh), .val (.ref b101), .val (.ref b120), .val (.ref b173), .val (.ref b230), .unset, .unset, .unset] [(.ref b120), (.int (1 : Int32)), (.ref b101)])) rfl (by rw [hml]; rfl) (Steps.refl _) (argsL := [(.int (1 : Int32)), (.ref b120)]) (rest := []) (lenOf pd_16 rfl) rfl (by show 2 * 0 + _ ≤ _; exact Nat.le_of_eq rfl) (hb hby at_107) (fun _ _ => ⟨rfl, rfl, (by decide : 30 + 0 ≤ _), (by decide : 225 + 0 ≤ _)⟩)
          dsimp only [Pt.U, Pt.locs, Pt.cells, Pt.slots] at X450 l450 y450 z450 st450 hQ450
          subst l450 y450 z450
          obtain ⟨rfl, N450q, Kq450, P451, P452, P453⟩ := hQ450
          have F454 : Exa Z T450.heap b101 "com/example/ottawa/ottawa/TagPattern" := (F271.keep Kq450)
          have F455 : Exa Z T450.heap b120 "com/example/ottawa/ottawa/KeptName" := (F274.keep Kq450)
          have F456 : Exa Z T450.heap b173 "com/example/ottawa/ottawa/KeptName" := (F275.keep Kq450)
          have F457 : Exa Z T450.heap b230 "com/example/ottawa/ottawa/Name" := (P267.keep Kq450)
          have Z458 : n0 ≤ T450.heap.size := (Nat.le_trans Z281 Kq450.1)
          have hk459 : _ ≤ T450.heap.size := (Nat.le_trans hk266 Kq450.1)
          have C460 := (C282.trans (CHr.keep Kq450 (by intro x hx; cases List.mem_singleton.mp hx; exact (Safe.exa hZ.alike F271 (by decide) (by decide))) C282.1))
          have N450 := Fr.app N266 N450q
          refine Go.step (fun _ kt => st450.trans kt) ?_
          show Go p.tables e below _ (T450.setTop (mkF m 110 #[.val (.int p1), .val (.int p2), .val (.int p3), .val (.int bi), .val (.int (1 : Int32)), .val (.int sa), .val (.int wh), .val (.ref b101), .val (.ref b120), .val (.ref b173), .val (.ref b230), .unset, .unset, .unset] []))
          rcases h_sa with hq | hq
          · rw [hq]
            show Go p.tables e below _ (T450.setTop (mkF m 110 #[.val (.int p1), .val (.int p2), .val (.int p3), .val (.int bi), .val (.int (1 : Int32)), .val (.int (0 : Int32)), .val (.int wh), .val (.ref b101), .val (.ref b120), .val (.ref b173), .val (.ref b230), .unset, .unset, .unset] []))
            refine Go.step (fun _ kt => XS.iload X450.here hx rfl (hb hby at_110) rfl (XS.ifYes X450.here hx rfl (pc0 := 112) (pc' := 123) rfl (hb hby at_112) rfl ((if0 _ _).trans (teq (by decide : (0 : Int32) = (0 : Int32))).1) (by decide) (by decide) kt)) ?_
            show Go p.tables e below _ (T450.setTop (mkF m 123 #[.val (.int p1), .val (.int p2), .val (.int p3), .val (.int bi), .val (.int (1 : Int32)), .val (.int (0 : Int32)), .val (.int wh), .val (.ref b101), .val (.ref b120), .val (.ref b173), .val (.ref b230), .unset, .unset, .unset] []))
            rcases (show wh = 0 ∨ wh = 1 ∨ wh = 2 by rw [e_wh]; exact own_rem3 p3) with hq | hq | hq
            · rw [hq]
              show Go p.tables e below _ (T450.setTop (mkF m 123 #[.val (.int p1), .val (.int p2), .val (.int p3), .val (.int bi), .val (.int (1 : Int32)), .val (.int (0 : Int32)), .val (.int (0 : Int32)), .val (.ref b101), .val (.ref b120), .val (.ref b173), .val (.ref b230), .unset, .unset, .unset] []))
              refine Go.step (fun _ kt => XS.iload X450.here hx rfl (hb hby at_123) rfl (XS.ifNo X450.here hx rfl (hb hby at_125) rfl ((if0 _ _).trans (teq (by decide : (0 : Int32) = (0 : Int32))).2) (XS.aload X450.here hx rfl (hb hby at_128) rfl rfl (XS.goto X450.here hx rfl (pc0 := 130) (pc' := 145) rfl (hb hby at_130) (by decide) (by decide) (XS.astore X450.here hx rfl (hb hby at_145) rfl rfl (l' := #[.val (.int p1), .val (.int p2), .val (.int p3), .val (.int bi), .val (.int (1 : Int32)), .val (.int (0 : Int32)), .val (.int (0 : Int32)), .val (.ref b101), .val (.ref b120), .val (.ref b173), .val (.ref b230), .val (.ref b173), .unset, .unset]) rfl (XS.iload X450.here hx rfl (hb hby at_147) rfl (XS.ifNo X450.here hx rfl (hb hby at_149) rfl ((if0 _ _).trans (teq (by decide : (0 : Int32) = (0 : Int32))).2) (XS.aload X450.here hx rfl (hb hby at_152) rfl rfl (XS.goto X450.here hx rfl (pc0 := 154) (pc' := 158) rfl (hb hby at_154) (by decide) (by decide) (XS.astore X450.here hx rfl (hb hby at_158) rfl rfl (l' := #[.val (.int p1), .val (.int p2), .val (.int p3), .val (.int bi), .val (.int (1 : Int32)), .val (.int (0 : Int32)), .val (.int (0 : Int32)), .val (.ref b101), .val (.ref b120), .val (.ref b173), .val (.ref b230), .val (.ref b173), .val (.ref b173), .unset]) rfl kt)))))))))) ?_
              show Go p.tables e below _ (T450.setTop (mkF m 160 #[.val (.int p1), .val (.int p2), .val (.int p3), .val (.int bi), .val (.int (1 : Int32)), .val (.int (0 : Int32)), .val (.int (0 : Int32)), .val (.ref b101), .val (.ref b120), .val (.ref b173), .val (.ref b230), .val (.ref b173), .val (.ref b173), .unset] []))
              rcases h_bi with hq | hq
              · rw [hq]
                show Go p.tables e below _ (T450.setTop (mkF m 160 #[.val (.int p1), .val (.int p2), .val (.int p3), .val (.int (0 : Int32)), .val (.int (1 : Int32)), .val (.int (0 : Int32)), .val (.int (0 : Int32)), .val (.ref b101), .val (.ref b120), .val (.ref b173), .val (.ref b230), .val (.ref b173), .val (.ref b173), .unset] []))
                refine Go.step (fun _ kt => XS.iloadN X450.here hx rfl (hb hby at_160) rfl (XS.ifYes X450.here hx rfl (pc0 := 161) (pc' := 178) rfl (hb hby at_161) rfl ((if0 _ _).trans (teq (by decide : (0 : Int32) = (0 : Int32))).1) (by decide) (by decide) (XS.iload X450.here hx rfl (hb hby at_178) rfl (XS.ifNo X450.here hx rfl (hb hby at_180) rfl ((if0 _ _).trans (feq (by decide : ¬ ((1 : Int32) = (0 : Int32)))).1) (XS.aload X450.here hx rfl (hb hby at_183) rfl rfl (XS.goto X450.here hx rfl (pc0 := 185) (pc' := 189) rfl (hb hby at_185) (by decide) (by decide) (XS.astore X450.here hx rfl (hb hby at_189) rfl rfl (l' := #[.val (.int p1), .val (.int p2), .val (.int p3), .val (.int (0 : Int32)), .val (.int (1 : Int32)), .val (.int (0 : Int32)), .val (.int (0 : Int32)), .val (.ref b101), .val (.ref b120), .val (.ref b173), .val (.ref b230), .val (.ref b173), .val (.ref b173), .val (.ref b120)]) rfl (XS.aload X450.here hx rfl (hb hby at_191) rfl rfl (XS.iloadN X450.here hx rfl (hb hby at_193) rfl (XS.aload X450.here hx rfl (hb hby at_194) rfl rfl kt)))))))))) ?_
                show Go p.tables e below _ (T450.setTop (mkF m 196 #[.val (.int p1), .val (.int p2), .val (.int p3), .val (.int (0 : Int32)), .val (.int (1 : Int32)), .val (.int (0 : Int32)), .val (.int (0 : Int32)), .val (.ref b101), .val (.ref b120), .val (.ref b173), .val (.ref b230), .val (.ref b173), .val (.ref b173), .val (.ref b120)] [(.ref b173), (.int (0 : Int32)), (.ref b101)]))
                obtain ⟨cq461, kq461, q461a, q461b, q461c⟩ := isOf hZ rfl P451
                obtain ⟨_, _, ⟨T461, L461, k461, n461⟩, -, X461, ⟨Lc461, hQ461, l461, y461, z461⟩, st461⟩ := X450.virtualBack hx (y := (⟨"com/example/ottawa/ottawa/TagPattern", "follow", "(ZLcom/example/ottawa/ottawa/Name;)V"⟩ : MethodName)) (z := (⟨"com/example/ottawa/ottawa/TagPattern", "follow", "(ZLcom/example/ottawa/ottawa/Name;)V"⟩ : MethodName)) hown (mvT hZ (hw _ (List.mem_of_getElem? (i := 153) rfl))) (mvT hZ (hw _ (List.mem_of_getElem? (i := 154) rfl))) (notFace_of_selects (args := #[]) (mvT hZ (hw _ (List.mem_of_getElem? (i := 156) rfl)))) (mvT hZ (hw _ (List.mem_of_getElem? (i := 156) rfl))) (mvT hZ (hw _ (List.mem_of_getElem? (i := 155) rfl))) (by decide) (backOf (W := 0) (rmf0 l Z a0 hw [] b101 b173 (.ref b120) .null T450.heap n0 Z458 P451 P452 P453 F456 g_b101 (Ne.symm ne_b101_b173)) hZ (hw _ (List.mem_of_getElem? (i := 157) rfl)) (hw _ (List.mem_of_getElem? (i := 3) rfl)) (by decide) (by decide)) q461a q461c (g := (mkF m 196 #[.val (.int p1), .val (.int p2), .val (.int p3), .val (.int (0 : Int32)), .val (.int (1 : Int32)), .val (.int (0 : Int32)), .val (.int (0 : Int32)), .val (.ref b101), .val (.ref b120), .val (.ref b173), .val (.ref b230), .val (.ref b173), .val (.ref b173), .val (.ref b120)] [(.ref b173), (.int (0 : Int32)), (.ref b101)])) rfl (by rw [hml]; rfl) (Steps.refl _) (argsL := [(.int (0 : Int32)), (.ref b173)]) (rest := []) (lenOf pd_16 rfl) rfl (by show 2 * 0 + _ ≤ _; exact Nat.le_of_eq rfl) (hb hby at_196) (fun _ _ => ⟨rfl, rfl, (by decide : 30 + 0 ≤ _), (by decide : 225 + 0 ≤ _)⟩)
                dsimp only [Pt.U, Pt.locs, Pt.cells, Pt.slots] at X461 l461 y461 z461 st461 hQ461
                subst l461 y461 z461
                obtain ⟨rfl, N461q, Kq461, P462, P463, P464⟩ := hQ461
                have F465 : Exa Z T461.heap b101 "com/example/ottawa/ottawa/TagPattern" := (P451.keep Kq461)
                have F466 : Exa Z T461.heap b120 "com/example/ottawa/ottawa/KeptName" := (F455.keep Kq461)
                have F467 : Exa Z T461.heap b173 "com/example/ottawa/ottawa/KeptName" := (F456.keep Kq461)
                have F468 : Exa Z T461.heap b230 "com/example/ottawa/ottawa/Name" := (F457.keep Kq461)
                have Z469 : n0 ≤ T461.heap.size := (Nat.le_trans Z458 Kq461.1)
                have hk470 : _ ≤ T461.heap.size := (Nat.le_trans hk459 Kq461.1)
                have C471 := (C460.trans (CHr.keep Kq461 (by intro x hx; cases List.mem_singleton.mp hx; exact (Safe.exa hZ.alike P451 (by decide) (by decide))) C460.1))
                have N461 := Fr.app N450 N461q
                refine Go.step (fun _ kt => st461.trans kt) ?_
                show Go p.tables e below _ (T461.setTop (mkF m 199 #[.val (.int p1), .val (.int p2), .val (.int p3), .val (.int (0 : Int32)), .val (.int (1 : Int32)), .val (.int (0 : Int32)), .val (.int (0 : Int32)), .val (.ref b101), .val (.ref b120), .val (.ref b173), .val (.ref b230), .val (.ref b173), .val (.ref b173), .val (.ref b120)] []))
                refine Go.step (fun _ kt => XS.aload X461.here hx rfl (hb hby at_199) rfl rfl (XS.iloadN X461.here hx rfl (hb hby at_201) rfl kt)) ?_
                show Go p.tables e below _ (T461.setTop (mkF m 202 #[.val (.int p1), .val (.int p2), .val (.int p3), .val (.int (0 : Int32)), .val (.int (1 : Int32)), .val (.int (0 : Int32)), .val (.int (0 : Int32)), .val (.ref b101), .val (.ref b120), .val (.ref b173), .val (.ref b230), .val (.ref b173), .val (.ref b173), .val (.ref b120)] [(.int (0 : Int32)), (.ref b101)]))
                obtain ⟨cq472, kq472, q472a, q472b, q472c⟩ := isOf hZ rfl P462
                obtain ⟨_, _, ⟨T472, L472, k472, n472⟩, -, X472, ⟨Lc472, hQ472, l472, y472, z472⟩, st472⟩ := X461.virtualBack hx (y := (⟨"com/example/ottawa/ottawa/TagPattern", "following", "(Z)Lcom/example/ottawa/ottawa/KeptName;"⟩ : MethodName)) (z := (⟨"com/example/ottawa/ottawa/TagPattern", "following", "(Z)Lcom/example/ottawa/ottawa/KeptName;"⟩ : MethodName)) hown (mvT hZ (hw _ (List.mem_of_getElem? (i := 163) rfl))) (mvT hZ (hw _ (List.mem_of_getElem? (i := 164) rfl))) (notFace_of_selects (args := #[]) (mvT hZ (hw _ (List.mem_of_getElem? (i := 166) rfl)))) (mvT hZ (hw _ (List.mem_of_getElem? (i := 166) rfl))) (mvT hZ (hw _ (List.mem_of_getElem? (i := 165) rfl))) (by decide) (backOf (W := 0) (rmg0 l Z a0 hw [] b101 b173 T461.heap n0 Z469 P464 ) hZ (hw _ (List.mem_of_getElem? (i := 167) rfl)) (hw _ (List.mem_of_getElem? (i := 3) rfl)) (by decide) (by decide)) q472a q472c (g := (mkF m 202 #[.val (.int p1), .val (.int p2), .val (.int p3), .val (.int (0 : Int32)), .val (.int (1 : Int32)), .val (.int (0 : Int32)), .val (.int (0 : Int32)), .val (.ref b101), .val (.ref b120), .val (.ref b173), .val (.ref b230), .val (.ref b173), .val (.ref b173), .val (.ref b120)] [(.int (0 : Int32)), (.ref b101)])) rfl (by rw [hml]; rfl) (Steps.refl _) (argsL := [(.int (0 : Int32))]) (rest := []) (lenOf pd_17 rfl) rfl (by show 2 * 0 + _ ≤ _; exact Nat.le_of_eq rfl) (hb hby at_202) (fun _ _ => ⟨rfl, rfl, (by decide : 30 + 0 ≤ _), (by decide : 225 + 0 ≤ _)⟩)
                dsimp only [Pt.U, Pt.locs, Pt.cells, Pt.slots] at X472 l472 y472 z472 st472 hQ472
                subst l472 y472 z472
                obtain ⟨rfl, N472q, eh472⟩ := hQ472
                have N472 := Fr.app N461 N472q
                refine Go.step (fun _ kt => st472.trans kt) ?_
                show Go p.tables e below _ (T472.setTop (mkF m 205 #[.val (.int p1), .val (.int p2), .val (.int p3), .val (.int (0 : Int32)), .val (.int (1 : Int32)), .val (.int (0 : Int32)), .val (.int (0 : Int32)), .val (.ref b101), .val (.ref b120), .val (.ref b173), .val (.ref b230), .val (.ref b173), .val (.ref b173), .val (.ref b120)] [(.ref b173)]))
                refine Go.step (fun _ kt => XS.aload X472.here hx rfl (hb hby at_205) rfl rfl kt) ?_
                show Go p.tables e below _ (T472.setTop (mkF m 207 #[.val (.int p1), .val (.int p2), .val (.int p3), .val (.int (0 : Int32)), .val (.int (1 : Int32)), .val (.int (0 : Int32)), .val (.int (0 : Int32)), .val (.ref b101), .val (.ref b120), .val (.ref b173), .val (.ref b230), .val (.ref b173), .val (.ref b173), .val (.ref b120)] [(.ref b173), (.ref b173)]))
                refine Go.step (fun _ kt => Jvm.RoadKit.acmp (g := (mkF m 207 #[.val (.int p1), .val (.int p2), .val (.int p3), .val (.int (0 : Int32)), .val (.int (1 : Int32)), .val (.int (0 : Int32)), .val (.int (0 : Int32)), .val (.ref b101), .val (.ref b120), .val (.ref b173), .val (.ref b230), .val (.ref b173), .val (.ref b173), .val (.ref b120)] [(.ref b173), (.ref b173)])) X472 hx rfl rfl rfl (pc0 := 207) (pc' := 210) (same := true) rfl (hb hby at_207) rfl (decide_eq_true rfl) (by decide) (by decide) kt) ?_
                show Go p.tables e below _ (T472.setTop (mkF m 210 #[.val (.int p1), .val (.int p2), .val (.int p3), .val (.int (0 : Int32)), .val (.int (1 : Int32)), .val (.int (0 : Int32)), .val (.int (0 : Int32)), .val (.ref b101), .val (.ref b120), .val (.ref b173), .val (.ref b230), .val (.ref b173), .val (.ref b173), .val (.ref b120)] []))
                refine Go.step (fun _ kt => XS.aload X472.here hx rfl (hb hby at_210) rfl rfl (XS.iloadN X472.here hx rfl (hb hby at_212) rfl (XS.ifNo X472.here hx rfl (hb hby at_213) rfl ((if0 _ _).trans (teq (by decide : (0 : Int32) = (0 : Int32))).2) (XS.iconst X472.here hx rfl (hb hby at_216) (XS.goto X472.here hx rfl (pc0 := 217) (pc' := 221) rfl (hb hby at_217) (by decide) (by decide) kt))))) ?_
                show Go p.tables e below _ (T472.setTop (mkF m 221 #[.val (.int p1), .val (.int p2), .val (.int p3), .val (.int (0 : Int32)), .val (.int (1 : Int32)), .val (.int (0 : Int32)), .val (.int (0 : Int32)), .val (.ref b101), .val (.ref b120), .val (.ref b173), .val (.ref b230), .val (.ref b173), .val (.ref b173), .val (.ref b120)] [(.int (1 : Int32)), (.ref b101)]))
                obtain ⟨cq473, kq473, q473a, q473b, q473c⟩ := isOf hZ eh472 P462
                obtain ⟨_, _, ⟨T473, L473, k473, n473⟩, -, X473, ⟨Lc473, hQ473, l473, y473, z473⟩, st473⟩ := X472.virtualBack hx (y := (⟨"com/example/ottawa/ottawa/TagPattern", "following", "(Z)Lcom/example/ottawa/ottawa/KeptName;"⟩ : MethodName)) (z := (⟨"com/example/ottawa/ottawa/TagPattern", "following", "(Z)Lcom/example/ottawa/ottawa/KeptName;"⟩ : MethodName)) hown (mvT hZ (hw _ (List.mem_of_getElem? (i := 163) rfl))) (mvT hZ (hw _ (List.mem_of_getElem? (i := 164) rfl))) (notFace_of_selects (args := #[]) (mvT hZ (hw _ (List.mem_of_getElem? (i := 166) rfl)))) (mvT hZ (hw _ (List.mem_of_getElem? (i := 166) rfl))) (mvT hZ (hw _ (List.mem_of_getElem? (i := 165) rfl))) (by decide) (backOf (W := 0) (rmg2 l Z a0 hw [] b101 b120 T461.heap n0 Z469 P463 ) hZ (hw _ (List.mem_of_getElem? (i := 167) rfl)) (hw _ (List.mem_of_getElem? (i := 3) rfl)) (by decide) (by decide)) q473a q473c (g := (mkF m 221 #[.val (.int p1), .val (.int p2), .val (.int p3), .val (.int (0 : Int32)), .val (.int (1 : Int32)), .val (.int (0 : Int32)), .val (.int (0 : Int32)), .val (.ref b101), .val (.ref b120), .val (.ref b173), .val (.ref b230), .val (.ref b173), .val (.ref b173), .val (.ref b120)] [(.int (1 : Int32)), (.ref b101)])) rfl (by rw [hml]; rfl) (Steps.refl _) (argsL := [(.int (1 : Int32))]) (rest := []) (lenOf pd_17 rfl) rfl (by show 2 * 0 + _ ≤ _; exact Nat.le_of_eq rfl) (hb hby at_221) (fun _ _ => ⟨rfl, eh472, (by decide : 30 + 0 ≤ _), (by decide : 225 + 0 ≤ _)⟩)
                dsimp only [Pt.U, Pt.locs, Pt.cells, Pt.slots] at X473 l473 y473 z473 st473 hQ473
                subst l473 y473 z473
                obtain ⟨rfl, N473q, eh473⟩ := hQ473
                have N473 := Fr.app N472 N473q
                refine Go.step (fun _ kt => st473.trans kt) ?_
                show Go p.tables e below _ (T473.setTop (mkF m 224 #[.val (.int p1), .val (.int p2), .val (.int p3), .val (.int (0 : Int32)), .val (.int (1 : Int32)), .val (.int (0 : Int32)), .val (.int (0 : Int32)), .val (.ref b101), .val (.ref b120), .val (.ref b173), .val (.ref b230), .val (.ref b173), .val (.ref b173), .val (.ref b120)] [(.ref b120)]))
                refine Go.step (fun _ kt => XS.aload X473.here hx rfl (hb hby at_224) rfl rfl kt) ?_
                show Go p.tables e below _ (T473.setTop (mkF m 226 #[.val (.int p1), .val (.int p2), .val (.int p3), .val (.int (0 : Int32)), .val (.int (1 : Int32)), .val (.int (0 : Int32)), .val (.int (0 : Int32)), .val (.ref b101), .val (.ref b120), .val (.ref b173), .val (.ref b230), .val (.ref b173), .val (.ref b173), .val (.ref b120)] [(.ref b120), (.ref b120)]))
                refine Go.step (fun _ kt => Jvm.RoadKit.acmp (g := (mkF m 226 #[.val (.int p1), .val (.int p2), .val (.int p3), .val (.int (0 : Int32)), .val (.int (1 : Int32)), .val (.int (0 : Int32)), .val (.int (0 : Int32)), .val (.ref b101), .val (.ref b120), .val (.ref b173), .val (.ref b230), .val (.ref b173), .val (.ref b173), .val (.ref b120)] [(.ref b120), (.ref b120)])) X473 hx rfl rfl rfl (pc0 := 226) (pc' := 229) (same := true) rfl (hb hby at_226) rfl (decide_eq_true rfl) (by decide) (by decide) kt) ?_
                show Go p.tables e below _ (T473.setTop (mkF m 229 #[.val (.int p1), .val (.int p2), .val (.int p3), .val (.int (0 : Int32)), .val (.int (1 : Int32)), .val (.int (0 : Int32)), .val (.int (0 : Int32)), .val (.ref b101), .val (.ref b120), .val (.ref b173), .val (.ref b230), .val (.ref b173), .val (.ref b173), .val (.ref b120)] []))
                refine Go.step (fun _ kt => XS.iconst X473.here hx rfl (hb hby at_229) (XS.goto X473.here hx rfl (pc0 := 230) (pc' := 234) rfl (hb hby at_230) (by decide) (by decide) kt)) ?_
                show Go p.tables e below _ (T473.setTop (mkF m 234 #[.val (.int p1), .val (.int p2), .val (.int p3), .val (.int (0 : Int32)), .val (.int (1 : Int32)), .val (.int (0 : Int32)), .val (.int (0 : Int32)), .val (.ref b101), .val (.ref b120), .val (.ref b173), .val (.ref b230), .val (.ref b173), .val (.ref b173), .val (.ref b120)] [(.int (1 : Int32))]))
                obtain ⟨fs, hr, hrun, hended, hRW⟩ := X473.leaveW hS266 (by rw [eh473]; exact hk470) (v := some (.int (1 : Int32))) (fun h => by rw [Bd.returns] at h; cases h)
                refine ⟨_, _, retN X473 hx (t := .boolean) Bd.returns (by simp) (hb hby at_234) hr, hrun, hended, _, _, rfl, ?_, (by have q := C471.trans (CHv.at X473 hZ (own_EW hw) C471.1); rw [hh]; rw [← eh473] at q; exact q), hRW.1, hRW.2.1, hRW.2.2.1, hRW.2.2.2.mono (by decide) (by decide)⟩
                show Qrm0 Z p1 p2 p3 cs h0 n0 _ T473.heap _
                rw [eh473]
                exact ⟨rfl, N473⟩
              · rw [hq]
                show Go p.tables e below _ (T450.setTop (mkF m 160 #[.val (.int p1), .val (.int p2), .val (.int p3), .val (.int (1 : Int32)), .val (.int (1 : Int32)), .val (.int (0 : Int32)), .val (.int (0 : Int32)), .val (.ref b101), .val (.ref b120), .val (.ref b173), .val (.ref b230), .val (.ref b173), .val (.ref b173), .unset] []))
                refine Go.step (fun _ kt => XS.iloadN X450.here hx rfl (hb hby at_160) rfl (XS.ifNo X450.here hx rfl (hb hby at_161) rfl ((if0 _ _).trans (feq (by decide : ¬ ((1 : Int32) = (0 : Int32)))).1) (XS.iload X450.here hx rfl (hb hby at_164) rfl (XS.ifYes X450.here hx rfl (pc0 := 166) (pc' := 174) rfl (hb hby at_166) rfl ((if0 _ _).trans (teq (by decide : (0 : Int32) = (0 : Int32))).1) (by decide) (by decide) (XS.aconstNull X450.here hx rfl (hb hby at_174) (XS.goto X450.here hx rfl (pc0 := 175) (pc' := 189) rfl (hb hby at_175) (by decide) (by decide) (XS.astore X450.here hx rfl (hb hby at_189) rfl rfl (l' := #[.val (.int p1), .val (.int p2), .val (.int p3), .val (.int (1 : Int32)), .val (.int (1 : Int32)), .val (.int (0 : Int32)), .val (.int (0 : Int32)), .val (.ref b101), .val (.ref b120), .val (.ref b173), .val (.ref b230), .val (.ref b173), .val (.ref b173), .val .null]) rfl (XS.aload X450.here hx rfl (hb hby at_191) rfl rfl (XS.iloadN X450.here hx rfl (hb hby at_193) rfl (XS.aload X450.here hx rfl (hb hby at_194) rfl rfl kt)))))))))) ?_
                show Go p.tables e below _ (T450.setTop (mkF m 196 #[.val (.int p1), .val (.int p2), .val (.int p3), .val (.int (1 : Int32)), .val (.int (1 : Int32)), .val (.int (0 : Int32)), .val (.int (0 : Int32)), .val (.ref b101), .val (.ref b120), .val (.ref b173), .val (.ref b230), .val (.ref b173), .val (.ref b173), .val .null] [(.ref b173), (.int (1 : Int32)), (.ref b101)]))
                obtain ⟨cq474, kq474, q474a, q474b, q474c⟩ := isOf hZ rfl P451
                obtain ⟨_, _, ⟨T474, L474, k474, n474⟩, -, X474, ⟨Lc474, hQ474, l474, y474, z474⟩, st474⟩ := X450.virtualBack hx (y := (⟨"com/example/ottawa/ottawa/TagPattern", "follow", "(ZLcom/example/ottawa/ottawa/Name;)V"⟩ : MethodName)) (z := (⟨"com/example/ottawa/ottawa/TagPattern", "follow", "(ZLcom/example/ottawa/ottawa/Name;)V"⟩ : MethodName)) hown (mvT hZ (hw _ (List.mem_of_getElem? (i := 153) rfl))) (mvT hZ (hw _ (List.mem_of_getElem? (i := 154) rfl))) (notFace_of_selects (args := #[]) (mvT hZ (hw _ (List.mem_of_getElem? (i := 156) rfl)))) (mvT hZ (hw _ (List.mem_of_getElem? (i := 156) rfl))) (mvT hZ (hw _ (List.mem_of_getElem? (i := 155) rfl))) (by decide) (backOf (W := 0) (rmf1 l Z a0 hw [] b101 b173 (.ref b120) .null T450.heap n0 Z458 P451 P452 P453 F456 g_b101 (Ne.symm ne_b101_b173)) hZ (hw _ (List.mem_of_getElem? (i := 157) rfl)) (hw _ (List.mem_of_getElem? (i := 3) rfl)) (by decide) (by decide)) q474a q474c (g := (mkF m 196 #[.val (.int p1), .val (.int p2), .val (.int p3), .val (.int (1 : Int32)), .val (.int (1 : Int32)), .val (.int (0 : Int32)), .val (.int (0 : Int32)), .val (.ref b101), .val (.ref b120), .val (.ref b173), .val (.ref b230), .val (.ref b173), .val (.ref b173), .val .null] [(.ref b173), (.int (1 : Int32)), (.ref b101)])) rfl (by rw [hml]; rfl) (Steps.refl _) (argsL := [(.int (1 : Int32)), (.ref b173)]) (rest := []) (lenOf pd_16 rfl) rfl (by show 2 * 0 + _ ≤ _; exact Nat.le_of_eq rfl) (hb hby at_196) (fun _ _ => ⟨rfl, rfl, (by decide : 30 + 0 ≤ _), (by decide : 225 + 0 ≤ _)⟩)
                dsimp only [Pt.U, Pt.locs, Pt.cells, Pt.slots] at X474 l474 y474 z474 st474 hQ474
                subst l474 y474 z474
                obtain ⟨rfl, N474q, Kq474, P475, P476, P477⟩ := hQ474
                have F478 : Exa Z T474.heap b101 "com/example/ottawa/ottawa/TagPattern" := (P451.keep Kq474)
                have F479 : Exa Z T474.heap b120 "com/example/ottawa/ottawa/KeptName" := (F455.keep Kq474)
                have F480 : Exa Z T474.heap b173 "com/example/ottawa/ottawa/KeptName" := (F456.keep Kq474)
                have F481 : Exa Z T474.heap b230 "com/example/ottawa/ottawa/Name" := (F457.keep Kq474)
                have Z482 : n0 ≤ T474.heap.size := (Nat.le_trans Z458 Kq474.1)
                have hk483 : _ ≤ T474.heap.size := (Nat.le_trans hk459 Kq474.1)
                have C484 := (C460.trans (CHr.keep Kq474 (by intro x hx; cases List.mem_singleton.mp hx; exact (Safe.exa hZ.alike P451 (by decide) (by decide))) C460.1))
                have N474 := Fr.app N450 N474q
                refine Go.step (fun _ kt => st474.trans kt) ?_
                show Go p.tables e below _ (T474.setTop (mkF m 199 #[.val (.int p1), .val (.int p2), .val (.int p3), .val (.int (1 : Int32)), .val (.int (1 : Int32)), .val (.int (0 : Int32)), .val (.int (0 : Int32)), .val (.ref b101), .val (.ref b120), .val (.ref b173), .val (.ref b230), .val (.ref b173), .val (.ref b173), .val .null] []))
                refine Go.step (fun _ kt => XS.aload X474.here hx rfl (hb hby at_199) rfl rfl (XS.iloadN X474.here hx rfl (hb hby at_201) rfl kt)) ?_
                show Go p.tables e below _ (T474.setTop (mkF m 202 #[.val (.int p1), .val (.int p2), .val (.int p3), .val (.int (1 : Int32)), .val (.int (1 : Int32)), .val (.int (0 : Int32)), .val (.int (0 : Int32)), .val (.ref b101), .val (.ref b120), .val (.ref b173), .val (.ref b230), .val (.ref b173), .val (.ref b173), .val .null] [(.int (1 : Int32)), (.ref b101)]))
                obtain ⟨cq485, kq485, q485a, q485b, q485c⟩ := isOf hZ rfl P475
                obtain ⟨_, _, ⟨T485, L485, k485, n485⟩, -, X485, ⟨Lc485, hQ485, l485, y485, z485⟩, st485⟩ := X474.virtualBack hx (y := (⟨"com/example/ottawa/ottawa/TagPattern", "following", "(Z)Lcom/example/ottawa/ottawa/KeptName;"⟩ : MethodName)) (z := (⟨"com/example/ottawa/ottawa/TagPattern", "following", "(Z)Lcom/example/ottawa/ottawa/KeptName;"⟩ : MethodName)) hown (mvT hZ (hw _ (List.mem_of_getElem? (i := 163) rfl))) (mvT hZ (hw _ (List.mem_of_getElem? (i := 164) rfl))) (notFace_of_selects (args := #[]) (mvT hZ (hw _ (List.mem_of_getElem? (i := 166) rfl)))) (mvT hZ (hw _ (List.mem_of_getElem? (i := 166) rfl))) (mvT hZ (hw _ (List.mem_of_getElem? (i := 165) rfl))) (by decide) (backOf (W := 0) (rmg2 l Z a0 hw [] b101 b173 T474.heap n0 Z482 P476 ) hZ (hw _ (List.mem_of_getElem? (i := 167) rfl)) (hw _ (List.mem_of_getElem? (i := 3) rfl)) (by decide) (by decide)) q485a q485c (g := (mkF m 202 #[.val (.int p1), .val (.int p2), .val (.int p3), .val (.int (1 : Int32)), .val (.int (1 : Int32)), .val (.int (0 : Int32)), .val (.int (0 : Int32)), .val (.ref b101), .val (.ref b120), .val (.ref b173), .val (.ref b230), .val (.ref b173), .val (.ref b173), .val .null] [(.int (1 : Int32)), (.ref b101)])) rfl (by rw [hml]; rfl) (Steps.refl _) (argsL := [(.int (1 : Int32))]) (rest := []) (lenOf pd_17 rfl) rfl (by show 2 * 0 + _ ≤ _; exact Nat.le_of_eq rfl) (hb hby at_202) (fun _ _ => ⟨rfl, rfl, (by decide : 30 + 0 ≤ _), (by decide : 225 + 0 ≤ _)⟩)
                dsimp only [Pt.U, Pt.locs, Pt.cells, Pt.slots] at X485 l485 y485 z485 st485 hQ485
                subst l485 y485 z485
                obtain ⟨rfl, N485q, eh485⟩ := hQ485
                have N485 := Fr.app N474 N485q
                refine Go.step (fun _ kt => st485.trans kt) ?_
                show Go p.tables e below _ (T485.setTop (mkF m 205 #[.val (.int p1), .val (.int p2), .val (.int p3), .val (.int (1 : Int32)), .val (.int (1 : Int32)), .val (.int (0 : Int32)), .val (.int (0 : Int32)), .val (.ref b101), .val (.ref b120), .val (.ref b173), .val (.ref b230), .val (.ref b173), .val (.ref b173), .val .null] [(.ref b173)]))
                refine Go.step (fun _ kt => XS.aload X485.here hx rfl (hb hby at_205) rfl rfl kt) ?_
                show Go p.tables e below _ (T485.setTop (mkF m 207 #[.val (.int p1), .val (.int p2), .val (.int p3), .val (.int (1 : Int32)), .val (.int (1 : Int32)), .val (.int (0 : Int32)), .val (.int (0 : Int32)), .val (.ref b101), .val (.ref b120), .val (.ref b173), .val (.ref b230), .val (.ref b173), .val (.ref b173), .val .null] [(.ref b173), (.ref b173)]))
                refine Go.step (fun _ kt => Jvm.RoadKit.acmp (g := (mkF m 207 #[.val (.int p1), .val (.int p2), .val (.int p3), .val (.int (1 : Int32)), .val (.int (1 : Int32)), .val (.int (0 : Int32)), .val (.int (0 : Int32)), .val (.ref b101), .val (.ref b120), .val (.ref b173), .val (.ref b230), .val (.ref b173), .val (.ref b173), .val .null] [(.ref b173), (.ref b173)])) X485 hx rfl rfl rfl (pc0 := 207) (pc' := 210) (same := true) rfl (hb hby at_207) rfl (decide_eq_true rfl) (by decide) (by decide) kt) ?_
                show Go p.tables e below _ (T485.setTop (mkF m 210 #[.val (.int p1), .val (.int p2), .val (.int p3), .val (.int (1 : Int32)), .val (.int (1 : Int32)), .val (.int (0 : Int32)), .val (.int (0 : Int32)), .val (.ref b101), .val (.ref b120), .val (.ref b173), .val (.ref b230), .val (.ref b173), .val (.ref b173), .val .null] []))
                refine Go.step (fun _ kt => XS.aload X485.here hx rfl (hb hby at_210) rfl rfl (XS.iloadN X485.here hx rfl (hb hby at_212) rfl (XS.ifYes X485.here hx rfl (pc0 := 213) (pc' := 220) rfl (hb hby at_213) rfl ((if0 _ _).trans (feq (by decide : ¬ ((1 : Int32) = (0 : Int32)))).2) (by decide) (by decide) (XS.iconst X485.here hx rfl (hb hby at_220) kt)))) ?_
                show Go p.tables e below _ (T485.setTop (mkF m 221 #[.val (.int p1), .val (.int p2), .val (.int p3), .val (.int (1 : Int32)), .val (.int (1 : Int32)), .val (.int (0 : Int32)), .val (.int (0 : Int32)), .val (.ref b101), .val (.ref b120), .val (.ref b173), .val (.ref b230), .val (.ref b173), .val (.ref b173), .val .null] [(.int (0 : Int32)), (.ref b101)]))
                obtain ⟨cq486, kq486, q486a, q486b, q486c⟩ := isOf hZ eh485 P475
                obtain ⟨_, _, ⟨T486, L486, k486, n486⟩, -, X486, ⟨Lc486, hQ486, l486, y486, z486⟩, st486⟩ := X485.virtualBack hx (y := (⟨"com/example/ottawa/ottawa/TagPattern", "following", "(Z)Lcom/example/ottawa/ottawa/KeptName;"⟩ : MethodName)) (z := (⟨"com/example/ottawa/ottawa/TagPattern", "following", "(Z)Lcom/example/ottawa/ottawa/KeptName;"⟩ : MethodName)) hown (mvT hZ (hw _ (List.mem_of_getElem? (i := 163) rfl))) (mvT hZ (hw _ (List.mem_of_getElem? (i := 164) rfl))) (notFace_of_selects (args := #[]) (mvT hZ (hw _ (List.mem_of_getElem? (i := 166) rfl)))) (mvT hZ (hw _ (List.mem_of_getElem? (i := 166) rfl))) (mvT hZ (hw _ (List.mem_of_getElem? (i := 165) rfl))) (by decide) (backOf (W := 0) (rmg3 l Z a0 hw [] b101  T474.heap n0 Z482 P477 ) hZ (hw _ (List.mem_of_getElem? (i := 167) rfl)) (hw _ (List.mem_of_getElem? (i := 3) rfl)) (by decide) (by decide)) q486a q486c (g := (mkF m 221 #[.val (.int p1), .val (.int p2), .val (.int p3), .val (.int (1 : Int32)), .val (.int (1 : Int32)), .val (.int (0 : Int32)), .val (.int (0 : Int32)), .val (.ref b101), .val (.ref b120), .val (.ref b173), .val (.ref b230), .val (.ref b173), .val (.ref b173), .val .null] [(.int (0 : Int32)), (.ref b101)])) rfl (by rw [hml]; rfl) (Steps.refl _) (argsL := [(.int (0 : Int32))]) (rest := []) (lenOf pd_17 rfl) rfl (by show 2 * 0 + _ ≤ _; exact Nat.le_of_eq rfl) (hb hby at_221) (fun _ _ => ⟨rfl, eh485, (by decide : 30 + 0 ≤ _), (by decide : 225 + 0 ≤ _)⟩)
                dsimp only [Pt.U, Pt.locs, Pt.cells, Pt.slots] at X486 l486 y486 z486 st486 hQ486
                subst l486 y486 z486
                obtain ⟨rfl, N486q, eh486⟩ := hQ486
                have N486 := Fr.app N485 N486q
                refine Go.step (fun _ kt => st486.trans kt) ?_
                show Go p.tables e below _ (T486.setTop (mkF m 224 #[.val (.int p1), .val (.int p2), .val (.int p3), .val (.int (1 : Int32)), .val (.int (1 : Int32)), .val (.int (0 : Int32)), .val (.int (0 : Int32)), .val (.ref b101), .val (.ref b120), .val (.ref b173), .val (.ref b230), .val (.ref b173), .val (.ref b173), .val .null] [.null]))
                refine Go.step (fun _ kt => XS.aload X486.here hx rfl (hb hby at_224) rfl rfl kt) ?_
                show Go p.tables e below _ (T486.setTop (mkF m 226 #[.val (.int p1), .val (.int p2), .val (.int p3), .val (.int (1 : Int32)), .val (.int (1 : Int32)), .val (.int (0 : Int32)), .val (.int (0 : Int32)), .val (.ref b101), .val (.ref b120), .val (.ref b173), .val (.ref b230), .val (.ref b173), .val (.ref b173), .val .null] [.null, .null]))
                refine Go.step (fun _ kt => Jvm.RoadKit.acmp (g := (mkF m 226 #[.val (.int p1), .val (.int p2), .val (.int p3), .val (.int (1 : Int32)), .val (.int (1 : Int32)), .val (.int (0 : Int32)), .val (.int (0 : Int32)), .val (.ref b101), .val (.ref b120), .val (.ref b173), .val (.ref b230), .val (.ref b173), .val (.ref b173), .val .null] [.null, .null])) X486 hx rfl rfl rfl (pc0 := 226) (pc' := 229) (same := true) rfl (hb hby at_226) rfl (decide_eq_true rfl) (by decide) (by decide) kt) ?_
                show Go p.tables e below _ (T486.setTop (mkF m 229 #[.val (.int p1), .val (.int p2), .val (.int p3), .val (.int (1 : Int32)), .val (.int (1 : Int32)), .val (.int (0 : Int32)), .val (.int (0 : Int32)), .val (.ref b101), .val (.ref b120), .val (.ref b173), .val (.ref b230), .val (.ref b173), .val (.ref b173), .val .null] []))
                refine Go.step (fun _ kt => XS.iconst X486.here hx rfl (hb hby at_229) (XS.goto X486.here hx rfl (pc0 := 230) (pc' := 234) rfl (hb hby at_230) (by decide) (by decide) kt)) ?_
                show Go p.tables e below _ (T486.setTop (mkF m 234 #[.val (.int p1), .val (.int p2), .val (.int p3), .val (.int (1 : Int32)), .val (.int (1 : Int32)), .val (.int (0 : Int32)), .val (.int (0 : Int32)), .val (.ref b101), .val (.ref b120), .val (.ref b173), .val (.ref b230), .val (.ref b173), .val (.ref b173), .val .null] [(.int (1 : Int32))]))
                obtain ⟨fs, hr, hrun, hended, hRW⟩ := X486.leaveW hS266 (by rw [eh486]; exact hk483) (v := some (.int (1 : Int32))) (fun h => by rw [Bd.returns] at h; cases h)
                refine ⟨_, _, retN X486 hx (t := .boolean) Bd.returns (by simp) (hb hby at_234) hr, hrun, hended, _, _, rfl, ?_, (by have q := C484.trans (CHv.at X486 hZ (own_EW hw) C484.1); rw [hh]; rw [← eh486] at q; exact q), hRW.1, hRW.2.1, hRW.2.2.1, hRW.2.2.2.mono (by decide) (by decide)⟩
                show Qrm0 Z p1 p2 p3 cs h0 n0 _ T486.heap _
                rw [eh486]
                exact ⟨rfl, N486⟩
            · rw [hq]
              show Go p.tables e below _ (T450.setTop (mkF m 123 #[.val (.int p1), .val (.int p2), .val (.int p3), .val (.int bi), .val (.int (1 : Int32)), .val (.int (0 : Int32)), .val (.int (1 : Int32)), .val (.ref b101), .val (.ref b120), .val (.ref b173), .val (.ref b230), .unset, .unset, .unset] []))
              refine Go.step (fun _ kt => XS.iload X450.here hx rfl (hb hby at_123) rfl (XS.ifYes X450.here hx rfl (pc0 := 125) (pc' := 133) rfl (hb hby at_125) rfl ((if0 _ _).trans (feq (by decide : ¬ ((1 : Int32) = (0 : Int32)))).2) (by decide) (by decide) (XS.iload X450.here hx rfl (hb hby at_133) rfl (XS.iconst X450.here hx rfl (hb hby at_135) (XS.icmpNo X450.here hx rfl (hb hby at_136) rfl (teq (by decide : (1 : Int32) = (1 : Int32))).2 (XS.aload X450.here hx rfl (hb hby at_139) rfl rfl (XS.goto X450.here hx rfl (pc0 := 141) (pc' := 145) rfl (hb hby at_141) (by decide) (by decide) (XS.astore X450.here hx rfl (hb hby at_145) rfl rfl (l' := #[.val (.int p1), .val (.int p2), .val (.int p3), .val (.int bi), .val (.int (1 : Int32)), .val (.int (0 : Int32)), .val (.int (1 : Int32)), .val (.ref b101), .val (.ref b120), .val (.ref b173), .val (.ref b230), .val (.ref b230), .unset, .unset]) rfl (XS.iload X450.here hx rfl (hb hby at_147) rfl (XS.ifYes X450.here hx rfl (pc0 := 149) (pc' := 157) rfl (hb hby at_149) rfl ((if0 _ _).trans (feq (by decide : ¬ ((1 : Int32) = (0 : Int32)))).2) (by decide) (by decide) (XS.aconstNull X450.here hx rfl (hb hby at_157) (XS.astore X450.here hx rfl (hb hby at_158) rfl rfl (l' := #[.val (.int p1), .val (.int p2), .val (.int p3), .val (.int bi), .val (.int (1 : Int32)), .val (.int (0 : Int32)), .val (.int (1 : Int32)), .val (.ref b101), .val (.ref b120), .val (.ref b173), .val (.ref b230), .val (.ref b230), .val .null, .unset]) rfl kt)))))))))))) ?_
              show Go p.tables e below _ (T450.setTop (mkF m 160 #[.val (.int p1), .val (.int p2), .val (.int p3), .val (.int bi), .val (.int (1 : Int32)), .val (.int (0 : Int32)), .val (.int (1 : Int32)), .val (.ref b101), .val (.ref b120), .val (.ref b173), .val (.ref b230), .val (.ref b230), .val .null, .unset] []))
              rcases h_bi with hq | hq
              · rw [hq]
                show Go p.tables e below _ (T450.setTop (mkF m 160 #[.val (.int p1), .val (.int p2), .val (.int p3), .val (.int (0 : Int32)), .val (.int (1 : Int32)), .val (.int (0 : Int32)), .val (.int (1 : Int32)), .val (.ref b101), .val (.ref b120), .val (.ref b173), .val (.ref b230), .val (.ref b230), .val .null, .unset] []))
                refine Go.step (fun _ kt => XS.iloadN X450.here hx rfl (hb hby at_160) rfl (XS.ifYes X450.here hx rfl (pc0 := 161) (pc' := 178) rfl (hb hby at_161) rfl ((if0 _ _).trans (teq (by decide : (0 : Int32) = (0 : Int32))).1) (by decide) (by decide) (XS.iload X450.here hx rfl (hb hby at_178) rfl (XS.ifNo X450.here hx rfl (hb hby at_180) rfl ((if0 _ _).trans (feq (by decide : ¬ ((1 : Int32) = (0 : Int32)))).1) (XS.aload X450.here hx rfl (hb hby at_183) rfl rfl (XS.goto X450.here hx rfl (pc0 := 185) (pc' := 189) rfl (hb hby at_185) (by decide) (by decide) (XS.astore X450.here hx rfl (hb hby at_189) rfl rfl (l' := #[.val (.int p1), .val (.int p2), .val (.int p3), .val (.int (0 : Int32)), .val (.int (1 : Int32)), .val (.int (0 : Int32)), .val (.int (1 : Int32)), .val (.ref b101), .val (.ref b120), .val (.ref b173), .val (.ref b230), .val (.ref b230), .val .null, .val (.ref b120)]) rfl (XS.aload X450.here hx rfl (hb hby at_191) rfl rfl (XS.iloadN X450.here hx rfl (hb hby at_193) rfl (XS.aload X450.here hx rfl (hb hby at_194) rfl rfl kt)))))))))) ?_
                show Go p.tables e below _ (T450.setTop (mkF m 196 #[.val (.int p1), .val (.int p2), .val (.int p3), .val (.int (0 : Int32)), .val (.int (1 : Int32)), .val (.int (0 : Int32)), .val (.int (1 : Int32)), .val (.ref b101), .val (.ref b120), .val (.ref b173), .val (.ref b230), .val (.ref b230), .val .null, .val (.ref b120)] [(.ref b230), (.int (0 : Int32)), (.ref b101)]))
                obtain ⟨cq487, kq487, q487a, q487b, q487c⟩ := isOf hZ rfl P451
                obtain ⟨_, _, ⟨T487, L487, k487, n487⟩, -, X487, ⟨Lc487, hQ487, l487, y487, z487⟩, st487⟩ := X450.virtualBack hx (y := (⟨"com/example/ottawa/ottawa/TagPattern", "follow", "(ZLcom/example/ottawa/ottawa/Name;)V"⟩ : MethodName)) (z := (⟨"com/example/ottawa/ottawa/TagPattern", "follow", "(ZLcom/example/ottawa/ottawa/Name;)V"⟩ : MethodName)) hown (mvT hZ (hw _ (List.mem_of_getElem? (i := 153) rfl))) (mvT hZ (hw _ (List.mem_of_getElem? (i := 154) rfl))) (notFace_of_selects (args := #[]) (mvT hZ (hw _ (List.mem_of_getElem? (i := 156) rfl)))) (mvT hZ (hw _ (List.mem_of_getElem? (i := 156) rfl))) (mvT hZ (hw _ (List.mem_of_getElem? (i := 155) rfl))) (by decide) (backOf (W := 0) (rmf2 l Z a0 hw [] b101 b230 (.ref b120) .null T450.heap n0 Z458 P451 P452 P453 F457 g_b101 (Ne.symm ne_b101_b230)) hZ (hw _ (List.mem_of_getElem? (i := 157) rfl)) (hw _ (List.mem_of_getElem? (i := 3) rfl)) (by decide) (by decide)) q487a q487c (g := (mkF m 196 #[.val (.int p1), .val (.int p2), .val (.int p3), .val (.int (0 : Int32)), .val (.int (1 : Int32)), .val (.int (0 : Int32)), .val (.int (1 : Int32)), .val (.ref b101), .val (.ref b120), .val (.ref b173), .val (.ref b230), .val (.ref b230), .val .null, .val (.ref b120)] [(.ref b230), (.int (0 : Int32)), (.ref b101)])) rfl (by rw [hml]; rfl) (Steps.refl _) (argsL := [(.int (0 : Int32)), (.ref b230)]) (rest := []) (lenOf pd_16 rfl) rfl (by show 2 * 0 + _ ≤ _; exact Nat.le_of_eq rfl) (hb hby at_196) (fun _ _ => ⟨rfl, rfl, (by decide : 30 + 0 ≤ _), (by decide : 225 + 0 ≤ _)⟩)
                dsimp only [Pt.U, Pt.locs, Pt.cells, Pt.slots] at X487 l487 y487 z487 st487 hQ487
                subst l487 y487 z487
                obtain ⟨rfl, N487q, Kq487, P488, P489, P490⟩ := hQ487
                have F491 : Exa Z T487.heap b101 "com/example/ottawa/ottawa/TagPattern" := (P451.keep Kq487)
                have F492 : Exa Z T487.heap b120 "com/example/ottawa/ottawa/KeptName" := (F455.keep Kq487)
                have F493 : Exa Z T487.heap b173 "com/example/ottawa/ottawa/KeptName" := (F456.keep Kq487)
                have F494 : Exa Z T487.heap b230 "com/example/ottawa/ottawa/Name" := (F457.keep Kq487)
                have Z495 : n0 ≤ T487.heap.size := (Nat.le_trans Z458 Kq487.1)
                have hk496 : _ ≤ T487.heap.size := (Nat.le_trans hk459 Kq487.1)
                have C497 := (C460.trans (CHr.keep Kq487 (by intro x hx; cases List.mem_singleton.mp hx; exact (Safe.exa hZ.alike P451 (by decide) (by decide))) C460.1))
                have N487 := Fr.app N450 N487q
                refine Go.step (fun _ kt => st487.trans kt) ?_
                show Go p.tables e below _ (T487.setTop (mkF m 199 #[.val (.int p1), .val (.int p2), .val (.int p3), .val (.int (0 : Int32)), .val (.int (1 : Int32)), .val (.int (0 : Int32)), .val (.int (1 : Int32)), .val (.ref b101), .val (.ref b120), .val (.ref b173), .val (.ref b230), .val (.ref b230), .val .null, .val (.ref b120)] []))
                refine Go.step (fun _ kt => XS.aload X487.here hx rfl (hb hby at_199) rfl rfl (XS.iloadN X487.here hx rfl (hb hby at_201) rfl kt)) ?_
                show Go p.tables e below _ (T487.setTop (mkF m 202 #[.val (.int p1), .val (.int p2), .val (.int p3), .val (.int (0 : Int32)), .val (.int (1 : Int32)), .val (.int (0 : Int32)), .val (.int (1 : Int32)), .val (.ref b101), .val (.ref b120), .val (.ref b173), .val (.ref b230), .val (.ref b230), .val .null, .val (.ref b120)] [(.int (0 : Int32)), (.ref b101)]))
                obtain ⟨cq498, kq498, q498a, q498b, q498c⟩ := isOf hZ rfl P488
                obtain ⟨_, _, ⟨T498, L498, k498, n498⟩, -, X498, ⟨Lc498, hQ498, l498, y498, z498⟩, st498⟩ := X487.virtualBack hx (y := (⟨"com/example/ottawa/ottawa/TagPattern", "following", "(Z)Lcom/example/ottawa/ottawa/KeptName;"⟩ : MethodName)) (z := (⟨"com/example/ottawa/ottawa/TagPattern", "following", "(Z)Lcom/example/ottawa/ottawa/KeptName;"⟩ : MethodName)) hown (mvT hZ (hw _ (List.mem_of_getElem? (i := 163) rfl))) (mvT hZ (hw _ (List.mem_of_getElem? (i := 164) rfl))) (notFace_of_selects (args := #[]) (mvT hZ (hw _ (List.mem_of_getElem? (i := 166) rfl)))) (mvT hZ (hw _ (List.mem_of_getElem? (i := 166) rfl))) (mvT hZ (hw _ (List.mem_of_getElem? (i := 165) rfl))) (by decide) (backOf (W := 0) (rmg3 l Z a0 hw [] b101  T487.heap n0 Z495 P490 ) hZ (hw _ (List.mem_of_getElem? (i := 167) rfl)) (hw _ (List.mem_of_getElem? (i := 3) rfl)) (by decide) (by decide)) q498a q498c (g := (mkF m 202 #[.val (.int p1), .val (.int p2), .val (.int p3), .val (.int (0 : Int32)), .val (.int (1 : Int32)), .val (.int (0 : Int32)), .val (.int (1 : Int32)), .val (.ref b101), .val (.ref b120), .val (.ref b173), .val (.ref b230), .val (.ref b230), .val .null, .val (.ref b120)] [(.int (0 : Int32)), (.ref b101)])) rfl (by rw [hml]; rfl) (Steps.refl _) (argsL := [(.int (0 : Int32))]) (rest := []) (lenOf pd_17 rfl) rfl (by show 2 * 0 + _ ≤ _; exact Nat.le_of_eq rfl) (hb hby at_202) (fun _ _ => ⟨rfl, rfl, (by decide : 30 + 0 ≤ _), (by decide : 225 + 0 ≤ _)⟩)
                dsimp only [Pt.U, Pt.locs, Pt.cells, Pt.slots] at X498 l498 y498 z498 st498 hQ498
                subst l498 y498 z498
                obtain ⟨rfl, N498q, eh498⟩ := hQ498
                have N498 := Fr.app N487 N498q
                refine Go.step (fun _ kt => st498.trans kt) ?_
                show Go p.tables e below _ (T498.setTop (mkF m 205 #[.val (.int p1), .val (.int p2), .val (.int p3), .val (.int (0 : Int32)), .val (.int (1 : Int32)), .val (.int (0 : Int32)), .val (.int (1 : Int32)), .val (.ref b101), .val (.ref b120), .val (.ref b173), .val (.ref b230), .val (.ref b230), .val .null, .val (.ref b120)] [.null]))
                refine Go.step (fun _ kt => XS.aload X498.here hx rfl (hb hby at_205) rfl rfl kt) ?_
                show Go p.tables e below _ (T498.setTop (mkF m 207 #[.val (.int p1), .val (.int p2), .val (.int p3), .val (.int (0 : Int32)), .val (.int (1 : Int32)), .val (.int (0 : Int32)), .val (.int (1 : Int32)), .val (.ref b101), .val (.ref b120), .val (.ref b173), .val (.ref b230), .val (.ref b230), .val .null, .val (.ref b120)] [.null, .null]))
                refine Go.step (fun _ kt => Jvm.RoadKit.acmp (g := (mkF m 207 #[.val (.int p1), .val (.int p2), .val (.int p3), .val (.int (0 : Int32)), .val (.int (1 : Int32)), .val (.int (0 : Int32)), .val (.int (1 : Int32)), .val (.ref b101), .val (.ref b120), .val (.ref b173), .val (.ref b230), .val (.ref b230), .val .null, .val (.ref b120)] [.null, .null])) X498 hx rfl rfl rfl (pc0 := 207) (pc' := 210) (same := true) rfl (hb hby at_207) rfl (decide_eq_true rfl) (by decide) (by decide) kt) ?_
                show Go p.tables e below _ (T498.setTop (mkF m 210 #[.val (.int p1), .val (.int p2), .val (.int p3), .val (.int (0 : Int32)), .val (.int (1 : Int32)), .val (.int (0 : Int32)), .val (.int (1 : Int32)), .val (.ref b101), .val (.ref b120), .val (.ref b173), .val (.ref b230), .val (.ref b230), .val .null, .val (.ref b120)] []))
                refine Go.step (fun _ kt => XS.aload X498.here hx rfl (hb hby at_210) rfl rfl (XS.iloadN X498.here hx rfl (hb hby at_212) rfl (XS.ifNo X498.here hx rfl (hb hby at_213) rfl ((if0 _ _).trans (teq (by decide : (0 : Int32) = (0 : Int32))).2) (XS.iconst X498.here hx rfl (hb hby at_216) (XS.goto X498.here hx rfl (pc0 := 217) (pc' := 221) rfl (hb hby at_217) (by decide) (by decide) kt))))) ?_
                show Go p.tables e below _ (T498.setTop (mkF m 221 #[.val (.int p1), .val (.int p2), .val (.int p3), .val (.int (0 : Int32)), .val (.int (1 : Int32)), .val (.int (0 : Int32)), .val (.int (1 : Int32)), .val (.ref b101), .val (.ref b120), .val (.ref b173), .val (.ref b230), .val (.ref b230), .val .null, .val (.ref b120)] [(.int (1 : Int32)), (.ref b101)]))
                obtain ⟨cq499, kq499, q499a, q499b, q499c⟩ := isOf hZ eh498 P488
                obtain ⟨_, _, ⟨T499, L499, k499, n499⟩, -, X499, ⟨Lc499, hQ499, l499, y499, z499⟩, st499⟩ := X498.virtualBack hx (y := (⟨"com/example/ottawa/ottawa/TagPattern", "following", "(Z)Lcom/example/ottawa/ottawa/KeptName;"⟩ : MethodName)) (z := (⟨"com/example/ottawa/ottawa/TagPattern", "following", "(Z)Lcom/example/ottawa/ottawa/KeptName;"⟩ : MethodName)) hown (mvT hZ (hw _ (List.mem_of_getElem? (i := 163) rfl))) (mvT hZ (hw _ (List.mem_of_getElem? (i := 164) rfl))) (notFace_of_selects (args := #[]) (mvT hZ (hw _ (List.mem_of_getElem? (i := 166) rfl)))) (mvT hZ (hw _ (List.mem_of_getElem? (i := 166) rfl))) (mvT hZ (hw _ (List.mem_of_getElem? (i := 165) rfl))) (by decide) (backOf (W := 0) (rmg2 l Z a0 hw [] b101 b120 T487.heap n0 Z495 P489 ) hZ (hw _ (List.mem_of_getElem? (i := 167) rfl)) (hw _ (List.mem_of_getElem? (i := 3) rfl)) (by decide) (by decide)) q499a q499c (g := (mkF m 221 #[.val (.int p1), .val (.int p2), .val (.int p3), .val (.int (0 : Int32)), .val (.int (1 : Int32)), .val (.int (0 : Int32)), .val (.int (1 : Int32)), .val (.ref b101), .val (.ref b120), .val (.ref b173), .val (.ref b230), .val (.ref b230), .val .null, .val (.ref b120)] [(.int (1 : Int32)), (.ref b101)])) rfl (by rw [hml]; rfl) (Steps.refl _) (argsL := [(.int (1 : Int32))]) (rest := []) (lenOf pd_17 rfl) rfl (by show 2 * 0 + _ ≤ _; exact Nat.le_of_eq rfl) (hb hby at_221) (fun _ _ => ⟨rfl, eh498, (by decide : 30 + 0 ≤ _), (by decide : 225 + 0 ≤ _)⟩)
                dsimp only [Pt.U, Pt.locs, Pt.cells, Pt.slots] at X499 l499 y499 z499 st499 hQ499
                subst l499 y499 z499
                obtain ⟨rfl, N499q, eh499⟩ := hQ499
                have N499 := Fr.app N498 N499q
                refine Go.step (fun _ kt => st499.trans kt) ?_
                show Go p.tables e below _ (T499.setTop (mkF m 224 #[.val (.int p1), .val (.int p2), .val (.int p3), .val (.int (0 : Int32)), .val (.int (1 : Int32)), .val (.int (0 : Int32)), .val (.int (1 : Int32)), .val (.ref b101), .val (.ref b120), .val (.ref b173), .val (.ref b230), .val (.ref b230), .val .null, .val (.ref b120)] [(.ref b120)]))
                refine Go.step (fun _ kt => XS.aload X499.here hx rfl (hb hby at_224) rfl rfl kt) ?_
                show Go p.tables e below _ (T499.setTop (mkF m 226 #[.val (.int p1), .val (.int p2), .val (.int p3), .val (.int (0 : Int32)), .val (.int (1 : Int32)), .val (.int (0 : Int32)), .val (.int (1 : Int32)), .val (.ref b101), .val (.ref b120), .val (.ref b173), .val (.ref b230), .val (.ref b230), .val .null, .val (.ref b120)] [(.ref b120), (.ref b120)]))
                refine Go.step (fun _ kt => Jvm.RoadKit.acmp (g := (mkF m 226 #[.val (.int p1), .val (.int p2), .val (.int p3), .val (.int (0 : Int32)), .val (.int (1 : Int32)), .val (.int (0 : Int32)), .val (.int (1 : Int32)), .val (.ref b101), .val (.ref b120), .val (.ref b173), .val (.ref b230), .val (.ref b230), .val .null, .val (.ref b120)] [(.ref b120), (.ref b120)])) X499 hx rfl rfl rfl (pc0 := 226) (pc' := 229) (same := true) rfl (hb hby at_226) rfl (decide_eq_true rfl) (by decide) (by decide) kt) ?_
                show Go p.tables e below _ (T499.setTop (mkF m 229 #[.val (.int p1), .val (.int p2), .val (.int p3), .val (.int (0 : Int32)), .val (.int (1 : Int32)), .val (.int (0 : Int32)), .val (.int (1 : Int32)), .val (.ref b101), .val (.ref b120), .val (.ref b173), .val (.ref b230), .val (.ref b230), .val .null, .val (.ref b120)] []))
                refine Go.step (fun _ kt => XS.iconst X499.here hx rfl (hb hby at_229) (XS.goto X499.here hx rfl (pc0 := 230) (pc' := 234) rfl (hb hby at_230) (by decide) (by decide) kt)) ?_
                show Go p.tables e below _ (T499.setTop (mkF m 234 #[.val (.int p1), .val (.int p2), .val (.int p3), .val (.int (0 : Int32)), .val (.int (1 : Int32)), .val (.int (0 : Int32)), .val (.int (1 : Int32)), .val (.ref b101), .val (.ref b120), .val (.ref b173), .val (.ref b230), .val (.ref b230), .val .null, .val (.ref b120)] [(.int (1 : Int32))]))
                obtain ⟨fs, hr, hrun, hended, hRW⟩ := X499.leaveW hS266 (by rw [eh499]; exact hk496) (v := some (.int (1 : Int32))) (fun h => by rw [Bd.returns] at h; cases h)
                refine ⟨_, _, retN X499 hx (t := .boolean) Bd.returns (by simp) (hb hby at_234) hr, hrun, hended, _, _, rfl, ?_, (by have q := C497.trans (CHv.at X499 hZ (own_EW hw) C497.1); rw [hh]; rw [← eh499] at q; exact q), hRW.1, hRW.2.1, hRW.2.2.1, hRW.2.2.2.mono (by decide) (by decide)⟩
                show Qrm0 Z p1 p2 p3 cs h0 n0 _ T499.heap _
                rw [eh499]
                exact ⟨rfl, N499⟩
              · rw [hq]
                show Go p.tables e below _ (T450.setTop (mkF m 160 #[.val (.int p1), .val (.int p2), .val (.int p3), .val (.int (1 : Int32)), .val (.int (1 : Int32)), .val (.int (0 : Int32)), .val (.int (1 : Int32)), .val (.ref b101), .val (.ref b120), .val (.ref b173), .val (.ref b230), .val (.ref b230), .val .null, .unset] []))
                refine Go.step (fun _ kt => XS.iloadN X450.here hx rfl (hb hby at_160) rfl (XS.ifNo X450.here hx rfl (hb hby at_161) rfl ((if0 _ _).trans (feq (by decide : ¬ ((1 : Int32) = (0 : Int32)))).1) (XS.iload X450.here hx rfl (hb hby at_164) rfl (XS.ifYes X450.here hx rfl (pc0 := 166) (pc' := 174) rfl (hb hby at_166) rfl ((if0 _ _).trans (teq (by decide : (0 : Int32) = (0 : Int32))).1) (by decide) (by decide) (XS.aconstNull X450.here hx rfl (hb hby at_174) (XS.goto X450.here hx rfl (pc0 := 175) (pc' := 189) rfl (hb hby at_175) (by decide) (by decide) (XS.astore X450.here hx rfl (hb hby at_189) rfl rfl (l' := #[.val (.int p1), .val (.int p2), .val (.int p3), .val (.int (1 : Int32)), .val (.int (1 : Int32)), .val (.int (0 : Int32)), .val (.int (1 : Int32)), .val (.ref b101), .val (.ref b120), .val (.ref b173), .val (.ref b230), .val (.ref b230), .val .null, .val .null]) rfl (XS.aload X450.here hx rfl (hb hby at_191) rfl rfl (XS.iloadN X450.here hx rfl (hb hby at_193) rfl (XS.aload X450.here hx rfl (hb hby at_194) rfl rfl kt)))))))))) ?_
                show Go p.tables e below _ (T450.setTop (mkF m 196 #[.val (.int p1), .val (.int p2), .val (.int p3), .val (.int (1 : Int32)), .val (.int (1 : Int32)), .val (.int (0 : Int32)), .val (.int (1 : Int32)), .val (.ref b101), .val (.ref b120), .val (.ref b173), .val (.ref b230), .val (.ref b230), .val .null, .val .null] [(.ref b230), (.int (1 : Int32)), (.ref b101)]))
                obtain ⟨cq500, kq500, q500a, q500b, q500c⟩ := isOf hZ rfl P451
                obtain ⟨_, _, ⟨T500, L500, k500, n500⟩, -, X500, ⟨Lc500, hQ500, l500, y500, z500⟩, st500⟩ := X450.virtualBack hx (y := (⟨"com/example/ottawa/ottawa/TagPattern", "follow", "(ZLcom/example/ottawa/ottawa/Name;)V"⟩ : MethodName)) (z := (⟨"com/example/ottawa/ottawa/TagPattern", "follow", "(ZLcom/example/ottawa/ottawa/Name;)V"⟩ : MethodName)) hown (mvT hZ (hw _ (List.mem_of_getElem? (i := 153) rfl))) (mvT hZ (hw _ (List.mem_of_getElem? (i := 154) rfl))) (notFace_of_selects (args := #[]) (mvT hZ (hw _ (List.mem_of_getElem? (i := 156) rfl)))) (mvT hZ (hw _ (List.mem_of_getElem? (i := 156) rfl))) (mvT hZ (hw _ (List.mem_of_getElem? (i := 155) rfl))) (by decide) (backOf (W := 0) (rmf3 l Z a0 hw [] b101 b230 (.ref b120) .null T450.heap n0 Z458 P451 P452 P453 F457 g_b101 (Ne.symm ne_b101_b230)) hZ (hw _ (List.mem_of_getElem? (i := 157) rfl)) (hw _ (List.mem_of_getElem? (i := 3) rfl)) (by decide) (by decide)) q500a q500c (g := (mkF m 196 #[.val (.int p1), .val (.int p2), .val (.int p3), .val (.int (1 : Int32)), .val (.int (1 : Int32)), .val (.int (0 : Int32)), .val (.int (1 : Int32)), .val (.ref b101), .val (.ref b120), .val (.ref b173), .val (.ref b230), .val (.ref b230), .val .null, .val .null] [(.ref b230), (.int (1 : Int32)), (.ref b101)])) rfl (by rw [hml]; rfl) (Steps.refl _) (argsL := [(.int (1 : Int32)), (.ref b230)]) (rest := []) (lenOf pd_16 rfl) rfl (by show 2 * 0 + _ ≤ _; exact Nat.le_of_eq rfl) (hb hby at_196) (fun _ _ => ⟨rfl, rfl, (by decide : 30 + 0 ≤ _), (by decide : 225 + 0 ≤ _)⟩)
                dsimp only [Pt.U, Pt.locs, Pt.cells, Pt.slots] at X500 l500 y500 z500 st500 hQ500
                subst l500 y500 z500
                obtain ⟨rfl, N500q, Kq500, P501, P502, P503⟩ := hQ500
                have F504 : Exa Z T500.heap b101 "com/example/ottawa/ottawa/TagPattern" := (P451.keep Kq500)
                have F505 : Exa Z T500.heap b120 "com/example/ottawa/ottawa/KeptName" := (F455.keep Kq500)
                have F506 : Exa Z T500.heap b173 "com/example/ottawa/ottawa/KeptName" := (F456.keep Kq500)
                have F507 : Exa Z T500.heap b230 "com/example/ottawa/ottawa/Name" := (F457.keep Kq500)
                have Z508 : n0 ≤ T500.heap.size := (Nat.le_trans Z458 Kq500.1)
                have hk509 : _ ≤ T500.heap.size := (Nat.le_trans hk459 Kq500.1)
                have C510 := (C460.trans (CHr.keep Kq500 (by intro x hx; cases List.mem_singleton.mp hx; exact (Safe.exa hZ.alike P451 (by decide) (by decide))) C460.1))
                have N500 := Fr.app N450 N500q
                refine Go.step (fun _ kt => st500.trans kt) ?_
                show Go p.tables e below _ (T500.setTop (mkF m 199 #[.val (.int p1), .val (.int p2), .val (.int p3), .val (.int (1 : Int32)), .val (.int (1 : Int32)), .val (.int (0 : Int32)), .val (.int (1 : Int32)), .val (.ref b101), .val (.ref b120), .val (.ref b173), .val (.ref b230), .val (.ref b230), .val .null, .val .null] []))
                refine Go.step (fun _ kt => XS.aload X500.here hx rfl (hb hby at_199) rfl rfl (XS.iloadN X500.here hx rfl (hb hby at_201) rfl kt)) ?_
                show Go p.tables e below _ (T500.setTop (mkF m 202 #[.val (.int p1), .val (.int p2), .val (.int p3), .val (.int (1 : Int32)), .val (.int (1 : Int32)), .val (.int (0 : Int32)), .val (.int (1 : Int32)), .val (.ref b101), .val (.ref b120), .val (.ref b173), .val (.ref b230), .val (.ref b230), .val .null, .val .null] [(.int (1 : Int32)), (.ref b101)]))
                obtain ⟨cq511, kq511, q511a, q511b, q511c⟩ := isOf hZ rfl P501
                obtain ⟨_, _, ⟨T511, L511, k511, n511⟩, -, X511, ⟨Lc511, hQ511, l511, y511, z511⟩, st511⟩ := X500.virtualBack hx (y := (⟨"com/example/ottawa/ottawa/TagPattern", "following", "(Z)Lcom/example/ottawa/ottawa/KeptName;"⟩ : MethodName)) (z := (⟨"com/example/ottawa/ottawa/TagPattern", "following", "(Z)Lcom/example/ottawa/ottawa/KeptName;"⟩ : MethodName)) hown (mvT hZ (hw _ (List.mem_of_getElem? (i := 163) rfl))) (mvT hZ (hw _ (List.mem_of_getElem? (i := 164) rfl))) (notFace_of_selects (args := #[]) (mvT hZ (hw _ (List.mem_of_getElem? (i := 166) rfl)))) (mvT hZ (hw _ (List.mem_of_getElem? (i := 166) rfl))) (mvT hZ (hw _ (List.mem_of_getElem? (i := 165) rfl))) (by decide) (backOf (W := 0) (rmg1 l Z a0 hw [] b101  T500.heap n0 Z508 P502 ) hZ (hw _ (List.mem_of_getElem? (i := 167) rfl)) (hw _ (List.mem_of_getElem? (i := 3) rfl)) (by decide) (by decide)) q511a q511c (g := (mkF m 202 #[.val (.int p1), .val (.int p2), .val (.int p3), .val (.int (1 : Int32)), .val (.int (1 : Int32)), .val (.int (0 : Int32)), .val (.int (1 : Int32)), .val (.ref b101), .val (.ref b120), .val (.ref b173), .val (.ref b230), .val (.ref b230), .val .null, .val .null] [(.int (1 : Int32)), (.ref b101)])) rfl (by rw [hml]; rfl) (Steps.refl _) (argsL := [(.int (1 : Int32))]) (rest := []) (lenOf pd_17 rfl) rfl (by show 2 * 0 + _ ≤ _; exact Nat.le_of_eq rfl) (hb hby at_202) (fun _ _ => ⟨rfl, rfl, (by decide : 30 + 0 ≤ _), (by decide : 225 + 0 ≤ _)⟩)
                dsimp only [Pt.U, Pt.locs, Pt.cells, Pt.slots] at X511 l511 y511 z511 st511 hQ511
                subst l511 y511 z511
                obtain ⟨rfl, N511q, eh511⟩ := hQ511
                have N511 := Fr.app N500 N511q
                refine Go.step (fun _ kt => st511.trans kt) ?_
                show Go p.tables e below _ (T511.setTop (mkF m 205 #[.val (.int p1), .val (.int p2), .val (.int p3), .val (.int (1 : Int32)), .val (.int (1 : Int32)), .val (.int (0 : Int32)), .val (.int (1 : Int32)), .val (.ref b101), .val (.ref b120), .val (.ref b173), .val (.ref b230), .val (.ref b230), .val .null, .val .null] [.null]))
                refine Go.step (fun _ kt => XS.aload X511.here hx rfl (hb hby at_205) rfl rfl kt) ?_
                show Go p.tables e below _ (T511.setTop (mkF m 207 #[.val (.int p1), .val (.int p2), .val (.int p3), .val (.int (1 : Int32)), .val (.int (1 : Int32)), .val (.int (0 : Int32)), .val (.int (1 : Int32)), .val (.ref b101), .val (.ref b120), .val (.ref b173), .val (.ref b230), .val (.ref b230), .val .null, .val .null] [.null, .null]))
                refine Go.step (fun _ kt => Jvm.RoadKit.acmp (g := (mkF m 207 #[.val (.int p1), .val (.int p2), .val (.int p3), .val (.int (1 : Int32)), .val (.int (1 : Int32)), .val (.int (0 : Int32)), .val (.int (1 : Int32)), .val (.ref b101), .val (.ref b120), .val (.ref b173), .val (.ref b230), .val (.ref b230), .val .null, .val .null] [.null, .null])) X511 hx rfl rfl rfl (pc0 := 207) (pc' := 210) (same := true) rfl (hb hby at_207) rfl (decide_eq_true rfl) (by decide) (by decide) kt) ?_
                show Go p.tables e below _ (T511.setTop (mkF m 210 #[.val (.int p1), .val (.int p2), .val (.int p3), .val (.int (1 : Int32)), .val (.int (1 : Int32)), .val (.int (0 : Int32)), .val (.int (1 : Int32)), .val (.ref b101), .val (.ref b120), .val (.ref b173), .val (.ref b230), .val (.ref b230), .val .null, .val .null] []))
                refine Go.step (fun _ kt => XS.aload X511.here hx rfl (hb hby at_210) rfl rfl (XS.iloadN X511.here hx rfl (hb hby at_212) rfl (XS.ifYes X511.here hx rfl (pc0 := 213) (pc' := 220) rfl (hb hby at_213) rfl ((if0 _ _).trans (feq (by decide : ¬ ((1 : Int32) = (0 : Int32)))).2) (by decide) (by decide) (XS.iconst X511.here hx rfl (hb hby at_220) kt)))) ?_
                show Go p.tables e below _ (T511.setTop (mkF m 221 #[.val (.int p1), .val (.int p2), .val (.int p3), .val (.int (1 : Int32)), .val (.int (1 : Int32)), .val (.int (0 : Int32)), .val (.int (1 : Int32)), .val (.ref b101), .val (.ref b120), .val (.ref b173), .val (.ref b230), .val (.ref b230), .val .null, .val .null] [(.int (0 : Int32)), (.ref b101)]))
                obtain ⟨cq512, kq512, q512a, q512b, q512c⟩ := isOf hZ eh511 P501
                obtain ⟨_, _, ⟨T512, L512, k512, n512⟩, -, X512, ⟨Lc512, hQ512, l512, y512, z512⟩, st512⟩ := X511.virtualBack hx (y := (⟨"com/example/ottawa/ottawa/TagPattern", "following", "(Z)Lcom/example/ottawa/ottawa/KeptName;"⟩ : MethodName)) (z := (⟨"com/example/ottawa/ottawa/TagPattern", "following", "(Z)Lcom/example/ottawa/ottawa/KeptName;"⟩ : MethodName)) hown (mvT hZ (hw _ (List.mem_of_getElem? (i := 163) rfl))) (mvT hZ (hw _ (List.mem_of_getElem? (i := 164) rfl))) (notFace_of_selects (args := #[]) (mvT hZ (hw _ (List.mem_of_getElem? (i := 166) rfl)))) (mvT hZ (hw _ (List.mem_of_getElem? (i := 166) rfl))) (mvT hZ (hw _ (List.mem_of_getElem? (i := 165) rfl))) (by decide) (backOf (W := 0) (rmg3 l Z a0 hw [] b101  T500.heap n0 Z508 P503 ) hZ (hw _ (List.mem_of_getElem? (i := 167) rfl)) (hw _ (List.mem_of_getElem? (i := 3) rfl)) (by decide) (by decide)) q512a q512c (g := (mkF m 221 #[.val (.int p1), .val (.int p2), .val (.int p3), .val (.int (1 : Int32)), .val (.int (1 : Int32)), .val (.int (0 : Int32)), .val (.int (1 : Int32)), .val (.ref b101), .val (.ref b120), .val (.ref b173), .val (.ref b230), .val (.ref b230), .val .null, .val .null] [(.int (0 : Int32)), (.ref b101)])) rfl (by rw [hml]; rfl) (Steps.refl _) (argsL := [(.int (0 : Int32))]) (rest := []) (lenOf pd_17 rfl) rfl (by show 2 * 0 + _ ≤ _; exact Nat.le_of_eq rfl) (hb hby at_221) (fun _ _ => ⟨rfl, eh511, (by decide : 30 + 0 ≤ _), (by decide : 225 + 0 ≤ _)⟩)
                dsimp only [Pt.U, Pt.locs, Pt.cells, Pt.slots] at X512 l512 y512 z512 st512 hQ512
                subst l512 y512 z512
                obtain ⟨rfl, N512q, eh512⟩ := hQ512
                have N512 := Fr.app N511 N512q
                refine Go.step (fun _ kt => st512.trans kt) ?_
                show Go p.tables e below _ (T512.setTop (mkF m 224 #[.val (.int p1), .val (.int p2), .val (.int p3), .val (.int (1 : Int32)), .val (.int (1 : Int32)), .val (.int (0 : Int32)), .val (.int (1 : Int32)), .val (.ref b101), .val (.ref b120), .val (.ref b173), .val (.ref b230), .val (.ref b230), .val .null, .val .null] [.null]))
                refine Go.step (fun _ kt => XS.aload X512.here hx rfl (hb hby at_224) rfl rfl kt) ?_
                show Go p.tables e below _ (T512.setTop (mkF m 226 #[.val (.int p1), .val (.int p2), .val (.int p3), .val (.int (1 : Int32)), .val (.int (1 : Int32)), .val (.int (0 : Int32)), .val (.int (1 : Int32)), .val (.ref b101), .val (.ref b120), .val (.ref b173), .val (.ref b230), .val (.ref b230), .val .null, .val .null] [.null, .null]))
                refine Go.step (fun _ kt => Jvm.RoadKit.acmp (g := (mkF m 226 #[.val (.int p1), .val (.int p2), .val (.int p3), .val (.int (1 : Int32)), .val (.int (1 : Int32)), .val (.int (0 : Int32)), .val (.int (1 : Int32)), .val (.ref b101), .val (.ref b120), .val (.ref b173), .val (.ref b230), .val (.ref b230), .val .null, .val .null] [.null, .null])) X512 hx rfl rfl rfl (pc0 := 226) (pc' := 229) (same := true) rfl (hb hby at_226) rfl (decide_eq_true rfl) (by decide) (by decide) kt) ?_
                show Go p.tables e below _ (T512.setTop (mkF m 229 #[.val (.int p1), .val (.int p2), .val (.int p3), .val (.int (1 : Int32)), .val (.int (1 : Int32)), .val (.int (0 : Int32)), .val (.int (1 : Int32)), .val (.ref b101), .val (.ref b120), .val (.ref b173), .val (.ref b230), .val (.ref b230), .val .null, .val .null] []))
                refine Go.step (fun _ kt => XS.iconst X512.here hx rfl (hb hby at_229) (XS.goto X512.here hx rfl (pc0 := 230) (pc' := 234) rfl (hb hby at_230) (by decide) (by decide) kt)) ?_
                show Go p.tables e below _ (T512.setTop (mkF m 234 #[.val (.int p1), .val (.int p2), .val (.int p3), .val (.int (1 : Int32)), .val (.int (1 : Int32)), .val (.int (0 : Int32)), .val (.int (1 : Int32)), .val (.ref b101), .val (.ref b120), .val (.ref b173), .val (.ref b230), .val (.ref b230), .val .null, .val .null] [(.int (1 : Int32))]))
                obtain ⟨fs, hr, hrun, hended, hRW⟩ := X512.leaveW hS266 (by rw [eh512]; exact hk509) (v := some (.int (1 : Int32))) (fun h => by rw [Bd.returns] at h; cases h)
                refine ⟨_, _, retN X512 hx (t := .boolean) Bd.returns (by simp) (hb hby at_234) hr, hrun, hended, _, _, rfl, ?_, (by have q := C510.trans (CHv.at X512 hZ (own_EW hw) C510.1); rw [hh]; rw [← eh512] at q; exact q), hRW.1, hRW.2.1, hRW.2.2.1, hRW.2.2.2.mono (by decide) (by decide)⟩
                show Qrm0 Z p1 p2 p3 cs h0 n0 _ T512.heap _
                rw [eh512]
                exact ⟨rfl, N512⟩
            · rw [hq]
              show Go p.tables e below _ (T450.setTop (mkF m 123 #[.val (.int p1), .val (.int p2), .val (.int p3), .val (.int bi), .val (.int (1 : Int32)), .val (.int (0 : Int32)), .val (.int (2 : Int32)), .val (.ref b101), .val (.ref b120), .val (.ref b173), .val (.ref b230), .unset, .unset, .unset] []))
              refine Go.step (fun _ kt => XS.iload X450.here hx rfl (hb hby at_123) rfl (XS.ifYes X450.here hx rfl (pc0 := 125) (pc' := 133) rfl (hb hby at_125) rfl ((if0 _ _).trans (feq (by decide : ¬ ((2 : Int32) = (0 : Int32)))).2) (by decide) (by decide) (XS.iload X450.here hx rfl (hb hby at_133) rfl (XS.iconst X450.here hx rfl (hb hby at_135) (XS.icmpYes X450.here hx rfl (pc0 := 136) (pc' := 144) rfl (hb hby at_136) rfl (feq (by decide : ¬ ((2 : Int32) = (1 : Int32)))).2 (by decide) (by decide) (XS.aconstNull X450.here hx rfl (hb hby at_144) (XS.astore X450.here hx rfl (hb hby at_145) rfl rfl (l' := #[.val (.int p1), .val (.int p2), .val (.int p3), .val (.int bi), .val (.int (1 : Int32)), .val (.int (0 : Int32)), .val (.int (2 : Int32)), .val (.ref b101), .val (.ref b120), .val (.ref b173), .val (.ref b230), .val .null, .unset, .unset]) rfl (XS.iload X450.here hx rfl (hb hby at_147) rfl (XS.ifYes X450.here hx rfl (pc0 := 149) (pc' := 157) rfl (hb hby at_149) rfl ((if0 _ _).trans (feq (by decide : ¬ ((2 : Int32) = (0 : Int32)))).2) (by decide) (by decide) (XS.aconstNull X450.here hx rfl (hb hby at_157) (XS.astore X450.here hx rfl (hb hby at_158) rfl rfl (l' := #[.val (.int p1), .val (.int p2), .val (.int p3), .val (.int bi), .val (.int (1 : Int32)), .val (.int (0 : Int32)), .val (.int (2 : Int32)), .val (.ref b101), .val (.ref b120), .val (.ref b173), .val (.ref b230), .val .null, .val .null, .unset]) rfl kt))))))))))) ?_
              show Go p.tables e below _ (T450.setTop (mkF m 160 #[.val (.int p1), .val (.int p2), .val (.int p3), .val (.int bi), .val (.int (1 : Int32)), .val (.int (0 : Int32)), .val (.int (2 : Int32)), .val (.ref b101), .val (.ref b120), .val (.ref b173), .val (.ref b230), .val .null, .val .null, .unset] []))
              rcases h_bi with hq | hq
              · rw [hq]
                show Go p.tables e below _ (T450.setTop (mkF m 160 #[.val (.int p1), .val (.int p2), .val (.int p3), .val (.int (0 : Int32)), .val (.int (1 : Int32)), .val (.int (0 : Int32)), .val (.int (2 : Int32)), .val (.ref b101), .val (.ref b120), .val (.ref b173), .val (.ref b230), .val .null, .val .null, .unset] []))
                refine Go.step (fun _ kt => XS.iloadN X450.here hx rfl (hb hby at_160) rfl (XS.ifYes X450.here hx rfl (pc0 := 161) (pc' := 178) rfl (hb hby at_161) rfl ((if0 _ _).trans (teq (by decide : (0 : Int32) = (0 : Int32))).1) (by decide) (by decide) (XS.iload X450.here hx rfl (hb hby at_178) rfl (XS.ifNo X450.here hx rfl (hb hby at_180) rfl ((if0 _ _).trans (feq (by decide : ¬ ((1 : Int32) = (0 : Int32)))).1) (XS.aload X450.here hx rfl (hb hby at_183) rfl rfl (XS.goto X450.here hx rfl (pc0 := 185) (pc' := 189) rfl (hb hby at_185) (by decide) (by decide) (XS.astore X450.here hx rfl (hb hby at_189) rfl rfl (l' := #[.val (.int p1), .val (.int p2), .val (.int p3), .val (.int (0 : Int32)), .val (.int (1 : Int32)), .val (.int (0 : Int32)), .val (.int (2 : Int32)), .val (.ref b101), .val (.ref b120), .val (.ref b173), .val (.ref b230), .val .null, .val .null, .val (.ref b120)]) rfl (XS.aload X450.here hx rfl (hb hby at_191) rfl rfl (XS.iloadN X450.here hx rfl (hb hby at_193) rfl (XS.aload X450.here hx rfl (hb hby at_194) rfl rfl kt)))))))))) ?_
                show Go p.tables e below _ (T450.setTop (mkF m 196 #[.val (.int p1), .val (.int p2), .val (.int p3), .val (.int (0 : Int32)), .val (.int (1 : Int32)), .val (.int (0 : Int32)), .val (.int (2 : Int32)), .val (.ref b101), .val (.ref b120), .val (.ref b173), .val (.ref b230), .val .null, .val .null, .val (.ref b120)] [.null, (.int (0 : Int32)), (.ref b101)]))
                obtain ⟨cq513, kq513, q513a, q513b, q513c⟩ := isOf hZ rfl P451
                obtain ⟨_, _, ⟨T513, L513, k513, n513⟩, -, X513, ⟨Lc513, hQ513, l513, y513, z513⟩, st513⟩ := X450.virtualBack hx (y := (⟨"com/example/ottawa/ottawa/TagPattern", "follow", "(ZLcom/example/ottawa/ottawa/Name;)V"⟩ : MethodName)) (z := (⟨"com/example/ottawa/ottawa/TagPattern", "follow", "(ZLcom/example/ottawa/ottawa/Name;)V"⟩ : MethodName)) hown (mvT hZ (hw _ (List.mem_of_getElem? (i := 153) rfl))) (mvT hZ (hw _ (List.mem_of_getElem? (i := 154) rfl))) (notFace_of_selects (args := #[]) (mvT hZ (hw _ (List.mem_of_getElem? (i := 156) rfl)))) (mvT hZ (hw _ (List.mem_of_getElem? (i := 156) rfl))) (mvT hZ (hw _ (List.mem_of_getElem? (i := 155) rfl))) (by decide) (backOf (W := 0) (rmf4 l Z a0 hw [] b101 (.ref b120) .null T450.heap n0 Z458 P451 P452 P453 g_b101) hZ (hw _ (List.mem_of_getElem? (i := 157) rfl)) (hw _ (List.mem_of_getElem? (i := 3) rfl)) (by decide) (by decide)) q513a q513c (g := (mkF m 196 #[.val (.int p1), .val (.int p2), .val (.int p3), .val (.int (0 : Int32)), .val (.int (1 : Int32)), .val (.int (0 : Int32)), .val (.int (2 : Int32)), .val (.ref b101), .val (.ref b120), .val (.ref b173), .val (.ref b230), .val .null, .val .null, .val (.ref b120)] [.null, (.int (0 : Int32)), (.ref b101)])) rfl (by rw [hml]; rfl) (Steps.refl _) (argsL := [(.int (0 : Int32)), .null]) (rest := []) (lenOf pd_16 rfl) rfl (by show 2 * 0 + _ ≤ _; exact Nat.le_of_eq rfl) (hb hby at_196) (fun _ _ => ⟨rfl, rfl, (by decide : 30 + 0 ≤ _), (by decide : 225 + 0 ≤ _)⟩)
                dsimp only [Pt.U, Pt.locs, Pt.cells, Pt.slots] at X513 l513 y513 z513 st513 hQ513
                subst l513 y513 z513
                obtain ⟨rfl, N513q, Kq513, P514, P515, P516⟩ := hQ513
                have F517 : Exa Z T513.heap b101 "com/example/ottawa/ottawa/TagPattern" := (P451.keep Kq513)
                have F518 : Exa Z T513.heap b120 "com/example/ottawa/ottawa/KeptName" := (F455.keep Kq513)
                have F519 : Exa Z T513.heap b173 "com/example/ottawa/ottawa/KeptName" := (F456.keep Kq513)
                have F520 : Exa Z T513.heap b230 "com/example/ottawa/ottawa/Name" := (F457.keep Kq513)
                have Z521 : n0 ≤ T513.heap.size := (Nat.le_trans Z458 Kq513.1)
                have hk522 : _ ≤ T513.heap.size := (Nat.le_trans hk459 Kq513.1)
                have C523 := (C460.trans (CHr.keep Kq513 (by intro x hx; cases List.mem_singleton.mp hx; exact (Safe.exa hZ.alike P451 (by decide) (by decide))) C460.1))
                have N513 := Fr.app N450 N513q
                refine Go.step (fun _ kt => st513.trans kt) ?_
                show Go p.tables e below _ (T513.setTop (mkF m 199 #[.val (.int p1), .val (.int p2), .val (.int p3), .val (.int (0 : Int32)), .val (.int (1 : Int32)), .val (.int (0 : Int32)), .val (.int (2 : Int32)), .val (.ref b101), .val (.ref b120), .val (.ref b173), .val (.ref b230), .val .null, .val .null, .val (.ref b120)] []))
                refine Go.step (fun _ kt => XS.aload X513.here hx rfl (hb hby at_199) rfl rfl (XS.iloadN X513.here hx rfl (hb hby at_201) rfl kt)) ?_
                show Go p.tables e below _ (T513.setTop (mkF m 202 #[.val (.int p1), .val (.int p2), .val (.int p3), .val (.int (0 : Int32)), .val (.int (1 : Int32)), .val (.int (0 : Int32)), .val (.int (2 : Int32)), .val (.ref b101), .val (.ref b120), .val (.ref b173), .val (.ref b230), .val .null, .val .null, .val (.ref b120)] [(.int (0 : Int32)), (.ref b101)]))
                obtain ⟨cq524, kq524, q524a, q524b, q524c⟩ := isOf hZ rfl P514
                obtain ⟨_, _, ⟨T524, L524, k524, n524⟩, -, X524, ⟨Lc524, hQ524, l524, y524, z524⟩, st524⟩ := X513.virtualBack hx (y := (⟨"com/example/ottawa/ottawa/TagPattern", "following", "(Z)Lcom/example/ottawa/ottawa/KeptName;"⟩ : MethodName)) (z := (⟨"com/example/ottawa/ottawa/TagPattern", "following", "(Z)Lcom/example/ottawa/ottawa/KeptName;"⟩ : MethodName)) hown (mvT hZ (hw _ (List.mem_of_getElem? (i := 163) rfl))) (mvT hZ (hw _ (List.mem_of_getElem? (i := 164) rfl))) (notFace_of_selects (args := #[]) (mvT hZ (hw _ (List.mem_of_getElem? (i := 166) rfl)))) (mvT hZ (hw _ (List.mem_of_getElem? (i := 166) rfl))) (mvT hZ (hw _ (List.mem_of_getElem? (i := 165) rfl))) (by decide) (backOf (W := 0) (rmg3 l Z a0 hw [] b101  T513.heap n0 Z521 P516 ) hZ (hw _ (List.mem_of_getElem? (i := 167) rfl)) (hw _ (List.mem_of_getElem? (i := 3) rfl)) (by decide) (by decide)) q524a q524c (g := (mkF m 202 #[.val (.int p1), .val (.int p2), .val (.int p3), .val (.int (0 : Int32)), .val (.int (1 : Int32)), .val (.int (0 : Int32)), .val (.int (2 : Int32)), .val (.ref b101), .val (.ref b120), .val (.ref b173), .val (.ref b230), .val .null, .val .null, .val (.ref b120)] [(.int (0 : Int32)), (.ref b101)])) rfl (by rw [hml]; rfl) (Steps.refl _) (argsL := [(.int (0 : Int32))]) (rest := []) (lenOf pd_17 rfl) rfl (by show 2 * 0 + _ ≤ _; exact Nat.le_of_eq rfl) (hb hby at_202) (fun _ _ => ⟨rfl, rfl, (by decide : 30 + 0 ≤ _), (by decide : 225 + 0 ≤ _)⟩)
                dsimp only [Pt.U, Pt.locs, Pt.cells, Pt.slots] at X524 l524 y524 z524 st524 hQ524
                subst l524 y524 z524
                obtain ⟨rfl, N524q, eh524⟩ := hQ524
                have N524 := Fr.app N513 N524q
                refine Go.step (fun _ kt => st524.trans kt) ?_
                show Go p.tables e below _ (T524.setTop (mkF m 205 #[.val (.int p1), .val (.int p2), .val (.int p3), .val (.int (0 : Int32)), .val (.int (1 : Int32)), .val (.int (0 : Int32)), .val (.int (2 : Int32)), .val (.ref b101), .val (.ref b120), .val (.ref b173), .val (.ref b230), .val .null, .val .null, .val (.ref b120)] [.null]))
                refine Go.step (fun _ kt => XS.aload X524.here hx rfl (hb hby at_205) rfl rfl kt) ?_
                show Go p.tables e below _ (T524.setTop (mkF m 207 #[.val (.int p1), .val (.int p2), .val (.int p3), .val (.int (0 : Int32)), .val (.int (1 : Int32)), .val (.int (0 : Int32)), .val (.int (2 : Int32)), .val (.ref b101), .val (.ref b120), .val (.ref b173), .val (.ref b230), .val .null, .val .null, .val (.ref b120)] [.null, .null]))
                refine Go.step (fun _ kt => Jvm.RoadKit.acmp (g := (mkF m 207 #[.val (.int p1), .val (.int p2), .val (.int p3), .val (.int (0 : Int32)), .val (.int (1 : Int32)), .val (.int (0 : Int32)), .val (.int (2 : Int32)), .val (.ref b101), .val (.ref b120), .val (.ref b173), .val (.ref b230), .val .null, .val .null, .val (.ref b120)] [.null, .null])) X524 hx rfl rfl rfl (pc0 := 207) (pc' := 210) (same := true) rfl (hb hby at_207) rfl (decide_eq_true rfl) (by decide) (by decide) kt) ?_
                show Go p.tables e below _ (T524.setTop (mkF m 210 #[.val (.int p1), .val (.int p2), .val (.int p3), .val (.int (0 : Int32)), .val (.int (1 : Int32)), .val (.int (0 : Int32)), .val (.int (2 : Int32)), .val (.ref b101), .val (.ref b120), .val (.ref b173), .val (.ref b230), .val .null, .val .null, .val (.ref b120)] []))
                refine Go.step (fun _ kt => XS.aload X524.here hx rfl (hb hby at_210) rfl rfl (XS.iloadN X524.here hx rfl (hb hby at_212) rfl (XS.ifNo X524.here hx rfl (hb hby at_213) rfl ((if0 _ _).trans (teq (by decide : (0 : Int32) = (0 : Int32))).2) (XS.iconst X524.here hx rfl (hb hby at_216) (XS.goto X524.here hx rfl (pc0 := 217) (pc' := 221) rfl (hb hby at_217) (by decide) (by decide) kt))))) ?_
                show Go p.tables e below _ (T524.setTop (mkF m 221 #[.val (.int p1), .val (.int p2), .val (.int p3), .val (.int (0 : Int32)), .val (.int (1 : Int32)), .val (.int (0 : Int32)), .val (.int (2 : Int32)), .val (.ref b101), .val (.ref b120), .val (.ref b173), .val (.ref b230), .val .null, .val .null, .val (.ref b120)] [(.int (1 : Int32)), (.ref b101)]))
                obtain ⟨cq525, kq525, q525a, q525b, q525c⟩ := isOf hZ eh524 P514
                obtain ⟨_, _, ⟨T525, L525, k525, n525⟩, -, X525, ⟨Lc525, hQ525, l525, y525, z525⟩, st525⟩ := X524.virtualBack hx (y := (⟨"com/example/ottawa/ottawa/TagPattern", "following", "(Z)Lcom/example/ottawa/ottawa/KeptName;"⟩ : MethodName)) (z := (⟨"com/example/ottawa/ottawa/TagPattern", "following", "(Z)Lcom/example/ottawa/ottawa/KeptName;"⟩ : MethodName)) hown (mvT hZ (hw _ (List.mem_of_getElem? (i := 163) rfl))) (mvT hZ (hw _ (List.mem_of_getElem? (i := 164) rfl))) (notFace_of_selects (args := #[]) (mvT hZ (hw _ (List.mem_of_getElem? (i := 166) rfl)))) (mvT hZ (hw _ (List.mem_of_getElem? (i := 166) rfl))) (mvT hZ (hw _ (List.mem_of_getElem? (i := 165) rfl))) (by decide) (backOf (W := 0) (rmg2 l Z a0 hw [] b101 b120 T513.heap n0 Z521 P515 ) hZ (hw _ (List.mem_of_getElem? (i := 167) rfl)) (hw _ (List.mem_of_getElem? (i := 3) rfl)) (by decide) (by decide)) q525a q525c (g := (mkF m 221 #[.val (.int p1), .val (.int p2), .val (.int p3), .val (.int (0 : Int32)), .val (.int (1 : Int32)), .val (.int (0 : Int32)), .val (.int (2 : Int32)), .val (.ref b101), .val (.ref b120), .val (.ref b173), .val (.ref b230), .val .null, .val .null, .val (.ref b120)] [(.int (1 : Int32)), (.ref b101)])) rfl (by rw [hml]; rfl) (Steps.refl _) (argsL := [(.int (1 : Int32))]) (rest := []) (lenOf pd_17 rfl) rfl (by show 2 * 0 + _ ≤ _; exact Nat.le_of_eq rfl) (hb hby at_221) (fun _ _ => ⟨rfl, eh524, (by decide : 30 + 0 ≤ _), (by decide : 225 + 0 ≤ _)⟩)
                dsimp only [Pt.U, Pt.locs, Pt.cells, Pt.slots] at X525 l525 y525 z525 st525 hQ525
                subst l525 y525 z525
                obtain ⟨rfl, N525q, eh525⟩ := hQ525
                have N525 := Fr.app N524 N525q
                refine Go.step (fun _ kt => st525.trans kt) ?_
                show Go p.tables e below _ (T525.setTop (mkF m 224 #[.val (.int p1), .val (.int p2), .val (.int p3), .val (.int (0 : Int32)), .val (.int (1 : Int32)), .val (.int (0 : Int32)), .val (.int (2 : Int32)), .val (.ref b101), .val (.ref b120), .val (.ref b173), .val (.ref b230), .val .null, .val .null, .val (.ref b120)] [(.ref b120)]))
                refine Go.step (fun _ kt => XS.aload X525.here hx rfl (hb hby at_224) rfl rfl kt) ?_
                show Go p.tables e below _ (T525.setTop (mkF m 226 #[.val (.int p1), .val (.int p2), .val (.int p3), .val (.int (0 : Int32)), .val (.int (1 : Int32)), .val (.int (0 : Int32)), .val (.int (2 : Int32)), .val (.ref b101), .val (.ref b120), .val (.ref b173), .val (.ref b230), .val .null, .val .null, .val (.ref b120)] [(.ref b120), (.ref b120)]))
                refine Go.step (fun _ kt => Jvm.RoadKit.acmp (g := (mkF m 226 #[.val (.int p1), .val (.int p2), .val (.int p3), .val (.int (0 : Int32)), .val (.int (1 : Int32)), .val (.int (0 : Int32)), .val (.int (2 : Int32)), .val (.ref b101), .val (.ref b120), .val (.ref b173), .val (.ref b230), .val .null, .val .null, .val (.ref b120)] [(.ref b120), (.ref b120)])) X525 hx rfl rfl rfl (pc0 := 226) (pc' := 229) (same := true) rfl (hb hby at_226) rfl (decide_eq_true rfl) (by decide) (by decide) kt) ?_
                show Go p.tables e below _ (T525.setTop (mkF m 229 #[.val (.int p1), .val (.int p2), .val (.int p3), .val (.int (0 : Int32)), .val (.int (1 : Int32)), .val (.int (0 : Int32)), .val (.int (2 : Int32)), .val (.ref b101), .val (.ref b120), .val (.ref b173), .val (.ref b230), .val .null, .val .null, .val (.ref b120)] []))
                refine Go.step (fun _ kt => XS.iconst X525.here hx rfl (hb hby at_229) (XS.goto X525.here hx rfl (pc0 := 230) (pc' := 234) rfl (hb hby at_230) (by decide) (by decide) kt)) ?_
                show Go p.tables e below _ (T525.setTop (mkF m 234 #[.val (.int p1), .val (.int p2), .val (.int p3), .val (.int (0 : Int32)), .val (.int (1 : Int32)), .val (.int (0 : Int32)), .val (.int (2 : Int32)), .val (.ref b101), .val (.ref b120), .val (.ref b173), .val (.ref b230), .val .null, .val .null, .val (.ref b120)] [(.int (1 : Int32))]))
                obtain ⟨fs, hr, hrun, hended, hRW⟩ := X525.leaveW hS266 (by rw [eh525]; exact hk522) (v := some (.int (1 : Int32))) (fun h => by rw [Bd.returns] at h; cases h)
                refine ⟨_, _, retN X525 hx (t := .boolean) Bd.returns (by simp) (hb hby at_234) hr, hrun, hended, _, _, rfl, ?_, (by have q := C523.trans (CHv.at X525 hZ (own_EW hw) C523.1); rw [hh]; rw [← eh525] at q; exact q), hRW.1, hRW.2.1, hRW.2.2.1, hRW.2.2.2.mono (by decide) (by decide)⟩
                show Qrm0 Z p1 p2 p3 cs h0 n0 _ T525.heap _
                rw [eh525]
                exact ⟨rfl, N525⟩
              · rw [hq]
                show Go p.tables e below _ (T450.setTop (mkF m 160 #[.val (.int p1), .val (.int p2), .val (.int p3), .val (.int (1 : Int32)), .val (.int (1 : Int32)), .val (.int (0 : Int32)), .val (.int (2 : Int32)), .val (.ref b101), .val (.ref b120), .val (.ref b173), .val (.ref b230), .val .null, .val .null, .unset] []))
                refine Go.step (fun _ kt => XS.iloadN X450.here hx rfl (hb hby at_160) rfl (XS.ifNo X450.here hx rfl (hb hby at_161) rfl ((if0 _ _).trans (feq (by decide : ¬ ((1 : Int32) = (0 : Int32)))).1) (XS.iload X450.here hx rfl (hb hby at_164) rfl (XS.ifYes X450.here hx rfl (pc0 := 166) (pc' := 174) rfl (hb hby at_166) rfl ((if0 _ _).trans (teq (by decide : (0 : Int32) = (0 : Int32))).1) (by decide) (by decide) (XS.aconstNull X450.here hx rfl (hb hby at_174) (XS.goto X450.here hx rfl (pc0 := 175) (pc' := 189) rfl (hb hby at_175) (by decide) (by decide) (XS.astore X450.here hx rfl (hb hby at_189) rfl rfl (l' := #[.val (.int p1), .val (.int p2), .val (.int p3), .val (.int (1 : Int32)), .val (.int (1 : Int32)), .val (.int (0 : Int32)), .val (.int (2 : Int32)), .val (.ref b101), .val (.ref b120), .val (.ref b173), .val (.ref b230), .val .null, .val .null, .val .null]) rfl (XS.aload X450.here hx rfl (hb hby at_191) rfl rfl (XS.iloadN X450.here hx rfl (hb hby at_193) rfl (XS.aload X450.here hx rfl (hb hby at_194) rfl rfl kt)))))))))) ?_
                show Go p.tables e below _ (T450.setTop (mkF m 196 #[.val (.int p1), .val (.int p2), .val (.int p3), .val (.int (1 : Int32)), .val (.int (1 : Int32)), .val (.int (0 : Int32)), .val (.int (2 : Int32)), .val (.ref b101), .val (.ref b120), .val (.ref b173), .val (.ref b230), .val .null, .val .null, .val .null] [.null, (.int (1 : Int32)), (.ref b101)]))
                obtain ⟨cq526, kq526, q526a, q526b, q526c⟩ := isOf hZ rfl P451
                obtain ⟨_, _, ⟨T526, L526, k526, n526⟩, -, X526, ⟨Lc526, hQ526, l526, y526, z526⟩, st526⟩ := X450.virtualBack hx (y := (⟨"com/example/ottawa/ottawa/TagPattern", "follow", "(ZLcom/example/ottawa/ottawa/Name;)V"⟩ : MethodName)) (z := (⟨"com/example/ottawa/ottawa/TagPattern", "follow", "(ZLcom/example/ottawa/ottawa/Name;)V"⟩ : MethodName)) hown (mvT hZ (hw _ (List.mem_of_getElem? (i := 153) rfl))) (mvT hZ (hw _ (List.mem_of_getElem? (i := 154) rfl))) (notFace_of_selects (args := #[]) (mvT hZ (hw _ (List.mem_of_getElem? (i := 156) rfl)))) (mvT hZ (hw _ (List.mem_of_getElem? (i := 156) rfl))) (mvT hZ (hw _ (List.mem_of_getElem? (i := 155) rfl))) (by decide) (backOf (W := 0) (rmf5 l Z a0 hw [] b101 (.ref b120) .null T450.heap n0 Z458 P451 P452 P453 g_b101) hZ (hw _ (List.mem_of_getElem? (i := 157) rfl)) (hw _ (List.mem_of_getElem? (i := 3) rfl)) (by decide) (by decide)) q526a q526c (g := (mkF m 196 #[.val (.int p1), .val (.int p2), .val (.int p3), .val (.int (1 : Int32)), .val (.int (1 : Int32)), .val (.int (0 : Int32)), .val (.int (2 : Int32)), .val (.ref b101), .val (.ref b120), .val (.ref b173), .val (.ref b230), .val .null, .val .null, .val .null] [.null, (.int (1 : Int32)), (.ref b101)])) rfl (by rw [hml]; rfl) (Steps.refl _) (argsL := [(.int (1 : Int32)), .null]) (rest := []) (lenOf pd_16 rfl) rfl (by show 2 * 0 + _ ≤ _; exact Nat.le_of_eq rfl) (hb hby at_196) (fun _ _ => ⟨rfl, rfl, (by decide : 30 + 0 ≤ _), (by decide : 225 + 0 ≤ _)⟩)
                dsimp only [Pt.U, Pt.locs, Pt.cells, Pt.slots] at X526 l526 y526 z526 st526 hQ526
                subst l526 y526 z526
                obtain ⟨rfl, N526q, Kq526, P527, P528, P529⟩ := hQ526
                have F530 : Exa Z T526.heap b101 "com/example/ottawa/ottawa/TagPattern" := (P451.keep Kq526)
                have F531 : Exa Z T526.heap b120 "com/example/ottawa/ottawa/KeptName" := (F455.keep Kq526)
                have F532 : Exa Z T526.heap b173 "com/example/ottawa/ottawa/KeptName" := (F456.keep Kq526)
                have F533 : Exa Z T526.heap b230 "com/example/ottawa/ottawa/Name" := (F457.keep Kq526)
                have Z534 : n0 ≤ T526.heap.size := (Nat.le_trans Z458 Kq526.1)
                have hk535 : _ ≤ T526.heap.size := (Nat.le_trans hk459 Kq526.1)
                have C536 := (C460.trans (CHr.keep Kq526 (by intro x hx; cases List.mem_singleton.mp hx; exact (Safe.exa hZ.alike P451 (by decide) (by decide))) C460.1))
                have N526 := Fr.app N450 N526q
                refine Go.step (fun _ kt => st526.trans kt) ?_
                show Go p.tables e below _ (T526.setTop (mkF m 199 #[.val (.int p1), .val (.int p2), .val (.int p3), .val (.int (1 : Int32)), .val (.int (1 : Int32)), .val (.int (0 : Int32)), .val (.int (2 : Int32)), .val (.ref b101), .val (.ref b120), .val (.ref b173), .val (.ref b230), .val .null, .val .null, .val .null] []))
                refine Go.step (fun _ kt => XS.aload X526.here hx rfl (hb hby at_199) rfl rfl (XS.iloadN X526.here hx rfl (hb hby at_201) rfl kt)) ?_
                show Go p.tables e below _ (T526.setTop (mkF m 202 #[.val (.int p1), .val (.int p2), .val (.int p3), .val (.int (1 : Int32)), .val (.int (1 : Int32)), .val (.int (0 : Int32)), .val (.int (2 : Int32)), .val (.ref b101), .val (.ref b120), .val (.ref b173), .val (.ref b230), .val .null, .val .null, .val .null] [(.int (1 : Int32)), (.ref b101)]))
                obtain ⟨cq537, kq537, q537a, q537b, q537c⟩ := isOf hZ rfl P527
                obtain ⟨_, _, ⟨T537, L537, k537, n537⟩, -, X537, ⟨Lc537, hQ537, l537, y537, z537⟩, st537⟩ := X526.virtualBack hx (y := (⟨"com/example/ottawa/ottawa/TagPattern", "following", "(Z)Lcom/example/ottawa/ottawa/KeptName;"⟩ : MethodName)) (z := (⟨"com/example/ottawa/ottawa/TagPattern", "following", "(Z)Lcom/example/ottawa/ottawa/KeptName;"⟩ : MethodName)) hown (mvT hZ (hw _ (List.mem_of_getElem? (i := 163) rfl))) (mvT hZ (hw _ (List.mem_of_getElem? (i := 164) rfl))) (notFace_of_selects (args := #[]) (mvT hZ (hw _ (List.mem_of_getElem? (i := 166) rfl)))) (mvT hZ (hw _ (List.mem_of_getElem? (i := 166) rfl))) (mvT hZ (hw _ (List.mem_of_getElem? (i := 165) rfl))) (by decide) (backOf (W := 0) (rmg1 l Z a0 hw [] b101  T526.heap n0 Z534 P528 ) hZ (hw _ (List.mem_of_getElem? (i := 167) rfl)) (hw _ (List.mem_of_getElem? (i := 3) rfl)) (by decide) (by decide)) q537a q537c (g := (mkF m 202 #[.val (.int p1), .val (.int p2), .val (.int p3), .val (.int (1 : Int32)), .val (.int (1 : Int32)), .val (.int (0 : Int32)), .val (.int (2 : Int32)), .val (.ref b101), .val (.ref b120), .val (.ref b173), .val (.ref b230), .val .null, .val .null, .val .null] [(.int (1 : Int32)), (.ref b101)])) rfl (by rw [hml]; rfl) (Steps.refl _) (argsL := [(.int (1 : Int32))]) (rest := []) (lenOf pd_17 rfl) rfl (by show 2 * 0 + _ ≤ _; exact Nat.le_of_eq rfl) (hb hby at_202) (fun _ _ => ⟨rfl, rfl, (by decide : 30 + 0 ≤ _), (by decide : 225 + 0 ≤ _)⟩)
                dsimp only [Pt.U, Pt.locs, Pt.cells, Pt.slots] at X537 l537 y537 z537 st537 hQ537
                subst l537 y537 z537
                obtain ⟨rfl, N537q, eh537⟩ := hQ537
                have N537 := Fr.app N526 N537q
                refine Go.step (fun _ kt => st537.trans kt) ?_
                show Go p.tables e below _ (T537.setTop (mkF m 205 #[.val (.int p1), .val (.int p2), .val (.int p3), .val (.int (1 : Int32)), .val (.int (1 : Int32)), .val (.int (0 : Int32)), .val (.int (2 : Int32)), .val (.ref b101), .val (.ref b120), .val (.ref b173), .val (.ref b230), .val .null, .val .null, .val .null] [.null]))
                refine Go.step (fun _ kt => XS.aload X537.here hx rfl (hb hby at_205) rfl rfl kt) ?_
                show Go p.tables e below _ (T537.setTop (mkF m 207 #[.val (.int p1), .val (.int p2), .val (.int p3), .val (.int (1 : Int32)), .val (.int (1 : Int32)), .val (.int (0 : Int32)), .val (.int (2 : Int32)), .val (.ref b101), .val (.ref b120), .val (.ref b173), .val (.ref b230), .val .null, .val .null, .val .null] [.null, .null]))
                refine Go.step (fun _ kt => Jvm.RoadKit.acmp (g := (mkF m 207 #[.val (.int p1), .val (.int p2), .val (.int p3), .val (.int (1 : Int32)), .val (.int (1 : Int32)), .val (.int (0 : Int32)), .val (.int (2 : Int32)), .val (.ref b101), .val (.ref b120), .val (.ref b173), .val (.ref b230), .val .null, .val .null, .val .null] [.null, .null])) X537 hx rfl rfl rfl (pc0 := 207) (pc' := 210) (same := true) rfl (hb hby at_207) rfl (decide_eq_true rfl) (by decide) (by decide) kt) ?_
                show Go p.tables e below _ (T537.setTop (mkF m 210 #[.val (.int p1), .val (.int p2), .val (.int p3), .val (.int (1 : Int32)), .val (.int (1 : Int32)), .val (.int (0 : Int32)), .val (.int (2 : Int32)), .val (.ref b101), .val (.ref b120), .val (.ref b173), .val (.ref b230), .val .null, .val .null, .val .null] []))
                refine Go.step (fun _ kt => XS.aload X537.here hx rfl (hb hby at_210) rfl rfl (XS.iloadN X537.here hx rfl (hb hby at_212) rfl (XS.ifYes X537.here hx rfl (pc0 := 213) (pc' := 220) rfl (hb hby at_213) rfl ((if0 _ _).trans (feq (by decide : ¬ ((1 : Int32) = (0 : Int32)))).2) (by decide) (by decide) (XS.iconst X537.here hx rfl (hb hby at_220) kt)))) ?_
                show Go p.tables e below _ (T537.setTop (mkF m 221 #[.val (.int p1), .val (.int p2), .val (.int p3), .val (.int (1 : Int32)), .val (.int (1 : Int32)), .val (.int (0 : Int32)), .val (.int (2 : Int32)), .val (.ref b101), .val (.ref b120), .val (.ref b173), .val (.ref b230), .val .null, .val .null, .val .null] [(.int (0 : Int32)), (.ref b101)]))
                obtain ⟨cq538, kq538, q538a, q538b, q538c⟩ := isOf hZ eh537 P527
                obtain ⟨_, _, ⟨T538, L538, k538, n538⟩, -, X538, ⟨Lc538, hQ538, l538, y538, z538⟩, st538⟩ := X537.virtualBack hx (y := (⟨"com/example/ottawa/ottawa/TagPattern", "following", "(Z)Lcom/example/ottawa/ottawa/KeptName;"⟩ : MethodName)) (z := (⟨"com/example/ottawa/ottawa/TagPattern", "following", "(Z)Lcom/example/ottawa/ottawa/KeptName;"⟩ : MethodName)) hown (mvT hZ (hw _ (List.mem_of_getElem? (i := 163) rfl))) (mvT hZ (hw _ (List.mem_of_getElem? (i := 164) rfl))) (notFace_of_selects (args := #[]) (mvT hZ (hw _ (List.mem_of_getElem? (i := 166) rfl)))) (mvT hZ (hw _ (List.mem_of_getElem? (i := 166) rfl))) (mvT hZ (hw _ (List.mem_of_getElem? (i := 165) rfl))) (by decide) (backOf (W := 0) (rmg3 l Z a0 hw [] b101  T526.heap n0 Z534 P529 ) hZ (hw _ (List.mem_of_getElem? (i := 167) rfl)) (hw _ (List.mem_of_getElem? (i := 3) rfl)) (by decide) (by decide)) q538a q538c (g := (mkF m 221 #[.val (.int p1), .val (.int p2), .val (.int p3), .val (.int (1 : Int32)), .val (.int (1 : Int32)), .val (.int (0 : Int32)), .val (.int (2 : Int32)), .val (.ref b101), .val (.ref b120), .val (.ref b173), .val (.ref b230), .val .null, .val .null, .val .null] [(.int (0 : Int32)), (.ref b101)])) rfl (by rw [hml]; rfl) (Steps.refl _) (argsL := [(.int (0 : Int32))]) (rest := []) (lenOf pd_17 rfl) rfl (by show 2 * 0 + _ ≤ _; exact Nat.le_of_eq rfl) (hb hby at_221) (fun _ _ => ⟨rfl, eh537, (by decide : 30 + 0 ≤ _), (by decide : 225 + 0 ≤ _)⟩)
                dsimp only [Pt.U, Pt.locs, Pt.cells, Pt.slots] at X538 l538 y538 z538 st538 hQ538
                subst l538 y538 z538
                obtain ⟨rfl, N538q, eh538⟩ := hQ538
                have N538 := Fr.app N537 N538q
                refine Go.step (fun _ kt => st538.trans kt) ?_
                show Go p.tables e below _ (T538.setTop (mkF m 224 #[.val (.int p1), .val (.int p2), .val (.int p3), .val (.int (1 : Int32)), .val (.int (1 : Int32)), .val (.int (0 : Int32)), .val (.int (2 : Int32)), .val (.ref b101), .val (.ref b120), .val (.ref b173), .val (.ref b230), .val .null, .val .null, .val .null] [.null]))
                refine Go.step (fun _ kt => XS.aload X538.here hx rfl (hb hby at_224) rfl rfl kt) ?_
                show Go p.tables e below _ (T538.setTop (mkF m 226 #[.val (.int p1), .val (.int p2), .val (.int p3), .val (.int (1 : Int32)), .val (.int (1 : Int32)), .val (.int (0 : Int32)), .val (.int (2 : Int32)), .val (.ref b101), .val (.ref b120), .val (.ref b173), .val (.ref b230), .val .null, .val .null, .val .null] [.null, .null]))
                refine Go.step (fun _ kt => Jvm.RoadKit.acmp (g := (mkF m 226 #[.val (.int p1), .val (.int p2), .val (.int p3), .val (.int (1 : Int32)), .val (.int (1 : Int32)), .val (.int (0 : Int32)), .val (.int (2 : Int32)), .val (.ref b101), .val (.ref b120), .val (.ref b173), .val (.ref b230), .val .null, .val .null, .val .null] [.null, .null])) X538 hx rfl rfl rfl (pc0 := 226) (pc' := 229) (same := true) rfl (hb hby at_226) rfl (decide_eq_true rfl) (by decide) (by decide) kt) ?_
                show Go p.tables e below _ (T538.setTop (mkF m 229 #[.val (.int p1), .val (.int p2), .val (.int p3), .val (.int (1 : Int32)), .val (.int (1 : Int32)), .val (.int (0 : Int32)), .val (.int (2 : Int32)), .val (.ref b101), .val (.ref b120), .val (.ref b173), .val (.ref b230), .val .null, .val .null, .val .null] []))
                refine Go.step (fun _ kt => XS.iconst X538.here hx rfl (hb hby at_229) (XS.goto X538.here hx rfl (pc0 := 230) (pc' := 234) rfl (hb hby at_230) (by decide) (by decide) kt)) ?_
                show Go p.tables e below _ (T538.setTop (mkF m 234 #[.val (.int p1), .val (.int p2), .val (.int p3), .val (.int (1 : Int32)), .val (.int (1 : Int32)), .val (.int (0 : Int32)), .val (.int (2 : Int32)), .val (.ref b101), .val (.ref b120), .val (.ref b173), .val (.ref b230), .val .null, .val .null, .val .null] [(.int (1 : Int32))]))
                obtain ⟨fs, hr, hrun, hended, hRW⟩ := X538.leaveW hS266 (by rw [eh538]; exact hk535) (v := some (.int (1 : Int32))) (fun h => by rw [Bd.returns] at h; cases h)
                refine ⟨_, _, retN X538 hx (t := .boolean) Bd.returns (by simp) (hb hby at_234) hr, hrun, hended, _, _, rfl, ?_, (by have q := C536.trans (CHv.at X538 hZ (own_EW hw) C536.1); rw [hh]; rw [← eh538] at q; exact q), hRW.1, hRW.2.1, hRW.2.2.1, hRW.2.2.2.mono (by decide) (by decide)⟩
                show Qrm0 Z p1 p2 p3 cs h0 n0 _ T538.heap _
                rw [eh538]
                exact ⟨rfl, N538⟩
          · rw [hq]
            show Go p.tables e below _ (T450.setTop (mkF m 110 #[.val (.int p1), .val (.int p2), .val (.int p3), .val (.int bi), .val (.int (1 : Int32)), .val (.int (1 : Int32)), .val (.int wh), .val (.ref b101), .val (.ref b120), .val (.ref b173), .val (.ref b230), .unset, .unset, .unset] []))
            refine Go.step (fun _ kt => XS.iload X450.here hx rfl (hb hby at_110) rfl (XS.ifNo X450.here hx rfl (hb hby at_112) rfl ((if0 _ _).trans (feq (by decide : ¬ ((1 : Int32) = (0 : Int32)))).1) (XS.aload X450.here hx rfl (hb hby at_115) rfl rfl (XS.iconst X450.here hx rfl (hb hby at_117) (XS.aload X450.here hx rfl (hb hby at_118) rfl rfl kt))))) ?_
            show Go p.tables e below _ (T450.setTop (mkF m 120 #[.val (.int p1), .val (.int p2), .val (.int p3), .val (.int bi), .val (.int (1 : Int32)), .val (.int (1 : Int32)), .val (.int wh), .val (.ref b101), .val (.ref b120), .val (.ref b173), .val (.ref b230), .unset, .unset, .unset] [(.ref b120), (.int (0 : Int32)), (.ref b101)]))
            obtain ⟨cq539, kq539, q539a, q539b, q539c⟩ := isOf hZ rfl P451
            obtain ⟨_, _, ⟨T539, L539, k539, n539⟩, -, X539, ⟨Lc539, hQ539, l539, y539, z539⟩, st539⟩ := X450.virtualBack hx (y := (⟨"com/example/ottawa/ottawa/TagPattern", "follow", "(ZLcom/example/ottawa/ottawa/Name;)V"⟩ : MethodName)) (z := (⟨"com/example/ottawa/ottawa/TagPattern", "follow", "(ZLcom/example/ottawa/ottawa/Name;)V"⟩ : MethodName)) hown (mvT hZ (hw _ (List.mem_of_getElem? (i := 153) rfl))) (mvT hZ (hw _ (List.mem_of_getElem? (i := 154) rfl))) (notFace_of_selects (args := #[]) (mvT hZ (hw _ (List.mem_of_getElem? (i := 156) rfl)))) (mvT hZ (hw _ (List.mem_of_getElem? (i := 156) rfl))) (mvT hZ (hw _ (List.mem_of_getElem? (i := 155) rfl))) (by decide) (backOf (W := 0) (rmf0 l Z a0 hw [] b101 b120 (.ref b120) .null T450.heap n0 Z458 P451 P452 P453 F455 g_b101 (Ne.symm ne_b101_b120)) hZ (hw _ (List.mem_of_getElem? (i := 157) rfl)) (hw _ (List.mem_of_getElem? (i := 3) rfl)) (by decide) (by decide)) q539a q539c (g := (mkF m 120 #[.val (.int p1), .val (.int p2), .val (.int p3), .val (.int bi), .val (.int (1 : Int32)), .val (.int (1 : Int32)), .val (.int wh), .val (.ref b101), .val (.ref b120), .val (.ref b173), .val (.ref b230), .unset, .unset, .unset] [(.ref b120), (.int (0 : Int32)), (.ref b101)])) rfl (by rw [hml]; rfl) (Steps.refl _) (argsL := [(.int (0 : Int32)), (.ref b120)]) (rest := []) (lenOf pd_16 rfl) rfl (by show 2 * 0 + _ ≤ _; exact Nat.le_of_eq rfl) (hb hby at_120) (fun _ _ => ⟨rfl, rfl, (by decide : 30 + 0 ≤ _), (by decide : 225 + 0 ≤ _)⟩)
            dsimp only [Pt.U, Pt.locs, Pt.cells, Pt.slots] at X539 l539 y539 z539 st539 hQ539
            subst l539 y539 z539
            obtain ⟨rfl, N539q, Kq539, P540, P541, P542⟩ := hQ539
            have F543 : Exa Z T539.heap b101 "com/example/ottawa/ottawa/TagPattern" := (P451.keep Kq539)
            have F544 : Exa Z T539.heap b120 "com/example/ottawa/ottawa/KeptName" := (F455.keep Kq539)
            have F545 : Exa Z T539.heap b173 "com/example/ottawa/ottawa/KeptName" := (F456.keep Kq539)
            have F546 : Exa Z T539.heap b230 "com/example/ottawa/ottawa/Name" := (F457.keep Kq539)
            have Z547 : n0 ≤ T539.heap.size := (Nat.le_trans Z458 Kq539.1)
            have hk548 : _ ≤ T539.heap.size := (Nat.le_trans hk459 Kq539.1)
            have C549 := (C460.trans (CHr.keep Kq539 (by intro x hx; cases List.mem_singleton.mp hx; exact (Safe.exa hZ.alike P451 (by decide) (by decide))) C460.1))
            have N539 := Fr.app N450 N539q
            refine Go.step (fun _ kt => st539.trans kt) ?_
            show Go p.tables e below _ (T539.setTop (mkF m 123 #[.val (.int p1), .val (.int p2), .val (.int p3), .val (.int bi), .val (.int (1 : Int32)), .val (.int (1 : Int32)), .val (.int wh), .val (.ref b101), .val (.ref b120), .val (.ref b173), .val (.ref b230), .unset, .unset, .unset] []))
            rcases (show wh = 0 ∨ wh = 1 ∨ wh = 2 by rw [e_wh]; exact own_rem3 p3) with hq | hq | hq
            · rw [hq]
              show Go p.tables e below _ (T539.setTop (mkF m 123 #[.val (.int p1), .val (.int p2), .val (.int p3), .val (.int bi), .val (.int (1 : Int32)), .val (.int (1 : Int32)), .val (.int (0 : Int32)), .val (.ref b101), .val (.ref b120), .val (.ref b173), .val (.ref b230), .unset, .unset, .unset] []))
              refine Go.step (fun _ kt => XS.iload X539.here hx rfl (hb hby at_123) rfl (XS.ifNo X539.here hx rfl (hb hby at_125) rfl ((if0 _ _).trans (teq (by decide : (0 : Int32) = (0 : Int32))).2) (XS.aload X539.here hx rfl (hb hby at_128) rfl rfl (XS.goto X539.here hx rfl (pc0 := 130) (pc' := 145) rfl (hb hby at_130) (by decide) (by decide) (XS.astore X539.here hx rfl (hb hby at_145) rfl rfl (l' := #[.val (.int p1), .val (.int p2), .val (.int p3), .val (.int bi), .val (.int (1 : Int32)), .val (.int (1 : Int32)), .val (.int (0 : Int32)), .val (.ref b101), .val (.ref b120), .val (.ref b173), .val (.ref b230), .val (.ref b173), .unset, .unset]) rfl (XS.iload X539.here hx rfl (hb hby at_147) rfl (XS.ifNo X539.here hx rfl (hb hby at_149) rfl ((if0 _ _).trans (teq (by decide : (0 : Int32) = (0 : Int32))).2) (XS.aload X539.here hx rfl (hb hby at_152) rfl rfl (XS.goto X539.here hx rfl (pc0 := 154) (pc' := 158) rfl (hb hby at_154) (by decide) (by decide) (XS.astore X539.here hx rfl (hb hby at_158) rfl rfl (l' := #[.val (.int p1), .val (.int p2), .val (.int p3), .val (.int bi), .val (.int (1 : Int32)), .val (.int (1 : Int32)), .val (.int (0 : Int32)), .val (.ref b101), .val (.ref b120), .val (.ref b173), .val (.ref b230), .val (.ref b173), .val (.ref b173), .unset]) rfl kt)))))))))) ?_
              show Go p.tables e below _ (T539.setTop (mkF m 160 #[.val (.int p1), .val (.int p2), .val (.int p3), .val (.int bi), .val (.int (1 : Int32)), .val (.int (1 : Int32)), .val (.int (0 : Int32)), .val (.ref b101), .val (.ref b120), .val (.ref b173), .val (.ref b230), .val (.ref b173), .val (.ref b173), .unset] []))
              rcases h_bi with hq | hq
              · rw [hq]
                show Go p.tables e below _ (T539.setTop (mkF m 160 #[.val (.int p1), .val (.int p2), .val (.int p3), .val (.int (0 : Int32)), .val (.int (1 : Int32)), .val (.int (1 : Int32)), .val (.int (0 : Int32)), .val (.ref b101), .val (.ref b120), .val (.ref b173), .val (.ref b230), .val (.ref b173), .val (.ref b173), .unset] []))
                refine Go.step (fun _ kt => XS.iloadN X539.here hx rfl (hb hby at_160) rfl (XS.ifYes X539.here hx rfl (pc0 := 161) (pc' := 178) rfl (hb hby at_161) rfl ((if0 _ _).trans (teq (by decide : (0 : Int32) = (0 : Int32))).1) (by decide) (by decide) (XS.iload X539.here hx rfl (hb hby at_178) rfl (XS.ifNo X539.here hx rfl (hb hby at_180) rfl ((if0 _ _).trans (feq (by decide : ¬ ((1 : Int32) = (0 : Int32)))).1) (XS.aload X539.here hx rfl (hb hby at_183) rfl rfl (XS.goto X539.here hx rfl (pc0 := 185) (pc' := 189) rfl (hb hby at_185) (by decide) (by decide) (XS.astore X539.here hx rfl (hb hby at_189) rfl rfl (l' := #[.val (.int p1), .val (.int p2), .val (.int p3), .val (.int (0 : Int32)), .val (.int (1 : Int32)), .val (.int (1 : Int32)), .val (.int (0 : Int32)), .val (.ref b101), .val (.ref b120), .val (.ref b173), .val (.ref b230), .val (.ref b173), .val (.ref b173), .val (.ref b120)]) rfl (XS.aload X539.here hx rfl (hb hby at_191) rfl rfl (XS.iloadN X539.here hx rfl (hb hby at_193) rfl (XS.aload X539.here hx rfl (hb hby at_194) rfl rfl kt)))))))))) ?_
                show Go p.tables e below _ (T539.setTop (mkF m 196 #[.val (.int p1), .val (.int p2), .val (.int p3), .val (.int (0 : Int32)), .val (.int (1 : Int32)), .val (.int (1 : Int32)), .val (.int (0 : Int32)), .val (.ref b101), .val (.ref b120), .val (.ref b173), .val (.ref b230), .val (.ref b173), .val (.ref b173), .val (.ref b120)] [(.ref b173), (.int (0 : Int32)), (.ref b101)]))
                obtain ⟨cq550, kq550, q550a, q550b, q550c⟩ := isOf hZ rfl P540
                obtain ⟨_, _, ⟨T550, L550, k550, n550⟩, -, X550, ⟨Lc550, hQ550, l550, y550, z550⟩, st550⟩ := X539.virtualBack hx (y := (⟨"com/example/ottawa/ottawa/TagPattern", "follow", "(ZLcom/example/ottawa/ottawa/Name;)V"⟩ : MethodName)) (z := (⟨"com/example/ottawa/ottawa/TagPattern", "follow", "(ZLcom/example/ottawa/ottawa/Name;)V"⟩ : MethodName)) hown (mvT hZ (hw _ (List.mem_of_getElem? (i := 153) rfl))) (mvT hZ (hw _ (List.mem_of_getElem? (i := 154) rfl))) (notFace_of_selects (args := #[]) (mvT hZ (hw _ (List.mem_of_getElem? (i := 156) rfl)))) (mvT hZ (hw _ (List.mem_of_getElem? (i := 156) rfl))) (mvT hZ (hw _ (List.mem_of_getElem? (i := 155) rfl))) (by decide) (backOf (W := 0) (rmf0 l Z a0 hw [] b101 b173 (.ref b120) (.ref b120) T539.heap n0 Z547 P540 P541 P542 F545 g_b101 (Ne.symm ne_b101_b173)) hZ (hw _ (List.mem_of_getElem? (i := 157) rfl)) (hw _ (List.mem_of_getElem? (i := 3) rfl)) (by decide) (by decide)) q550a q550c (g := (mkF m 196 #[.val (.int p1), .val (.int p2), .val (.int p3), .val (.int (0 : Int32)), .val (.int (1 : Int32)), .val (.int (1 : Int32)), .val (.int (0 : Int32)), .val (.ref b101), .val (.ref b120), .val (.ref b173), .val (.ref b230), .val (.ref b173), .val (.ref b173), .val (.ref b120)] [(.ref b173), (.int (0 : Int32)), (.ref b101)])) rfl (by rw [hml]; rfl) (Steps.refl _) (argsL := [(.int (0 : Int32)), (.ref b173)]) (rest := []) (lenOf pd_16 rfl) rfl (by show 2 * 0 + _ ≤ _; exact Nat.le_of_eq rfl) (hb hby at_196) (fun _ _ => ⟨rfl, rfl, (by decide : 30 + 0 ≤ _), (by decide : 225 + 0 ≤ _)⟩)
                dsimp only [Pt.U, Pt.locs, Pt.cells, Pt.slots] at X550 l550 y550 z550 st550 hQ550
                subst l550 y550 z550
                obtain ⟨rfl, N550q, Kq550, P551, P552, P553⟩ := hQ550
                have F554 : Exa Z T550.heap b101 "com/example/ottawa/ottawa/TagPattern" := (P540.keep Kq550)
                have F555 : Exa Z T550.heap b120 "com/example/ottawa/ottawa/KeptName" := (F544.keep Kq550)
                have F556 : Exa Z T550.heap b173 "com/example/ottawa/ottawa/KeptName" := (F545.keep Kq550)
                have F557 : Exa Z T550.heap b230 "com/example/ottawa/ottawa/Name" := (F546.keep Kq550)
                have Z558 : n0 ≤ T550.heap.size := (Nat.le_trans Z547 Kq550.1)
                have hk559 : _ ≤ T550.heap.size := (Nat.le_trans hk548 Kq550.1)
                have C560 := (C549.trans (CHr.keep Kq550 (by intro x hx; cases List.mem_singleton.mp hx; exact (Safe.exa hZ.alike P540 (by decide) (by decide))) C549.1))
                have N550 := Fr.app N539 N550q
                refine Go.step (fun _ kt => st550.trans kt) ?_
                show Go p.tables e below _ (T550.setTop (mkF m 199 #[.val (.int p1), .val (.int p2), .val (.int p3), .val (.int (0 : Int32)), .val (.int (1 : Int32)), .val (.int (1 : Int32)), .val (.int (0 : Int32)), .val (.ref b101), .val (.ref b120), .val (.ref b173), .val (.ref b230), .val (.ref b173), .val (.ref b173), .val (.ref b120)] []))
                refine Go.step (fun _ kt => XS.aload X550.here hx rfl (hb hby at_199) rfl rfl (XS.iloadN X550.here hx rfl (hb hby at_201) rfl kt)) ?_
                show Go p.tables e below _ (T550.setTop (mkF m 202 #[.val (.int p1), .val (.int p2), .val (.int p3), .val (.int (0 : Int32)), .val (.int (1 : Int32)), .val (.int (1 : Int32)), .val (.int (0 : Int32)), .val (.ref b101), .val (.ref b120), .val (.ref b173), .val (.ref b230), .val (.ref b173), .val (.ref b173), .val (.ref b120)] [(.int (0 : Int32)), (.ref b101)]))
                obtain ⟨cq561, kq561, q561a, q561b, q561c⟩ := isOf hZ rfl P551
                obtain ⟨_, _, ⟨T561, L561, k561, n561⟩, -, X561, ⟨Lc561, hQ561, l561, y561, z561⟩, st561⟩ := X550.virtualBack hx (y := (⟨"com/example/ottawa/ottawa/TagPattern", "following", "(Z)Lcom/example/ottawa/ottawa/KeptName;"⟩ : MethodName)) (z := (⟨"com/example/ottawa/ottawa/TagPattern", "following", "(Z)Lcom/example/ottawa/ottawa/KeptName;"⟩ : MethodName)) hown (mvT hZ (hw _ (List.mem_of_getElem? (i := 163) rfl))) (mvT hZ (hw _ (List.mem_of_getElem? (i := 164) rfl))) (notFace_of_selects (args := #[]) (mvT hZ (hw _ (List.mem_of_getElem? (i := 166) rfl)))) (mvT hZ (hw _ (List.mem_of_getElem? (i := 166) rfl))) (mvT hZ (hw _ (List.mem_of_getElem? (i := 165) rfl))) (by decide) (backOf (W := 0) (rmg0 l Z a0 hw [] b101 b173 T550.heap n0 Z558 P553 ) hZ (hw _ (List.mem_of_getElem? (i := 167) rfl)) (hw _ (List.mem_of_getElem? (i := 3) rfl)) (by decide) (by decide)) q561a q561c (g := (mkF m 202 #[.val (.int p1), .val (.int p2), .val (.int p3), .val (.int (0 : Int32)), .val (.int (1 : Int32)), .val (.int (1 : Int32)), .val (.int (0 : Int32)), .val (.ref b101), .val (.ref b120), .val (.ref b173), .val (.ref b230), .val (.ref b173), .val (.ref b173), .val (.ref b120)] [(.int (0 : Int32)), (.ref b101)])) rfl (by rw [hml]; rfl) (Steps.refl _) (argsL := [(.int (0 : Int32))]) (rest := []) (lenOf pd_17 rfl) rfl (by show 2 * 0 + _ ≤ _; exact Nat.le_of_eq rfl) (hb hby at_202) (fun _ _ => ⟨rfl, rfl, (by decide : 30 + 0 ≤ _), (by decide : 225 + 0 ≤ _)⟩)
                dsimp only [Pt.U, Pt.locs, Pt.cells, Pt.slots] at X561 l561 y561 z561 st561 hQ561
                subst l561 y561 z561
                obtain ⟨rfl, N561q, eh561⟩ := hQ561
                have N561 := Fr.app N550 N561q
                refine Go.step (fun _ kt => st561.trans kt) ?_
                show Go p.tables e below _ (T561.setTop (mkF m 205 #[.val (.int p1), .val (.int p2), .val (.int p3), .val (.int (0 : Int32)), .val (.int (1 : Int32)), .val (.int (1 : Int32)), .val (.int (0 : Int32)), .val (.ref b101), .val (.ref b120), .val (.ref b173), .val (.ref b230), .val (.ref b173), .val (.ref b173), .val (.ref b120)] [(.ref b173)]))
                refine Go.step (fun _ kt => XS.aload X561.here hx rfl (hb hby at_205) rfl rfl kt) ?_
                show Go p.tables e below _ (T561.setTop (mkF m 207 #[.val (.int p1), .val (.int p2), .val (.int p3), .val (.int (0 : Int32)), .val (.int (1 : Int32)), .val (.int (1 : Int32)), .val (.int (0 : Int32)), .val (.ref b101), .val (.ref b120), .val (.ref b173), .val (.ref b230), .val (.ref b173), .val (.ref b173), .val (.ref b120)] [(.ref b173), (.ref b173)]))
                refine Go.step (fun _ kt => Jvm.RoadKit.acmp (g := (mkF m 207 #[.val (.int p1), .val (.int p2), .val (.int p3), .val (.int (0 : Int32)), .val (.int (1 : Int32)), .val (.int (1 : Int32)), .val (.int (0 : Int32)), .val (.ref b101), .val (.ref b120), .val (.ref b173), .val (.ref b230), .val (.ref b173), .val (.ref b173), .val (.ref b120)] [(.ref b173), (.ref b173)])) X561 hx rfl rfl rfl (pc0 := 207) (pc' := 210) (same := true) rfl (hb hby at_207) rfl (decide_eq_true rfl) (by decide) (by decide) kt) ?_
                show Go p.tables e below _ (T561.setTop (mkF m 210 #[.val (.int p1), .val (.int p2), .val (.int p3), .val (.int (0 : Int32)), .val (.int (1 : Int32)), .val (.int (1 : Int32)), .val (.int (0 : Int32)), .val (.ref b101), .val (.ref b120), .val (.ref b173), .val (.ref b230), .val (.ref b173), .val (.ref b173), .val (.ref b120)] []))
                refine Go.step (fun _ kt => XS.aload X561.here hx rfl (hb hby at_210) rfl rfl (XS.iloadN X561.here hx rfl (hb hby at_212) rfl (XS.ifNo X561.here hx rfl (hb hby at_213) rfl ((if0 _ _).trans (teq (by decide : (0 : Int32) = (0 : Int32))).2) (XS.iconst X561.here hx rfl (hb hby at_216) (XS.goto X561.here hx rfl (pc0 := 217) (pc' := 221) rfl (hb hby at_217) (by decide) (by decide) kt))))) ?_
                show Go p.tables e below _ (T561.setTop (mkF m 221 #[.val (.int p1), .val (.int p2), .val (.int p3), .val (.int (0 : Int32)), .val (.int (1 : Int32)), .val (.int (1 : Int32)), .val (.int (0 : Int32)), .val (.ref b101), .val (.ref b120), .val (.ref b173), .val (.ref b230), .val (.ref b173), .val (.ref b173), .val (.ref b120)] [(.int (1 : Int32)), (.ref b101)]))
                obtain ⟨cq562, kq562, q562a, q562b, q562c⟩ := isOf hZ eh561 P551
                obtain ⟨_, _, ⟨T562, L562, k562, n562⟩, -, X562, ⟨Lc562, hQ562, l562, y562, z562⟩, st562⟩ := X561.virtualBack hx (y := (⟨"com/example/ottawa/ottawa/TagPattern", "following", "(Z)Lcom/example/ottawa/ottawa/KeptName;"⟩ : MethodName)) (z := (⟨"com/example/ottawa/ottawa/TagPattern", "following", "(Z)Lcom/example/ottawa/ottawa/KeptName;"⟩ : MethodName)) hown (mvT hZ (hw _ (List.mem_of_getElem? (i := 163) rfl))) (mvT hZ (hw _ (List.mem_of_getElem? (i := 164) rfl))) (notFace_of_selects (args := #[]) (mvT hZ (hw _ (List.mem_of_getElem? (i := 166) rfl)))) (mvT hZ (hw _ (List.mem_of_getElem? (i := 166) rfl))) (mvT hZ (hw _ (List.mem_of_getElem? (i := 165) rfl))) (by decide) (backOf (W := 0) (rmg2 l Z a0 hw [] b101 b120 T550.heap n0 Z558 P552 ) hZ (hw _ (List.mem_of_getElem? (i := 167) rfl)) (hw _ (List.mem_of_getElem? (i := 3) rfl)) (by decide) (by decide)) q562a q562c (g := (mkF m 221 #[.val (.int p1), .val (.int p2), .val (.int p3), .val (.int (0 : Int32)), .val (.int (1 : Int32)), .val (.int (1 : Int32)), .val (.int (0 : Int32)), .val (.ref b101), .val (.ref b120), .val (.ref b173), .val (.ref b230), .val (.ref b173), .val (.ref b173), .val (.ref b120)] [(.int (1 : Int32)), (.ref b101)])) rfl (by rw [hml]; rfl) (Steps.refl _) (argsL := [(.int (1 : Int32))]) (rest := []) (lenOf pd_17 rfl) rfl (by show 2 * 0 + _ ≤ _; exact Nat.le_of_eq rfl) (hb hby at_221) (fun _ _ => ⟨rfl, eh561, (by decide : 30 + 0 ≤ _), (by decide : 225 + 0 ≤ _)⟩)
                dsimp only [Pt.U, Pt.locs, Pt.cells, Pt.slots] at X562 l562 y562 z562 st562 hQ562
                subst l562 y562 z562
                obtain ⟨rfl, N562q, eh562⟩ := hQ562
                have N562 := Fr.app N561 N562q
                refine Go.step (fun _ kt => st562.trans kt) ?_
                show Go p.tables e below _ (T562.setTop (mkF m 224 #[.val (.int p1), .val (.int p2), .val (.int p3), .val (.int (0 : Int32)), .val (.int (1 : Int32)), .val (.int (1 : Int32)), .val (.int (0 : Int32)), .val (.ref b101), .val (.ref b120), .val (.ref b173), .val (.ref b230), .val (.ref b173), .val (.ref b173), .val (.ref b120)] [(.ref b120)]))
                refine Go.step (fun _ kt => XS.aload X562.here hx rfl (hb hby at_224) rfl rfl kt) ?_
                show Go p.tables e below _ (T562.setTop (mkF m 226 #[.val (.int p1), .val (.int p2), .val (.int p3), .val (.int (0 : Int32)), .val (.int (1 : Int32)), .val (.int (1 : Int32)), .val (.int (0 : Int32)), .val (.ref b101), .val (.ref b120), .val (.ref b173), .val (.ref b230), .val (.ref b173), .val (.ref b173), .val (.ref b120)] [(.ref b120), (.ref b120)]))
                refine Go.step (fun _ kt => Jvm.RoadKit.acmp (g := (mkF m 226 #[.val (.int p1), .val (.int p2), .val (.int p3), .val (.int (0 : Int32)), .val (.int (1 : Int32)), .val (.int (1 : Int32)), .val (.int (0 : Int32)), .val (.ref b101), .val (.ref b120), .val (.ref b173), .val (.ref b230), .val (.ref b173), .val (.ref b173), .val (.ref b120)] [(.ref b120), (.ref b120)])) X562 hx rfl rfl rfl (pc0 := 226) (pc' := 229) (same := true) rfl (hb hby at_226) rfl (decide_eq_true rfl) (by decide) (by decide) kt) ?_
                show Go p.tables e below _ (T562.setTop (mkF m 229 #[.val (.int p1), .val (.int p2), .val (.int p3), .val (.int (0 : Int32)), .val (.int (1 : Int32)), .val (.int (1 : Int32)), .val (.int (0 : Int32)), .val (.ref b101), .val (.ref b120), .val (.ref b173), .val (.ref b230), .val (.ref b173), .val (.ref b173), .val (.ref b120)] []))
                refine Go.step (fun _ kt => XS.iconst X562.here hx rfl (hb hby at_229) (XS.goto X562.here hx rfl (pc0 := 230) (pc' := 234) rfl (hb hby at_230) (by decide) (by decide) kt)) ?_
                show Go p.tables e below _ (T562.setTop (mkF m 234 #[.val (.int p1), .val (.int p2), .val (.int p3), .val (.int (0 : Int32)), .val (.int (1 : Int32)), .val (.int (1 : Int32)), .val (.int (0 : Int32)), .val (.ref b101), .val (.ref b120), .val (.ref b173), .val (.ref b230), .val (.ref b173), .val (.ref b173), .val (.ref b120)] [(.int (1 : Int32))]))
                obtain ⟨fs, hr, hrun, hended, hRW⟩ := X562.leaveW hS266 (by rw [eh562]; exact hk559) (v := some (.int (1 : Int32))) (fun h => by rw [Bd.returns] at h; cases h)
                refine ⟨_, _, retN X562 hx (t := .boolean) Bd.returns (by simp) (hb hby at_234) hr, hrun, hended, _, _, rfl, ?_, (by have q := C560.trans (CHv.at X562 hZ (own_EW hw) C560.1); rw [hh]; rw [← eh562] at q; exact q), hRW.1, hRW.2.1, hRW.2.2.1, hRW.2.2.2.mono (by decide) (by decide)⟩
                show Qrm0 Z p1 p2 p3 cs h0 n0 _ T562.heap _
                rw [eh562]
                exact ⟨rfl, N562⟩
              · rw [hq]
                show Go p.tables e below _ (T539.setTop (mkF m 160 #[.val (.int p1), .val (.int p2), .val (.int p3), .val (.int (1 : Int32)), .val (.int (1 : Int32)), .val (.int (1 : Int32)), .val (.int (0 : Int32)), .val (.ref b101), .val (.ref b120), .val (.ref b173), .val (.ref b230), .val (.ref b173), .val (.ref b173), .unset] []))
                refine Go.step (fun _ kt => XS.iloadN X539.here hx rfl (hb hby at_160) rfl (XS.ifNo X539.here hx rfl (hb hby at_161) rfl ((if0 _ _).trans (feq (by decide : ¬ ((1 : Int32) = (0 : Int32)))).1) (XS.iload X539.here hx rfl (hb hby at_164) rfl (XS.ifNo X539.here hx rfl (hb hby at_166) rfl ((if0 _ _).trans (feq (by decide : ¬ ((1 : Int32) = (0 : Int32)))).1) (XS.aload X539.here hx rfl (hb hby at_169) rfl rfl (XS.goto X539.here hx rfl (pc0 := 171) (pc' := 189) rfl (hb hby at_171) (by decide) (by decide) (XS.astore X539.here hx rfl (hb hby at_189) rfl rfl (l' := #[.val (.int p1), .val (.int p2), .val (.int p3), .val (.int (1 : Int32)), .val (.int (1 : Int32)), .val (.int (1 : Int32)), .val (.int (0 : Int32)), .val (.ref b101), .val (.ref b120), .val (.ref b173), .val (.ref b230), .val (.ref b173), .val (.ref b173), .val (.ref b120)]) rfl (XS.aload X539.here hx rfl (hb hby at_191) rfl rfl (XS.iloadN X539.here hx rfl (hb hby at_193) rfl (XS.aload X539.here hx rfl (hb hby at_194) rfl rfl kt)))))))))) ?_
                show Go p.tables e below _ (T539.setTop (mkF m 196 #[.val (.int p1), .val (.int p2), .val (.int p3), .val (.int (1 : Int32)), .val (.int (1 : Int32)), .val (.int (1 : Int32)), .val (.int (0 : Int32)), .val (.ref b101), .val (.ref b120), .val (.ref b173), .val (.ref b230), .val (.ref b173), .val (.ref b173), .val (.ref b120)] [(.ref b173), (.int (1 : Int32)), (.ref b101)]))
                obtain ⟨cq563, kq563, q563a, q563b, q563c⟩ := isOf hZ rfl P540
                obtain ⟨_, _, ⟨T563, L563, k563, n563⟩, -, X563, ⟨Lc563, hQ563, l563, y563, z563⟩, st563⟩ := X539.virtualBack hx (y := (⟨"com/example/ottawa/ottawa/TagPattern", "follow", "(ZLcom/example/ottawa/ottawa/Name;)V"⟩ : MethodName)) (z := (⟨"com/example/ottawa/ottawa/TagPattern", "follow", "(ZLcom/example/ottawa/ottawa/Name;)V"⟩ : MethodName)) hown (mvT hZ (hw _ (List.mem_of_getElem? (i := 153) rfl))) (mvT hZ (hw _ (List.mem_of_getElem? (i := 154) rfl))) (notFace_of_selects (args := #[]) (mvT hZ (hw _ (List.mem_of_getElem? (i := 156) rfl)))) (mvT hZ (hw _ (List.mem_of_getElem? (i := 156) rfl))) (mvT hZ (hw _ (List.mem_of_getElem? (i := 155) rfl))) (by decide) (backOf (W := 0) (rmf1 l Z a0 hw [] b101 b173 (.ref b120) (.ref b120) T539.heap n0 Z547 P540 P541 P542 F545 g_b101 (Ne.symm ne_b101_b173)) hZ (hw _ (List.mem_of_getElem? (i := 157) rfl)) (hw _ (List.mem_of_getElem? (i := 3) rfl)) (by decide) (by decide)) q563a q563c (g := (mkF m 196 #[.val (.int p1), .val (.int p2), .val (.int p3), .val (.int (1 : Int32)), .val (.int (1 : Int32)), .val (.int (1 : Int32)), .val (.int (0 : Int32)), .val (.ref b101), .val (.ref b120), .val (.ref b173), .val (.ref b230), .val (.ref b173), .val (.ref b173), .val (.ref b120)] [(.ref b173), (.int (1 : Int32)), (.ref b101)])) rfl (by rw [hml]; rfl) (Steps.refl _) (argsL := [(.int (1 : Int32)), (.ref b173)]) (rest := []) (lenOf pd_16 rfl) rfl (by show 2 * 0 + _ ≤ _; exact Nat.le_of_eq rfl) (hb hby at_196) (fun _ _ => ⟨rfl, rfl, (by decide : 30 + 0 ≤ _), (by decide : 225 + 0 ≤ _)⟩)
                dsimp only [Pt.U, Pt.locs, Pt.cells, Pt.slots] at X563 l563 y563 z563 st563 hQ563
                subst l563 y563 z563
                obtain ⟨rfl, N563q, Kq563, P564, P565, P566⟩ := hQ563
                have F567 : Exa Z T563.heap b101 "com/example/ottawa/ottawa/TagPattern" := (P540.keep Kq563)
                have F568 : Exa Z T563.heap b120 "com/example/ottawa/ottawa/KeptName" := (F544.keep Kq563)
                have F569 : Exa Z T563.heap b173 "com/example/ottawa/ottawa/KeptName" := (F545.keep Kq563)
                have F570 : Exa Z T563.heap b230 "com/example/ottawa/ottawa/Name" := (F546.keep Kq563)
                have Z571 : n0 ≤ T563.heap.size := (Nat.le_trans Z547 Kq563.1)
                have hk572 : _ ≤ T563.heap.size := (Nat.le_trans hk548 Kq563.1)
                have C573 := (C549.trans (CHr.keep Kq563 (by intro x hx; cases List.mem_singleton.mp hx; exact (Safe.exa hZ.alike P540 (by decide) (by decide))) C549.1))
                have N563 := Fr.app N539 N563q
                refine Go.step (fun _ kt => st563.trans kt) ?_
                show Go p.tables e below _ (T563.setTop (mkF m 199 #[.val (.int p1), .val (.int p2), .val (.int p3), .val (.int (1 : Int32)), .val (.int (1 : Int32)), .val (.int (1 : Int32)), .val (.int (0 : Int32)), .val (.ref b101), .val (.ref b120), .val (.ref b173), .val (.ref b230), .val (.ref b173), .val (.ref b173), .val (.ref b120)] []))
                refine Go.step (fun _ kt => XS.aload X563.here hx rfl (hb hby at_199) rfl rfl (XS.iloadN X563.here hx rfl (hb hby at_201) rfl kt)) ?_
                show Go p.tables e below _ (T563.setTop (mkF m 202 #[.val (.int p1), .val (.int p2), .val (.int p3), .val (.int (1 : Int32)), .val (.int (1 : Int32)), .val (.int (1 : Int32)), .val (.int (0 : Int32)), .val (.ref b101), .val (.ref b120), .val (.ref b173), .val (.ref b230), .val (.ref b173), .val (.ref b173), .val (.ref b120)] [(.int (1 : Int32)), (.ref b101)]))
                obtain ⟨cq574, kq574, q574a, q574b, q574c⟩ := isOf hZ rfl P564
                obtain ⟨_, _, ⟨T574, L574, k574, n574⟩, -, X574, ⟨Lc574, hQ574, l574, y574, z574⟩, st574⟩ := X563.virtualBack hx (y := (⟨"com/example/ottawa/ottawa/TagPattern", "following", "(Z)Lcom/example/ottawa/ottawa/KeptName;"⟩ : MethodName)) (z := (⟨"com/example/ottawa/ottawa/TagPattern", "following", "(Z)Lcom/example/ottawa/ottawa/KeptName;"⟩ : MethodName)) hown (mvT hZ (hw _ (List.mem_of_getElem? (i := 163) rfl))) (mvT hZ (hw _ (List.mem_of_getElem? (i := 164) rfl))) (notFace_of_selects (args := #[]) (mvT hZ (hw _ (List.mem_of_getElem? (i := 166) rfl)))) (mvT hZ (hw _ (List.mem_of_getElem? (i := 166) rfl))) (mvT hZ (hw _ (List.mem_of_getElem? (i := 165) rfl))) (by decide) (backOf (W := 0) (rmg2 l Z a0 hw [] b101 b173 T563.heap n0 Z571 P565 ) hZ (hw _ (List.mem_of_getElem? (i := 167) rfl)) (hw _ (List.mem_of_getElem? (i := 3) rfl)) (by decide) (by decide)) q574a q574c (g := (mkF m 202 #[.val (.int p1), .val (.int p2), .val (.int p3), .val (.int (1 : Int32)), .val (.int (1 : Int32)), .val (.int (1 : Int32)), .val (.int (0 : Int32)), .val (.ref b101), .val (.ref b120), .val (.ref b173), .val (.ref b230), .val (.ref b173), .val (.ref b173), .val (.ref b120)] [(.int (1 : Int32)), (.ref b101)])) rfl (by rw [hml]; rfl) (Steps.refl _) (argsL := [(.int (1 : Int32))]) (rest := []) (lenOf pd_17 rfl) rfl (by show 2 * 0 + _ ≤ _; exact Nat.le_of_eq rfl) (hb hby at_202) (fun _ _ => ⟨rfl, rfl, (by decide : 30 + 0 ≤ _), (by decide : 225 + 0 ≤ _)⟩)
                dsimp only [Pt.U, Pt.locs, Pt.cells, Pt.slots] at X574 l574 y574 z574 st574 hQ574
                subst l574 y574 z574
                obtain ⟨rfl, N574q, eh574⟩ := hQ574
                have N574 := Fr.app N563 N574q
                refine Go.step (fun _ kt => st574.trans kt) ?_
                show Go p.tables e below _ (T574.setTop (mkF m 205 #[.val (.int p1), .val (.int p2), .val (.int p3), .val (.int (1 : Int32)), .val (.int (1 : Int32)), .val (.int (1 : Int32)), .val (.int (0 : Int32)), .val (.ref b101), .val (.ref b120), .val (.ref b173), .val (.ref b230), .val (.ref b173), .val (.ref b173), .val (.ref b120)] [(.ref b173)]))
                refine Go.step (fun _ kt => XS.aload X574.here hx rfl (hb hby at_205) rfl rfl kt) ?_
                show Go p.tables e below _ (T574.setTop (mkF m 207 #[.val (.int p1), .val (.int p2), .val (.int p3), .val (.int (1 : Int32)), .val (.int (1 : Int32)), .val (.int (1 : Int32)), .val (.int (0 : Int32)), .val (.ref b101), .val (.ref b120), .val (.ref b173), .val (.ref b230), .val (.ref b173), .val (.ref b173), .val (.ref b120)] [(.ref b173), (.ref b173)]))
                refine Go.step (fun _ kt => Jvm.RoadKit.acmp (g := (mkF m 207 #[.val (.int p1), .val (.int p2), .val (.int p3), .val (.int (1 : Int32)), .val (.int (1 : Int32)), .val (.int (1 : Int32)), .val (.int (0 : Int32)), .val (.ref b101), .val (.ref b120), .val (.ref b173), .val (.ref b230), .val (.ref b173), .val (.ref b173), .val (.ref b120)] [(.ref b173), (.ref b173)])) X574 hx rfl rfl rfl (pc0 := 207) (pc' := 210) (same := true) rfl (hb hby at_207) rfl (decide_eq_true rfl) (by decide) (by decide) kt) ?_
                show Go p.tables e below _ (T574.setTop (mkF m 210 #[.val (.int p1), .val (.int p2), .val (.int p3), .val (.int (1 : Int32)), .val (.int (1 : Int32)), .val (.int (1 : Int32)), .val (.int (0 : Int32)), .val (.ref b101), .val (.ref b120), .val (.ref b173), .val (.ref b230), .val (.ref b173), .val (.ref b173), .val (.ref b120)] []))
                refine Go.step (fun _ kt => XS.aload X574.here hx rfl (hb hby at_210) rfl rfl (XS.iloadN X574.here hx rfl (hb hby at_212) rfl (XS.ifYes X574.here hx rfl (pc0 := 213) (pc' := 220) rfl (hb hby at_213) rfl ((if0 _ _).trans (feq (by decide : ¬ ((1 : Int32) = (0 : Int32)))).2) (by decide) (by decide) (XS.iconst X574.here hx rfl (hb hby at_220) kt)))) ?_
                show Go p.tables e below _ (T574.setTop (mkF m 221 #[.val (.int p1), .val (.int p2), .val (.int p3), .val (.int (1 : Int32)), .val (.int (1 : Int32)), .val (.int (1 : Int32)), .val (.int (0 : Int32)), .val (.ref b101), .val (.ref b120), .val (.ref b173), .val (.ref b230), .val (.ref b173), .val (.ref b173), .val (.ref b120)] [(.int (0 : Int32)), (.ref b101)]))
                obtain ⟨cq575, kq575, q575a, q575b, q575c⟩ := isOf hZ eh574 P564
                obtain ⟨_, _, ⟨T575, L575, k575, n575⟩, -, X575, ⟨Lc575, hQ575, l575, y575, z575⟩, st575⟩ := X574.virtualBack hx (y := (⟨"com/example/ottawa/ottawa/TagPattern", "following", "(Z)Lcom/example/ottawa/ottawa/KeptName;"⟩ : MethodName)) (z := (⟨"com/example/ottawa/ottawa/TagPattern", "following", "(Z)Lcom/example/ottawa/ottawa/KeptName;"⟩ : MethodName)) hown (mvT hZ (hw _ (List.mem_of_getElem? (i := 163) rfl))) (mvT hZ (hw _ (List.mem_of_getElem? (i := 164) rfl))) (notFace_of_selects (args := #[]) (mvT hZ (hw _ (List.mem_of_getElem? (i := 166) rfl)))) (mvT hZ (hw _ (List.mem_of_getElem? (i := 166) rfl))) (mvT hZ (hw _ (List.mem_of_getElem? (i := 165) rfl))) (by decide) (backOf (W := 0) (rmg0 l Z a0 hw [] b101 b120 T563.heap n0 Z571 P566 ) hZ (hw _ (List.mem_of_getElem? (i := 167) rfl)) (hw _ (List.mem_of_getElem? (i := 3) rfl)) (by decide) (by decide)) q575a q575c (g := (mkF m 221 #[.val (.int p1), .val (.int p2), .val (.int p3), .val (.int (1 : Int32)), .val (.int (1 : Int32)), .val (.int (1 : Int32)), .val (.int (0 : Int32)), .val (.ref b101), .val (.ref b120), .val (.ref b173), .val (.ref b230), .val (.ref b173), .val (.ref b173), .val (.ref b120)] [(.int (0 : Int32)), (.ref b101)])) rfl (by rw [hml]; rfl) (Steps.refl _) (argsL := [(.int (0 : Int32))]) (rest := []) (lenOf pd_17 rfl) rfl (by show 2 * 0 + _ ≤ _; exact Nat.le_of_eq rfl) (hb hby at_221) (fun _ _ => ⟨rfl, eh574, (by decide : 30 + 0 ≤ _), (by decide : 225 + 0 ≤ _)⟩)
                dsimp only [Pt.U, Pt.locs, Pt.cells, Pt.slots] at X575 l575 y575 z575 st575 hQ575
                subst l575 y575 z575
                obtain ⟨rfl, N575q, eh575⟩ := hQ575
                have N575 := Fr.app N574 N575q
                refine Go.step (fun _ kt => st575.trans kt) ?_
                show Go p.tables e below _ (T575.setTop (mkF m 224 #[.val (.int p1), .val (.int p2), .val (.int p3), .val (.int (1 : Int32)), .val (.int (1 : Int32)), .val (.int (1 : Int32)), .val (.int (0 : Int32)), .val (.ref b101), .val (.ref b120), .val (.ref b173), .val (.ref b230), .val (.ref b173), .val (.ref b173), .val (.ref b120)] [(.ref b120)]))
                refine Go.step (fun _ kt => XS.aload X575.here hx rfl (hb hby at_224) rfl rfl kt) ?_
                show Go p.tables e below _ (T575.setTop (mkF m 226 #[.val (.int p1), .val (.int p2), .val (.int p3), .val (.int (1 : Int32)), .val (.int (1 : Int32)), .val (.int (1 : Int32)), .val (.int (0 : Int32)), .val (.ref b101), .val (.ref b120), .val (.ref b173), .val (.ref b230), .val (.ref b173), .val (.ref b173), .val (.ref b120)] [(.ref b120), (.ref b120)]))
                refine Go.step (fun _ kt => Jvm.RoadKit.acmp (g := (mkF m 226 #[.val (.int p1), .val (.int p2), .val (.int p3), .val (.int (1 : Int32)), .val (.int (1 : Int32)), .val (.int (1 : Int32)), .val (.int (0 : Int32)), .val (.ref b101), .val (.ref b120), .val (.ref b173), .val (.ref b230), .val (.ref b173), .val (.ref b173), .val (.ref b120)] [(.ref b120), (.ref b120)])) X575 hx rfl rfl rfl (pc0 := 226) (pc' := 229) (same := true) rfl (hb hby at_226) rfl (decide_eq_true rfl) (by decide) (by decide) kt) ?_
                show Go p.tables e below _ (T575.setTop (mkF m 229 #[.val (.int p1), .val (.int p2), .val (.int p3), .val (.int (1 : Int32)), .val (.int (1 : Int32)), .val (.int (1 : Int32)), .val (.int (0 : Int32)), .val (.ref b101), .val (.ref b120), .val (.ref b173), .val (.ref b230), .val (.ref b173), .val (.ref b173), .val (.ref b120)] []))
                refine Go.step (fun _ kt => XS.iconst X575.here hx rfl (hb hby at_229) (XS.goto X575.here hx rfl (pc0 := 230) (pc' := 234) rfl (hb hby at_230) (by decide) (by decide) kt)) ?_
                show Go p.tables e below _ (T575.setTop (mkF m 234 #[.val (.int p1), .val (.int p2), .val (.int p3), .val (.int (1 : Int32)), .val (.int (1 : Int32)), .val (.int (1 : Int32)), .val (.int (0 : Int32)), .val (.ref b101), .val (.ref b120), .val (.ref b173), .val (.ref b230), .val (.ref b173), .val (.ref b173), .val (.ref b120)] [(.int (1 : Int32))]))
                obtain ⟨fs, hr, hrun, hended, hRW⟩ := X575.leaveW hS266 (by rw [eh575]; exact hk572) (v := some (.int (1 : Int32))) (fun h => by rw [Bd.returns] at h; cases h)
                refine ⟨_, _, retN X575 hx (t := .boolean) Bd.returns (by simp) (hb hby at_234) hr, hrun, hended, _, _, rfl, ?_, (by have q := C573.trans (CHv.at X575 hZ (own_EW hw) C573.1); rw [hh]; rw [← eh575] at q; exact q), hRW.1, hRW.2.1, hRW.2.2.1, hRW.2.2.2.mono (by decide) (by decide)⟩
                show Qrm0 Z p1 p2 p3 cs h0 n0 _ T575.heap _
                rw [eh575]
                exact ⟨rfl, N575⟩
            · rw [hq]
              show Go p.tables e below _ (T539.setTop (mkF m 123 #[.val (.int p1), .val (.int p2), .val (.int p3), .val (.int bi), .val (.int (1 : Int32)), .val (.int (1 : Int32)), .val (.int (1 : Int32)), .val (.ref b101), .val (.ref b120), .val (.ref b173), .val (.ref b230), .unset, .unset, .unset] []))
              refine Go.step (fun _ kt => XS.iload X539.here hx rfl (hb hby at_123) rfl (XS.ifYes X539.here hx rfl (pc0 := 125) (pc' := 133) rfl (hb hby at_125) rfl ((if0 _ _).trans (feq (by decide : ¬ ((1 : Int32) = (0 : Int32)))).2) (by decide) (by decide) (XS.iload X539.here hx rfl (hb hby at_133) rfl (XS.iconst X539.here hx rfl (hb hby at_135) (XS.icmpNo X539.here hx rfl (hb hby at_136) rfl (teq (by decide : (1 : Int32) = (1 : Int32))).2 (XS.aload X539.here hx rfl (hb hby at_139) rfl rfl (XS.goto X539.here hx rfl (pc0 := 141) (pc' := 145) rfl (hb hby at_141) (by decide) (by decide) (XS.astore X539.here hx rfl (hb hby at_145) rfl rfl (l' := #[.val (.int p1), .val (.int p2), .val (.int p3), .val (.int bi), .val (.int (1 : Int32)), .val (.int (1 : Int32)), .val (.int (1 : Int32)), .val (.ref b101), .val (.ref b120), .val (.ref b173), .val (.ref b230), .val (.ref b230), .unset, .unset]) rfl (XS.iload X539.here hx rfl (hb hby at_147) rfl (XS.ifYes X539.here hx rfl (pc0 := 149) (pc' := 157) rfl (hb hby at_149) rfl ((if0 _ _).trans (feq (by decide : ¬ ((1 : Int32) = (0 : Int32)))).2) (by decide) (by decide) (XS.aconstNull X539.here hx rfl (hb hby at_157) (XS.astore X539.here hx rfl (hb hby at_158) rfl rfl (l' := #[.val (.int p1), .val (.int p2), .val (.int p3), .val (.int bi), .val (.int (1 : Int32)), .val (.int (1 : Int32)), .val (.int (1 : Int32)), .val (.ref b101), .val (.ref b120), .val (.ref b173), .val (.ref b230), .val (.ref b230), .val .null, .unset]) rfl kt)))))))))))) ?_
              show Go p.tables e below _ (T539.setTop (mkF m 160 #[.val (.int p1), .val (.int p2), .val (.int p3), .val (.int bi), .val (.int (1 : Int32)), .val (.int (1 : Int32)), .val (.int (1 : Int32)), .val (.ref b101), .val (.ref b120), .val (.ref b173), .val (.ref b230), .val (.ref b230), .val .null, .unset] []))
              rcases h_bi with hq | hq
              · rw [hq]
                show Go p.tables e below _ (T539.setTop (mkF m 160 #[.val (.int p1), .val (.int p2), .val (.int p3), .val (.int (0 : Int32)), .val (.int (1 : Int32)), .val (.int (1 : Int32)), .val (.int (1 : Int32)), .val (.ref b101), .val (.ref b120), .val (.ref b173), .val (.ref b230), .val (.ref b230), .val .null, .unset] []))
                refine Go.step (fun _ kt => XS.iloadN X539.here hx rfl (hb hby at_160) rfl (XS.ifYes X539.here hx rfl (pc0 := 161) (pc' := 178) rfl (hb hby at_161) rfl ((if0 _ _).trans (teq (by decide : (0 : Int32) = (0 : Int32))).1) (by decide) (by decide) (XS.iload X539.here hx rfl (hb hby at_178) rfl (XS.ifNo X539.here hx rfl (hb hby at_180) rfl ((if0 _ _).trans (feq (by decide : ¬ ((1 : Int32) = (0 : Int32)))).1) (XS.aload X539.here hx rfl (hb hby at_183) rfl rfl (XS.goto X539.here hx rfl (pc0 := 185) (pc' := 189) rfl (hb hby at_185) (by decide) (by decide) (XS.astore X539.here hx rfl (hb hby at_189) rfl rfl (l' := #[.val (.int p1), .val (.int p2), .val (.int p3), .val (.int (0 : Int32)), .val (.int (1 : Int32)), .val (.int (1 : Int32)), .val (.int (1 : Int32)), .val (.ref b101), .val (.ref b120), .val (.ref b173), .val (.ref b230), .val (.ref b230), .val .null, .val (.ref b120)]) rfl (XS.aload X539.here hx rfl (hb hby at_191) rfl rfl (XS.iloadN X539.here hx rfl (hb hby at_193) rfl (XS.aload X539.here hx rfl (hb hby at_194) rfl rfl kt)))))))))) ?_
                show Go p.tables e below _ (T539.setTop (mkF m 196 #[.val (.int p1), .val (.int p2), .val (.int p3), .val (.int (0 : Int32)), .val (.int (1 : Int32)), .val (.int (1 : Int32)), .val (.int (1 : Int32)), .val (.ref b101), .val (.ref b120), .val (.ref b173), .val (.ref b230), .val (.ref b230), .val .null, .val (.ref b120)] [(.ref b230), (.int (0 : Int32)), (.ref b101)]))
                obtain ⟨cq576, kq576, q576a, q576b, q576c⟩ := isOf hZ rfl P540
                obtain ⟨_, _, ⟨T576, L576, k576, n576⟩, -, X576, ⟨Lc576, hQ576, l576, y576, z576⟩, st576⟩ := X539.virtualBack hx (y := (⟨"com/example/ottawa/ottawa/TagPattern", "follow", "(ZLcom/example/ottawa/ottawa/Name;)V"⟩ : MethodName)) (z := (⟨"com/example/ottawa/ottawa/TagPattern", "follow", "(ZLcom/example/ottawa/ottawa/Name;)V"⟩ : MethodName)) hown (mvT hZ (hw _ (List.mem_of_getElem? (i := 153) rfl))) (mvT hZ (hw _ (List.mem_of_getElem? (i := 154) rfl))) (notFace_of_selects (args := #[]) (mvT hZ (hw _ (List.mem_of_getElem? (i := 156) rfl)))) (mvT hZ (hw _ (List.mem_of_getElem? (i := 156) rfl))) (mvT hZ (hw _ (List.mem_of_getElem? (i := 155) rfl))) (by decide) (backOf (W := 0) (rmf2 l Z a0 hw [] b101 b230 (.ref b120) (.ref b120) T539.heap n0 Z547 P540 P541 P542 F546 g_b101 (Ne.symm ne_b101_b230)) hZ (hw _ (List.mem_of_getElem? (i := 157) rfl)) (hw _ (List.mem_of_getElem? (i := 3) rfl)) (by decide) (by decide)) q576a q576c (g := (mkF m 196 #[.val (.int p1), .val (.int p2), .val (.int p3), .val (.int (0 : Int32)), .val (.int (1 : Int32)), .val (.int (1 : Int32)), .val (.int (1 : Int32)), .val (.ref b101), .val (.ref b120), .val (.ref b173), .val (.ref b230), .val (.ref b230), .val .null, .val (.ref b120)] [(.ref b230), (.int (0 : Int32)), (.ref b101)])) rfl (by rw [hml]; rfl) (Steps.refl _) (argsL := [(.int (0 : Int32)), (.ref b230)]) (rest := []) (lenOf pd_16 rfl) rfl (by show 2 * 0 + _ ≤ _; exact Nat.le_of_eq rfl) (hb hby at_196) (fun _ _ => ⟨rfl, rfl, (by decide : 30 + 0 ≤ _), (by decide : 225 + 0 ≤ _)⟩)
                dsimp only [Pt.U, Pt.locs, Pt.cells, Pt.slots] at X576 l576 y576 z576 st576 hQ576
                subst l576 y576 z576
                obtain ⟨rfl, N576q, Kq576, P577, P578, P579⟩ := hQ576
                have F580 : Exa Z T576.heap b101 "com/example/ottawa/ottawa/TagPattern" := (P540.keep Kq576)
                have F581 : Exa Z T576.heap b120 "com/example/ottawa/ottawa/KeptName" := (F544.keep Kq576)
                have F582 : Exa Z T576.heap b173 "com/example/ottawa/ottawa/KeptName" := (F545.keep Kq576)
                have F583 : Exa Z T576.heap b230 "com/example/ottawa/ottawa/Name" := (F546.keep Kq576)
                have Z584 : n0 ≤ T576.heap.size := (Nat.le_trans Z547 Kq576.1)
                have hk585 : _ ≤ T576.heap.size := (Nat.le_trans hk548 Kq576.1)
                have C586 := (C549.trans (CHr.keep Kq576 (by intro x hx; cases List.mem_singleton.mp hx; exact (Safe.exa hZ.alike P540 (by decide) (by decide))) C549.1))
                have N576 := Fr.app N539 N576q
                refine Go.step (fun _ kt => st576.trans kt) ?_
                show Go p.tables e below _ (T576.setTop (mkF m 199 #[.val (.int p1), .val (.int p2), .val (.int p3), .val (.int (0 : Int32)), .val (.int (1 : Int32)), .val (.int (1 : Int32)), .val (.int (1 : Int32)), .val (.ref b101), .val (.ref b120), .val (.ref b173), .val (.ref b230), .val (.ref b230), .val .null, .val (.ref b120)] []))
                refine Go.step (fun _ kt => XS.aload X576.here hx rfl (hb hby at_199) rfl rfl (XS.iloadN X576.here hx rfl (hb hby at_201) rfl kt)) ?_
                show Go p.tables e below _ (T576.setTop (mkF m 202 #[.val (.int p1), .val (.int p2), .val (.int p3), .val (.int (0 : Int32)), .val (.int (1 : Int32)), .val (.int (1 : Int32)), .val (.int (1 : Int32)), .val (.ref b101), .val (.ref b120), .val (.ref b173), .val (.ref b230), .val (.ref b230), .val .null, .val (.ref b120)] [(.int (0 : Int32)), (.ref b101)]))
                obtain ⟨cq587, kq587, q587a, q587b, q587c⟩ := isOf hZ rfl P577
                obtain ⟨_, _, ⟨T587, L587, k587, n587⟩, -, X587, ⟨Lc587, hQ587, l587, y587, z587⟩, st587⟩ := X576.virtualBack hx (y := (⟨"com/example/ottawa/ottawa/TagPattern", "following", "(Z)Lcom/example/ottawa/ottawa/KeptName;"⟩ : MethodName)) (z := (⟨"com/example/ottawa/ottawa/TagPattern", "following", "(Z)Lcom/example/ottawa/ottawa/KeptName;"⟩ : MethodName)) hown (mvT hZ (hw _ (List.mem_of_getElem? (i := 163) rfl))) (mvT hZ (hw _ (List.mem_of_getElem? (i := 164) rfl))) (notFace_of_selects (args := #[]) (mvT hZ (hw _ (List.mem_of_getElem? (i := 166) rfl)))) (mvT hZ (hw _ (List.mem_of_getElem? (i := 166) rfl))) (mvT hZ (hw _ (List.mem_of_getElem? (i := 165) rfl))) (by decide) (backOf (W := 0) (rmg3 l Z a0 hw [] b101  T576.heap n0 Z584 P579 ) hZ (hw _ (List.mem_of_getElem? (i := 167) rfl)) (hw _ (List.mem_of_getElem? (i := 3) rfl)) (by decide) (by decide)) q587a q587c (g := (mkF m 202 #[.val (.int p1), .val (.int p2), .val (.int p3), .val (.int (0 : Int32)), .val (.int (1 : Int32)), .val (.int (1 : Int32)), .val (.int (1 : Int32)), .val (.ref b101), .val (.ref b120), .val (.ref b173), .val (.ref b230), .val (.ref b230), .val .null, .val (.ref b120)] [(.int (0 : Int32)), (.ref b101)])) rfl (by rw [hml]; rfl) (Steps.refl _) (argsL := [(.int (0 : Int32))]) (rest := []) (lenOf pd_17 rfl) rfl (by show 2 * 0 + _ ≤ _; exact Nat.le_of_eq rfl) (hb hby at_202) (fun _ _ => ⟨rfl, rfl, (by decide : 30 + 0 ≤ _), (by decide : 225 + 0 ≤ _)⟩)
                dsimp only [Pt.U, Pt.locs, Pt.cells, Pt.slots] at X587 l587 y587 z587 st587 hQ587
                subst l587 y587 z587
                obtain ⟨rfl, N587q, eh587⟩ := hQ587
                have N587 := Fr.app N576 N587q
                refine Go.step (fun _ kt => st587.trans kt) ?_
                show Go p.tables e below _ (T587.setTop (mkF m 205 #[.val (.int p1), .val (.int p2), .val (.int p3), .val (.int (0 : Int32)), .val (.int (1 : Int32)), .val (.int (1 : Int32)), .val (.int (1 : Int32)), .val (.ref b101), .val (.ref b120), .val (.ref b173), .val (.ref b230), .val (.ref b230), .val .null, .val (.ref b120)] [.null]))
                refine Go.step (fun _ kt => XS.aload X587.here hx rfl (hb hby at_205) rfl rfl kt) ?_
                show Go p.tables e below _ (T587.setTop (mkF m 207 #[.val (.int p1), .val (.int p2), .val (.int p3), .val (.int (0 : Int32)), .val (.int (1 : Int32)), .val (.int (1 : Int32)), .val (.int (1 : Int32)), .val (.ref b101), .val (.ref b120), .val (.ref b173), .val (.ref b230), .val (.ref b230), .val .null, .val (.ref b120)] [.null, .null]))
                refine Go.step (fun _ kt => Jvm.RoadKit.acmp (g := (mkF m 207 #[.val (.int p1), .val (.int p2), .val (.int p3), .val (.int (0 : Int32)), .val (.int (1 : Int32)), .val (.int (1 : Int32)), .val (.int (1 : Int32)), .val (.ref b101), .val (.ref b120), .val (.ref b173), .val (.ref b230), .val (.ref b230), .val .null, .val (.ref b120)] [.null, .null])) X587 hx rfl rfl rfl (pc0 := 207) (pc' := 210) (same := true) rfl (hb hby at_207) rfl (decide_eq_true rfl) (by decide) (by decide) kt) ?_
                show Go p.tables e below _ (T587.setTop (mkF m 210 #[.val (.int p1), .val (.int p2), .val (.int p3), .val (.int (0 : Int32)), .val (.int (1 : Int32)), .val (.int (1 : Int32)), .val (.int (1 : Int32)), .val (.ref b101), .val (.ref b120), .val (.ref b173), .val (.ref b230), .val (.ref b230), .val .null, .val (.ref b120)] []))
                refine Go.step (fun _ kt => XS.aload X587.here hx rfl (hb hby at_210) rfl rfl (XS.iloadN X587.here hx rfl (hb hby at_212) rfl (XS.ifNo X587.here hx rfl (hb hby at_213) rfl ((if0 _ _).trans (teq (by decide : (0 : Int32) = (0 : Int32))).2) (XS.iconst X587.here hx rfl (hb hby at_216) (XS.goto X587.here hx rfl (pc0 := 217) (pc' := 221) rfl (hb hby at_217) (by decide) (by decide) kt))))) ?_
                show Go p.tables e below _ (T587.setTop (mkF m 221 #[.val (.int p1), .val (.int p2), .val (.int p3), .val (.int (0 : Int32)), .val (.int (1 : Int32)), .val (.int (1 : Int32)), .val (.int (1 : Int32)), .val (.ref b101), .val (.ref b120), .val (.ref b173), .val (.ref b230), .val (.ref b230), .val .null, .val (.ref b120)] [(.int (1 : Int32)), (.ref b101)]))
                obtain ⟨cq588, kq588, q588a, q588b, q588c⟩ := isOf hZ eh587 P577
                obtain ⟨_, _, ⟨T588, L588, k588, n588⟩, -, X588, ⟨Lc588, hQ588, l588, y588, z588⟩, st588⟩ := X587.virtualBack hx (y := (⟨"com/example/ottawa/ottawa/TagPattern", "following", "(Z)Lcom/example/ottawa/ottawa/KeptName;"⟩ : MethodName)) (z := (⟨"com/example/ottawa/ottawa/TagPattern", "following", "(Z)Lcom/example/ottawa/ottawa/KeptName;"⟩ : MethodName)) hown (mvT hZ (hw _ (List.mem_of_getElem? (i := 163) rfl))) (mvT hZ (hw _ (List.mem_of_getElem? (i := 164) rfl))) (notFace_of_selects (args := #[]) (mvT hZ (hw _ (List.mem_of_getElem? (i := 166) rfl)))) (mvT hZ (hw _ (List.mem_of_getElem? (i := 166) rfl))) (mvT hZ (hw _ (List.mem_of_getElem? (i := 165) rfl))) (by decide) (backOf (W := 0) (rmg2 l Z a0 hw [] b101 b120 T576.heap n0 Z584 P578 ) hZ (hw _ (List.mem_of_getElem? (i := 167) rfl)) (hw _ (List.mem_of_getElem? (i := 3) rfl)) (by decide) (by decide)) q588a q588c (g := (mkF m 221 #[.val (.int p1), .val (.int p2), .val (.int p3), .val (.int (0 : Int32)), .val (.int (1 : Int32)), .val (.int (1 : Int32)), .val (.int (1 : Int32)), .val (.ref b101), .val (.ref b120), .val (.ref b173), .val (.ref b230), .val (.ref b230), .val .null, .val (.ref b120)] [(.int (1 : Int32)), (.ref b101)])) rfl (by rw [hml]; rfl) (Steps.refl _) (argsL := [(.int (1 : Int32))]) (rest := []) (lenOf pd_17 rfl) rfl (by show 2 * 0 + _ ≤ _; exact Nat.le_of_eq rfl) (hb hby at_221) (fun _ _ => ⟨rfl, eh587, (by decide : 30 + 0 ≤ _), (by decide : 225 + 0 ≤ _)⟩)
                dsimp only [Pt.U, Pt.locs, Pt.cells, Pt.slots] at X588 l588 y588 z588 st588 hQ588
                subst l588 y588 z588
                obtain ⟨rfl, N588q, eh588⟩ := hQ588
                have N588 := Fr.app N587 N588q
                refine Go.step (fun _ kt => st588.trans kt) ?_
                show Go p.tables e below _ (T588.setTop (mkF m 224 #[.val (.int p1), .val (.int p2), .val (.int p3), .val (.int (0 : Int32)), .val (.int (1 : Int32)), .val (.int (1 : Int32)), .val (.int (1 : Int32)), .val (.ref b101), .val (.ref b120), .val (.ref b173), .val (.ref b230), .val (.ref b230), .val .null, .val (.ref b120)] [(.ref b120)]))
                refine Go.step (fun _ kt => XS.aload X588.here hx rfl (hb hby at_224) rfl rfl kt) ?_
                show Go p.tables e below _ (T588.setTop (mkF m 226 #[.val (.int p1), .val (.int p2), .val (.int p3), .val (.int (0 : Int32)), .val (.int (1 : Int32)), .val (.int (1 : Int32)), .val (.int (1 : Int32)), .val (.ref b101), .val (.ref b120), .val (.ref b173), .val (.ref b230), .val (.ref b230), .val .null, .val (.ref b120)] [(.ref b120), (.ref b120)]))
                refine Go.step (fun _ kt => Jvm.RoadKit.acmp (g := (mkF m 226 #[.val (.int p1), .val (.int p2), .val (.int p3), .val (.int (0 : Int32)), .val (.int (1 : Int32)), .val (.int (1 : Int32)), .val (.int (1 : Int32)), .val (.ref b101), .val (.ref b120), .val (.ref b173), .val (.ref b230), .val (.ref b230), .val .null, .val (.ref b120)] [(.ref b120), (.ref b120)])) X588 hx rfl rfl rfl (pc0 := 226) (pc' := 229) (same := true) rfl (hb hby at_226) rfl (decide_eq_true rfl) (by decide) (by decide) kt) ?_
                show Go p.tables e below _ (T588.setTop (mkF m 229 #[.val (.int p1), .val (.int p2), .val (.int p3), .val (.int (0 : Int32)), .val (.int (1 : Int32)), .val (.int (1 : Int32)), .val (.int (1 : Int32)), .val (.ref b101), .val (.ref b120), .val (.ref b173), .val (.ref b230), .val (.ref b230), .val .null, .val (.ref b120)] []))
                refine Go.step (fun _ kt => XS.iconst X588.here hx rfl (hb hby at_229) (XS.goto X588.here hx rfl (pc0 := 230) (pc' := 234) rfl (hb hby at_230) (by decide) (by decide) kt)) ?_
                show Go p.tables e below _ (T588.setTop (mkF m 234 #[.val (.int p1), .val (.int p2), .val (.int p3), .val (.int (0 : Int32)), .val (.int (1 : Int32)), .val (.int (1 : Int32)), .val (.int (1 : Int32)), .val (.ref b101), .val (.ref b120), .val (.ref b173), .val (.ref b230), .val (.ref b230), .val .null, .val (.ref b120)] [(.int (1 : Int32))]))
                obtain ⟨fs, hr, hrun, hended, hRW⟩ := X588.leaveW hS266 (by rw [eh588]; exact hk585) (v := some (.int (1 : Int32))) (fun h => by rw [Bd.returns] at h; cases h)
                refine ⟨_, _, retN X588 hx (t := .boolean) Bd.returns (by simp) (hb hby at_234) hr, hrun, hended, _, _, rfl, ?_, (by have q := C586.trans (CHv.at X588 hZ (own_EW hw) C586.1); rw [hh]; rw [← eh588] at q; exact q), hRW.1, hRW.2.1, hRW.2.2.1, hRW.2.2.2.mono (by decide) (by decide)⟩
                show Qrm0 Z p1 p2 p3 cs h0 n0 _ T588.heap _
                rw [eh588]
                exact ⟨rfl, N588⟩
              · rw [hq]
                show Go p.tables e below _ (T539.setTop (mkF m 160 #[.val (.int p1), .val (.int p2), .val (.int p3), .val (.int (1 : Int32)), .val (.int (1 : Int32)), .val (.int (1 : Int32)), .val (.int (1 : Int32)), .val (.ref b101), .val (.ref b120), .val (.ref b173), .val (.ref b230), .val (.ref b230), .val .null, .unset] []))
                refine Go.step (fun _ kt => XS.iloadN X539.here hx rfl (hb hby at_160) rfl (XS.ifNo X539.here hx rfl (hb hby at_161) rfl ((if0 _ _).trans (feq (by decide : ¬ ((1 : Int32) = (0 : Int32)))).1) (XS.iload X539.here hx rfl (hb hby at_164) rfl (XS.ifNo X539.here hx rfl (hb hby at_166) rfl ((if0 _ _).trans (feq (by decide : ¬ ((1 : Int32) = (0 : Int32)))).1) (XS.aload X539.here hx rfl (hb hby at_169) rfl rfl (XS.goto X539.here hx rfl (pc0 := 171) (pc' := 189) rfl (hb hby at_171) (by decide) (by decide) (XS.astore X539.here hx rfl (hb hby at_189) rfl rfl (l' := #[.val (.int p1), .val (.int p2), .val (.int p3), .val (.int (1 : Int32)), .val (.int (1 : Int32)), .val (.int (1 : Int32)), .val (.int (1 : Int32)), .val (.ref b101), .val (.ref b120), .val (.ref b173), .val (.ref b230), .val (.ref b230), .val .null, .val (.ref b120)]) rfl (XS.aload X539.here hx rfl (hb hby at_191) rfl rfl (XS.iloadN X539.here hx rfl (hb hby at_193) rfl (XS.aload X539.here hx rfl (hb hby at_194) rfl rfl kt)))))))))) ?_
                show Go p.tables e below _ (T539.setTop (mkF m 196 #[.val (.int p1), .val (.int p2), .val (.int p3), .val (.int (1 : Int32)), .val (.int (1 : Int32)), .val (.int (1 : Int32)), .val (.int (1 : Int32)), .val (.ref b101), .val (.ref b120), .val (.ref b173), .val (.ref b230), .val (.ref b230), .val .null, .val (.ref b120)] [(.ref b230), (.int (1 : Int32)), (.ref b101)]))
                obtain ⟨cq589, kq589, q589a, q589b, q589c⟩ := isOf hZ rfl P540
                obtain ⟨_, _, ⟨T589, L589, k589, n589⟩, -, X589, ⟨Lc589, hQ589, l589, y589, z589⟩, st589⟩ := X539.virtualBack hx (y := (⟨"com/example/ottawa/ottawa/TagPattern", "follow", "(ZLcom/example/ottawa/ottawa/Name;)V"⟩ : MethodName)) (z := (⟨"com/example/ottawa/ottawa/TagPattern", "follow", "(ZLcom/example/ottawa/ottawa/Name;)V"⟩ : MethodName)) hown (mvT hZ (hw _ (List.mem_of_getElem? (i := 153) rfl))) (mvT hZ (hw _ (List.mem_of_getElem? (i := 154) rfl))) (notFace_of_selects (args := #[]) (mvT hZ (hw _ (List.mem_of_getElem? (i := 156) rfl)))) (mvT hZ (hw _ (List.mem_of_getElem? (i := 156) rfl))) (mvT hZ (hw _ (List.mem_of_getElem? (i := 155) rfl))) (by decide) (backOf (W := 0) (rmf3 l Z a0 hw [] b101 b230 (.ref b120) (.ref b120) T539.heap n0 Z547 P540 P541 P542 F546 g_b101 (Ne.symm ne_b101_b230)) hZ (hw _ (List.mem_of_getElem? (i := 157) rfl)) (hw _ (List.mem_of_getElem? (i := 3) rfl)) (by decide) (by decide)) q589a q589c (g := (mkF m 196 #[.val (.int p1), .val (.int p2), .val (.int p3), .val (.int (1 : Int32)), .val (.int (1 : Int32)), .val (.int (1 : Int32)), .val (.int (1 : Int32)), .val (.ref b101), .val (.ref b120), .val (.ref b173), .val (.ref b230), .val (.ref b230), .val .null, .val (.ref b120)] [(.ref b230), (.int (1 : Int32)), (.ref b101)])) rfl (by rw [hml]; rfl) (Steps.refl _) (argsL := [(.int (1 : Int32)), (.ref b230)]) (rest := []) (lenOf pd_16 rfl) rfl (by show 2 * 0 + _ ≤ _; exact Nat.le_of_eq rfl) (hb hby at_196) (fun _ _ => ⟨rfl, rfl, (by decide : 30 + 0 ≤ _), (by decide : 225 + 0 ≤ _)⟩)
                dsimp only [Pt.U, Pt.locs, Pt.cells, Pt.slots] at X589 l589 y589 z589 st589 hQ589
                subst l589 y589 z589
                obtain ⟨rfl, N589q, Kq589, P590, P591, P592⟩ := hQ589
                have F593 : Exa Z T589.heap b101 "com/example/ottawa/ottawa/TagPattern" := (P540.keep Kq589)
                have F594 : Exa Z T589.heap b120 "com/example/ottawa/ottawa/KeptName" := (F544.keep Kq589)
                have F595 : Exa Z T589.heap b173 "com/example/ottawa/ottawa/KeptName" := (F545.keep Kq589)
                have F596 : Exa Z T589.heap b230 "com/example/ottawa/ottawa/Name" := (F546.keep Kq589)
                have Z597 : n0 ≤ T589.heap.size := (Nat.le_trans Z547 Kq589.1)
                have hk598 : _ ≤ T589.heap.size := (Nat.le_trans hk548 Kq589.1)
                have C599 := (C549.trans (CHr.keep Kq589 (by intro x hx; cases List.mem_singleton.mp hx; exact (Safe.exa hZ.alike P540 (by decide) (by decide))) C549.1))
                have N589 := Fr.app N539 N589q
                refine Go.step (fun _ kt => st589.trans kt) ?_
                show Go p.tables e below _ (T589.setTop (mkF m 199 #[.val (.int p1), .val (.int p2), .val (.int p3), .val (.int (1 : Int32)), .val (.int (1 : Int32)), .val (.int (1 : Int32)), .val (.int (1 : Int32)), .val (.ref b101), .val (.ref b120), .val (.ref b173), .val (.ref b230), .val (.ref b230), .val .null, .val (.ref b120)] []))
                refine Go.step (fun _ kt => XS.aload X589.here hx rfl (hb hby at_199) rfl rfl (XS.iloadN X589.here hx rfl (hb hby at_201) rfl kt)) ?_
                show Go p.tables e below _ (T589.setTop (mkF m 202 #[.val (.int p1), .val (.int p2), .val (.int p3), .val (.int (1 : Int32)), .val (.int (1 : Int32)), .val (.int (1 : Int32)), .val (.int (1 : Int32)), .val (.ref b101), .val (.ref b120), .val (.ref b173), .val (.ref b230), .val (.ref b230), .val .null, .val (.ref b120)] [(.int (1 : Int32)), (.ref b101)]))
                obtain ⟨cq600, kq600, q600a, q600b, q600c⟩ := isOf hZ rfl P590
                obtain ⟨_, _, ⟨T600, L600, k600, n600⟩, -, X600, ⟨Lc600, hQ600, l600, y600, z600⟩, st600⟩ := X589.virtualBack hx (y := (⟨"com/example/ottawa/ottawa/TagPattern", "following", "(Z)Lcom/example/ottawa/ottawa/KeptName;"⟩ : MethodName)) (z := (⟨"com/example/ottawa/ottawa/TagPattern", "following", "(Z)Lcom/example/ottawa/ottawa/KeptName;"⟩ : MethodName)) hown (mvT hZ (hw _ (List.mem_of_getElem? (i := 163) rfl))) (mvT hZ (hw _ (List.mem_of_getElem? (i := 164) rfl))) (notFace_of_selects (args := #[]) (mvT hZ (hw _ (List.mem_of_getElem? (i := 166) rfl)))) (mvT hZ (hw _ (List.mem_of_getElem? (i := 166) rfl))) (mvT hZ (hw _ (List.mem_of_getElem? (i := 165) rfl))) (by decide) (backOf (W := 0) (rmg1 l Z a0 hw [] b101  T589.heap n0 Z597 P591 ) hZ (hw _ (List.mem_of_getElem? (i := 167) rfl)) (hw _ (List.mem_of_getElem? (i := 3) rfl)) (by decide) (by decide)) q600a q600c (g := (mkF m 202 #[.val (.int p1), .val (.int p2), .val (.int p3), .val (.int (1 : Int32)), .val (.int (1 : Int32)), .val (.int (1 : Int32)), .val (.int (1 : Int32)), .val (.ref b101), .val (.ref b120), .val (.ref b173), .val (.ref b230), .val (.ref b230), .val .null, .val (.ref b120)] [(.int (1 : Int32)), (.ref b101)])) rfl (by rw [hml]; rfl) (Steps.refl _) (argsL := [(.int (1 : Int32))]) (rest := []) (lenOf pd_17 rfl) rfl (by show 2 * 0 + _ ≤ _; exact Nat.le_of_eq rfl) (hb hby at_202) (fun _ _ => ⟨rfl, rfl, (by decide : 30 + 0 ≤ _), (by decide : 225 + 0 ≤ _)⟩)
                dsimp only [Pt.U, Pt.locs, Pt.cells, Pt.slots] at X600 l600 y600 z600 st600 hQ600
                subst l600 y600 z600
                obtain ⟨rfl, N600q, eh600⟩ := hQ600
                have N600 := Fr.app N589 N600q
                refine Go.step (fun _ kt => st600.trans kt) ?_
                show Go p.tables e below _ (T600.setTop (mkF m 205 #[.val (.int p1), .val (.int p2), .val (.int p3), .val (.int (1 : Int32)), .val (.int (1 : Int32)), .val (.int (1 : Int32)), .val (.int (1 : Int32)), .val (.ref b101), .val (.ref b120), .val (.ref b173), .val (.ref b230), .val (.ref b230), .val .null, .val (.ref b120)] [.null]))
                refine Go.step (fun _ kt => XS.aload X600.here hx rfl (hb hby at_205) rfl rfl kt) ?_
                show Go p.tables e below _ (T600.setTop (mkF m 207 #[.val (.int p1), .val (.int p2), .val (.int p3), .val (.int (1 : Int32)), .val (.int (1 : Int32)), .val (.int (1 : Int32)), .val (.int (1 : Int32)), .val (.ref b101), .val (.ref b120), .val (.ref b173), .val (.ref b230), .val (.ref b230), .val .null, .val (.ref b120)] [.null, .null]))
                refine Go.step (fun _ kt => Jvm.RoadKit.acmp (g := (mkF m 207 #[.val (.int p1), .val (.int p2), .val (.int p3), .val (.int (1 : Int32)), .val (.int (1 : Int32)), .val (.int (1 : Int32)), .val (.int (1 : Int32)), .val (.ref b101), .val (.ref b120), .val (.ref b173), .val (.ref b230), .val (.ref b230), .val .null, .val (.ref b120)] [.null, .null])) X600 hx rfl rfl rfl (pc0 := 207) (pc' := 210) (same := true) rfl (hb hby at_207) rfl (decide_eq_true rfl) (by decide) (by decide) kt) ?_
                show Go p.tables e below _ (T600.setTop (mkF m 210 #[.val (.int p1), .val (.int p2), .val (.int p3), .val (.int (1 : Int32)), .val (.int (1 : Int32)), .val (.int (1 : Int32)), .val (.int (1 : Int32)), .val (.ref b101), .val (.ref b120), .val (.ref b173), .val (.ref b230), .val (.ref b230), .val .null, .val (.ref b120)] []))
                refine Go.step (fun _ kt => XS.aload X600.here hx rfl (hb hby at_210) rfl rfl (XS.iloadN X600.here hx rfl (hb hby at_212) rfl (XS.ifYes X600.here hx rfl (pc0 := 213) (pc' := 220) rfl (hb hby at_213) rfl ((if0 _ _).trans (feq (by decide : ¬ ((1 : Int32) = (0 : Int32)))).2) (by decide) (by decide) (XS.iconst X600.here hx rfl (hb hby at_220) kt)))) ?_
                show Go p.tables e below _ (T600.setTop (mkF m 221 #[.val (.int p1), .val (.int p2), .val (.int p3), .val (.int (1 : Int32)), .val (.int (1 : Int32)), .val (.int (1 : Int32)), .val (.int (1 : Int32)), .val (.ref b101), .val (.ref b120), .val (.ref b173), .val (.ref b230), .val (.ref b230), .val .null, .val (.ref b120)] [(.int (0 : Int32)), (.ref b101)]))
                obtain ⟨cq601, kq601, q601a, q601b, q601c⟩ := isOf hZ eh600 P590
                obtain ⟨_, _, ⟨T601, L601, k601, n601⟩, -, X601, ⟨Lc601, hQ601, l601, y601, z601⟩, st601⟩ := X600.virtualBack hx (y := (⟨"com/example/ottawa/ottawa/TagPattern", "following", "(Z)Lcom/example/ottawa/ottawa/KeptName;"⟩ : MethodName)) (z := (⟨"com/example/ottawa/ottawa/TagPattern", "following", "(Z)Lcom/example/ottawa/ottawa/KeptName;"⟩ : MethodName)) hown (mvT hZ (hw _ (List.mem_of_getElem? (i := 163) rfl))) (mvT hZ (hw _ (List.mem_of_getElem? (i := 164) rfl))) (notFace_of_selects (args := #[]) (mvT hZ (hw _ (List.mem_of_getElem? (i := 166) rfl)))) (mvT hZ (hw _ (List.mem_of_getElem? (i := 166) rfl))) (mvT hZ (hw _ (List.mem_of_getElem? (i := 165) rfl))) (by decide) (backOf (W := 0) (rmg0 l Z a0 hw [] b101 b120 T589.heap n0 Z597 P592 ) hZ (hw _ (List.mem_of_getElem? (i := 167) rfl)) (hw _ (List.mem_of_getElem? (i := 3) rfl)) (by decide) (by decide)) q601a q601c (g := (mkF m 221 #[.val (.int p1), .val (.int p2), .val (.int p3), .val (.int (1 : Int32)), .val (.int (1 : Int32)), .val (.int (1 : Int32)), .val (.int (1 : Int32)), .val (.ref b101), .val (.ref b120), .val (.ref b173), .val (.ref b230), .val (.ref b230), .val .null, .val (.ref b120)] [(.int (0 : Int32)), (.ref b101)])) rfl (by rw [hml]; rfl) (Steps.refl _) (argsL := [(.int (0 : Int32))]) (rest := []) (lenOf pd_17 rfl) rfl (by show 2 * 0 + _ ≤ _; exact Nat.le_of_eq rfl) (hb hby at_221) (fun _ _ => ⟨rfl, eh600, (by decide : 30 + 0 ≤ _), (by decide : 225 + 0 ≤ _)⟩)
                dsimp only [Pt.U, Pt.locs, Pt.cells, Pt.slots] at X601 l601 y601 z601 st601 hQ601
                subst l601 y601 z601
                obtain ⟨rfl, N601q, eh601⟩ := hQ601
                have N601 := Fr.app N600 N601q
                refine Go.step (fun _ kt => st601.trans kt) ?_
                show Go p.tables e below _ (T601.setTop (mkF m 224 #[.val (.int p1), .val (.int p2), .val (.int p3), .val (.int (1 : Int32)), .val (.int (1 : Int32)), .val (.int (1 : Int32)), .val (.int (1 : Int32)), .val (.ref b101), .val (.ref b120), .val (.ref b173), .val (.ref b230), .val (.ref b230), .val .null, .val (.ref b120)] [(.ref b120)]))
                refine Go.step (fun _ kt => XS.aload X601.here hx rfl (hb hby at_224) rfl rfl kt) ?_
                show Go p.tables e below _ (T601.setTop (mkF m 226 #[.val (.int p1), .val (.int p2), .val (.int p3), .val (.int (1 : Int32)), .val (.int (1 : Int32)), .val (.int (1 : Int32)), .val (.int (1 : Int32)), .val (.ref b101), .val (.ref b120), .val (.ref b173), .val (.ref b230), .val (.ref b230), .val .null, .val (.ref b120)] [(.ref b120), (.ref b120)]))
                refine Go.step (fun _ kt => Jvm.RoadKit.acmp (g := (mkF m 226 #[.val (.int p1), .val (.int p2), .val (.int p3), .val (.int (1 : Int32)), .val (.int (1 : Int32)), .val (.int (1 : Int32)), .val (.int (1 : Int32)), .val (.ref b101), .val (.ref b120), .val (.ref b173), .val (.ref b230), .val (.ref b230), .val .null, .val (.ref b120)] [(.ref b120), (.ref b120)])) X601 hx rfl rfl rfl (pc0 := 226) (pc' := 229) (same := true) rfl (hb hby at_226) rfl (decide_eq_true rfl) (by decide) (by decide) kt) ?_
                show Go p.tables e below _ (T601.setTop (mkF m 229 #[.val (.int p1), .val (.int p2), .val (.int p3), .val (.int (1 : Int32)), .val (.int (1 : Int32)), .val (.int (1 : Int32)), .val (.int (1 : Int32)), .val (.ref b101), .val (.ref b120), .val (.ref b173), .val (.ref b230), .val (.ref b230), .val .null, .val (.ref b120)] []))
                refine Go.step (fun _ kt => XS.iconst X601.here hx rfl (hb hby at_229) (XS.goto X601.here hx rfl (pc0 := 230) (pc' := 234) rfl (hb hby at_230) (by decide) (by decide) kt)) ?_
                show Go p.tables e below _ (T601.setTop (mkF m 234 #[.val (.int p1), .val (.int p2), .val (.int p3), .val (.int (1 : Int32)), .val (.int (1 : Int32)), .val (.int (1 : Int32)), .val (.int (1 : Int32)), .val (.ref b101), .val (.ref b120), .val (.ref b173), .val (.ref b230), .val (.ref b230), .val .null, .val (.ref b120)] [(.int (1 : Int32))]))
                obtain ⟨fs, hr, hrun, hended, hRW⟩ := X601.leaveW hS266 (by rw [eh601]; exact hk598) (v := some (.int (1 : Int32))) (fun h => by rw [Bd.returns] at h; cases h)
                refine ⟨_, _, retN X601 hx (t := .boolean) Bd.returns (by simp) (hb hby at_234) hr, hrun, hended, _, _, rfl, ?_, (by have q := C599.trans (CHv.at X601 hZ (own_EW hw) C599.1); rw [hh]; rw [← eh601] at q; exact q), hRW.1, hRW.2.1, hRW.2.2.1, hRW.2.2.2.mono (by decide) (by decide)⟩
                show Qrm0 Z p1 p2 p3 cs h0 n0 _ T601.heap _
                rw [eh601]
                exact ⟨rfl, N601⟩
            · rw [hq]
              show Go p.tables e below _ (T539.setTop (mkF m 123 #[.val (.int p1), .val (.int p2), .val (.int p3), .val (.int bi), .val (.int (1 : Int32)), .val (.int (1 : Int32)), .val (.int (2 : Int32)), .val (.ref b101), .val (.ref b120), .val (.ref b173), .val (.ref b230), .unset, .unset, .unset] []))
              refine Go.step (fun _ kt => XS.iload X539.here hx rfl (hb hby at_123) rfl (XS.ifYes X539.here hx rfl (pc0 := 125) (pc' := 133) rfl (hb hby at_125) rfl ((if0 _ _).trans (feq (by decide : ¬ ((2 : Int32) = (0 : Int32)))).2) (by decide) (by decide) (XS.iload X539.here hx rfl (hb hby at_133) rfl (XS.iconst X539.here hx rfl (hb hby at_135) (XS.icmpYes X539.here hx rfl (pc0 := 136) (pc' := 144) rfl (hb hby at_136) rfl (feq (by decide : ¬ ((2 : Int32) = (1 : Int32)))).2 (by decide) (by decide) (XS.aconstNull X539.here hx rfl (hb hby at_144) (XS.astore X539.here hx rfl (hb hby at_145) rfl rfl (l' := #[.val (.int p1), .val (.int p2), .val (.int p3), .val (.int bi), .val (.int (1 : Int32)), .val (.int (1 : Int32)), .val (.int (2 : Int32)), .val (.ref b101), .val (.ref b120), .val (.ref b173), .val (.ref b230), .val .null, .unset, .unset]) rfl (XS.iload X539.here hx rfl (hb hby at_147) rfl (XS.ifYes X539.here hx rfl (pc0 := 149) (pc' := 157) rfl (hb hby at_149) rfl ((if0 _ _).trans (feq (by decide : ¬ ((2 : Int32) = (0 : Int32)))).2) (by decide) (by decide) (XS.aconstNull X539.here hx rfl (hb hby at_157) (XS.astore X539.here hx rfl (hb hby at_158) rfl rfl (l' := #[.val (.int p1), .val (.int p2), .val (.int p3), .val (.int bi), .val (.int (1 : Int32)), .val (.int (1 : Int32)), .val (.int (2 : Int32)), .val (.ref b101), .val (.ref b120), .val (.ref b173), .val (.ref b230), .val .null, .val .null, .unset]) rfl kt))))))))))) ?_
              show Go p.tables e below _ (T539.setTop (mkF m 160 #[.val (.int p1), .val (.int p2), .val (.int p3), .val (.int bi), .val (.int (1 : Int32)), .val (.int (1 : Int32)), .val (.int (2 : Int32)), .val (.ref b101), .val (.ref b120), .val (.ref b173), .val (.ref b230), .val .null, .val .null, .unset] []))
              rcases h_bi with hq | hq
              · rw [hq]
                show Go p.tables e below _ (T539.setTop (mkF m 160 #[.val (.int p1), .val (.int p2), .val (.int p3), .val (.int (0 : Int32)), .val (.int (1 : Int32)), .val (.int (1 : Int32)), .val (.int (2 : Int32)), .val (.ref b101), .val (.ref b120), .val (.ref b173), .val (.ref b230), .val .null, .val .null, .unset] []))
                refine Go.step (fun _ kt => XS.iloadN X539.here hx rfl (hb hby at_160) rfl (XS.ifYes X539.here hx rfl (pc0 := 161) (pc' := 178) rfl (hb hby at_161) rfl ((if0 _ _).trans (teq (by decide : (0 : Int32) = (0 : Int32))).1) (by decide) (by decide) (XS.iload X539.here hx rfl (hb hby at_178) rfl (XS.ifNo X539.here hx rfl (hb hby at_180) rfl ((if0 _ _).trans (feq (by decide : ¬ ((1 : Int32) = (0 : Int32)))).1) (XS.aload X539.here hx rfl (hb hby at_183) rfl rfl (XS.goto X539.here hx rfl (pc0 := 185) (pc' := 189) rfl (hb hby at_185) (by decide) (by decide) (XS.astore X539.here hx rfl (hb hby at_189) rfl rfl (l' := #[.val (.int p1), .val (.int p2), .val (.int p3), .val (.int (0 : Int32)), .val (.int (1 : Int32)), .val (.int (1 : Int32)), .val (.int (2 : Int32)), .val (.ref b101), .val (.ref b120), .val (.ref b173), .val (.ref b230), .val .null, .val .null, .val (.ref b120)]) rfl (XS.aload X539.here hx rfl (hb hby at_191) rfl rfl (XS.iloadN X539.here hx rfl (hb hby at_193) rfl (XS.aload X539.here hx rfl (hb hby at_194) rfl rfl kt)))))))))) ?_
                show Go p.tables e below _ (T539.setTop (mkF m 196 #[.val (.int p1), .val (.int p2), .val (.int p3), .val (.int (0 : Int32)), .val (.int (1 : Int32)), .val (.int (1 : Int32)), .val (.int (2 : Int32)), .val (.ref b101), .val (.ref b120), .val (.ref b173), .val (.ref b230), .val .null, .val .null, .val (.ref b120)] [.null, (.int (0 : Int32)), (.ref b101)]))
                obtain ⟨cq602, kq602, q602a, q602b, q602c⟩ := isOf hZ rfl P540
                obtain ⟨_, _, ⟨T602, L602, k602, n602⟩, -, X602, ⟨Lc602, hQ602, l602, y602, z602⟩, st602⟩ := X539.virtualBack hx (y := (⟨"com/example/ottawa/ottawa/TagPattern", "follow", "(ZLcom/example/ottawa/ottawa/Name;)V"⟩ : MethodName)) (z := (⟨"com/example/ottawa/ottawa/TagPattern", "follow", "(ZLcom/example/ottawa/ottawa/Name;)V"⟩ : MethodName)) hown (mvT hZ (hw _ (List.mem_of_getElem? (i := 153) rfl))) (mvT hZ (hw _ (List.mem_of_getElem? (i := 154) rfl))) (notFace_of_selects (args := #[]) (mvT hZ (hw _ (List.mem_of_getElem? (i := 156) rfl)))) (mvT hZ (hw _ (List.mem_of_getElem? (i := 156) rfl))) (mvT hZ (hw _ (List.mem_of_getElem? (i := 155) rfl))) (by decide) (backOf (W := 0) (rmf4 l Z a0 hw [] b101 (.ref b120) (.ref b120) T539.heap n0 Z547 P540 P541 P542 g_b101) hZ (hw _ (List.mem_of_getElem? (i := 157) rfl)) (hw _ (List.mem_of_getElem? (i := 3) rfl)) (by decide) (by decide)) q602a q602c (g := (mkF m 196 #[.val (.int p1), .val (.int p2), .val (.int p3), .val (.int (0 : Int32)), .val (.int (1 : Int32)), .val (.int (1 : Int32)), .val (.int (2 : Int32)), .val (.ref b101), .val (.ref b120), .val (.ref b173), .val (.ref b230), .val .null, .val .null, .val (.ref b120)] [.null, (.int (0 : Int32)), (.ref b101)])) rfl (by rw [hml]; rfl) (Steps.refl _) (argsL := [(.int (0 : Int32)), .null]) (rest := []) (lenOf pd_16 rfl) rfl (by show 2 * 0 + _ ≤ _; exact Nat.le_of_eq rfl) (hb hby at_196) (fun _ _ => ⟨rfl, rfl, (by decide : 30 + 0 ≤ _), (by decide : 225 + 0 ≤ _)⟩)
                dsimp only [Pt.U, Pt.locs, Pt.cells, Pt.slots] at X602 l602 y602 z602 st602 hQ602
                subst l602 y602 z602
                obtain ⟨rfl, N602q, Kq602, P603, P604, P605⟩ := hQ602
                have F606 : Exa Z T602.heap b101 "com/example/ottawa/ottawa/TagPattern" := (P540.keep Kq602)
                have F607 : Exa Z T602.heap b120 "com/example/ottawa/ottawa/KeptName" := (F544.keep Kq602)
                have F608 : Exa Z T602.heap b173 "com/example/ottawa/ottawa/KeptName" := (F545.keep Kq602)
                have F609 : Exa Z T602.heap b230 "com/example/ottawa/ottawa/Name" := (F546.keep Kq602)
                have Z610 : n0 ≤ T602.heap.size := (Nat.le_trans Z547 Kq602.1)
                have hk611 : _ ≤ T602.heap.size := (Nat.le_trans hk548 Kq602.1)
                have C612 := (C549.trans (CHr.keep Kq602 (by intro x hx; cases List.mem_singleton.mp hx; exact (Safe.exa hZ.alike P540 (by decide) (by decide))) C549.1))
                have N602 := Fr.app N539 N602q
                refine Go.step (fun _ kt => st602.trans kt) ?_
                show Go p.tables e below _ (T602.setTop (mkF m 199 #[.val (.int p1), .val (.int p2), .val (.int p3), .val (.int (0 : Int32)), .val (.int (1 : Int32)), .val (.int (1 : Int32)), .val (.int (2 : Int32)), .val (.ref b101), .val (.ref b120), .val (.ref b173), .val (.ref b230), .val .null, .val .null, .val (.ref b120)] []))
                refine Go.step (fun _ kt => XS.aload X602.here hx rfl (hb hby at_199) rfl rfl (XS.iloadN X602.here hx rfl (hb hby at_201) rfl kt)) ?_
                show Go p.tables e below _ (T602.setTop (mkF m 202 #[.val (.int p1), .val (.int p2), .val (.int p3), .val (.int (0 : Int32)), .val (.int (1 : Int32)), .val (.int (1 : Int32)), .val (.int (2 : Int32)), .val (.ref b101), .val (.ref b120), .val (.ref b173), .val (.ref b230), .val .null, .val .null, .val (.ref b120)] [(.int (0 : Int32)), (.ref b101)]))
                obtain ⟨cq613, kq613, q613a, q613b, q613c⟩ := isOf hZ rfl P603
                obtain ⟨_, _, ⟨T613, L613, k613, n613⟩, -, X613, ⟨Lc613, hQ613, l613, y613, z613⟩, st613⟩ := X602.virtualBack hx (y := (⟨"com/example/ottawa/ottawa/TagPattern", "following", "(Z)Lcom/example/ottawa/ottawa/KeptName;"⟩ : MethodName)) (z := (⟨"com/example/ottawa/ottawa/TagPattern", "following", "(Z)Lcom/example/ottawa/ottawa/KeptName;"⟩ : MethodName)) hown (mvT hZ (hw _ (List.mem_of_getElem? (i := 163) rfl))) (mvT hZ (hw _ (List.mem_of_getElem? (i := 164) rfl))) (notFace_of_selects (args := #[]) (mvT hZ (hw _ (List.mem_of_getElem? (i := 166) rfl)))) (mvT hZ (hw _ (List.mem_of_getElem? (i := 166) rfl))) (mvT hZ (hw _ (List.mem_of_getElem? (i := 165) rfl))) (by decide) (backOf (W := 0) (rmg3 l Z a0 hw [] b101  T602.heap n0 Z610 P605 ) hZ (hw _ (List.mem_of_getElem? (i := 167) rfl)) (hw _ (List.mem_of_getElem? (i := 3) rfl)) (by decide) (by decide)) q613a q613c (g := (mkF m 202 #[.val (.int p1), .val (.int p2), .val (.int p3), .val (.int (0 : Int32)), .val (.int (1 : Int32)), .val (.int (1 : Int32)), .val (.int (2 : Int32)), .val (.ref b101), .val (.ref b120), .val (.ref b173), .val (.ref b230), .val .null, .val .null, .val (.ref b120)] [(.int (0 : Int32)), (.ref b101)])) rfl (by rw [hml]; rfl) (Steps.refl _) (argsL := [(.int (0 : Int32))]) (rest := []) (lenOf pd_17 rfl) rfl (by show 2 * 0 + _ ≤ _; exact Nat.le_of_eq rfl) (hb hby at_202) (fun _ _ => ⟨rfl, rfl, (by decide : 30 + 0 ≤ _), (by decide : 225 + 0 ≤ _)⟩)
                dsimp only [Pt.U, Pt.locs, Pt.cells, Pt.slots] at X613 l613 y613 z613 st613 hQ613
                subst l613 y613 z613
                obtain ⟨rfl, N613q, eh613⟩ := hQ613
                have N613 := Fr.app N602 N613q
                refine Go.step (fun _ kt => st613.trans kt) ?_
                show Go p.tables e below _ (T613.setTop (mkF m 205 #[.val (.int p1), .val (.int p2), .val (.int p3), .val (.int (0 : Int32)), .val (.int (1 : Int32)), .val (.int (1 : Int32)), .val (.int (2 : Int32)), .val (.ref b101), .val (.ref b120), .val (.ref b173), .val (.ref b230), .val .null, .val .null, .val (.ref b120)] [.null]))
                refine Go.step (fun _ kt => XS.aload X613.here hx rfl (hb hby at_205) rfl rfl kt) ?_
                show Go p.tables e below _ (T613.setTop (mkF m 207 #[.val (.int p1), .val (.int p2), .val (.int p3), .val (.int (0 : Int32)), .val (.int (1 : Int32)), .val (.int (1 : Int32)), .val (.int (2 : Int32)), .val (.ref b101), .val (.ref b120), .val (.ref b173), .val (.ref b230), .val .null, .val .null, .val (.ref b120)] [.null, .null]))
                refine Go.step (fun _ kt => Jvm.RoadKit.acmp (g := (mkF m 207 #[.val (.int p1), .val (.int p2), .val (.int p3), .val (.int (0 : Int32)), .val (.int (1 : Int32)), .val (.int (1 : Int32)), .val (.int (2 : Int32)), .val (.ref b101), .val (.ref b120), .val (.ref b173), .val (.ref b230), .val .null, .val .null, .val (.ref b120)] [.null, .null])) X613 hx rfl rfl rfl (pc0 := 207) (pc' := 210) (same := true) rfl (hb hby at_207) rfl (decide_eq_true rfl) (by decide) (by decide) kt) ?_
                show Go p.tables e below _ (T613.setTop (mkF m 210 #[.val (.int p1), .val (.int p2), .val (.int p3), .val (.int (0 : Int32)), .val (.int (1 : Int32)), .val (.int (1 : Int32)), .val (.int (2 : Int32)), .val (.ref b101), .val (.ref b120), .val (.ref b173), .val (.ref b230), .val .null, .val .null, .val (.ref b120)] []))
                refine Go.step (fun _ kt => XS.aload X613.here hx rfl (hb hby at_210) rfl rfl (XS.iloadN X613.here hx rfl (hb hby at_212) rfl (XS.ifNo X613.here hx rfl (hb hby at_213) rfl ((if0 _ _).trans (teq (by decide : (0 : Int32) = (0 : Int32))).2) (XS.iconst X613.here hx rfl (hb hby at_216) (XS.goto X613.here hx rfl (pc0 := 217) (pc' := 221) rfl (hb hby at_217) (by decide) (by decide) kt))))) ?_
                show Go p.tables e below _ (T613.setTop (mkF m 221 #[.val (.int p1), .val (.int p2), .val (.int p3), .val (.int (0 : Int32)), .val (.int (1 : Int32)), .val (.int (1 : Int32)), .val (.int (2 : Int32)), .val (.ref b101), .val (.ref b120), .val (.ref b173), .val (.ref b230), .val .null, .val .null, .val (.ref b120)] [(.int (1 : Int32)), (.ref b101)]))
                obtain ⟨cq614, kq614, q614a, q614b, q614c⟩ := isOf hZ eh613 P603
                obtain ⟨_, _, ⟨T614, L614, k614, n614⟩, -, X614, ⟨Lc614, hQ614, l614, y614, z614⟩, st614⟩ := X613.virtualBack hx (y := (⟨"com/example/ottawa/ottawa/TagPattern", "following", "(Z)Lcom/example/ottawa/ottawa/KeptName;"⟩ : MethodName)) (z := (⟨"com/example/ottawa/ottawa/TagPattern", "following", "(Z)Lcom/example/ottawa/ottawa/KeptName;"⟩ : MethodName)) hown (mvT hZ (hw _ (List.mem_of_getElem? (i := 163) rfl))) (mvT hZ (hw _ (List.mem_of_getElem? (i := 164) rfl))) (notFace_of_selects (args := #[]) (mvT hZ (hw _ (List.mem_of_getElem? (i := 166) rfl)))) (mvT hZ (hw _ (List.mem_of_getElem? (i := 166) rfl))) (mvT hZ (hw _ (List.mem_of_getElem? (i := 165) rfl))) (by decide) (backOf (W := 0) (rmg2 l Z a0 hw [] b101 b120 T602.heap n0 Z610 P604 ) hZ (hw _ (List.mem_of_getElem? (i := 167) rfl)) (hw _ (List.mem_of_getElem? (i := 3) rfl)) (by decide) (by decide)) q614a q614c (g := (mkF m 221 #[.val (.int p1), .val (.int p2), .val (.int p3), .val (.int (0 : Int32)), .val (.int (1 : Int32)), .val (.int (1 : Int32)), .val (.int (2 : Int32)), .val (.ref b101), .val (.ref b120), .val (.ref b173), .val (.ref b230), .val .null, .val .null, .val (.ref b120)] [(.int (1 : Int32)), (.ref b101)])) rfl (by rw [hml]; rfl) (Steps.refl _) (argsL := [(.int (1 : Int32))]) (rest := []) (lenOf pd_17 rfl) rfl (by show 2 * 0 + _ ≤ _; exact Nat.le_of_eq rfl) (hb hby at_221) (fun _ _ => ⟨rfl, eh613, (by decide : 30 + 0 ≤ _), (by decide : 225 + 0 ≤ _)⟩)
                dsimp only [Pt.U, Pt.locs, Pt.cells, Pt.slots] at X614 l614 y614 z614 st614 hQ614
                subst l614 y614 z614
                obtain ⟨rfl, N614q, eh614⟩ := hQ614
                have N614 := Fr.app N613 N614q
                refine Go.step (fun _ kt => st614.trans kt) ?_
                show Go p.tables e below _ (T614.setTop (mkF m 224 #[.val (.int p1), .val (.int p2), .val (.int p3), .val (.int (0 : Int32)), .val (.int (1 : Int32)), .val (.int (1 : Int32)), .val (.int (2 : Int32)), .val (.ref b101), .val (.ref b120), .val (.ref b173), .val (.ref b230), .val .null, .val .null, .val (.ref b120)] [(.ref b120)]))
                refine Go.step (fun _ kt => XS.aload X614.here hx rfl (hb hby at_224) rfl rfl kt) ?_
                show Go p.tables e below _ (T614.setTop (mkF m 226 #[.val (.int p1), .val (.int p2), .val (.int p3), .val (.int (0 : Int32)), .val (.int (1 : Int32)), .val (.int (1 : Int32)), .val (.int (2 : Int32)), .val (.ref b101), .val (.ref b120), .val (.ref b173), .val (.ref b230), .val .null, .val .null, .val (.ref b120)] [(.ref b120), (.ref b120)]))
                refine Go.step (fun _ kt => Jvm.RoadKit.acmp (g := (mkF m 226 #[.val (.int p1), .val (.int p2), .val (.int p3), .val (.int (0 : Int32)), .val (.int (1 : Int32)), .val (.int (1 : Int32)), .val (.int (2 : Int32)), .val (.ref b101), .val (.ref b120), .val (.ref b173), .val (.ref b230), .val .null, .val .null, .val (.ref b120)] [(.ref b120), (.ref b120)])) X614 hx rfl rfl rfl (pc0 := 226) (pc' := 229) (same := true) rfl (hb hby at_226) rfl (decide_eq_true rfl) (by decide) (by decide) kt) ?_
                show Go p.tables e below _ (T614.setTop (mkF m 229 #[.val (.int p1), .val (.int p2), .val (.int p3), .val (.int (0 : Int32)), .val (.int (1 : Int32)), .val (.int (1 : Int32)), .val (.int (2 : Int32)), .val (.ref b101), .val (.ref b120), .val (.ref b173), .val (.ref b230), .val .null, .val .null, .val (.ref b120)] []))
                refine Go.step (fun _ kt => XS.iconst X614.here hx rfl (hb hby at_229) (XS.goto X614.here hx rfl (pc0 := 230) (pc' := 234) rfl (hb hby at_230) (by decide) (by decide) kt)) ?_
                show Go p.tables e below _ (T614.setTop (mkF m 234 #[.val (.int p1), .val (.int p2), .val (.int p3), .val (.int (0 : Int32)), .val (.int (1 : Int32)), .val (.int (1 : Int32)), .val (.int (2 : Int32)), .val (.ref b101), .val (.ref b120), .val (.ref b173), .val (.ref b230), .val .null, .val .null, .val (.ref b120)] [(.int (1 : Int32))]))
                obtain ⟨fs, hr, hrun, hended, hRW⟩ := X614.leaveW hS266 (by rw [eh614]; exact hk611) (v := some (.int (1 : Int32))) (fun h => by rw [Bd.returns] at h; cases h)
                refine ⟨_, _, retN X614 hx (t := .boolean) Bd.returns (by simp) (hb hby at_234) hr, hrun, hended, _, _, rfl, ?_, (by have q := C612.trans (CHv.at X614 hZ (own_EW hw) C612.1); rw [hh]; rw [← eh614] at q; exact q), hRW.1, hRW.2.1, hRW.2.2.1, hRW.2.2.2.mono (by decide) (by decide)⟩
                show Qrm0 Z p1 p2 p3 cs h0 n0 _ T614.heap _
                rw [eh614]
                exact ⟨rfl, N614⟩
              · rw [hq]
                show Go p.tables e below _ (T539.setTop (mkF m 160 #[.val (.int p1), .val (.int p2), .val (.int p3), .val (.int (1 : Int32)), .val (.int (1 : Int32)), .val (.int (1 : Int32)), .val (.int (2 : Int32)), .val (.ref b101), .val (.ref b120), .val (.ref b173), .val (.ref b230), .val .null, .val .null, .unset] []))
                refine Go.step (fun _ kt => XS.iloadN X539.here hx rfl (hb hby at_160) rfl (XS.ifNo X539.here hx rfl (hb hby at_161) rfl ((if0 _ _).trans (feq (by decide : ¬ ((1 : Int32) = (0 : Int32)))).1) (XS.iload X539.here hx rfl (hb hby at_164) rfl (XS.ifNo X539.here hx rfl (hb hby at_166) rfl ((if0 _ _).trans (feq (by decide : ¬ ((1 : Int32) = (0 : Int32)))).1) (XS.aload X539.here hx rfl (hb hby at_169) rfl rfl (XS.goto X539.here hx rfl (pc0 := 171) (pc' := 189) rfl (hb hby at_171) (by decide) (by decide) (XS.astore X539.here hx rfl (hb hby at_189) rfl rfl (l' := #[.val (.int p1), .val (.int p2), .val (.int p3), .val (.int (1 : Int32)), .val (.int (1 : Int32)), .val (.int (1 : Int32)), .val (.int (2 : Int32)), .val (.ref b101), .val (.ref b120), .val (.ref b173), .val (.ref b230), .val .null, .val .null, .val (.ref b120)]) rfl (XS.aload X539.here hx rfl (hb hby at_191) rfl rfl (XS.iloadN X539.here hx rfl (hb hby at_193) rfl (XS.aload X539.here hx rfl (hb hby at_194) rfl rfl kt)))))))))) ?_
                show Go p.tables e below _ (T539.setTop (mkF m 196 #[.val (.int p1), .val (.int p2), .val (.int p3), .val (.int (1 : Int32)), .val (.int (1 : Int32)), .val (.int (1 : Int32)), .val (.int (2 : Int32)), .val (.ref b101), .val (.ref b120), .val (.ref b173), .val (.ref b230), .val .null, .val .null, .val (.ref b120)] [.null, (.int (1 : Int32)), (.ref b101)]))
                obtain ⟨cq615, kq615, q615a, q615b, q615c⟩ := isOf hZ rfl P540
                obtain ⟨_, _, ⟨T615, L615, k615, n615⟩, -, X615, ⟨Lc615, hQ615, l615, y615, z615⟩, st615⟩ := X539.virtualBack hx (y := (⟨"com/example/ottawa/ottawa/TagPattern", "follow", "(ZLcom/example/ottawa/ottawa/Name;)V"⟩ : MethodName)) (z := (⟨"com/example/ottawa/ottawa/TagPattern", "follow", "(ZLcom/example/ottawa/ottawa/Name;)V"⟩ : MethodName)) hown (mvT hZ (hw _ (List.mem_of_getElem? (i := 153) rfl))) (mvT hZ (hw _ (List.mem_of_getElem? (i := 154) rfl))) (notFace_of_selects (args := #[]) (mvT hZ (hw _ (List.mem_of_getElem? (i := 156) rfl)))) (mvT hZ (hw _ (List.mem_of_getElem? (i := 156) rfl))) (mvT hZ (hw _ (List.mem_of_getElem? (i := 155) rfl))) (by decide) (backOf (W := 0) (rmf5 l Z a0 hw [] b101 (.ref b120) (.ref b120) T539.heap n0 Z547 P540 P541 P542 g_b101) hZ (hw _ (List.mem_of_getElem? (i := 157) rfl)) (hw _ (List.mem_of_getElem? (i := 3) rfl)) (by decide) (by decide)) q615a q615c (g := (mkF m 196 #[.val (.int p1), .val (.int p2), .val (.int p3), .val (.int (1 : Int32)), .val (.int (1 : Int32)), .val (.int (1 : Int32)), .val (.int (2 : Int32)), .val (.ref b101), .val (.ref b120), .val (.ref b173), .val (.ref b230), .val .null, .val .null, .val (.ref b120)] [.null, (.int (1 : Int32)), (.ref b101)])) rfl (by rw [hml]; rfl) (Steps.refl _) (argsL := [(.int (1 : Int32)), .null]) (rest := []) (lenOf pd_16 rfl) rfl (by show 2 * 0 + _ ≤ _; exact Nat.le_of_eq rfl) (hb hby at_196) (fun _ _ => ⟨rfl, rfl, (by decide : 30 + 0 ≤ _), (by decide : 225 + 0 ≤ _)⟩)
                dsimp only [Pt.U, Pt.locs, Pt.cells, Pt.slots] at X615 l615 y615 z615 st615 hQ615
                subst l615 y615 z615
                obtain ⟨rfl, N615q, Kq615, P616, P617, P618⟩ := hQ615
                have F619 : Exa Z T615.heap b101 "com/example/ottawa/ottawa/TagPattern" := (P540.keep Kq615)
                have F620 : Exa Z T615.heap b120 "com/example/ottawa/ottawa/KeptName" := (F544.keep Kq615)
                have F621 : Exa Z T615.heap b173 "com/example/ottawa/ottawa/KeptName" := (F545.keep Kq615)
                have F622 : Exa Z T615.heap b230 "com/example/ottawa/ottawa/Name" := (F546.keep Kq615)
                have Z623 : n0 ≤ T615.heap.size := (Nat.le_trans Z547 Kq615.1)
                have hk624 : _ ≤ T615.heap.size := (Nat.le_trans hk548 Kq615.1)
                have C625 := (C549.trans (CHr.keep Kq615 (by intro x hx; cases List.mem_singleton.mp hx; exact (Safe.exa hZ.alike P540 (by decide) (by decide))) C549.1))
                have N615 := Fr.app N539 N615q
                refine Go.step (fun _ kt => st615.trans kt) ?_
                show Go p.tables e below _ (T615.setTop (mkF m 199 #[.val (.int p1), .val (.int p2), .val (.int p3), .val (.int (1 : Int32)), .val (.int (1 : Int32)), .val (.int (1 : Int32)), .val (.int (2 : Int32)), .val (.ref b101), .val (.ref b120), .val (.ref b173), .val (.ref b230), .val .null, .val .null, .val (.ref b120)] []))
                refine Go.step (fun _ kt => XS.aload X615.here hx rfl (hb hby at_199) rfl rfl (XS.iloadN X615.here hx rfl (hb hby at_201) rfl kt)) ?_
                show Go p.tables e below _ (T615.setTop (mkF m 202 #[.val (.int p1), .val (.int p2), .val (.int p3), .val (.int (1 : Int32)), .val (.int (1 : Int32)), .val (.int (1 : Int32)), .val (.int (2 : Int32)), .val (.ref b101), .val (.ref b120), .val (.ref b173), .val (.ref b230), .val .null, .val .null, .val (.ref b120)] [(.int (1 : Int32)), (.ref b101)]))
                obtain ⟨cq626, kq626, q626a, q626b, q626c⟩ := isOf hZ rfl P616
                obtain ⟨_, _, ⟨T626, L626, k626, n626⟩, -, X626, ⟨Lc626, hQ626, l626, y626, z626⟩, st626⟩ := X615.virtualBack hx (y := (⟨"com/example/ottawa/ottawa/TagPattern", "following", "(Z)Lcom/example/ottawa/ottawa/KeptName;"⟩ : MethodName)) (z := (⟨"com/example/ottawa/ottawa/TagPattern", "following", "(Z)Lcom/example/ottawa/ottawa/KeptName;"⟩ : MethodName)) hown (mvT hZ (hw _ (List.mem_of_getElem? (i := 163) rfl))) (mvT hZ (hw _ (List.mem_of_getElem? (i := 164) rfl))) (notFace_of_selects (args := #[]) (mvT hZ (hw _ (List.mem_of_getElem? (i := 166) rfl)))) (mvT hZ (hw _ (List.mem_of_getElem? (i := 166) rfl))) (mvT hZ (hw _ (List.mem_of_getElem? (i := 165) rfl))) (by decide) (backOf (W := 0) (rmg1 l Z a0 hw [] b101  T615.heap n0 Z623 P617 ) hZ (hw _ (List.mem_of_getElem? (i := 167) rfl)) (hw _ (List.mem_of_getElem? (i := 3) rfl)) (by decide) (by decide)) q626a q626c (g := (mkF m 202 #[.val (.int p1), .val (.int p2), .val (.int p3), .val (.int (1 : Int32)), .val (.int (1 : Int32)), .val (.int (1 : Int32)), .val (.int (2 : Int32)), .val (.ref b101), .val (.ref b120), .val (.ref b173), .val (.ref b230), .val .null, .val .null, .val (.ref b120)] [(.int (1 : Int32)), (.ref b101)])) rfl (by rw [hml]; rfl) (Steps.refl _) (argsL := [(.int (1 : Int32))]) (rest := []) (lenOf pd_17 rfl) rfl (by show 2 * 0 + _ ≤ _; exact Nat.le_of_eq rfl) (hb hby at_202) (fun _ _ => ⟨rfl, rfl, (by decide : 30 + 0 ≤ _), (by decide : 225 + 0 ≤ _)⟩)
                dsimp only [Pt.U, Pt.locs, Pt.cells, Pt.slots] at X626 l626 y626 z626 st626 hQ626
                subst l626 y626 z626
                obtain ⟨rfl, N626q, eh626⟩ := hQ626
                have N626 := Fr.app N615 N626q
                refine Go.step (fun _ kt => st626.trans kt) ?_
                show Go p.tables e below _ (T626.setTop (mkF m 205 #[.val (.int p1), .val (.int p2), .val (.int p3), .val (.int (1 : Int32)), .val (.int (1 : Int32)), .val (.int (1 : Int32)), .val (.int (2 : Int32)), .val (.ref b101), .val (.ref b120), .val (.ref b173), .val (.ref b230), .val .null, .val .null, .val (.ref b120)] [.null]))
                refine Go.step (fun _ kt => XS.aload X626.here hx rfl (hb hby at_205) rfl rfl kt) ?_
                show Go p.tables e below _ (T626.setTop (mkF m 207 #[.val (.int p1), .val (.int p2), .val (.int p3), .val (.int (1 : Int32)), .val (.int (1 : Int32)), .val (.int (1 : Int32)), .val (.int (2 : Int32)), .val (.ref b101), .val (.ref b120), .val (.ref b173), .val (.ref b230), .val .null, .val .null, .val (.ref b120)] [.null, .null]))
                refine Go.step (fun _ kt => Jvm.RoadKit.acmp (g := (mkF m 207 #[.val (.int p1), .val (.int p2), .val (.int p3), .val (.int (1 : Int32)), .val (.int (1 : Int32)), .val (.int (1 : Int32)), .val (.int (2 : Int32)), .val (.ref b101), .val (.ref b120), .val (.ref b173), .val (.ref b230), .val .null, .val .null, .val (.ref b120)] [.null, .null])) X626 hx rfl rfl rfl (pc0 := 207) (pc' := 210) (same := true) rfl (hb hby at_207) rfl (decide_eq_true rfl) (by decide) (by decide) kt) ?_
                show Go p.tables e below _ (T626.setTop (mkF m 210 #[.val (.int p1), .val (.int p2), .val (.int p3), .val (.int (1 : Int32)), .val (.int (1 : Int32)), .val (.int (1 : Int32)), .val (.int (2 : Int32)), .val (.ref b101), .val (.ref b120), .val (.ref b173), .val (.ref b230), .val .null, .val .null, .val (.ref b120)] []))
                refine Go.step (fun _ kt => XS.aload X626.here hx rfl (hb hby at_210) rfl rfl (XS.iloadN X626.here hx rfl (hb hby at_212) rfl (XS.ifYes X626.here hx rfl (pc0 := 213) (pc' := 220) rfl (hb hby at_213) rfl ((if0 _ _).trans (feq (by decide : ¬ ((1 : Int32) = (0 : Int32)))).2) (by decide) (by decide) (XS.iconst X626.here hx rfl (hb hby at_220) kt)))) ?_
                show Go p.tables e below _ (T626.setTop (mkF m 221 #[.val (.int p1), .val (.int p2), .val (.int p3), .val (.int (1 : Int32)), .val (.int (1 : Int32)), .val (.int (1 : Int32)), .val (.int (2 : Int32)), .val (.ref b101), .val (.ref b120), .val (.ref b173), .val (.ref b230), .val .null, .val .null, .val (.ref b120)] [(.int (0 : Int32)), (.ref b101)]))
                obtain ⟨cq627, kq627, q627a, q627b, q627c⟩ := isOf hZ eh626 P616
                obtain ⟨_, _, ⟨T627, L627, k627, n627⟩, -, X627, ⟨Lc627, hQ627, l627, y627, z627⟩, st627⟩ := X626.virtualBack hx (y := (⟨"com/example/ottawa/ottawa/TagPattern", "following", "(Z)Lcom/example/ottawa/ottawa/KeptName;"⟩ : MethodName)) (z := (⟨"com/example/ottawa/ottawa/TagPattern", "following", "(Z)Lcom/example/ottawa/ottawa/KeptName;"⟩ : MethodName)) hown (mvT hZ (hw _ (List.mem_of_getElem? (i := 163) rfl))) (mvT hZ (hw _ (List.mem_of_getElem? (i := 164) rfl))) (notFace_of_selects (args := #[]) (mvT hZ (hw _ (List.mem_of_getElem? (i := 166) rfl)))) (mvT hZ (hw _ (List.mem_of_getElem? (i := 166) rfl))) (mvT hZ (hw _ (List.mem_of_getElem? (i := 165) rfl))) (by decide) (backOf (W := 0) (rmg0 l Z a0 hw [] b101 b120 T615.heap n0 Z623 P618 ) hZ (hw _ (List.mem_of_getElem? (i := 167) rfl)) (hw _ (List.mem_of_getElem? (i := 3) rfl)) (by decide) (by decide)) q627a q627c (g := (mkF m 221 #[.val (.int p1), .val (.int p2), .val (.int p3), .val (.int (1 : Int32)), .val (.int (1 : Int32)), .val (.int (1 : Int32)), .val (.int (2 : Int32)), .val (.ref b101), .val (.ref b120), .val (.ref b173), .val (.ref b230), .val .null, .val .null, .val (.ref b120)] [(.int (0 : Int32)), (.ref b101)])) rfl (by rw [hml]; rfl) (Steps.refl _) (argsL := [(.int (0 : Int32))]) (rest := []) (lenOf pd_17 rfl) rfl (by show 2 * 0 + _ ≤ _; exact Nat.le_of_eq rfl) (hb hby at_221) (fun _ _ => ⟨rfl, eh626, (by decide : 30 + 0 ≤ _), (by decide : 225 + 0 ≤ _)⟩)
                dsimp only [Pt.U, Pt.locs, Pt.cells, Pt.slots] at X627 l627 y627 z627 st627 hQ627
                subst l627 y627 z627
                obtain ⟨rfl, N627q, eh627⟩ := hQ627
                have N627 := Fr.app N626 N627q
                refine Go.step (fun _ kt => st627.trans kt) ?_
                show Go p.tables e below _ (T627.setTop (mkF m 224 #[.val (.int p1), .val (.int p2), .val (.int p3), .val (.int (1 : Int32)), .val (.int (1 : Int32)), .val (.int (1 : Int32)), .val (.int (2 : Int32)), .val (.ref b101), .val (.ref b120), .val (.ref b173), .val (.ref b230), .val .null, .val .null, .val (.ref b120)] [(.ref b120)]))
                refine Go.step (fun _ kt => XS.aload X627.here hx rfl (hb hby at_224) rfl rfl kt) ?_
                show Go p.tables e below _ (T627.setTop (mkF m 226 #[.val (.int p1), .val (.int p2), .val (.int p3), .val (.int (1 : Int32)), .val (.int (1 : Int32)), .val (.int (1 : Int32)), .val (.int (2 : Int32)), .val (.ref b101), .val (.ref b120), .val (.ref b173), .val (.ref b230), .val .null, .val .null, .val (.ref b120)] [(.ref b120), (.ref b120)]))
                refine Go.step (fun _ kt => Jvm.RoadKit.acmp (g := (mkF m 226 #[.val (.int p1), .val (.int p2), .val (.int p3), .val (.int (1 : Int32)), .val (.int (1 : Int32)), .val (.int (1 : Int32)), .val (.int (2 : Int32)), .val (.ref b101), .val (.ref b120), .val (.ref b173), .val (.ref b230), .val .null, .val .null, .val (.ref b120)] [(.ref b120), (.ref b120)])) X627 hx rfl rfl rfl (pc0 := 226) (pc' := 229) (same := true) rfl (hb hby at_226) rfl (decide_eq_true rfl) (by decide) (by decide) kt) ?_
                show Go p.tables e below _ (T627.setTop (mkF m 229 #[.val (.int p1), .val (.int p2), .val (.int p3), .val (.int (1 : Int32)), .val (.int (1 : Int32)), .val (.int (1 : Int32)), .val (.int (2 : Int32)), .val (.ref b101), .val (.ref b120), .val (.ref b173), .val (.ref b230), .val .null, .val .null, .val (.ref b120)] []))
                refine Go.step (fun _ kt => XS.iconst X627.here hx rfl (hb hby at_229) (XS.goto X627.here hx rfl (pc0 := 230) (pc' := 234) rfl (hb hby at_230) (by decide) (by decide) kt)) ?_
                show Go p.tables e below _ (T627.setTop (mkF m 234 #[.val (.int p1), .val (.int p2), .val (.int p3), .val (.int (1 : Int32)), .val (.int (1 : Int32)), .val (.int (1 : Int32)), .val (.int (2 : Int32)), .val (.ref b101), .val (.ref b120), .val (.ref b173), .val (.ref b230), .val .null, .val .null, .val (.ref b120)] [(.int (1 : Int32))]))
                obtain ⟨fs, hr, hrun, hended, hRW⟩ := X627.leaveW hS266 (by rw [eh627]; exact hk624) (v := some (.int (1 : Int32))) (fun h => by rw [Bd.returns] at h; cases h)
                refine ⟨_, _, retN X627 hx (t := .boolean) Bd.returns (by simp) (hb hby at_234) hr, hrun, hended, _, _, rfl, ?_, (by have q := C625.trans (CHv.at X627 hZ (own_EW hw) C625.1); rw [hh]; rw [← eh627] at q; exact q), hRW.1, hRW.2.1, hRW.2.2.1, hRW.2.2.2.mono (by decide) (by decide)⟩
                show Qrm0 Z p1 p2 p3 cs h0 n0 _ T627.heap _
                rw [eh627]
                exact ⟨rfl, N627⟩
      refine Go.step (fun _ kt => XS.iloadN X0.here hx rfl (hb hby at_25) rfl (XS.iconst X0.here hx rfl (hb hby at_26) (XS.iand X0.here hx rfl (hb hby at_27) rfl kt))) ?_
      show Go p.tables e below _ (s₁.setTop (mkF m 28 #[.val (.int p1), .val (.int p2), .val (.int p3), .val (.int bi), .val (.int si), .unset, .unset, .unset, .unset, .unset, .unset, .unset, .unset, .unset] [(.int (p2 &&& (2 : Int32)))]))
      by_cases hc28_628 : (p2 &&& (2 : Int32)) = (0 : Int32)
      · refine Go.step (fun _ kt => XS.ifYes X0.here hx rfl (pc0 := 28) (pc' := 35) rfl (hb hby at_28) rfl ((if0 _ _).trans (teq hc28_628).1) (by decide) (by decide) (XS.iconst X0.here hx rfl (hb hby at_35) kt)) ?_
        show Go p.tables e below _ (s₁.setTop (mkF m 36 #[.val (.int p1), .val (.int p2), .val (.int p3), .val (.int bi), .val (.int si), .unset, .unset, .unset, .unset, .unset, .unset, .unset, .unset, .unset] [(.int (0 : Int32))]))
        exact J36 _ (Or.inl rfl)
      · refine Go.step (fun _ kt => XS.ifNo X0.here hx rfl (hb hby at_28) rfl ((if0 _ _).trans (feq hc28_628).1) (XS.iconst X0.here hx rfl (hb hby at_31) (XS.goto X0.here hx rfl (pc0 := 32) (pc' := 36) rfl (hb hby at_32) (by decide) (by decide) kt))) ?_
        show Go p.tables e below _ (s₁.setTop (mkF m 36 #[.val (.int p1), .val (.int p2), .val (.int p3), .val (.int bi), .val (.int si), .unset, .unset, .unset, .unset, .unset, .unset, .unset, .unset, .unset] [(.int (1 : Int32))]))
        exact J36 _ (Or.inr rfl)
    refine Go.step (fun _ kt => XS.iloadN X0.here hx rfl (hb hby at_12) rfl (XS.iconst X0.here hx rfl (hb hby at_13) (XS.iand X0.here hx rfl (hb hby at_14) rfl kt))) ?_
    show Go p.tables e below _ (s₁.setTop (mkF m 15 #[.val (.int p1), .val (.int p2), .val (.int p3), .val (.int bi), .unset, .unset, .unset, .unset, .unset, .unset, .unset, .unset, .unset, .unset] [(.int (p2 &&& (1 : Int32)))]))
    by_cases hc15_629 : (p2 &&& (1 : Int32)) = (0 : Int32)
    · refine Go.step (fun _ kt => XS.ifYes X0.here hx rfl (pc0 := 15) (pc' := 22) rfl (hb hby at_15) rfl ((if0 _ _).trans (teq hc15_629).1) (by decide) (by decide) (XS.iconst X0.here hx rfl (hb hby at_22) kt)) ?_
      show Go p.tables e below _ (s₁.setTop (mkF m 23 #[.val (.int p1), .val (.int p2), .val (.int p3), .val (.int bi), .unset, .unset, .unset, .unset, .unset, .unset, .unset, .unset, .unset, .unset] [(.int (0 : Int32))]))
      exact J23 _ (Or.inl rfl)
    · refine Go.step (fun _ kt => XS.ifNo X0.here hx rfl (hb hby at_15) rfl ((if0 _ _).trans (feq hc15_629).1) (XS.iconst X0.here hx rfl (hb hby at_18) (XS.goto X0.here hx rfl (pc0 := 19) (pc' := 23) rfl (hb hby at_19) (by decide) (by decide) kt))) ?_
      show Go p.tables e below _ (s₁.setTop (mkF m 23 #[.val (.int p1), .val (.int p2), .val (.int p3), .val (.int bi), .unset, .unset, .unset, .unset, .unset, .unset, .unset, .unset, .unset, .unset] [(.int (1 : Int32))]))
      exact J23 _ (Or.inr rfl)
  refine Go.step (fun _ kt => XS.iloadN X0.here hx rfl (hb hby at_0) rfl (XS.iconst X0.here hx rfl (hb hby at_1) (XS.iand X0.here hx rfl (hb hby at_2) rfl kt))) ?_
  show Go p.tables e below _ (s₁.setTop (mkF m 3 #[.val (.int p1), .val (.int p2), .val (.int p3), .unset, .unset, .unset, .unset, .unset, .unset, .unset, .unset, .unset, .unset, .unset] [(.int (p1 &&& (1 : Int32)))]))
  by_cases hc3_630 : (p1 &&& (1 : Int32)) = (0 : Int32)
  · refine Go.step (fun _ kt => XS.ifYes X0.here hx rfl (pc0 := 3) (pc' := 10) rfl (hb hby at_3) rfl ((if0 _ _).trans (teq hc3_630).1) (by decide) (by decide) (XS.iconst X0.here hx rfl (hb hby at_10) kt)) ?_
    show Go p.tables e below _ (s₁.setTop (mkF m 11 #[.val (.int p1), .val (.int p2), .val (.int p3), .unset, .unset, .unset, .unset, .unset, .unset, .unset, .unset, .unset, .unset, .unset] [(.int (0 : Int32))]))
    exact J11 _ (Or.inl rfl)
  · refine Go.step (fun _ kt => XS.ifNo X0.here hx rfl (hb hby at_3) rfl ((if0 _ _).trans (feq hc3_630).1) (XS.iconst X0.here hx rfl (hb hby at_6) (XS.goto X0.here hx rfl (pc0 := 7) (pc' := 11) rfl (hb hby at_7) (by decide) (by decide) kt))) ?_
    show Go p.tables e below _ (s₁.setTop (mkF m 11 #[.val (.int p1), .val (.int p2), .val (.int p3), .unset, .unset, .unset, .unset, .unset, .unset, .unset, .unset, .unset, .unset, .unset] [(.int (1 : Int32))]))
    exact J11 _ (Or.inr rfl)
set_option maxRecDepth 65536 in
set_option maxHeartbeats 40000000 in
theorem comes_1 {Post : Tables → Env → Array Value → State → Outcome → State → Prop} (hpost : ∀ tb e args s v u, (limb_1_1.after args s (.returned v) u = true ∧ limb_1_2.after args s (.returned v) u = true ∧ True) → ReturnedEndW s (.returned v) u (Jvm.fieldLocs frame_1_writes args s ++ Jvm.arrayLocs frame_1_arrays args s ++ Jvm.staticLocs frame_1_statics s) 40 5312 → Post tb e args s (.returned v) u) :
    ArmFor flags0 classFile x code maxLocals ret World_1 tables_1 room_1 Calls_1 rest_1 Pre_1 Post := by
  intro l hfl _ _ p e ha hc hk s m args below hf hA hF happ hP
  obtain ⟨hcalls, hrest, hpre⟩ := hP
  obtain ⟨-, -, -, hnamed, -, -, -, hat⟩ := (Spec.applies_iff hf).mp happ
  obtain ⟨hg, hn⟩ := and_e (Cond.before_iff.mp (show (Jvm.Cond.and given_1 narrow_1).before args s = true from hpre))
  obtain ⟨hcount, hg1⟩ := and_e hg
  obtain ⟨ga0, hg2⟩ := and_e hg1
  obtain ⟨ga1, hg3⟩ := and_e hg2
  have ga2 := hg3
  obtain ⟨w0, w1, w2, rfl⟩ : ∃ w0 w1 w2 : Value, args = #[w0, w1, w2] := by
    have hs : args.size = 3 := by simpa [Cond.value, given_1] using hcount
    obtain ⟨L⟩ := args
    match L, hs with
    | [w0, w1, w2], _ => exact ⟨w0, w1, w2, rfl⟩
  have hw := fun d (hd : d ∈ tables_1) => atoms_spec (ws := Jvm.Cond.code x code maxLocals ret :: tables_1) hat d (List.mem_cons_of_mem _ hd)
  have hfit : Fit s := fun {y c} hc i hi => by
    obtain ⟨ha, rfl⟩ := Array.getElem?_eq_some_iff.mp hc
    have q := List.all_eq_true.mp ((Array.all_eq_true_iff_forall_mem.mp hF) _ (Array.getElem_mem ha)) i (List.mem_range.mpr hi)
    simpa [Array.getElem?_eq_getElem hi] using q
  obtain ⟨hsets, hown0⟩ := atoms_of _ (rest_1_c_eq ▸ (show rest_1_c.before _ s = true from hrest))
  have hr0 := Cond.before_iff.mp hown0
  obtain ⟨i0, ei0⟩ := is_v ga0
  obtain rfl : w0 = (.int i0) := Option.some.inj ei0
  obtain ⟨i1, ei1⟩ := is_v ga1
  obtain rfl : w1 = (.int i1) := Option.some.inj ei1
  obtain ⟨i2, ei2⟩ := is_v ga2
  obtain rfl : w2 = (.int i2) := Option.some.inj ei2
  obtain ⟨cs, evcs⟩ := is_v (Cond.before_iff.mp (hsets _ (List.mem_of_getElem? (i := 1) rfl)))
  have S_cs : Sta s s.heap "java/lang/String" "COMPACT_STRINGS" "Z" (.int cs) := Sta.start evcs (Or.inl (hsets _ (List.mem_of_getElem? (i := 0) rfl)))
  have hcs : ¬ cs = 0 := gotF (Cond.eq_ints evcs rfl) (not_v (Cond.before_iff.mp (hsets _ (List.mem_of_getElem? (i := 2) rfl))))
  have hCH : CHv s own_EL s.vm s.heap := CHv.start (own_EW hw) (fun p hp => hcalls.1 p hp) (hsets _ (List.mem_of_getElem? (i := 2) rfl)) (hw _ (List.mem_of_getElem? (i := 26) rfl)) (hw _ (List.mem_of_getElem? (i := 25) rfl))
  obtain ⟨n, o, h1, h2, h3, _, L, rfl, ⟨rfl, N⟩, -, hq⟩ := rm0 l s _ hw tables_1 i0 i1 i2 cs s.heap s.heap.size (Nat.le_refl _) S_cs hcs p e ha hc hk s m _ below hf ((Spec.applies_iff_loose hf).mp happ).1 ⟨rfl, State.Warmed39.refl s, rfl, hCH⟩ trivial
  refine ⟨n, _, h1, h2, h3, hpost _ _ _ _ _ _ ⟨Cond.after_iff.mpr rfl, Cond.after_iff.mpr (eq_i res_at (Term.int_eval (1)) rfl), trivial⟩ ⟨hq.1, hq.2.1, hq.2.2.1, (hq.2.2.2.sift fun y hy => Or.inr (N y hy)).mono (by decide) (by decide)⟩⟩
theorem main_1_1 : Claimed_1_1 := comes_1 fun _ _ _ _ _ _ h hF => ⟨h.1, hF⟩
theorem main_1_2 : Claimed_1_2 := comes_1 fun _ _ _ _ _ _ h hF => ⟨h.2.1, hF⟩
end Jvm.Pilot.@@N@@
namespace Jvm.Pilot.@@N@@
open Jvm Jvm.ClassFile Sem Op Lib Jvm.Free Jvm.Stand Jvm.Pilot.@@N@@.Jvm.D
/-! MADE BY PROGRAM (witnessworld.py) out of the Statement's table words and the real class files: 25 classes; the members and pool entries that the words name. The judged class is class 1, her method 1. -/
namespace start1
open Jvm.ClassFile
def u (s : String) : CpInfo := .utf8 (stringToUtf16 s)
/-- a pool by its gaps: so many unusable entries, then the entry; so many at the end -/
def gap : Nat → List CpInfo → List CpInfo
  | 0, r => r
  | n + 1, r => .unusable :: gap n r
def poolList (es : List (Nat × CpInfo)) (last : Nat) : List CpInfo := es.foldr (fun e r => gap e.1 (e.2 :: r)) (gap last [])
def pool (es : List (Nat × CpInfo)) (last : Nat) : Array CpInfo := ⟨poolList es last⟩
def fileOf (pool : Array CpInfo) (this : Nat) (attrs : Array Attribute := #[]) (ms : Array MethodInfo := #[]) (fl : Nat := 33) (sup : Nat := 0) (ifs : Array Nat := #[]) (fds : Array FieldInfo := #[]) : ClassFile where
  minorVersion := 0
  majorVersion := 65
  constantPool := pool
  accessFlags := fl
  thisClass := this
  superClass := sup
  interfaces := ifs
  fields := fds
  methods := ms
  attributes := attrs
def plain (name : String) (sup : Option ClassId) : Class where
  name := name
  kind := .ordinary
  loader := none
  accessFlags := 33
  super := sup
  interfaces := #[]
  cf := none
  fields := #[]
  methods := #[]
  instanceTypes := #[]
  staticTypes := #[]
  resolved := #[]
  callSites := []
  init := .initialized
  statics := none
  mirror := none

def pool0 : Array CpInfo := pool [(5, u "<init>"), (0, u "()V"), (1, .class_ 10), (1, u "java/lang/Object")] 113

def k0c0 : Code := { maxStack := 0, maxLocals := 1, code := object_method_1_code, exceptionTable := #[], attributes := #[] }
def k0m0 : Method := { name := "<init>", desc := "()V", sig := { parameters := [], returnType := none }, accessFlags := 1, code := some k0c0 }
/-- java/lang/Object -/
def k0 : Class := { plain "java/lang/Object" none with
  accessFlags := 33
  interfaces := #[]
  cf := some (fileOf pool0 8 #[] #[{ accessFlags := 1, nameIndex := 5, descriptorIndex := 6, attributes := #[] }] 33 0 #[] #[])
  fields := #[]
  methods := #[k0m0]
  instanceTypes := #[]
  staticTypes := #[]
  resolved := Array.replicate 124 none
  statics := none }

def pool1 : Array CpInfo := pool [(2, .class_ 4), (1, u "java/lang/Object"), (0, u "<init>"), (0, u "()V"), (0, .integer 2147483647), (0, .class_ 9), (0, u "com/example/ottawa/ottawa/TagPattern"), (0, .methodref 8 11), (0, .nameAndType 5 12), (0, u "(Lcom/example/ottawa/ottawa/ElementType;)V"), (0, .class_ 14), (0, u "com/example/ottawa/ottawa/KeptName"), (0, .string 16), (0, u "a"), (0, .methodref 13 18), (0, .nameAndType 5 19), (0, u "(Ljava/lang/String;II)V"), (0, .string 21), (0, u "b"), (0, .class_ 23), (0, u "com/example/ottawa/ottawa/Name"), (0, .string 25), (0, u "c"), (0, .methodref 22 27), (0, .nameAndType 5 28), (0, u "(Ljava/lang/String;I)V"), (0, .methodref 8 30), (0, .nameAndType 31 32), (0, u "follow"), (0, u "(ZLcom/example/ottawa/ottawa/Name;)V"), (0, .methodref 8 34), (0, .nameAndType 35 36), (0, u "following"), (0, u "(Z)Lcom/example/ottawa/ottawa/KeptName;"), (0, .class_ 38), (0, u "com/example/ottawa/ottawa/TagPatternFollowPinLaw"), (2, u "law"), (0, u "(III)Z")] 3

def k1m0 : Method := { name := "<init>", desc := "()V", sig := { parameters := [], returnType := none }, accessFlags := 1, code := none }
def k1c1 : Code := { maxStack := 5, maxLocals := 14, code := code, exceptionTable := #[], attributes := #[] }
def k1m1 : Method := { name := "law", desc := "(III)Z", sig := { parameters := [.int, .int, .int], returnType := some .boolean }, accessFlags := 9, code := some k1c1 }
/-- com/example/ottawa/ottawa/TagPatternFollowPinLaw -/
def k1 : Class := { plain "com/example/ottawa/ottawa/TagPatternFollowPinLaw" (some 0) with
  accessFlags := 49
  interfaces := #[]
  cf := some (fileOf pool1 37 #[] #[{ accessFlags := 1, nameIndex := 5, descriptorIndex := 6, attributes := #[] }, { accessFlags := 9, nameIndex := 41, descriptorIndex := 42, attributes := #[] }] 49 2 #[] #[])
  fields := #[]
  methods := #[k1m0, k1m1]
  instanceTypes := #[]
  staticTypes := #[]
  resolved := Array.replicate 46 none
  statics := none }

def pool2 : Array CpInfo := pool [(1, .methodref 2 3), (0, .class_ 4), (0, .nameAndType 5 6), (0, u "java/lang/Object"), (0, u "<init>"), (0, u "()V"), (0, .class_ 8), (0, u "com/example/ottawa/ottawa/KeptName"), (0, .fieldref 10 11), (0, .class_ 12), (0, .nameAndType 13 14), (0, u "com/example/ottawa/ottawa/TagPattern"), (0, u "names"), (0, u "[Lcom/example/ottawa/ottawa/KeptName;"), (0, .class_ 16), (0, u "com/example/ottawa/ottawa/AttributeDefinition"), (0, .fieldref 10 18), (0, .nameAndType 19 20), (0, u "definitions"), (0, u "[Lcom/example/ottawa/ottawa/AttributeDefinition;"), (0, .fieldref 10 22), (0, .nameAndType 23 24), (0, u "elementType"), (0, u "Lcom/example/ottawa/ottawa/ElementType;"), (0, .fieldref 10 26), (0, .nameAndType 27 28), (0, u "firstInside"), (0, u "Lcom/example/ottawa/ottawa/KeptName;"), (0, .fieldref 10 30), (0, .nameAndType 31 28), (0, u "firstAfter"), (8, u "PLACES"), (0, u "I"), (2, u "(Lcom/example/ottawa/ottawa/ElementType;)V"), (8, u "following"), (0, u "(Z)Lcom/example/ottawa/ottawa/KeptName;"), (0, u "follow"), (0, u "(ZLcom/example/ottawa/ottawa/Name;)V")] 4

def k2c0 : Code := { maxStack := 2, maxLocals := 2, code := prog_51_method_1_code, exceptionTable := #[], attributes := #[] }
def k2m0 : Method := { name := "<init>", desc := "(Lcom/example/ottawa/ottawa/ElementType;)V", sig := { parameters := [(.object "com/example/ottawa/ottawa/ElementType")], returnType := none }, accessFlags := 0, code := some k2c0 }
def k2c1 : Code := { maxStack := 1, maxLocals := 2, code := prog_51_method_5_code, exceptionTable := #[], attributes := #[] }
def k2m1 : Method := { name := "following", desc := "(Z)Lcom/example/ottawa/ottawa/KeptName;", sig := { parameters := [.boolean], returnType := some (.object "com/example/ottawa/ottawa/KeptName") }, accessFlags := 0, code := some k2c1 }
def k2c2 : Code := { maxStack := 2, maxLocals := 5, code := prog_51_method_6_code, exceptionTable := #[], attributes := #[] }
def k2m2 : Method := { name := "follow", desc := "(ZLcom/example/ottawa/ottawa/Name;)V", sig := { parameters := [.boolean, (.object "com/example/ottawa/ottawa/Name")], returnType := none }, accessFlags := 0, code := some k2c2 }
/-- com/example/ottawa/ottawa/TagPattern -/
def k2 : Class := { plain "com/example/ottawa/ottawa/TagPattern" (some 0) with
  accessFlags := 48
  interfaces := #[]
  cf := some (fileOf pool2 10 #[] #[{ accessFlags := 0, nameIndex := 5, descriptorIndex := 44, attributes := #[] }, { accessFlags := 0, nameIndex := 53, descriptorIndex := 54, attributes := #[] }, { accessFlags := 0, nameIndex := 55, descriptorIndex := 56, attributes := #[] }] 48 2 #[] #[{ accessFlags := 24, nameIndex := 40, descriptorIndex := 41, attributes := #[] }, { accessFlags := 18, nameIndex := 23, descriptorIndex := 24, attributes := #[] }, { accessFlags := 2, nameIndex := 13, descriptorIndex := 14, attributes := #[] }, { accessFlags := 2, nameIndex := 19, descriptorIndex := 20, attributes := #[] }, { accessFlags := 2, nameIndex := 27, descriptorIndex := 28, attributes := #[] }, { accessFlags := 2, nameIndex := 31, descriptorIndex := 28, attributes := #[] }])
  fields := #[{ name := "PLACES", type := .int, accessFlags := 24, slot := 0, constantValue := 0 }, { name := "elementType", type := (.object "com/example/ottawa/ottawa/ElementType"), accessFlags := 18, slot := 0, constantValue := 0 }, { name := "names", type := (.array (.object "com/example/ottawa/ottawa/KeptName")), accessFlags := 2, slot := 1, constantValue := 0 }, { name := "definitions", type := (.array (.object "com/example/ottawa/ottawa/AttributeDefinition")), accessFlags := 2, slot := 2, constantValue := 0 }, { name := "firstInside", type := (.object "com/example/ottawa/ottawa/KeptName"), accessFlags := 2, slot := 3, constantValue := 0 }, { name := "firstAfter", type := (.object "com/example/ottawa/ottawa/KeptName"), accessFlags := 2, slot := 4, constantValue := 0 }]
  methods := #[k2m0, k2m1, k2m2]
  instanceTypes := #[(.object "com/example/ottawa/ottawa/ElementType"), (.array (.object "com/example/ottawa/ottawa/KeptName")), (.array (.object "com/example/ottawa/ottawa/AttributeDefinition")), (.object "com/example/ottawa/ottawa/KeptName"), (.object "com/example/ottawa/ottawa/KeptName")]
  staticTypes := #[.int]
  resolved := Array.replicate 61 none
  statics := none }

def pool3 : Array CpInfo := pool [(1, .methodref 2 3), (0, .class_ 4), (0, .nameAndType 5 6), (0, u "java/lang/Object"), (0, u "<init>"), (0, u "()V"), (0, .fieldref 8 9), (0, .class_ 10), (0, .nameAndType 11 12), (0, u "com/example/ottawa/ottawa/Name"), (0, u "text"), (0, u "Ljava/lang/String;"), (0, .fieldref 8 14), (0, .nameAndType 15 16), (0, u "hash"), (0, u "I"), (0, .methodref 18 19), (0, .class_ 20), (0, .nameAndType 21 22), (0, u "java/lang/String"), (0, u "length"), (0, u "()I"), (0, .fieldref 8 24), (0, .nameAndType 21 16), (0, .methodref 18 26), (0, .nameAndType 27 28), (0, u "indexOf"), (0, u "(I)I"), (0, .fieldref 8 30), (0, .nameAndType 31 16), (0, u "colon"), (12, .fieldref 8 45), (0, .nameAndType 46 47), (0, u "qName"), (0, u "Z"), (0, .string 49), (0, u "xmlns"), (0, .methodref 18 51), (0, .nameAndType 52 53), (0, u "equals"), (0, u "(Ljava/lang/Object;)Z"), (4, .fieldref 8 59), (0, .nameAndType 60 47), (0, u "namespaceDeclaration"), (4, .string 66), (0, u ""), (7, u "XMLNS"), (1, u "(Ljava/lang/String;I)V"), (3, u "()Ljava/lang/String;"), (5, u "prefix"), (0, u "localPart")] 4

def k3c0 : Code := { maxStack := 4, maxLocals := 3, code := prog_26_method_1_code, exceptionTable := #[], attributes := #[] }
def k3m0 : Method := { name := "<init>", desc := "(Ljava/lang/String;I)V", sig := { parameters := [(.object "java/lang/String"), .int], returnType := none }, accessFlags := 0, code := some k3c0 }
def k3c1 : Code := { maxStack := 3, maxLocals := 2, code := prog_26_method_9_code, exceptionTable := #[], attributes := #[] }
def k3m1 : Method := { name := "prefix", desc := "()Ljava/lang/String;", sig := { parameters := [], returnType := some (.object "java/lang/String") }, accessFlags := 0, code := some k3c1 }
def k3c2 : Code := { maxStack := 3, maxLocals := 1, code := prog_26_method_10_code, exceptionTable := #[], attributes := #[] }
def k3m2 : Method := { name := "localPart", desc := "()Ljava/lang/String;", sig := { parameters := [], returnType := some (.object "java/lang/String") }, accessFlags := 0, code := some k3c2 }
/-- com/example/ottawa/ottawa/Name -/
def k3 : Class := { plain "com/example/ottawa/ottawa/Name" (some 0) with
  accessFlags := 32
  interfaces := #[]
  cf := some (fileOf pool3 8 #[] #[{ accessFlags := 0, nameIndex := 5, descriptorIndex := 76, attributes := #[] }, { accessFlags := 0, nameIndex := 86, descriptorIndex := 80, attributes := #[] }, { accessFlags := 0, nameIndex := 87, descriptorIndex := 80, attributes := #[] }] 32 2 #[] #[{ accessFlags := 26, nameIndex := 74, descriptorIndex := 12, attributes := #[] }, { accessFlags := 18, nameIndex := 11, descriptorIndex := 12, attributes := #[] }, { accessFlags := 18, nameIndex := 15, descriptorIndex := 16, attributes := #[] }, { accessFlags := 18, nameIndex := 21, descriptorIndex := 16, attributes := #[] }, { accessFlags := 18, nameIndex := 31, descriptorIndex := 16, attributes := #[] }, { accessFlags := 18, nameIndex := 46, descriptorIndex := 47, attributes := #[] }, { accessFlags := 18, nameIndex := 60, descriptorIndex := 47, attributes := #[] }])
  fields := #[{ name := "XMLNS", type := (.object "java/lang/String"), accessFlags := 26, slot := 0, constantValue := 0 }, { name := "text", type := (.object "java/lang/String"), accessFlags := 18, slot := 0, constantValue := 0 }, { name := "hash", type := .int, accessFlags := 18, slot := 1, constantValue := 0 }, { name := "length", type := .int, accessFlags := 18, slot := 2, constantValue := 0 }, { name := "colon", type := .int, accessFlags := 18, slot := 3, constantValue := 0 }, { name := "qName", type := .boolean, accessFlags := 18, slot := 4, constantValue := 0 }, { name := "namespaceDeclaration", type := .boolean, accessFlags := 18, slot := 5, constantValue := 0 }]
  methods := #[k3m0, k3m1, k3m2]
  instanceTypes := #[(.object "java/lang/String"), .int, .int, .int, .boolean, .boolean]
  staticTypes := #[(.object "java/lang/String")]
  resolved := Array.replicate 92 none
  statics := none }

def pool4 : Array CpInfo := pool [(1, .methodref 2 3), (0, .class_ 4), (0, .nameAndType 5 6), (0, u "com/example/ottawa/ottawa/Name"), (0, u "<init>"), (0, u "(Ljava/lang/String;I)V"), (0, .long 18446744073709551615), (1, .fieldref 10 11), (0, .class_ 12), (0, .nameAndType 13 14), (0, u "com/example/ottawa/ottawa/KeptName"), (0, u "stamp"), (0, u "J"), (0, .methodref 16 17), (0, .class_ 18), (0, .nameAndType 19 20), (0, u "java/lang/String"), (0, u "toCharArray"), (0, u "()[C"), (0, .fieldref 10 22), (0, .nameAndType 23 24), (0, u "chars"), (0, u "[C"), (0, .methodref 2 26), (0, .nameAndType 27 28), (0, u "prefix"), (0, u "()Ljava/lang/String;"), (0, .fieldref 10 30), (0, .nameAndType 27 31), (0, u "Ljava/lang/String;"), (0, .methodref 2 33), (0, .nameAndType 34 28), (0, u "localPart"), (0, .fieldref 10 36), (0, .nameAndType 34 31), (0, .fieldref 10 38), (0, .nameAndType 39 40), (0, u "place"), (0, u "I"), (2, u "bound"), (0, u "Z"), (2, u "boundUri"), (0, u "next"), (0, u "Lcom/example/ottawa/ottawa/KeptName;"), (0, u "(Ljava/lang/String;II)V")] 17

def k4c0 : Code := { maxStack := 3, maxLocals := 4, code := prog_22_method_1_code, exceptionTable := #[], attributes := #[] }
def k4m0 : Method := { name := "<init>", desc := "(Ljava/lang/String;II)V", sig := { parameters := [(.object "java/lang/String"), .int, .int], returnType := none }, accessFlags := 0, code := some k4c0 }
/-- com/example/ottawa/ottawa/KeptName -/
def k4 : Class := { plain "com/example/ottawa/ottawa/KeptName" (some 3) with
  accessFlags := 48
  interfaces := #[]
  cf := some (fileOf pool4 10 #[] #[{ accessFlags := 0, nameIndex := 5, descriptorIndex := 50, attributes := #[] }] 48 2 #[] #[{ accessFlags := 18, nameIndex := 23, descriptorIndex := 24, attributes := #[] }, { accessFlags := 18, nameIndex := 27, descriptorIndex := 31, attributes := #[] }, { accessFlags := 18, nameIndex := 34, descriptorIndex := 31, attributes := #[] }, { accessFlags := 0, nameIndex := 48, descriptorIndex := 49, attributes := #[] }, { accessFlags := 18, nameIndex := 39, descriptorIndex := 40, attributes := #[] }, { accessFlags := 2, nameIndex := 47, descriptorIndex := 31, attributes := #[] }, { accessFlags := 2, nameIndex := 43, descriptorIndex := 44, attributes := #[] }, { accessFlags := 2, nameIndex := 13, descriptorIndex := 14, attributes := #[] }])
  fields := #[{ name := "chars", type := (.array .char), accessFlags := 18, slot := 6, constantValue := 0 }, { name := "prefix", type := (.object "java/lang/String"), accessFlags := 18, slot := 7, constantValue := 0 }, { name := "localPart", type := (.object "java/lang/String"), accessFlags := 18, slot := 8, constantValue := 0 }, { name := "next", type := (.object "com/example/ottawa/ottawa/KeptName"), accessFlags := 0, slot := 9, constantValue := 0 }, { name := "place", type := .int, accessFlags := 18, slot := 10, constantValue := 0 }, { name := "boundUri", type := (.object "java/lang/String"), accessFlags := 2, slot := 11, constantValue := 0 }, { name := "bound", type := .boolean, accessFlags := 2, slot := 12, constantValue := 0 }, { name := "stamp", type := .long, accessFlags := 2, slot := 13, constantValue := 0 }]
  methods := #[k4m0]
  instanceTypes := #[(.object "java/lang/String"), .int, .int, .int, .boolean, .boolean, (.array .char), (.object "java/lang/String"), (.object "java/lang/String"), (.object "com/example/ottawa/ottawa/KeptName"), .int, (.object "java/lang/String"), .boolean, .long]
  staticTypes := #[]
  resolved := Array.replicate 68 none
  statics := none }

def pool5 : Array CpInfo := pool [(2, .class_ 4), (1, u "java/lang/Object"), (3, .class_ 10), (1, u "com/example/ottawa/ottawa/AttributeDefinition"), (0, u "name"), (0, u "Lcom/example/ottawa/ottawa/Name;"), (6, u "type"), (0, u "Ljava/lang/String;"), (10, u "cdata"), (0, u "Z"), (5, u "defaultValue")] 93

/-- com/example/ottawa/ottawa/AttributeDefinition -/
def k5 : Class := { plain "com/example/ottawa/ottawa/AttributeDefinition" (some 0) with
  accessFlags := 48
  interfaces := #[]
  cf := some (fileOf pool5 8 #[] #[] 48 2 #[] #[{ accessFlags := 18, nameIndex := 11, descriptorIndex := 12, attributes := #[] }, { accessFlags := 18, nameIndex := 19, descriptorIndex := 20, attributes := #[] }, { accessFlags := 18, nameIndex := 31, descriptorIndex := 32, attributes := #[] }, { accessFlags := 18, nameIndex := 38, descriptorIndex := 20, attributes := #[] }])
  fields := #[{ name := "name", type := (.object "com/example/ottawa/ottawa/Name"), accessFlags := 18, slot := 0, constantValue := 0 }, { name := "type", type := (.object "java/lang/String"), accessFlags := 18, slot := 1, constantValue := 0 }, { name := "cdata", type := .boolean, accessFlags := 18, slot := 2, constantValue := 0 }, { name := "defaultValue", type := (.object "java/lang/String"), accessFlags := 18, slot := 3, constantValue := 0 }]
  methods := #[]
  instanceTypes := #[(.object "com/example/ottawa/ottawa/Name"), (.object "java/lang/String"), .boolean, (.object "java/lang/String")]
  staticTypes := #[]
  resolved := Array.replicate 132 none
  statics := none }

def pool6 : Array CpInfo := pool [(1, .class_ 2), (0, u "java/io/Serializable"), (0, .class_ 4), (0, u "java/lang/Object")] 2

/-- java/io/Serializable -/
def k6 : Class := { plain "java/io/Serializable" (some 0) with
  accessFlags := 1537
  interfaces := #[]
  cf := some (fileOf pool6 1 #[] #[] 1537 3 #[] #[])
  fields := #[]
  methods := #[]
  instanceTypes := #[]
  staticTypes := #[]
  resolved := Array.replicate 7 none
  statics := none }

def pool7 : Array CpInfo := pool [(1, .class_ 2), (0, u "java/lang/Comparable"), (0, .class_ 4), (0, u "java/lang/Object")] 7

/-- java/lang/Comparable -/
def k7 : Class := { plain "java/lang/Comparable" (some 0) with
  accessFlags := 1537
  interfaces := #[]
  cf := some (fileOf pool7 1 #[] #[] 1537 3 #[] #[])
  fields := #[]
  methods := #[]
  instanceTypes := #[]
  staticTypes := #[]
  resolved := Array.replicate 12 none
  statics := none }

def pool8 : Array CpInfo := pool [(2, .class_ 4), (1, u "java/lang/CharSequence"), (42, .class_ 48), (0, u "java/lang/CharSequence$1CodePointIterator"), (10, .class_ 60), (0, u "java/lang/CharSequence$1CharIterator"), (5, .class_ 67), (0, u "java/lang/Object")] 63

/-- java/lang/CharSequence -/
def k8 : Class := { plain "java/lang/CharSequence" (some 0) with
  accessFlags := 1537
  interfaces := #[]
  cf := some (fileOf pool8 2 #[.nestMembers #[47, 59]] #[] 1537 66 #[] #[])
  fields := #[]
  methods := #[]
  instanceTypes := #[]
  staticTypes := #[]
  resolved := Array.replicate 131 none
  statics := none }

def pool9 : Array CpInfo := pool [(1, .class_ 2), (0, u "java/lang/constant/Constable"), (0, .class_ 4), (0, u "java/lang/Object")] 6

/-- java/lang/constant/Constable -/
def k9 : Class := { plain "java/lang/constant/Constable" (some 0) with
  accessFlags := 1537
  interfaces := #[]
  cf := some (fileOf pool9 1 #[] #[] 1537 3 #[] #[])
  fields := #[]
  methods := #[]
  instanceTypes := #[]
  staticTypes := #[]
  resolved := Array.replicate 11 none
  statics := none }

def pool10 : Array CpInfo := pool [(1, .class_ 2), (0, u "java/lang/constant/ConstantDesc"), (0, .class_ 4), (0, u "java/lang/Object")] 32

/-- java/lang/constant/ConstantDesc -/
def k10 : Class := { plain "java/lang/constant/ConstantDesc" (some 0) with
  accessFlags := 1537
  interfaces := #[]
  cf := some (fileOf pool10 1 #[] #[] 1537 3 #[] #[])
  fields := #[]
  methods := #[]
  instanceTypes := #[]
  staticTypes := #[]
  resolved := Array.replicate 37 none
  statics := none }

def pool11 : Array CpInfo := pool [(2, .class_ 4), (1, u "java/lang/Object"), (0, u "<init>"), (0, u "()V"), (2, .fieldref 10 11), (0, .class_ 12), (0, .nameAndType 13 14), (0, u "java/lang/String"), (0, u "value"), (0, u "[B"), (0, .fieldref 10 16), (0, .nameAndType 17 18), (0, u "coder"), (0, u "B"), (2, u "hash"), (0, u "I"), (2, u "hashIsZero"), (0, u "Z"), (11, .fieldref 10 39), (0, .nameAndType 40 26), (0, u "COMPACT_STRINGS"), (66, .class_ 109), (1, u "java/lang/StringLatin1"), (32, u "()Z"), (156, .methodref 107 300), (0, .nameAndType 301 302), (0, u "toChars"), (0, u "([B)[C"), (31, u "()I"), (0, .methodref 10 336), (0, .nameAndType 17 337), (0, u "()B"), (154, .methodref 10 493), (0, .nameAndType 494 142), (0, u "isLatin1"), (10, .methodref 10 506), (0, .nameAndType 507 334), (0, u "length"), (33, .methodref 107 542), (0, .nameAndType 543 544), (0, u "equals"), (0, u "([B[B)Z"), (28, u "(Ljava/lang/Object;)Z"), (1, .class_ 576), (0, u "java/lang/CharSequence"), (22, u "CASE_INSENSITIVE_ORDER"), (0, u "Ljava/util/Comparator;"), (32, .methodref 10 634), (0, .nameAndType 635 636), (0, u "indexOf"), (0, u "(II)I"), (0, .methodref 107 638), (0, .nameAndType 635 639), (0, u "([BIII)I"), (125, u "(I)I"), (189, u "toCharArray"), (0, u "()[C"), (144, u "serialPersistentFields"), (0, u "[Ljava/io/ObjectStreamField;"), (0, .class_ 1104), (0, u "java/lang/String$CaseInsensitiveComparator"), (1, .class_ 1107), (0, u "java/io/Serializable"), (0, .class_ 1109), (0, u "java/lang/Comparable"), (0, .class_ 1111), (0, u "java/lang/constant/Constable"), (0, .class_ 1113), (0, u "java/lang/constant/ConstantDesc"), (2, u "serialVersionUID"), (0, u "J"), (3, u "REPL"), (0, u "C"), (2, u "LATIN1"), (1, u "UTF16")] 323

def k11m0 : Method := { name := "<init>", desc := "()V", sig := { parameters := [], returnType := none }, accessFlags := 1, code := none }
def k11c1 : Code := { maxStack := 2, maxLocals := 1, code := jdk_42_method_54_code, exceptionTable := #[], attributes := #[] }
def k11m1 : Method := { name := "length", desc := "()I", sig := { parameters := [], returnType := some .int }, accessFlags := 1, code := some k11c1 }
def k11c2 : Code := { maxStack := 2, maxLocals := 3, code := jdk_42_method_66_code, exceptionTable := #[], attributes := #[] }
def k11m2 : Method := { name := "equals", desc := "(Ljava/lang/Object;)Z", sig := { parameters := [(.object "java/lang/Object")], returnType := some .boolean }, accessFlags := 1, code := some k11c2 }
def k11c3 : Code := { maxStack := 3, maxLocals := 2, code := jdk_42_method_79_code, exceptionTable := #[], attributes := #[] }
def k11m3 : Method := { name := "indexOf", desc := "(I)I", sig := { parameters := [.int], returnType := some .int }, accessFlags := 1, code := some k11c3 }
def k11c4 : Code := { maxStack := 4, maxLocals := 3, code := jdk_42_method_80_code, exceptionTable := #[], attributes := #[] }
def k11m4 : Method := { name := "indexOf", desc := "(II)I", sig := { parameters := [.int, .int], returnType := some .int }, accessFlags := 1, code := some k11c4 }
def k11c5 : Code := { maxStack := 1, maxLocals := 1, code := jdk_42_method_129_code, exceptionTable := #[], attributes := #[] }
def k11m5 : Method := { name := "toCharArray", desc := "()[C", sig := { parameters := [], returnType := some (.array .char) }, accessFlags := 1, code := some k11c5 }
def k11c6 : Code := { maxStack := 1, maxLocals := 1, code := jdk_42_method_152_code, exceptionTable := #[], attributes := #[] }
def k11m6 : Method := { name := "coder", desc := "()B", sig := { parameters := [], returnType := some .byte }, accessFlags := 0, code := some k11c6 }
def k11c7 : Code := { maxStack := 1, maxLocals := 1, code := jdk_42_method_154_code, exceptionTable := #[], attributes := #[] }
def k11m7 : Method := { name := "isLatin1", desc := "()Z", sig := { parameters := [], returnType := some .boolean }, accessFlags := 0, code := some k11c7 }
/-- java/lang/String -/
def k11 : Class := { plain "java/lang/String" (some 0) with
  accessFlags := 49
  interfaces := #[6, 7, 8, 9, 10]
  cf := some (fileOf pool11 10 #[.nestMembers #[1103]] #[{ accessFlags := 1, nameIndex := 5, descriptorIndex := 6, attributes := #[] }, { accessFlags := 1, nameIndex := 507, descriptorIndex := 334, attributes := #[] }, { accessFlags := 1, nameIndex := 543, descriptorIndex := 573, attributes := #[] }, { accessFlags := 1, nameIndex := 635, descriptorIndex := 765, attributes := #[] }, { accessFlags := 1, nameIndex := 635, descriptorIndex := 636, attributes := #[] }, { accessFlags := 1, nameIndex := 955, descriptorIndex := 956, attributes := #[] }, { accessFlags := 0, nameIndex := 17, descriptorIndex := 337, attributes := #[] }, { accessFlags := 0, nameIndex := 494, descriptorIndex := 142, attributes := #[] }] 49 2 #[1106, 1108, 575, 1110, 1112] #[{ accessFlags := 18, nameIndex := 13, descriptorIndex := 14, attributes := #[] }, { accessFlags := 18, nameIndex := 17, descriptorIndex := 18, attributes := #[] }, { accessFlags := 2, nameIndex := 21, descriptorIndex := 22, attributes := #[] }, { accessFlags := 2, nameIndex := 25, descriptorIndex := 26, attributes := #[] }, { accessFlags := 26, nameIndex := 1116, descriptorIndex := 1117, attributes := #[] }, { accessFlags := 24, nameIndex := 40, descriptorIndex := 26, attributes := #[] }, { accessFlags := 26, nameIndex := 1101, descriptorIndex := 1102, attributes := #[] }, { accessFlags := 26, nameIndex := 1121, descriptorIndex := 1122, attributes := #[] }, { accessFlags := 25, nameIndex := 599, descriptorIndex := 600, attributes := #[] }, { accessFlags := 24, nameIndex := 1125, descriptorIndex := 18, attributes := #[] }, { accessFlags := 24, nameIndex := 1127, descriptorIndex := 18, attributes := #[] }])
  fields := #[{ name := "value", type := (.array .byte), accessFlags := 18, slot := 0, constantValue := 0 }, { name := "coder", type := .byte, accessFlags := 18, slot := 1, constantValue := 0 }, { name := "hash", type := .int, accessFlags := 2, slot := 2, constantValue := 0 }, { name := "hashIsZero", type := .boolean, accessFlags := 2, slot := 3, constantValue := 0 }, { name := "serialVersionUID", type := .long, accessFlags := 26, slot := 0, constantValue := 0 }, { name := "COMPACT_STRINGS", type := .boolean, accessFlags := 24, slot := 1, constantValue := 0 }, { name := "serialPersistentFields", type := (.array (.object "java/io/ObjectStreamField")), accessFlags := 26, slot := 2, constantValue := 0 }, { name := "REPL", type := .char, accessFlags := 26, slot := 3, constantValue := 0 }, { name := "CASE_INSENSITIVE_ORDER", type := (.object "java/util/Comparator"), accessFlags := 25, slot := 4, constantValue := 0 }, { name := "LATIN1", type := .byte, accessFlags := 24, slot := 5, constantValue := 0 }, { name := "UTF16", type := .byte, accessFlags := 24, slot := 6, constantValue := 0 }]
  methods := #[k11m0, k11m1, k11m2, k11m3, k11m4, k11m5, k11m6, k11m7]
  instanceTypes := #[(.array .byte), .byte, .int, .boolean]
  staticTypes := #[.long, .boolean, (.array (.object "java/io/ObjectStreamField")), .char, (.object "java/util/Comparator"), .byte, .byte]
  resolved := Array.replicate 1451 none
  statics := some 0 }

def pool12 : Array CpInfo := pool [(4, .class_ 6), (1, u "java/lang/Object"), (0, u "<init>"), (0, u "()V"), (4, .methodref 14 15), (0, .class_ 16), (0, .nameAndType 17 18), (0, u "java/lang/StringLatin1"), (0, u "inflate"), (0, u "([BI[CII)V"), (19, .methodref 39 40), (0, .class_ 41), (0, .nameAndType 42 43), (0, u "java/lang/Math"), (0, u "min"), (0, u "(II)I"), (44, .methodref 14 89), (0, .nameAndType 90 91), (0, u "canEncode"), (0, u "(I)Z"), (0, .methodref 39 93), (0, .nameAndType 94 43), (0, u "max"), (0, .methodref 14 96), (0, .nameAndType 97 98), (0, u "indexOfChar"), (0, u "([BIII)I"), (2, u "indexOf"), (19, u "$assertionsDisabled"), (0, u "Z"), (69, u "toChars"), (28, .class_ 223), (1, u "java/lang/StringLatin1$LinesSpliterator"), (44, u "([B)[C"), (12, u "equals"), (0, u "([B[B)Z"), (107, .class_ 391), (0, u "java/lang/StringLatin1$CharsSpliterator")] 3

def k12m0 : Method := { name := "<init>", desc := "()V", sig := { parameters := [], returnType := none }, accessFlags := 0, code := none }
def k12c1 : Code := { maxStack := 2, maxLocals := 1, code := jdk_43_method_4_code, exceptionTable := #[], attributes := #[] }
def k12m1 : Method := { name := "canEncode", desc := "(I)Z", sig := { parameters := [.int], returnType := some .boolean }, accessFlags := 9, code := some k12c1 }
def k12c2 : Code := { maxStack := 5, maxLocals := 2, code := jdk_43_method_9_code, exceptionTable := #[], attributes := #[] }
def k12m2 : Method := { name := "toChars", desc := "([B)[C", sig := { parameters := [(.array .byte)], returnType := some (.array .char) }, accessFlags := 9, code := some k12c2 }
def k12c3 : Code := { maxStack := 3, maxLocals := 3, code := jdk_43_method_13_code, exceptionTable := #[], attributes := #[] }
def k12m3 : Method := { name := "equals", desc := "([B[B)Z", sig := { parameters := [(.array .byte), (.array .byte)], returnType := some .boolean }, accessFlags := 9, code := some k12c3 }
def k12c4 : Code := { maxStack := 4, maxLocals := 4, code := jdk_43_method_22_code, exceptionTable := #[], attributes := #[] }
def k12m4 : Method := { name := "indexOf", desc := "([BIII)I", sig := { parameters := [(.array .byte), .int, .int, .int], returnType := some .int }, accessFlags := 9, code := some k12c4 }
def k12c5 : Code := { maxStack := 2, maxLocals := 6, code := jdk_43_method_23_code, exceptionTable := #[], attributes := #[] }
def k12m5 : Method := { name := "indexOfChar", desc := "([BIII)I", sig := { parameters := [(.array .byte), .int, .int, .int], returnType := some .int }, accessFlags := 10, code := some k12c5 }
def k12c6 : Code := { maxStack := 4, maxLocals := 6, code := jdk_43_method_49_code, exceptionTable := #[], attributes := #[] }
def k12m6 : Method := { name := "inflate", desc := "([BI[CII)V", sig := { parameters := [(.array .byte), .int, (.array .char), .int, .int], returnType := none }, accessFlags := 9, code := some k12c6 }
/-- java/lang/StringLatin1 -/
def k12 : Class := { plain "java/lang/StringLatin1" (some 0) with
  accessFlags := 48
  interfaces := #[]
  cf := some (fileOf pool12 14 #[.nestMembers #[390, 221]] #[{ accessFlags := 0, nameIndex := 7, descriptorIndex := 8, attributes := #[] }, { accessFlags := 9, nameIndex := 90, descriptorIndex := 91, attributes := #[] }, { accessFlags := 9, nameIndex := 192, descriptorIndex := 268, attributes := #[] }, { accessFlags := 9, nameIndex := 281, descriptorIndex := 282, attributes := #[] }, { accessFlags := 9, nameIndex := 101, descriptorIndex := 98, attributes := #[] }, { accessFlags := 10, nameIndex := 97, descriptorIndex := 98, attributes := #[] }, { accessFlags := 9, nameIndex := 17, descriptorIndex := 18, attributes := #[] }] 48 4 #[] #[{ accessFlags := 4120, nameIndex := 121, descriptorIndex := 122, attributes := #[] }])
  fields := #[{ name := "$assertionsDisabled", type := .boolean, accessFlags := 4120, slot := 0, constantValue := 0 }]
  methods := #[k12m0, k12m1, k12m2, k12m3, k12m4, k12m5, k12m6]
  instanceTypes := #[]
  staticTypes := #[.boolean]
  resolved := Array.replicate 395 none
  statics := none }

def pool13 : Array CpInfo := pool [(1, .class_ 2), (0, u "java/lang/Math"), (1, .class_ 6), (1, u "java/lang/Object"), (0, u "<init>"), (0, u "()V"), (89, .class_ 100), (1, u "java/lang/Math$RandomNumberGeneratorHolder"), (71, u "negativeZeroFloatBits"), (0, u "J"), (2, u "negativeZeroDoubleBits"), (21, u "max"), (2, u "min"), (43, u "$assertionsDisabled"), (0, u "Z"), (88, u "(II)I"), (2, u "twoToTheDoubleScaleDown"), (0, u "D"), (4, u "twoToTheDoubleScaleUp"), (9, u "E"), (3, u "PI"), (2, u "TAU"), (2, u "DEGREES_TO_RADIANS"), (0, u "RADIANS_TO_DEGREES")] 94

def k13m0 : Method := { name := "<init>", desc := "()V", sig := { parameters := [], returnType := none }, accessFlags := 2, code := none }
def k13c1 : Code := { maxStack := 2, maxLocals := 2, code := jdk_29_method_65_code, exceptionTable := #[], attributes := #[] }
def k13m1 : Method := { name := "max", desc := "(II)I", sig := { parameters := [.int, .int], returnType := some .int }, accessFlags := 9, code := some k13c1 }
def k13c2 : Code := { maxStack := 2, maxLocals := 2, code := jdk_29_method_69_code, exceptionTable := #[], attributes := #[] }
def k13m2 : Method := { name := "min", desc := "(II)I", sig := { parameters := [.int, .int], returnType := some .int }, accessFlags := 9, code := some k13c2 }
/-- java/lang/Math -/
def k13 : Class := { plain "java/lang/Math" (some 0) with
  accessFlags := 49
  interfaces := #[]
  cf := some (fileOf pool13 1 #[.nestMembers #[98]] #[{ accessFlags := 2, nameIndex := 7, descriptorIndex := 8, attributes := #[] }, { accessFlags := 9, nameIndex := 198, descriptorIndex := 335, attributes := #[] }, { accessFlags := 9, nameIndex := 201, descriptorIndex := 335, attributes := #[] }] 49 4 #[] #[{ accessFlags := 25, nameIndex := 354, descriptorIndex := 339, attributes := #[] }, { accessFlags := 25, nameIndex := 358, descriptorIndex := 339, attributes := #[] }, { accessFlags := 25, nameIndex := 361, descriptorIndex := 339, attributes := #[] }, { accessFlags := 26, nameIndex := 364, descriptorIndex := 339, attributes := #[] }, { accessFlags := 26, nameIndex := 365, descriptorIndex := 339, attributes := #[] }, { accessFlags := 26, nameIndex := 172, descriptorIndex := 173, attributes := #[] }, { accessFlags := 26, nameIndex := 176, descriptorIndex := 173, attributes := #[] }, { accessFlags := 8, nameIndex := 344, descriptorIndex := 339, attributes := #[] }, { accessFlags := 8, nameIndex := 338, descriptorIndex := 339, attributes := #[] }, { accessFlags := 4120, nameIndex := 245, descriptorIndex := 246, attributes := #[] }])
  fields := #[{ name := "E", type := .double, accessFlags := 25, slot := 0, constantValue := 0 }, { name := "PI", type := .double, accessFlags := 25, slot := 1, constantValue := 0 }, { name := "TAU", type := .double, accessFlags := 25, slot := 2, constantValue := 0 }, { name := "DEGREES_TO_RADIANS", type := .double, accessFlags := 26, slot := 3, constantValue := 0 }, { name := "RADIANS_TO_DEGREES", type := .double, accessFlags := 26, slot := 4, constantValue := 0 }, { name := "negativeZeroFloatBits", type := .long, accessFlags := 26, slot := 5, constantValue := 0 }, { name := "negativeZeroDoubleBits", type := .long, accessFlags := 26, slot := 6, constantValue := 0 }, { name := "twoToTheDoubleScaleUp", type := .double, accessFlags := 8, slot := 7, constantValue := 0 }, { name := "twoToTheDoubleScaleDown", type := .double, accessFlags := 8, slot := 8, constantValue := 0 }, { name := "$assertionsDisabled", type := .boolean, accessFlags := 4120, slot := 9, constantValue := 0 }]
  methods := #[k13m0, k13m1, k13m2]
  instanceTypes := #[]
  staticTypes := #[.double, .double, .double, .double, .double, .long, .long, .double, .double, .boolean]
  resolved := Array.replicate 460 none
  statics := none }

def pool14 : Array CpInfo := pool [(2, .class_ 4), (1, u "java/lang/Object"), (0, u "<init>"), (0, u "()V"), (17, .class_ 26), (1, u "jdk/internal/util/Preconditions"), (28, .class_ 56), (0, u "jdk/internal/util/Preconditions$4"), (57, .class_ 115), (0, u "jdk/internal/util/Preconditions$1"), (7, u "SIOOBE_FORMATTER"), (0, u "Ljava/util/function/BiFunction;"), (0, .class_ 126), (0, u "jdk/internal/util/Preconditions$2"), (3, u "AIOOBE_FORMATTER"), (0, .class_ 132), (0, u "jdk/internal/util/Preconditions$3"), (3, u "IOOBE_FORMATTER")] 57

def k14m0 : Method := { name := "<init>", desc := "()V", sig := { parameters := [], returnType := none }, accessFlags := 1, code := none }
/-- jdk/internal/util/Preconditions -/
def k14 : Class := { plain "jdk/internal/util/Preconditions" (some 0) with
  accessFlags := 33
  interfaces := #[]
  cf := some (fileOf pool14 24 #[.nestMembers #[55, 131, 125, 114]] #[{ accessFlags := 1, nameIndex := 5, descriptorIndex := 6, attributes := #[] }] 33 2 #[] #[{ accessFlags := 25, nameIndex := 123, descriptorIndex := 124, attributes := #[] }, { accessFlags := 25, nameIndex := 130, descriptorIndex := 124, attributes := #[] }, { accessFlags := 25, nameIndex := 136, descriptorIndex := 124, attributes := #[] }])
  fields := #[{ name := "SIOOBE_FORMATTER", type := (.object "java/util/function/BiFunction"), accessFlags := 25, slot := 0, constantValue := 0 }, { name := "AIOOBE_FORMATTER", type := (.object "java/util/function/BiFunction"), accessFlags := 25, slot := 1, constantValue := 0 }, { name := "IOOBE_FORMATTER", type := (.object "java/util/function/BiFunction"), accessFlags := 25, slot := 2, constantValue := 0 }]
  methods := #[k14m0]
  instanceTypes := #[]
  staticTypes := #[(.object "java/util/function/BiFunction"), (.object "java/util/function/BiFunction"), (.object "java/util/function/BiFunction")]
  resolved := Array.replicate 194 none
  statics := some 1 }

def pool15 : Array CpInfo := pool [(9, u "<init>"), (6, .class_ 18), (1, u "java/lang/Object"), (0, u "()V"), (1, .class_ 23), (1, u "jdk/internal/util/ArraysSupport"), (0, u "LOG2_ARRAY_LONG_INDEX_SCALE"), (0, u "I"), (2, u "U"), (0, u "Ljdk/internal/misc/Unsafe;"), (8, u "BIG_ENDIAN"), (0, u "Z"), (8, u "LOG2_BYTE_BIT_SIZE"), (4, u "LOG2_ARRAY_INT_INDEX_SCALE"), (54, u "JLA"), (0, u "Ljdk/internal/access/JavaLangAccess;"), (11, u "LOG2_ARRAY_BOOLEAN_INDEX_SCALE"), (9, u "LOG2_ARRAY_BYTE_INDEX_SCALE"), (5, u "LOG2_ARRAY_CHAR_INDEX_SCALE"), (5, u "LOG2_ARRAY_SHORT_INDEX_SCALE"), (18, u "LOG2_ARRAY_FLOAT_INDEX_SCALE"), (24, u "LOG2_ARRAY_DOUBLE_INDEX_SCALE"), (89, u "T_BOOLEAN"), (2, u "T_CHAR"), (1, u "T_FLOAT"), (1, u "T_DOUBLE"), (1, u "T_BYTE"), (1, u "T_SHORT"), (1, u "T_INT"), (1, u "T_LONG"), (1, u "SOFT_MAX_ARRAY_LENGTH")] 83

def k15m0 : Method := { name := "<init>", desc := "()V", sig := { parameters := [], returnType := none }, accessFlags := 2, code := none }
/-- jdk/internal/util/ArraysSupport -/
def k15 : Class := { plain "jdk/internal/util/ArraysSupport" (some 0) with
  accessFlags := 33
  interfaces := #[]
  cf := some (fileOf pool15 21 #[] #[{ accessFlags := 2, nameIndex := 9, descriptorIndex := 19, attributes := #[] }] 33 16 #[] #[{ accessFlags := 24, nameIndex := 28, descriptorIndex := 29, attributes := #[] }, { accessFlags := 26, nameIndex := 38, descriptorIndex := 39, attributes := #[] }, { accessFlags := 25, nameIndex := 121, descriptorIndex := 25, attributes := #[] }, { accessFlags := 25, nameIndex := 131, descriptorIndex := 25, attributes := #[] }, { accessFlags := 25, nameIndex := 137, descriptorIndex := 25, attributes := #[] }, { accessFlags := 25, nameIndex := 143, descriptorIndex := 25, attributes := #[] }, { accessFlags := 25, nameIndex := 53, descriptorIndex := 25, attributes := #[] }, { accessFlags := 25, nameIndex := 24, descriptorIndex := 25, attributes := #[] }, { accessFlags := 25, nameIndex := 162, descriptorIndex := 25, attributes := #[] }, { accessFlags := 25, nameIndex := 187, descriptorIndex := 25, attributes := #[] }, { accessFlags := 26, nameIndex := 48, descriptorIndex := 25, attributes := #[] }, { accessFlags := 25, nameIndex := 277, descriptorIndex := 25, attributes := #[] }, { accessFlags := 25, nameIndex := 280, descriptorIndex := 25, attributes := #[] }, { accessFlags := 25, nameIndex := 282, descriptorIndex := 25, attributes := #[] }, { accessFlags := 25, nameIndex := 284, descriptorIndex := 25, attributes := #[] }, { accessFlags := 25, nameIndex := 286, descriptorIndex := 25, attributes := #[] }, { accessFlags := 25, nameIndex := 288, descriptorIndex := 25, attributes := #[] }, { accessFlags := 25, nameIndex := 290, descriptorIndex := 25, attributes := #[] }, { accessFlags := 25, nameIndex := 292, descriptorIndex := 25, attributes := #[] }, { accessFlags := 26, nameIndex := 108, descriptorIndex := 109, attributes := #[] }, { accessFlags := 25, nameIndex := 294, descriptorIndex := 25, attributes := #[] }])
  fields := #[{ name := "U", type := (.object "jdk/internal/misc/Unsafe"), accessFlags := 24, slot := 0, constantValue := 0 }, { name := "BIG_ENDIAN", type := .boolean, accessFlags := 26, slot := 1, constantValue := 0 }, { name := "LOG2_ARRAY_BOOLEAN_INDEX_SCALE", type := .int, accessFlags := 25, slot := 2, constantValue := 0 }, { name := "LOG2_ARRAY_BYTE_INDEX_SCALE", type := .int, accessFlags := 25, slot := 3, constantValue := 0 }, { name := "LOG2_ARRAY_CHAR_INDEX_SCALE", type := .int, accessFlags := 25, slot := 4, constantValue := 0 }, { name := "LOG2_ARRAY_SHORT_INDEX_SCALE", type := .int, accessFlags := 25, slot := 5, constantValue := 0 }, { name := "LOG2_ARRAY_INT_INDEX_SCALE", type := .int, accessFlags := 25, slot := 6, constantValue := 0 }, { name := "LOG2_ARRAY_LONG_INDEX_SCALE", type := .int, accessFlags := 25, slot := 7, constantValue := 0 }, { name := "LOG2_ARRAY_FLOAT_INDEX_SCALE", type := .int, accessFlags := 25, slot := 8, constantValue := 0 }, { name := "LOG2_ARRAY_DOUBLE_INDEX_SCALE", type := .int, accessFlags := 25, slot := 9, constantValue := 0 }, { name := "LOG2_BYTE_BIT_SIZE", type := .int, accessFlags := 26, slot := 10, constantValue := 0 }, { name := "T_BOOLEAN", type := .int, accessFlags := 25, slot := 11, constantValue := 0 }, { name := "T_CHAR", type := .int, accessFlags := 25, slot := 12, constantValue := 0 }, { name := "T_FLOAT", type := .int, accessFlags := 25, slot := 13, constantValue := 0 }, { name := "T_DOUBLE", type := .int, accessFlags := 25, slot := 14, constantValue := 0 }, { name := "T_BYTE", type := .int, accessFlags := 25, slot := 15, constantValue := 0 }, { name := "T_SHORT", type := .int, accessFlags := 25, slot := 16, constantValue := 0 }, { name := "T_INT", type := .int, accessFlags := 25, slot := 17, constantValue := 0 }, { name := "T_LONG", type := .int, accessFlags := 25, slot := 18, constantValue := 0 }, { name := "JLA", type := (.object "jdk/internal/access/JavaLangAccess"), accessFlags := 26, slot := 19, constantValue := 0 }, { name := "SOFT_MAX_ARRAY_LENGTH", type := .int, accessFlags := 25, slot := 20, constantValue := 0 }]
  methods := #[k15m0]
  instanceTypes := #[]
  staticTypes := #[(.object "jdk/internal/misc/Unsafe"), .boolean, .int, .int, .int, .int, .int, .int, .int, .int, .int, .int, .int, .int, .int, .int, .int, .int, .int, (.object "jdk/internal/access/JavaLangAccess"), .int]
  resolved := Array.replicate 378 none
  statics := none }

def pool16 : Array CpInfo := pool [(1, u "java/lang/Cloneable"), (0, .class_ 1), (0, u "java/lang/Object"), (0, .class_ 3)] 3

/-- java/lang/Cloneable -/
def k16 : Class := { plain "java/lang/Cloneable" (some 0) with
  accessFlags := 1537
  interfaces := #[]
  cf := some (fileOf pool16 2 #[] #[] 1537 4 #[] #[])
  fields := #[]
  methods := #[]
  instanceTypes := #[]
  staticTypes := #[]
  resolved := Array.replicate 8 none
  statics := none }

/-- the primitive byte -/
def k17 : Class := { plain "byte" none with kind := .primitive 'B', accessFlags := 0x411 }
/-- [B -/
def k18 : Class := { plain "[B" (some 0) with kind := .array 17 .byte, interfaces := #[16, 6], accessFlags := 1041 }

/-- the primitive char -/
def k19 : Class := { plain "char" none with kind := .primitive 'C', accessFlags := 0x411 }
/-- [C -/
def k20 : Class := { plain "[C" (some 0) with kind := .array 19 .char, interfaces := #[16, 6], accessFlags := 1041 }

/-- the primitive int -/
def k21 : Class := { plain "int" none with kind := .primitive 'I', accessFlags := 0x411 }
/-- [I -/
def k22 : Class := { plain "[I" (some 0) with kind := .array 21 .int, interfaces := #[16, 6], accessFlags := 1041 }

/-- [Lcom/example/ottawa/ottawa/AttributeDefinition; -/
def k23 : Class := { plain "[Lcom/example/ottawa/ottawa/AttributeDefinition;" (some 0) with kind := .array 5 (.object "com/example/ottawa/ottawa/AttributeDefinition"), interfaces := #[16, 6], accessFlags := 1041 }

/-- [Lcom/example/ottawa/ottawa/KeptName; -/
def k24 : Class := { plain "[Lcom/example/ottawa/ottawa/KeptName;" (some 0) with kind := .array 4 (.object "com/example/ottawa/ottawa/KeptName"), interfaces := #[16, 6], accessFlags := 1041 }

def heap : Heap := #[{ cls := 11, slots := #[.long 0, .int 1, .null, .int 0, .null, .int 0, .int 0], vm := .statics 11 },
  { cls := 14, slots := #[.null, .null, .null], vm := .statics 14 }]
def classes : Array Class := #[k0, k1, k2, k3, k4, k5, k6, k7, k8, k9, k10, k11, k12, k13, k14, k15, k16, k17, k18, k19, k20, k21, k22, k23, k24]
def interned : List (Array UInt16 × Addr) := []
def slotsUsed : Nat := 10
def theMethod : MethodId := ⟨1, 1⟩
def args0 : Array Value := #[.int 5, .int 3, .int 4]
def aboutOver (below : List Frame) : State where
  vm := { classes := classes, interned := interned.toArray }
  heap := heap
  slotsUsed := slotsUsed
  threads := #[{ frames := .invoking theMethod args0 :: below }]
def below0 : List Frame := [.native { method := ⟨0, 0⟩, args := #[] }]
def about1 : State := aboutOver below0
def p0 : Program := .bare "" "" ""
def e0 : Env := launch0.env 0 0 0
theorem w_frames : about1.frames = Frame.invoking theMethod args0 :: below0 := rfl
set_option maxRecDepth 65536 in
theorem w_args : argsFit about1.vm theMethod args0 = true := by decide +kernel
set_option maxRecDepth 65536 in
theorem w_heap : heapFits about1 = true := by decide +kernel
set_option maxRecDepth 65536 in
theorem w_runnable : about1.curStatus? = some .runnable := by decide +kernel
set_option maxRecDepth 65536 in
theorem w_alone : about1.alone = true := by decide +kernel
set_option maxRecDepth 65536 in
theorem w_named : about1.methodNamed? x = some theMethod := by decide +kernel
set_option maxRecDepth 65536 in
theorem w_hears : about1.hears theMethod below0 = true := by decide +kernel
set_option maxRecDepth 65536 in
theorem w_ripe : about1.ripe theMethod args0 below0 = true := by decide +kernel
theorem w_running : about1.status = .running := rfl
set_option maxRecDepth 65536 in
theorem w_room : about1.hasRoom e0.platform room_1 = true :=
  launch0.hasRoom_least _ room_1 (by decide +kernel) (by decide +kernel) (by decide +kernel) (by decide +kernel) (by decide +kernel) (by decide +kernel)
theorem allAtoms_all (ts : List Jvm.Cond) (a : Array Jvm.Value) (st : Jvm.State) : (allAtoms ts).before a st = ts.all (fun c => c.before a st) := by
  induction ts with
  | nil => rfl
  | cons c t ih =>
    show (Jvm.Cond.and c (allAtoms t)).before a st = _
    rw [Jvm.Cond.before_and, ih, List.all_cons]
def words1 : List Jvm.Cond := Jvm.Cond.code x code maxLocals ret :: tables_1
/-- a 'code' word, met by the world's own term for the bytes: nothing is compared byte by byte -/
theorem code_word {y : MethodName} {bytes : ByteArray} {mx : Nat} {rt : Option FieldType} {a : Array Value} {s : State} {m : MethodId} {meth : Method} {c : Code} (h1 : s.methodNamed? y = some m) (h2 : s.vm.method? m = some meth) (h3 : meth.code = some c) (h4 : c.code = bytes)
    (h5 : (c.maxLocals == mx && c.exceptionTable.isEmpty && decide (c.maxStack ≤ mostOperands) && decide (meth.sig.returnType = rt) && !meth.locks && decide (parseMethodDescriptor y.desc = some meth.sig)) = true) : (Jvm.Cond.code y bytes mx rt).before a s = true := by
  simp only [Bool.and_eq_true, beq_iff_eq, Bool.not_eq_true', decide_eq_true_eq] at h5
  obtain ⟨⟨⟨⟨⟨g1, g2⟩, g3⟩, g4⟩, g5⟩, g6⟩ := h5
  simp [Cond.before, Cond.holds, Cond.value, h1, h2, h3, h4, g1, g2, g3, g4, g5, g6]
def isCode : Jvm.Cond → Bool
  | .code _ _ _ _ => true
  | _ => false
theorem all_split {L : List Jvm.Cond} {P : Jvm.Cond → Bool} (h1 : L.all (fun c => isCode c || P c) = true) (h2 : ∀ c ∈ L.filter isCode, P c = true) : L.all P = true := by
  refine List.all_eq_true.mpr fun c hc => ?_
  have h := List.all_eq_true.mp h1 c hc
  rcases Bool.eq_false_or_eq_true (isCode c) with hi | hi
  · exact h2 c (List.mem_filter.mpr ⟨hc, hi⟩)
  · simpa [hi] using h
set_option maxRecDepth 65536 in
theorem w_c0 : (Jvm.Cond.code x code maxLocals ret).before args0 about1 = true := code_word (m := ⟨1, 1⟩) (meth := k1m1) (c := k1c1) (by decide +kernel) rfl rfl rfl (by decide +kernel)
set_option maxRecDepth 65536 in
theorem w_c1 : (Jvm.Cond.code ({ cls := "com/example/ottawa/ottawa/TagPattern", name := "<init>", desc := "(Lcom/example/ottawa/ottawa/ElementType;)V" } : Jvm.MethodName) prog_51_method_1_code (2 : Nat) (Option.none : Option Jvm.ClassFile.FieldType)).before args0 about1 = true := code_word (m := ⟨2, 0⟩) (meth := k2m0) (c := k2c0) (by decide +kernel) rfl rfl rfl (by decide +kernel)
set_option maxRecDepth 65536 in
theorem w_c2 : (Jvm.Cond.code ({ cls := "java/lang/Object", name := "<init>", desc := "()V" } : Jvm.MethodName) object_method_1_code (1 : Nat) (Option.none : Option Jvm.ClassFile.FieldType)).before args0 about1 = true := code_word (m := ⟨0, 0⟩) (meth := k0m0) (c := k0c0) (by decide +kernel) rfl rfl rfl (by decide +kernel)
set_option maxRecDepth 65536 in
theorem w_c3 : (Jvm.Cond.code ({ cls := "com/example/ottawa/ottawa/KeptName", name := "<init>", desc := "(Ljava/lang/String;II)V" } : Jvm.MethodName) prog_22_method_1_code (4 : Nat) (Option.none : Option Jvm.ClassFile.FieldType)).before args0 about1 = true := code_word (m := ⟨4, 0⟩) (meth := k4m0) (c := k4c0) (by decide +kernel) rfl rfl rfl (by decide +kernel)
set_option maxRecDepth 65536 in
theorem w_c4 : (Jvm.Cond.code ({ cls := "com/example/ottawa/ottawa/Name", name := "<init>", desc := "(Ljava/lang/String;I)V" } : Jvm.MethodName) prog_26_method_1_code (3 : Nat) (Option.none : Option Jvm.ClassFile.FieldType)).before args0 about1 = true := code_word (m := ⟨3, 0⟩) (meth := k3m0) (c := k3c0) (by decide +kernel) rfl rfl rfl (by decide +kernel)
set_option maxRecDepth 65536 in
theorem w_c5 : (Jvm.Cond.code ({ cls := "java/lang/String", name := "length", desc := "()I" } : Jvm.MethodName) jdk_42_method_54_code (1 : Nat) (Option.some Jvm.ClassFile.FieldType.int)).before args0 about1 = true := code_word (m := ⟨11, 1⟩) (meth := k11m1) (c := k11c1) (by decide +kernel) rfl rfl rfl (by decide +kernel)
set_option maxRecDepth 65536 in
theorem w_c6 : (Jvm.Cond.code ({ cls := "java/lang/String", name := "coder", desc := "()B" } : Jvm.MethodName) jdk_42_method_152_code (1 : Nat) (Option.some Jvm.ClassFile.FieldType.byte)).before args0 about1 = true := code_word (m := ⟨11, 6⟩) (meth := k11m6) (c := k11c6) (by decide +kernel) rfl rfl rfl (by decide +kernel)
set_option maxRecDepth 65536 in
theorem w_c7 : (Jvm.Cond.code ({ cls := "java/lang/String", name := "indexOf", desc := "(I)I" } : Jvm.MethodName) jdk_42_method_79_code (2 : Nat) (Option.some Jvm.ClassFile.FieldType.int)).before args0 about1 = true := code_word (m := ⟨11, 3⟩) (meth := k11m3) (c := k11c3) (by decide +kernel) rfl rfl rfl (by decide +kernel)
set_option maxRecDepth 65536 in
theorem w_c8 : (Jvm.Cond.code ({ cls := "java/lang/String", name := "indexOf", desc := "(II)I" } : Jvm.MethodName) jdk_42_method_80_code (3 : Nat) (Option.some Jvm.ClassFile.FieldType.int)).before args0 about1 = true := code_word (m := ⟨11, 4⟩) (meth := k11m4) (c := k11c4) (by decide +kernel) rfl rfl rfl (by decide +kernel)
set_option maxRecDepth 65536 in
theorem w_c9 : (Jvm.Cond.code ({ cls := "java/lang/String", name := "isLatin1", desc := "()Z" } : Jvm.MethodName) jdk_42_method_154_code (1 : Nat) (Option.some Jvm.ClassFile.FieldType.boolean)).before args0 about1 = true := code_word (m := ⟨11, 7⟩) (meth := k11m7) (c := k11c7) (by decide +kernel) rfl rfl rfl (by decide +kernel)
set_option maxRecDepth 65536 in
theorem w_c10 : (Jvm.Cond.code ({ cls := "java/lang/StringLatin1", name := "indexOf", desc := "([BIII)I" } : Jvm.MethodName) jdk_43_method_22_code (4 : Nat) (Option.some Jvm.ClassFile.FieldType.int)).before args0 about1 = true := code_word (m := ⟨12, 4⟩) (meth := k12m4) (c := k12c4) (by decide +kernel) rfl rfl rfl (by decide +kernel)
set_option maxRecDepth 65536 in
theorem w_c11 : (Jvm.Cond.code ({ cls := "java/lang/StringLatin1", name := "canEncode", desc := "(I)Z" } : Jvm.MethodName) jdk_43_method_4_code (1 : Nat) (Option.some Jvm.ClassFile.FieldType.boolean)).before args0 about1 = true := code_word (m := ⟨12, 1⟩) (meth := k12m1) (c := k12c1) (by decide +kernel) rfl rfl rfl (by decide +kernel)
set_option maxRecDepth 65536 in
theorem w_c12 : (Jvm.Cond.code ({ cls := "java/lang/Math", name := "max", desc := "(II)I" } : Jvm.MethodName) jdk_29_method_65_code (2 : Nat) (Option.some Jvm.ClassFile.FieldType.int)).before args0 about1 = true := code_word (m := ⟨13, 1⟩) (meth := k13m1) (c := k13c1) (by decide +kernel) rfl rfl rfl (by decide +kernel)
set_option maxRecDepth 65536 in
theorem w_c13 : (Jvm.Cond.code ({ cls := "java/lang/Math", name := "min", desc := "(II)I" } : Jvm.MethodName) jdk_29_method_69_code (2 : Nat) (Option.some Jvm.ClassFile.FieldType.int)).before args0 about1 = true := code_word (m := ⟨13, 2⟩) (meth := k13m2) (c := k13c2) (by decide +kernel) rfl rfl rfl (by decide +kernel)
set_option maxRecDepth 65536 in
theorem w_c14 : (Jvm.Cond.code ({ cls := "java/lang/StringLatin1", name := "indexOfChar", desc := "([BIII)I" } : Jvm.MethodName) jdk_43_method_23_code (6 : Nat) (Option.some Jvm.ClassFile.FieldType.int)).before args0 about1 = true := code_word (m := ⟨12, 5⟩) (meth := k12m5) (c := k12c5) (by decide +kernel) rfl rfl rfl (by decide +kernel)
set_option maxRecDepth 65536 in
theorem w_c15 : (Jvm.Cond.code ({ cls := "java/lang/String", name := "equals", desc := "(Ljava/lang/Object;)Z" } : Jvm.MethodName) jdk_42_method_66_code (3 : Nat) (Option.some Jvm.ClassFile.FieldType.boolean)).before args0 about1 = true := code_word (m := ⟨11, 2⟩) (meth := k11m2) (c := k11c2) (by decide +kernel) rfl rfl rfl (by decide +kernel)
set_option maxRecDepth 65536 in
theorem w_c16 : (Jvm.Cond.code ({ cls := "java/lang/StringLatin1", name := "equals", desc := "([B[B)Z" } : Jvm.MethodName) jdk_43_method_13_code (3 : Nat) (Option.some Jvm.ClassFile.FieldType.boolean)).before args0 about1 = true := code_word (m := ⟨12, 3⟩) (meth := k12m3) (c := k12c3) (by decide +kernel) rfl rfl rfl (by decide +kernel)
set_option maxRecDepth 65536 in
theorem w_c17 : (Jvm.Cond.code ({ cls := "java/lang/String", name := "toCharArray", desc := "()[C" } : Jvm.MethodName) jdk_42_method_129_code (1 : Nat) (Option.some (Jvm.ClassFile.FieldType.array Jvm.ClassFile.FieldType.char))).before args0 about1 = true := code_word (m := ⟨11, 5⟩) (meth := k11m5) (c := k11c5) (by decide +kernel) rfl rfl rfl (by decide +kernel)
set_option maxRecDepth 65536 in
theorem w_c18 : (Jvm.Cond.code ({ cls := "java/lang/StringLatin1", name := "toChars", desc := "([B)[C" } : Jvm.MethodName) jdk_43_method_9_code (2 : Nat) (Option.some (Jvm.ClassFile.FieldType.array Jvm.ClassFile.FieldType.char))).before args0 about1 = true := code_word (m := ⟨12, 2⟩) (meth := k12m2) (c := k12c2) (by decide +kernel) rfl rfl rfl (by decide +kernel)
set_option maxRecDepth 65536 in
theorem w_c19 : (Jvm.Cond.code ({ cls := "java/lang/StringLatin1", name := "inflate", desc := "([BI[CII)V" } : Jvm.MethodName) jdk_43_method_49_code (6 : Nat) (Option.none : Option Jvm.ClassFile.FieldType)).before args0 about1 = true := code_word (m := ⟨12, 6⟩) (meth := k12m6) (c := k12c6) (by decide +kernel) rfl rfl rfl (by decide +kernel)
set_option maxRecDepth 65536 in
theorem w_c20 : (Jvm.Cond.code ({ cls := "com/example/ottawa/ottawa/Name", name := "prefix", desc := "()Ljava/lang/String;" } : Jvm.MethodName) prog_26_method_9_code (2 : Nat) (Option.some (Jvm.ClassFile.FieldType.object "java/lang/String"))).before args0 about1 = true := code_word (m := ⟨3, 1⟩) (meth := k3m1) (c := k3c1) (by decide +kernel) rfl rfl rfl (by decide +kernel)
set_option maxRecDepth 65536 in
theorem w_c21 : (Jvm.Cond.code ({ cls := "com/example/ottawa/ottawa/Name", name := "localPart", desc := "()Ljava/lang/String;" } : Jvm.MethodName) prog_26_method_10_code (1 : Nat) (Option.some (Jvm.ClassFile.FieldType.object "java/lang/String"))).before args0 about1 = true := code_word (m := ⟨3, 2⟩) (meth := k3m2) (c := k3c2) (by decide +kernel) rfl rfl rfl (by decide +kernel)
set_option maxRecDepth 65536 in
theorem w_c22 : (Jvm.Cond.code ({ cls := "com/example/ottawa/ottawa/TagPattern", name := "follow", desc := "(ZLcom/example/ottawa/ottawa/Name;)V" } : Jvm.MethodName) prog_51_method_6_code (5 : Nat) (Option.none : Option Jvm.ClassFile.FieldType)).before args0 about1 = true := code_word (m := ⟨2, 2⟩) (meth := k2m2) (c := k2c2) (by decide +kernel) rfl rfl rfl (by decide +kernel)
set_option maxRecDepth 65536 in
theorem w_c23 : (Jvm.Cond.code ({ cls := "com/example/ottawa/ottawa/TagPattern", name := "following", desc := "(Z)Lcom/example/ottawa/ottawa/KeptName;" } : Jvm.MethodName) prog_51_method_5_code (2 : Nat) (Option.some (Jvm.ClassFile.FieldType.object "com/example/ottawa/ottawa/KeptName"))).before args0 about1 = true := code_word (m := ⟨2, 1⟩) (meth := k2m1) (c := k2c1) (by decide +kernel) rfl rfl rfl (by decide +kernel)
def codes1 : List Jvm.Cond := [Jvm.Cond.code x code maxLocals ret, Jvm.Cond.code ({ cls := "com/example/ottawa/ottawa/TagPattern", name := "<init>", desc := "(Lcom/example/ottawa/ottawa/ElementType;)V" } : Jvm.MethodName) prog_51_method_1_code (2 : Nat) (Option.none : Option Jvm.ClassFile.FieldType), Jvm.Cond.code ({ cls := "java/lang/Object", name := "<init>", desc := "()V" } : Jvm.MethodName) object_method_1_code (1 : Nat) (Option.none : Option Jvm.ClassFile.FieldType), Jvm.Cond.code ({ cls := "com/example/ottawa/ottawa/KeptName", name := "<init>", desc := "(Ljava/lang/String;II)V" } : Jvm.MethodName) prog_22_method_1_code (4 : Nat) (Option.none : Option Jvm.ClassFile.FieldType), Jvm.Cond.code ({ cls := "com/example/ottawa/ottawa/Name", name := "<init>", desc := "(Ljava/lang/String;I)V" } : Jvm.MethodName) prog_26_method_1_code (3 : Nat) (Option.none : Option Jvm.ClassFile.FieldType), Jvm.Cond.code ({ cls := "java/lang/String", name := "length", desc := "()I" } : Jvm.MethodName) jdk_42_method_54_code (1 : Nat) (Option.some Jvm.ClassFile.FieldType.int), Jvm.Cond.code ({ cls := "java/lang/String", name := "coder", desc := "()B" } : Jvm.MethodName) jdk_42_method_152_code (1 : Nat) (Option.some Jvm.ClassFile.FieldType.byte), Jvm.Cond.code ({ cls := "java/lang/String", name := "indexOf", desc := "(I)I" } : Jvm.MethodName) jdk_42_method_79_code (2 : Nat) (Option.some Jvm.ClassFile.FieldType.int), Jvm.Cond.code ({ cls := "java/lang/String", name := "indexOf", desc := "(II)I" } : Jvm.MethodName) jdk_42_method_80_code (3 : Nat) (Option.some Jvm.ClassFile.FieldType.int), Jvm.Cond.code ({ cls := "java/lang/String", name := "isLatin1", desc := "()Z" } : Jvm.MethodName) jdk_42_method_154_code (1 : Nat) (Option.some Jvm.ClassFile.FieldType.boolean), Jvm.Cond.code ({ cls := "java/lang/StringLatin1", name := "indexOf", desc := "([BIII)I" } : Jvm.MethodName) jdk_43_method_22_code (4 : Nat) (Option.some Jvm.ClassFile.FieldType.int), Jvm.Cond.code ({ cls := "java/lang/StringLatin1", name := "canEncode", desc := "(I)Z" } : Jvm.MethodName) jdk_43_method_4_code (1 : Nat) (Option.some Jvm.ClassFile.FieldType.boolean), Jvm.Cond.code ({ cls := "java/lang/Math", name := "max", desc := "(II)I" } : Jvm.MethodName) jdk_29_method_65_code (2 : Nat) (Option.some Jvm.ClassFile.FieldType.int), Jvm.Cond.code ({ cls := "java/lang/Math", name := "min", desc := "(II)I" } : Jvm.MethodName) jdk_29_method_69_code (2 : Nat) (Option.some Jvm.ClassFile.FieldType.int), Jvm.Cond.code ({ cls := "java/lang/StringLatin1", name := "indexOfChar", desc := "([BIII)I" } : Jvm.MethodName) jdk_43_method_23_code (6 : Nat) (Option.some Jvm.ClassFile.FieldType.int), Jvm.Cond.code ({ cls := "java/lang/String", name := "equals", desc := "(Ljava/lang/Object;)Z" } : Jvm.MethodName) jdk_42_method_66_code (3 : Nat) (Option.some Jvm.ClassFile.FieldType.boolean), Jvm.Cond.code ({ cls := "java/lang/StringLatin1", name := "equals", desc := "([B[B)Z" } : Jvm.MethodName) jdk_43_method_13_code (3 : Nat) (Option.some Jvm.ClassFile.FieldType.boolean), Jvm.Cond.code ({ cls := "java/lang/String", name := "toCharArray", desc := "()[C" } : Jvm.MethodName) jdk_42_method_129_code (1 : Nat) (Option.some (Jvm.ClassFile.FieldType.array Jvm.ClassFile.FieldType.char)), Jvm.Cond.code ({ cls := "java/lang/StringLatin1", name := "toChars", desc := "([B)[C" } : Jvm.MethodName) jdk_43_method_9_code (2 : Nat) (Option.some (Jvm.ClassFile.FieldType.array Jvm.ClassFile.FieldType.char)), Jvm.Cond.code ({ cls := "java/lang/StringLatin1", name := "inflate", desc := "([BI[CII)V" } : Jvm.MethodName) jdk_43_method_49_code (6 : Nat) (Option.none : Option Jvm.ClassFile.FieldType), Jvm.Cond.code ({ cls := "com/example/ottawa/ottawa/Name", name := "prefix", desc := "()Ljava/lang/String;" } : Jvm.MethodName) prog_26_method_9_code (2 : Nat) (Option.some (Jvm.ClassFile.FieldType.object "java/lang/String")), Jvm.Cond.code ({ cls := "com/example/ottawa/ottawa/Name", name := "localPart", desc := "()Ljava/lang/String;" } : Jvm.MethodName) prog_26_method_10_code (1 : Nat) (Option.some (Jvm.ClassFile.FieldType.object "java/lang/String")), Jvm.Cond.code ({ cls := "com/example/ottawa/ottawa/TagPattern", name := "follow", desc := "(ZLcom/example/ottawa/ottawa/Name;)V" } : Jvm.MethodName) prog_51_method_6_code (5 : Nat) (Option.none : Option Jvm.ClassFile.FieldType), Jvm.Cond.code ({ cls := "com/example/ottawa/ottawa/TagPattern", name := "following", desc := "(Z)Lcom/example/ottawa/ottawa/KeptName;" } : Jvm.MethodName) prog_51_method_5_code (2 : Nat) (Option.some (Jvm.ClassFile.FieldType.object "com/example/ottawa/ottawa/KeptName"))]
set_option maxRecDepth 65536 in
theorem codes_eq : words1.filter isCode = codes1 := rfl
theorem w_codes : ∀ c ∈ words1.filter isCode, c.before args0 about1 = true := by
  rw [codes_eq]
  intro c hc
  simp only [codes1, List.mem_cons, List.not_mem_nil, or_false] at hc
  rcases hc with rfl | rfl | rfl | rfl | rfl | rfl | rfl | rfl | rfl | rfl | rfl | rfl | rfl | rfl | rfl | rfl | rfl | rfl | rfl | rfl | rfl | rfl | rfl | rfl
  · exact w_c0
  · exact w_c1
  · exact w_c2
  · exact w_c3
  · exact w_c4
  · exact w_c5
  · exact w_c6
  · exact w_c7
  · exact w_c8
  · exact w_c9
  · exact w_c10
  · exact w_c11
  · exact w_c12
  · exact w_c13
  · exact w_c14
  · exact w_c15
  · exact w_c16
  · exact w_c17
  · exact w_c18
  · exact w_c19
  · exact w_c20
  · exact w_c21
  · exact w_c22
  · exact w_c23
set_option maxRecDepth 65536 in
theorem w_t1 : (words1.take 24).all (fun c => isCode c || c.before args0 about1) = true := by decide +kernel
set_option maxRecDepth 65536 in
theorem w_t2 : ((words1.drop 24).take 24).all (fun c => isCode c || c.before args0 about1) = true := by decide +kernel
set_option maxRecDepth 65536 in
theorem w_t3 : (((words1.drop 24).drop 24).take 24).all (fun c => isCode c || c.before args0 about1) = true := by decide +kernel
set_option maxRecDepth 65536 in
theorem w_t4 : ((((words1.drop 24).drop 24).drop 24).take 24).all (fun c => isCode c || c.before args0 about1) = true := by decide +kernel
set_option maxRecDepth 65536 in
theorem w_t5 : (((((words1.drop 24).drop 24).drop 24).drop 24).take 24).all (fun c => isCode c || c.before args0 about1) = true := by decide +kernel
set_option maxRecDepth 65536 in
theorem w_t6 : ((((((words1.drop 24).drop 24).drop 24).drop 24).drop 24).take 24).all (fun c => isCode c || c.before args0 about1) = true := by decide +kernel
set_option maxRecDepth 65536 in
theorem w_t7 : (((((((words1.drop 24).drop 24).drop 24).drop 24).drop 24).drop 24).take 24).all (fun c => isCode c || c.before args0 about1) = true := by decide +kernel
set_option maxRecDepth 65536 in
theorem w_t8 : (((((((words1.drop 24).drop 24).drop 24).drop 24).drop 24).drop 24).drop 24).all (fun c => isCode c || c.before args0 about1) = true := by decide +kernel
theorem w_tables : (allAtoms (Jvm.Cond.code x code maxLocals ret :: tables_1)).before args0 about1 = true := by
  rw [allAtoms_all]
  show words1.all (fun c => c.before args0 about1) = true
  refine all_split ?_ w_codes
  rw [← List.take_append_drop 24 words1, List.all_append, w_t1, ← List.take_append_drop 24 (words1.drop 24), List.all_append, w_t2, ← List.take_append_drop 24 ((words1.drop 24).drop 24), List.all_append, w_t3, ← List.take_append_drop 24 (((words1.drop 24).drop 24).drop 24), List.all_append, w_t4, ← List.take_append_drop 24 ((((words1.drop 24).drop 24).drop 24).drop 24), List.all_append, w_t5, ← List.take_append_drop 24 (((((words1.drop 24).drop 24).drop 24).drop 24).drop 24), List.all_append, w_t6, ← List.take_append_drop 24 ((((((words1.drop 24).drop 24).drop 24).drop 24).drop 24).drop 24), List.all_append, w_t7, w_t8]
  rfl
set_option maxRecDepth 65536 in
theorem w_rest : rest_1_c.before args0 about1 = true := by decide +kernel
set_option maxRecDepth 65536 in
theorem w_case : (Jvm.Cond.and given_1 narrow_1).before args0 about1 = true := by decide +kernel
set_option maxRecDepth 65536 in
theorem w_consts : constsHeld consts_1 about1 := Jvm.Lit.constsHeldB_iff.mp (by decide +kernel)
theorem w_applies : (headSpec (Jvm.Cond.code x code maxLocals ret :: tables_1) room_1).applies x e0.platform about1 = true :=
  (Spec.applies_iff w_frames).mpr ⟨w_running, w_runnable, w_alone, w_named, w_hears, w_ripe, w_room, w_tables⟩
theorem atStart : AtStart classFile x code maxLocals ret World_1 tables_1 room_1 Calls_1 rest_1 Pre_1 launch0 p0 e0 about1 theMethod args0 below0 :=
  ⟨lists_1, trivial, launch0.admits_env _ _ _, launch0.least_env, fairChoices_fair.cas, fairChoices_fair.clock, w_frames, w_args, w_heap, w_applies, ⟨w_consts, trivial⟩, w_rest, w_case⟩
end start1
theorem witness_1 : WitnessClaimed_1 := ⟨start1.p0, start1.e0, start1.about1, start1.theMethod, start1.args0, start1.below0, start1.atStart⟩
end Jvm.Pilot.@@N@@
