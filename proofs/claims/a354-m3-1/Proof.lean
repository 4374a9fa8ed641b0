import JvmDerived
import JvmDerived.Pilot.@@N@@Statement
import JvmDerived.Pilot.@@N@@Code
set_option linter.unusedVariables false
set_option linter.unusedSimpArgs false
namespace Jvm.RoadKit
open Sem ClassFile Op Lib Jvm.Stand Jvm.Free Jvm.LawKit
section New
variable {p : Program} {l : Launch} {e : Env} {R : Room} {s : State} {m : MethodId} {args : Array Value} {below : List Frame} {meth : Method} {c : Code} {T : State} {locs : List Loc} {cells slots : Nat}
theorem retI (X : Stand p l e R s m args below meth c T locs cells slots) (hx : p.tables.exec = Jvm.exec) {pc : Nat} {Ls : Array Slot} {z : Int32} {rest : List Value} (hret : meth.sig.returnType = some .int) (hd : decode c.code pc = .ok (.ireturn, 1)) {fs : List Frame}
    (hl : ∀ (f : JFrame) (acts : List Action), f.method = m → f.locked = none → f.entered = [] → (doReturn e (T.setTop f) acts (some (.int z))).1 = T.setFrames fs) : Steps p.tables e below (T.setTop (mkF m pc Ls (.int z :: rest))) (T.setFrames fs) := by
  have hm' : T.vm.method? m = some meth := X.method'
  have hn : narrow .int (.int z) = .int z := rfl
  show Steps p.tables e below (T.setTop { method := m, pc := pc, locals := Ls, stack := _ :: rest, locked := none }) _
  jvm_step X.here [X.here.top, hx, hd, hm', hret, hn]
  first | (intro acts; rw [hl _ acts rfl rfl rfl]) | rw [hl _ _ rfl rfl rfl]
  exact Steps.refl _
end New
/-- the run from S ends, with Post of its end -/
def Go (tb : Tables) (e : Env) (below : List Frame) (Post : Outcome → State → Prop) (S : State) : Prop := ∃ s₂ o, Steps tb e below S s₂ ∧ s₂.status = .running ∧ Ended s₂ below o ∧ Post o s₂
theorem Go.step {tb : Tables} {e : Env} {below : List Frame} {Post : Outcome → State → Prop} {S S' : State} (h : ∀ t, Steps tb e below S' t → Steps tb e below S t) (g : Go tb e below Post S') : Go tb e below Post S := by
  obtain ⟨s₂, o, a, b⟩ := g
  exact ⟨s₂, o, h _ a, b⟩
theorem at_of {c : Cell} {vs : List Value} {d v : Value} {j : Int32} (H : Has c vs d) (hin : ¬ (j < 0 ∨ c.slots.size ≤ j.toNatClampNeg)) (e : vs.getD j.toNatClampNeg d = v) : c.slots[j.toNatClampNeg]? = some v := by
  have q : j.toNatClampNeg < c.slots.size := Nat.lt_of_not_le (fun h => hin (Or.inr h))
  rw [H _ q, e]
end Jvm.RoadKit
namespace Jvm.Pilot.@@N@@
open Jvm Jvm.ClassFile Sem Op Lib Jvm.Free Jvm.Stand Jvm.LawKit Jvm.RoadKit Bundle Jvm.Pilot.@@N@@.Jvm.D
abbrev own_W (Z : State) (a0 : Array Value) : Prop := ∀ d ∈ tables_1, d.before a0 Z = true
section Words
variable {Z : State} {a0 : Array Value}
theorem w0 (hw : own_W Z a0) : (Jvm.Cond.constant "com/example/kenning/kenning/PunycodeEncodePinLaw" (8 : Nat) (2147483647 : Int32)).before a0 Z = true := hw _ (List.mem_of_getElem? (i := 0) rfl)
theorem w1 (hw : own_W Z a0) : (Jvm.Cond.arrayClass Jvm.ClassFile.FieldType.int).before a0 Z = true := hw _ (List.mem_of_getElem? (i := 1) rfl)
theorem w2 (hw : own_W Z a0) : (Jvm.Cond.methodLink "com/example/kenning/kenning/PunycodeEncodePinLaw" (9 : Nat) ({ cls := "com/example/kenning/kenning/PunycodeEncodePinLaw", name := "cp", desc := "(I)I" } : Jvm.MethodName)).before a0 Z = true := hw _ (List.mem_of_getElem? (i := 2) rfl)
theorem w3 (hw : own_W Z a0) : (Jvm.Cond.static ({ cls := "com/example/kenning/kenning/PunycodeEncodePinLaw", name := "cp", desc := "(I)I" } : Jvm.MethodName)).before a0 Z = true := hw _ (List.mem_of_getElem? (i := 3) rfl)
theorem w4 (hw : own_W Z a0) : (Jvm.Cond.initialized "com/example/kenning/kenning/PunycodeEncodePinLaw").before a0 Z = true := hw _ (List.mem_of_getElem? (i := 4) rfl)
theorem w5 (hw : own_W Z a0) : (Jvm.Cond.code ({ cls := "com/example/kenning/kenning/PunycodeEncodePinLaw", name := "cp", desc := "(I)I" } : Jvm.MethodName) method_2_code (2 : Nat) (Option.some Jvm.ClassFile.FieldType.int)).before a0 Z = true := hw _ (List.mem_of_getElem? (i := 5) rfl)
theorem w6 (hw : own_W Z a0) : (Jvm.Cond.constant "com/example/kenning/kenning/PunycodeEncodePinLaw" (7 : Nat) (1113984 : Int32)).before a0 Z = true := hw _ (List.mem_of_getElem? (i := 6) rfl)
theorem w7 (hw : own_W Z a0) : (Jvm.Cond.methodLink "com/example/kenning/kenning/PunycodeEncodePinLaw" (15 : Nat) ({ cls := "com/example/kenning/kenning/Punycode", name := "encode", desc := "([I)Ljava/lang/String;" } : Jvm.MethodName)).before a0 Z = true := hw _ (List.mem_of_getElem? (i := 7) rfl)
theorem w8 (hw : own_W Z a0) : (Jvm.Cond.static ({ cls := "com/example/kenning/kenning/Punycode", name := "encode", desc := "([I)Ljava/lang/String;" } : Jvm.MethodName)).before a0 Z = true := hw _ (List.mem_of_getElem? (i := 8) rfl)
theorem w9 (hw : own_W Z a0) : (Jvm.Cond.initialized "com/example/kenning/kenning/Punycode").before a0 Z = true := hw _ (List.mem_of_getElem? (i := 9) rfl)
theorem w10 (hw : own_W Z a0) : (Jvm.Cond.code ({ cls := "com/example/kenning/kenning/Punycode", name := "encode", desc := "([I)Ljava/lang/String;" } : Jvm.MethodName) prog_12_method_3_code (17 : Nat) (Option.some (Jvm.ClassFile.FieldType.object "java/lang/String"))).before a0 Z = true := hw _ (List.mem_of_getElem? (i := 10) rfl)
theorem w11 (hw : own_W Z a0) : (Jvm.Cond.classLink "com/example/kenning/kenning/Punycode" (62 : Nat) "java/lang/StringBuilder").before a0 Z = true := hw _ (List.mem_of_getElem? (i := 11) rfl)
theorem w12 (hw : own_W Z a0) : (Jvm.Cond.instantiable "java/lang/StringBuilder" (4 : Nat)).before a0 Z = true := hw _ (List.mem_of_getElem? (i := 12) rfl)
theorem w13 (hw : own_W Z a0) : (Jvm.Cond.initialized "java/lang/StringBuilder").before a0 Z = true := hw _ (List.mem_of_getElem? (i := 13) rfl)
theorem w14 (hw : own_W Z a0) : (Jvm.Cond.methodLink "com/example/kenning/kenning/Punycode" (64 : Nat) ({ cls := "java/lang/StringBuilder", name := "<init>", desc := "()V" } : Jvm.MethodName)).before a0 Z = true := hw _ (List.mem_of_getElem? (i := 14) rfl)
theorem w15 (hw : own_W Z a0) : (Jvm.Cond.instanceMethod ({ cls := "java/lang/StringBuilder", name := "<init>", desc := "()V" } : Jvm.MethodName)).before a0 Z = true := hw _ (List.mem_of_getElem? (i := 15) rfl)
theorem w16 (hw : own_W Z a0) : (Jvm.Cond.code ({ cls := "java/lang/StringBuilder", name := "<init>", desc := "()V" } : Jvm.MethodName) jdk_67_method_1_code (1 : Nat) (Option.none : Option Jvm.ClassFile.FieldType)).before a0 Z = true := hw _ (List.mem_of_getElem? (i := 16) rfl)
theorem w17 (hw : own_W Z a0) : (Jvm.Cond.methodLink "java/lang/StringBuilder" (1 : Nat) ({ cls := "java/lang/AbstractStringBuilder", name := "<init>", desc := "(I)V" } : Jvm.MethodName)).before a0 Z = true := hw _ (List.mem_of_getElem? (i := 17) rfl)
theorem w18 (hw : own_W Z a0) : (Jvm.Cond.instanceMethod ({ cls := "java/lang/AbstractStringBuilder", name := "<init>", desc := "(I)V" } : Jvm.MethodName)).before a0 Z = true := hw _ (List.mem_of_getElem? (i := 18) rfl)
theorem w21 (hw : own_W Z a0) : (Jvm.Cond.initialized "java/lang/AbstractStringBuilder").before a0 Z = true := hw _ (List.mem_of_getElem? (i := 21) rfl)
theorem w22 (hw : own_W Z a0) : (Jvm.Cond.code ({ cls := "java/lang/AbstractStringBuilder", name := "<init>", desc := "(I)V" } : Jvm.MethodName) jdk_68_method_2_code (2 : Nat) (Option.none : Option Jvm.ClassFile.FieldType)).before a0 Z = true := hw _ (List.mem_of_getElem? (i := 22) rfl)
theorem w23 (hw : own_W Z a0) : (Jvm.Cond.methodLink "java/lang/AbstractStringBuilder" (3 : Nat) ({ cls := "java/lang/Object", name := "<init>", desc := "()V" } : Jvm.MethodName)).before a0 Z = true := hw _ (List.mem_of_getElem? (i := 23) rfl)
theorem w24 (hw : own_W Z a0) : (Jvm.Cond.instanceMethod ({ cls := "java/lang/Object", name := "<init>", desc := "()V" } : Jvm.MethodName)).before a0 Z = true := hw _ (List.mem_of_getElem? (i := 24) rfl)
theorem w25 (hw : own_W Z a0) : (Jvm.Cond.code ({ cls := "java/lang/Object", name := "<init>", desc := "()V" } : Jvm.MethodName) object_method_1_code (1 : Nat) (Option.none : Option Jvm.ClassFile.FieldType)).before a0 Z = true := hw _ (List.mem_of_getElem? (i := 25) rfl)
theorem w26 (hw : own_W Z a0) : (Jvm.Cond.fieldLink "java/lang/AbstractStringBuilder" (18 : Nat) "java/lang/String" "COMPACT_STRINGS" "Z").before a0 Z = true := hw _ (List.mem_of_getElem? (i := 26) rfl)
theorem w27 (hw : own_W Z a0) : (Jvm.Cond.initialized "java/lang/String").before a0 Z = true := hw _ (List.mem_of_getElem? (i := 27) rfl)
theorem w28 (hw : own_W Z a0) : (Jvm.Cond.arrayClass Jvm.ClassFile.FieldType.byte).before a0 Z = true := hw _ (List.mem_of_getElem? (i := 28) rfl)
theorem w29 (hw : own_W Z a0) : (Jvm.Cond.fieldLink "java/lang/AbstractStringBuilder" (15 : Nat) "java/lang/AbstractStringBuilder" "value" "[B").before a0 Z = true := hw _ (List.mem_of_getElem? (i := 29) rfl)
theorem w30 (hw : own_W Z a0) : (Jvm.Cond.lays "java/lang/StringBuilder" "java/lang/AbstractStringBuilder" "value" "[B").before a0 Z = true := hw _ (List.mem_of_getElem? (i := 30) rfl)
theorem w31 (hw : own_W Z a0) : (Jvm.Cond.fieldLink "java/lang/AbstractStringBuilder" (22 : Nat) "java/lang/AbstractStringBuilder" "coder" "B").before a0 Z = true := hw _ (List.mem_of_getElem? (i := 31) rfl)
theorem w32 (hw : own_W Z a0) : (Jvm.Cond.lays "java/lang/StringBuilder" "java/lang/AbstractStringBuilder" "coder" "B").before a0 Z = true := hw _ (List.mem_of_getElem? (i := 32) rfl)
theorem w33 (hw : own_W Z a0) : (Jvm.Cond.methodLink "com/example/kenning/kenning/Punycode" (69 : Nat) ({ cls := "java/lang/StringBuilder", name := "length", desc := "()I" } : Jvm.MethodName)).before a0 Z = true := hw _ (List.mem_of_getElem? (i := 33) rfl)
theorem w34 (hw : own_W Z a0) : (Jvm.Cond.declares ({ cls := "java/lang/StringBuilder", name := "length", desc := "()I" } : Jvm.MethodName)).before a0 Z = true := hw _ (List.mem_of_getElem? (i := 34) rfl)
theorem w35 (hw : own_W Z a0) : (Jvm.Cond.instanceMethod ({ cls := "java/lang/StringBuilder", name := "length", desc := "()I" } : Jvm.MethodName)).before a0 Z = true := hw _ (List.mem_of_getElem? (i := 35) rfl)
theorem w36 (hw : own_W Z a0) : (Jvm.Cond.selects "java/lang/StringBuilder" ({ cls := "java/lang/StringBuilder", name := "length", desc := "()I" } : Jvm.MethodName) ({ cls := "java/lang/StringBuilder", name := "length", desc := "()I" } : Jvm.MethodName)).before a0 Z = true := hw _ (List.mem_of_getElem? (i := 36) rfl)
theorem w37 (hw : own_W Z a0) : (Jvm.Cond.code ({ cls := "java/lang/StringBuilder", name := "length", desc := "()I" } : Jvm.MethodName) jdk_67_method_93_code (1 : Nat) (Option.some Jvm.ClassFile.FieldType.int)).before a0 Z = true := hw _ (List.mem_of_getElem? (i := 37) rfl)
theorem w38 (hw : own_W Z a0) : (Jvm.Cond.methodLink "java/lang/StringBuilder" (343 : Nat) ({ cls := "java/lang/AbstractStringBuilder", name := "length", desc := "()I" } : Jvm.MethodName)).before a0 Z = true := hw _ (List.mem_of_getElem? (i := 38) rfl)
theorem w39 (hw : own_W Z a0) : (Jvm.Cond.instanceMethod ({ cls := "java/lang/AbstractStringBuilder", name := "length", desc := "()I" } : Jvm.MethodName)).before a0 Z = true := hw _ (List.mem_of_getElem? (i := 39) rfl)
theorem w40 (hw : own_W Z a0) : (Jvm.Cond.superclass "java/lang/StringBuilder" "java/lang/AbstractStringBuilder").before a0 Z = true := hw _ (List.mem_of_getElem? (i := 40) rfl)
theorem w41 (hw : own_W Z a0) : (Jvm.Cond.declares ({ cls := "java/lang/AbstractStringBuilder", name := "length", desc := "()I" } : Jvm.MethodName)).before a0 Z = true := hw _ (List.mem_of_getElem? (i := 41) rfl)
theorem w42 (hw : own_W Z a0) : (Jvm.Cond.code ({ cls := "java/lang/AbstractStringBuilder", name := "length", desc := "()I" } : Jvm.MethodName) jdk_68_method_6_code (1 : Nat) (Option.some Jvm.ClassFile.FieldType.int)).before a0 Z = true := hw _ (List.mem_of_getElem? (i := 42) rfl)
theorem w43 (hw : own_W Z a0) : (Jvm.Cond.fieldLink "java/lang/AbstractStringBuilder" (79 : Nat) "java/lang/AbstractStringBuilder" "count" "I").before a0 Z = true := hw _ (List.mem_of_getElem? (i := 43) rfl)
theorem w44 (hw : own_W Z a0) : (Jvm.Cond.lays "java/lang/StringBuilder" "java/lang/AbstractStringBuilder" "count" "I").before a0 Z = true := hw _ (List.mem_of_getElem? (i := 44) rfl)
theorem w45 (hw : own_W Z a0) : (Jvm.Cond.methodLink "com/example/kenning/kenning/Punycode" (78 : Nat) ({ cls := "java/lang/StringBuilder", name := "toString", desc := "()Ljava/lang/String;" } : Jvm.MethodName)).before a0 Z = true := hw _ (List.mem_of_getElem? (i := 45) rfl)
theorem w46 (hw : own_W Z a0) : (Jvm.Cond.declares ({ cls := "java/lang/StringBuilder", name := "toString", desc := "()Ljava/lang/String;" } : Jvm.MethodName)).before a0 Z = true := hw _ (List.mem_of_getElem? (i := 46) rfl)
theorem w47 (hw : own_W Z a0) : (Jvm.Cond.instanceMethod ({ cls := "java/lang/StringBuilder", name := "toString", desc := "()Ljava/lang/String;" } : Jvm.MethodName)).before a0 Z = true := hw _ (List.mem_of_getElem? (i := 47) rfl)
theorem w48 (hw : own_W Z a0) : (Jvm.Cond.selects "java/lang/StringBuilder" ({ cls := "java/lang/StringBuilder", name := "toString", desc := "()Ljava/lang/String;" } : Jvm.MethodName) ({ cls := "java/lang/StringBuilder", name := "toString", desc := "()Ljava/lang/String;" } : Jvm.MethodName)).before a0 Z = true := hw _ (List.mem_of_getElem? (i := 48) rfl)
theorem w49 (hw : own_W Z a0) : (Jvm.Cond.code ({ cls := "java/lang/StringBuilder", name := "toString", desc := "()Ljava/lang/String;" } : Jvm.MethodName) jdk_67_method_42_code (1 : Nat) (Option.some (Jvm.ClassFile.FieldType.object "java/lang/String"))).before a0 Z = true := hw _ (List.mem_of_getElem? (i := 49) rfl)
theorem w50 (hw : own_W Z a0) : (Jvm.Cond.classLink "java/lang/StringBuilder" (18 : Nat) "java/lang/String").before a0 Z = true := hw _ (List.mem_of_getElem? (i := 50) rfl)
theorem w51 (hw : own_W Z a0) : (Jvm.Cond.instantiable "java/lang/String" (4 : Nat)).before a0 Z = true := hw _ (List.mem_of_getElem? (i := 51) rfl)
theorem w52 (hw : own_W Z a0) : (Jvm.Cond.methodLink "java/lang/StringBuilder" (137 : Nat) ({ cls := "java/lang/String", name := "<init>", desc := "(Ljava/lang/StringBuilder;)V" } : Jvm.MethodName)).before a0 Z = true := hw _ (List.mem_of_getElem? (i := 52) rfl)
theorem w53 (hw : own_W Z a0) : (Jvm.Cond.instanceMethod ({ cls := "java/lang/String", name := "<init>", desc := "(Ljava/lang/StringBuilder;)V" } : Jvm.MethodName)).before a0 Z = true := hw _ (List.mem_of_getElem? (i := 53) rfl)
theorem w55 (hw : own_W Z a0) : (Jvm.Cond.code ({ cls := "java/lang/String", name := "<init>", desc := "(Ljava/lang/StringBuilder;)V" } : Jvm.MethodName) jdk_42_method_53_code (2 : Nat) (Option.none : Option Jvm.ClassFile.FieldType)).before a0 Z = true := hw _ (List.mem_of_getElem? (i := 55) rfl)
theorem w56 (hw : own_W Z a0) : (Jvm.Cond.methodLink "java/lang/String" (489 : Nat) ({ cls := "java/lang/String", name := "<init>", desc := "(Ljava/lang/AbstractStringBuilder;Ljava/lang/Void;)V" } : Jvm.MethodName)).before a0 Z = true := hw _ (List.mem_of_getElem? (i := 56) rfl)
theorem w57 (hw : own_W Z a0) : (Jvm.Cond.instanceMethod ({ cls := "java/lang/String", name := "<init>", desc := "(Ljava/lang/AbstractStringBuilder;Ljava/lang/Void;)V" } : Jvm.MethodName)).before a0 Z = true := hw _ (List.mem_of_getElem? (i := 57) rfl)
theorem w58 (hw : own_W Z a0) : (Jvm.Cond.code ({ cls := "java/lang/String", name := "<init>", desc := "(Ljava/lang/AbstractStringBuilder;Ljava/lang/Void;)V" } : Jvm.MethodName) jdk_42_method_150_code (5 : Nat) (Option.none : Option Jvm.ClassFile.FieldType)).before a0 Z = true := hw _ (List.mem_of_getElem? (i := 58) rfl)
theorem w59 (hw : own_W Z a0) : (Jvm.Cond.methodLink "java/lang/String" (1 : Nat) ({ cls := "java/lang/Object", name := "<init>", desc := "()V" } : Jvm.MethodName)).before a0 Z = true := hw _ (List.mem_of_getElem? (i := 59) rfl)
theorem w60 (hw : own_W Z a0) : (Jvm.Cond.methodLink "java/lang/String" (552 : Nat) ({ cls := "java/lang/AbstractStringBuilder", name := "getValue", desc := "()[B" } : Jvm.MethodName)).before a0 Z = true := hw _ (List.mem_of_getElem? (i := 60) rfl)
theorem w61 (hw : own_W Z a0) : (Jvm.Cond.declares ({ cls := "java/lang/AbstractStringBuilder", name := "getValue", desc := "()[B" } : Jvm.MethodName)).before a0 Z = true := hw _ (List.mem_of_getElem? (i := 61) rfl)
theorem w62 (hw : own_W Z a0) : (Jvm.Cond.instanceMethod ({ cls := "java/lang/AbstractStringBuilder", name := "getValue", desc := "()[B" } : Jvm.MethodName)).before a0 Z = true := hw _ (List.mem_of_getElem? (i := 62) rfl)
theorem w63 (hw : own_W Z a0) : (Jvm.Cond.selects "java/lang/StringBuilder" ({ cls := "java/lang/AbstractStringBuilder", name := "getValue", desc := "()[B" } : Jvm.MethodName) ({ cls := "java/lang/AbstractStringBuilder", name := "getValue", desc := "()[B" } : Jvm.MethodName)).before a0 Z = true := hw _ (List.mem_of_getElem? (i := 63) rfl)
theorem w64 (hw : own_W Z a0) : (Jvm.Cond.code ({ cls := "java/lang/AbstractStringBuilder", name := "getValue", desc := "()[B" } : Jvm.MethodName) jdk_68_method_64_code (1 : Nat) (Option.some (Jvm.ClassFile.FieldType.array Jvm.ClassFile.FieldType.byte))).before a0 Z = true := hw _ (List.mem_of_getElem? (i := 64) rfl)
theorem w65 (hw : own_W Z a0) : (Jvm.Cond.methodLink "java/lang/String" (549 : Nat) ({ cls := "java/lang/AbstractStringBuilder", name := "length", desc := "()I" } : Jvm.MethodName)).before a0 Z = true := hw _ (List.mem_of_getElem? (i := 65) rfl)
theorem w66 (hw : own_W Z a0) : (Jvm.Cond.selects "java/lang/StringBuilder" ({ cls := "java/lang/AbstractStringBuilder", name := "length", desc := "()I" } : Jvm.MethodName) ({ cls := "java/lang/StringBuilder", name := "length", desc := "()I" } : Jvm.MethodName)).before a0 Z = true := hw _ (List.mem_of_getElem? (i := 66) rfl)
theorem w67 (hw : own_W Z a0) : (Jvm.Cond.methodLink "java/lang/String" (1047 : Nat) ({ cls := "java/lang/AbstractStringBuilder", name := "isLatin1", desc := "()Z" } : Jvm.MethodName)).before a0 Z = true := hw _ (List.mem_of_getElem? (i := 67) rfl)
theorem w68 (hw : own_W Z a0) : (Jvm.Cond.declares ({ cls := "java/lang/AbstractStringBuilder", name := "isLatin1", desc := "()Z" } : Jvm.MethodName)).before a0 Z = true := hw _ (List.mem_of_getElem? (i := 68) rfl)
theorem w69 (hw : own_W Z a0) : (Jvm.Cond.instanceMethod ({ cls := "java/lang/AbstractStringBuilder", name := "isLatin1", desc := "()Z" } : Jvm.MethodName)).before a0 Z = true := hw _ (List.mem_of_getElem? (i := 69) rfl)
theorem w70 (hw : own_W Z a0) : (Jvm.Cond.selects "java/lang/StringBuilder" ({ cls := "java/lang/AbstractStringBuilder", name := "isLatin1", desc := "()Z" } : Jvm.MethodName) ({ cls := "java/lang/AbstractStringBuilder", name := "isLatin1", desc := "()Z" } : Jvm.MethodName)).before a0 Z = true := hw _ (List.mem_of_getElem? (i := 70) rfl)
theorem w71 (hw : own_W Z a0) : (Jvm.Cond.code ({ cls := "java/lang/AbstractStringBuilder", name := "isLatin1", desc := "()Z" } : Jvm.MethodName) jdk_68_method_68_code (1 : Nat) (Option.some Jvm.ClassFile.FieldType.boolean)).before a0 Z = true := hw _ (List.mem_of_getElem? (i := 71) rfl)
theorem w72 (hw : own_W Z a0) : (Jvm.Cond.fieldLink "java/lang/String" (15 : Nat) "java/lang/String" "coder" "B").before a0 Z = true := hw _ (List.mem_of_getElem? (i := 72) rfl)
theorem w73 (hw : own_W Z a0) : (Jvm.Cond.laysFinal "java/lang/String" "java/lang/String" "coder" "B").before a0 Z = true := hw _ (List.mem_of_getElem? (i := 73) rfl)
theorem w74 (hw : own_W Z a0) : (Jvm.Cond.methodLink "java/lang/String" (54 : Nat) ({ cls := "java/util/Arrays", name := "copyOfRange", desc := "([BII)[B" } : Jvm.MethodName)).before a0 Z = true := hw _ (List.mem_of_getElem? (i := 74) rfl)
theorem w75 (hw : own_W Z a0) : (Jvm.Cond.static ({ cls := "java/util/Arrays", name := "copyOfRange", desc := "([BII)[B" } : Jvm.MethodName)).before a0 Z = true := hw _ (List.mem_of_getElem? (i := 75) rfl)
theorem w76 (hw : own_W Z a0) : (Jvm.Cond.initialized "java/util/Arrays").before a0 Z = true := hw _ (List.mem_of_getElem? (i := 76) rfl)
theorem w77 (hw : own_W Z a0) : (Jvm.Cond.code ({ cls := "java/util/Arrays", name := "copyOfRange", desc := "([BII)[B" } : Jvm.MethodName) jdk_65_method_132_code (3 : Nat) (Option.some (Jvm.ClassFile.FieldType.array Jvm.ClassFile.FieldType.byte))).before a0 Z = true := hw _ (List.mem_of_getElem? (i := 77) rfl)
theorem w78 (hw : own_W Z a0) : (Jvm.Cond.methodLink "java/util/Arrays" (339 : Nat) ({ cls := "java/util/Arrays", name := "copyOfRangeByte", desc := "([BII)[B" } : Jvm.MethodName)).before a0 Z = true := hw _ (List.mem_of_getElem? (i := 78) rfl)
theorem w79 (hw : own_W Z a0) : (Jvm.Cond.static ({ cls := "java/util/Arrays", name := "copyOfRangeByte", desc := "([BII)[B" } : Jvm.MethodName)).before a0 Z = true := hw _ (List.mem_of_getElem? (i := 79) rfl)
theorem w80 (hw : own_W Z a0) : (Jvm.Cond.code ({ cls := "java/util/Arrays", name := "copyOfRangeByte", desc := "([BII)[B" } : Jvm.MethodName) jdk_65_method_133_code (5 : Nat) (Option.some (Jvm.ClassFile.FieldType.array Jvm.ClassFile.FieldType.byte))).before a0 Z = true := hw _ (List.mem_of_getElem? (i := 80) rfl)
theorem w81 (hw : own_W Z a0) : (Jvm.Cond.methodLink "java/util/Arrays" (343 : Nat) ({ cls := "java/util/Arrays", name := "checkLength", desc := "(II)V" } : Jvm.MethodName)).before a0 Z = true := hw _ (List.mem_of_getElem? (i := 81) rfl)
theorem w82 (hw : own_W Z a0) : (Jvm.Cond.static ({ cls := "java/util/Arrays", name := "checkLength", desc := "(II)V" } : Jvm.MethodName)).before a0 Z = true := hw _ (List.mem_of_getElem? (i := 82) rfl)
theorem w83 (hw : own_W Z a0) : (Jvm.Cond.code ({ cls := "java/util/Arrays", name := "checkLength", desc := "(II)V" } : Jvm.MethodName) jdk_65_method_131_code (2 : Nat) (Option.none : Option Jvm.ClassFile.FieldType)).before a0 Z = true := hw _ (List.mem_of_getElem? (i := 83) rfl)
theorem w84 (hw : own_W Z a0) : (Jvm.Cond.methodLink "java/util/Arrays" (304 : Nat) ({ cls := "java/lang/Math", name := "min", desc := "(II)I" } : Jvm.MethodName)).before a0 Z = true := hw _ (List.mem_of_getElem? (i := 84) rfl)
theorem w85 (hw : own_W Z a0) : (Jvm.Cond.static ({ cls := "java/lang/Math", name := "min", desc := "(II)I" } : Jvm.MethodName)).before a0 Z = true := hw _ (List.mem_of_getElem? (i := 85) rfl)
theorem w86 (hw : own_W Z a0) : (Jvm.Cond.initialized "java/lang/Math").before a0 Z = true := hw _ (List.mem_of_getElem? (i := 86) rfl)
theorem w87 (hw : own_W Z a0) : (Jvm.Cond.code ({ cls := "java/lang/Math", name := "min", desc := "(II)I" } : Jvm.MethodName) jdk_29_method_69_code (2 : Nat) (Option.some Jvm.ClassFile.FieldType.int)).before a0 Z = true := hw _ (List.mem_of_getElem? (i := 87) rfl)
theorem w88 (hw : own_W Z a0) : (Jvm.Cond.methodLink "java/util/Arrays" (150 : Nat) ({ cls := "java/lang/System", name := "arraycopy", desc := "(Ljava/lang/Object;ILjava/lang/Object;II)V" } : Jvm.MethodName)).before a0 Z = true := hw _ (List.mem_of_getElem? (i := 88) rfl)
theorem w89 (hw : own_W Z a0) : (Jvm.Cond.static ({ cls := "java/lang/System", name := "arraycopy", desc := "(Ljava/lang/Object;ILjava/lang/Object;II)V" } : Jvm.MethodName)).before a0 Z = true := hw _ (List.mem_of_getElem? (i := 89) rfl)
theorem w90 (hw : own_W Z a0) : (Jvm.Cond.initialized "java/lang/System").before a0 Z = true := hw _ (List.mem_of_getElem? (i := 90) rfl)
theorem w91 (hw : own_W Z a0) : (Jvm.Cond.native ({ cls := "java/lang/System", name := "arraycopy", desc := "(Ljava/lang/Object;ILjava/lang/Object;II)V" } : Jvm.MethodName)).before a0 Z = true := hw _ (List.mem_of_getElem? (i := 91) rfl)
theorem w92 (hw : own_W Z a0) : (Jvm.Cond.fieldLink "java/lang/String" (9 : Nat) "java/lang/String" "value" "[B").before a0 Z = true := hw _ (List.mem_of_getElem? (i := 92) rfl)
theorem w93 (hw : own_W Z a0) : (Jvm.Cond.laysFinal "java/lang/String" "java/lang/String" "value" "[B").before a0 Z = true := hw _ (List.mem_of_getElem? (i := 93) rfl)
theorem w94 (hw : own_W Z a0) : (Jvm.Cond.methodLink "com/example/kenning/kenning/PunycodeEncodePinLaw" (21 : Nat) ({ cls := "com/example/kenning/kenning/Punycode", name := "decode", desc := "(Ljava/lang/String;)[I" } : Jvm.MethodName)).before a0 Z = true := hw _ (List.mem_of_getElem? (i := 94) rfl)
theorem w95 (hw : own_W Z a0) : (Jvm.Cond.static ({ cls := "com/example/kenning/kenning/Punycode", name := "decode", desc := "(Ljava/lang/String;)[I" } : Jvm.MethodName)).before a0 Z = true := hw _ (List.mem_of_getElem? (i := 95) rfl)
theorem w96 (hw : own_W Z a0) : (Jvm.Cond.code ({ cls := "com/example/kenning/kenning/Punycode", name := "decode", desc := "(Ljava/lang/String;)[I" } : Jvm.MethodName) prog_12_method_2_code (18 : Nat) (Option.some (Jvm.ClassFile.FieldType.array Jvm.ClassFile.FieldType.int))).before a0 Z = true := hw _ (List.mem_of_getElem? (i := 96) rfl)
theorem w97 (hw : own_W Z a0) : (Jvm.Cond.methodLink "com/example/kenning/kenning/Punycode" (9 : Nat) ({ cls := "java/lang/String", name := "lastIndexOf", desc := "(I)I" } : Jvm.MethodName)).before a0 Z = true := hw _ (List.mem_of_getElem? (i := 97) rfl)
theorem w98 (hw : own_W Z a0) : (Jvm.Cond.declares ({ cls := "java/lang/String", name := "lastIndexOf", desc := "(I)I" } : Jvm.MethodName)).before a0 Z = true := hw _ (List.mem_of_getElem? (i := 98) rfl)
theorem w99 (hw : own_W Z a0) : (Jvm.Cond.instanceMethod ({ cls := "java/lang/String", name := "lastIndexOf", desc := "(I)I" } : Jvm.MethodName)).before a0 Z = true := hw _ (List.mem_of_getElem? (i := 99) rfl)
theorem w100 (hw : own_W Z a0) : (Jvm.Cond.selects "java/lang/String" ({ cls := "java/lang/String", name := "lastIndexOf", desc := "(I)I" } : Jvm.MethodName) ({ cls := "java/lang/String", name := "lastIndexOf", desc := "(I)I" } : Jvm.MethodName)).before a0 Z = true := hw _ (List.mem_of_getElem? (i := 100) rfl)
theorem w101 (hw : own_W Z a0) : (Jvm.Cond.code ({ cls := "java/lang/String", name := "lastIndexOf", desc := "(I)I" } : Jvm.MethodName) jdk_42_method_82_code (2 : Nat) (Option.some Jvm.ClassFile.FieldType.int)).before a0 Z = true := hw _ (List.mem_of_getElem? (i := 101) rfl)
theorem w102 (hw : own_W Z a0) : (Jvm.Cond.methodLink "java/lang/String" (505 : Nat) ({ cls := "java/lang/String", name := "length", desc := "()I" } : Jvm.MethodName)).before a0 Z = true := hw _ (List.mem_of_getElem? (i := 102) rfl)
theorem w103 (hw : own_W Z a0) : (Jvm.Cond.declares ({ cls := "java/lang/String", name := "length", desc := "()I" } : Jvm.MethodName)).before a0 Z = true := hw _ (List.mem_of_getElem? (i := 103) rfl)
theorem w104 (hw : own_W Z a0) : (Jvm.Cond.instanceMethod ({ cls := "java/lang/String", name := "length", desc := "()I" } : Jvm.MethodName)).before a0 Z = true := hw _ (List.mem_of_getElem? (i := 104) rfl)
theorem w105 (hw : own_W Z a0) : (Jvm.Cond.selects "java/lang/String" ({ cls := "java/lang/String", name := "length", desc := "()I" } : Jvm.MethodName) ({ cls := "java/lang/String", name := "length", desc := "()I" } : Jvm.MethodName)).before a0 Z = true := hw _ (List.mem_of_getElem? (i := 105) rfl)
theorem w106 (hw : own_W Z a0) : (Jvm.Cond.code ({ cls := "java/lang/String", name := "length", desc := "()I" } : Jvm.MethodName) jdk_42_method_54_code (1 : Nat) (Option.some Jvm.ClassFile.FieldType.int)).before a0 Z = true := hw _ (List.mem_of_getElem? (i := 106) rfl)
theorem w107 (hw : own_W Z a0) : (Jvm.Cond.methodLink "java/lang/String" (335 : Nat) ({ cls := "java/lang/String", name := "coder", desc := "()B" } : Jvm.MethodName)).before a0 Z = true := hw _ (List.mem_of_getElem? (i := 107) rfl)
theorem w108 (hw : own_W Z a0) : (Jvm.Cond.declares ({ cls := "java/lang/String", name := "coder", desc := "()B" } : Jvm.MethodName)).before a0 Z = true := hw _ (List.mem_of_getElem? (i := 108) rfl)
theorem w109 (hw : own_W Z a0) : (Jvm.Cond.instanceMethod ({ cls := "java/lang/String", name := "coder", desc := "()B" } : Jvm.MethodName)).before a0 Z = true := hw _ (List.mem_of_getElem? (i := 109) rfl)
theorem w110 (hw : own_W Z a0) : (Jvm.Cond.selects "java/lang/String" ({ cls := "java/lang/String", name := "coder", desc := "()B" } : Jvm.MethodName) ({ cls := "java/lang/String", name := "coder", desc := "()B" } : Jvm.MethodName)).before a0 Z = true := hw _ (List.mem_of_getElem? (i := 110) rfl)
theorem w111 (hw : own_W Z a0) : (Jvm.Cond.code ({ cls := "java/lang/String", name := "coder", desc := "()B" } : Jvm.MethodName) jdk_42_method_152_code (1 : Nat) (Option.some Jvm.ClassFile.FieldType.byte)).before a0 Z = true := hw _ (List.mem_of_getElem? (i := 111) rfl)
theorem w112 (hw : own_W Z a0) : (Jvm.Cond.fieldLink "java/lang/String" (38 : Nat) "java/lang/String" "COMPACT_STRINGS" "Z").before a0 Z = true := hw _ (List.mem_of_getElem? (i := 112) rfl)
theorem w113 (hw : own_W Z a0) : (Jvm.Cond.methodLink "java/lang/String" (641 : Nat) ({ cls := "java/lang/String", name := "lastIndexOf", desc := "(II)I" } : Jvm.MethodName)).before a0 Z = true := hw _ (List.mem_of_getElem? (i := 113) rfl)
theorem w114 (hw : own_W Z a0) : (Jvm.Cond.declares ({ cls := "java/lang/String", name := "lastIndexOf", desc := "(II)I" } : Jvm.MethodName)).before a0 Z = true := hw _ (List.mem_of_getElem? (i := 114) rfl)
theorem w115 (hw : own_W Z a0) : (Jvm.Cond.instanceMethod ({ cls := "java/lang/String", name := "lastIndexOf", desc := "(II)I" } : Jvm.MethodName)).before a0 Z = true := hw _ (List.mem_of_getElem? (i := 115) rfl)
theorem w116 (hw : own_W Z a0) : (Jvm.Cond.selects "java/lang/String" ({ cls := "java/lang/String", name := "lastIndexOf", desc := "(II)I" } : Jvm.MethodName) ({ cls := "java/lang/String", name := "lastIndexOf", desc := "(II)I" } : Jvm.MethodName)).before a0 Z = true := hw _ (List.mem_of_getElem? (i := 116) rfl)
theorem w117 (hw : own_W Z a0) : (Jvm.Cond.code ({ cls := "java/lang/String", name := "lastIndexOf", desc := "(II)I" } : Jvm.MethodName) jdk_42_method_83_code (3 : Nat) (Option.some Jvm.ClassFile.FieldType.int)).before a0 Z = true := hw _ (List.mem_of_getElem? (i := 117) rfl)
theorem w118 (hw : own_W Z a0) : (Jvm.Cond.methodLink "java/lang/String" (492 : Nat) ({ cls := "java/lang/String", name := "isLatin1", desc := "()Z" } : Jvm.MethodName)).before a0 Z = true := hw _ (List.mem_of_getElem? (i := 118) rfl)
theorem w119 (hw : own_W Z a0) : (Jvm.Cond.declares ({ cls := "java/lang/String", name := "isLatin1", desc := "()Z" } : Jvm.MethodName)).before a0 Z = true := hw _ (List.mem_of_getElem? (i := 119) rfl)
theorem w120 (hw : own_W Z a0) : (Jvm.Cond.instanceMethod ({ cls := "java/lang/String", name := "isLatin1", desc := "()Z" } : Jvm.MethodName)).before a0 Z = true := hw _ (List.mem_of_getElem? (i := 120) rfl)
theorem w121 (hw : own_W Z a0) : (Jvm.Cond.selects "java/lang/String" ({ cls := "java/lang/String", name := "isLatin1", desc := "()Z" } : Jvm.MethodName) ({ cls := "java/lang/String", name := "isLatin1", desc := "()Z" } : Jvm.MethodName)).before a0 Z = true := hw _ (List.mem_of_getElem? (i := 121) rfl)
theorem w122 (hw : own_W Z a0) : (Jvm.Cond.code ({ cls := "java/lang/String", name := "isLatin1", desc := "()Z" } : Jvm.MethodName) jdk_42_method_154_code (1 : Nat) (Option.some Jvm.ClassFile.FieldType.boolean)).before a0 Z = true := hw _ (List.mem_of_getElem? (i := 122) rfl)
theorem w123 (hw : own_W Z a0) : (Jvm.Cond.methodLink "java/lang/String" (644 : Nat) ({ cls := "java/lang/StringLatin1", name := "lastIndexOf", desc := "([BII)I" } : Jvm.MethodName)).before a0 Z = true := hw _ (List.mem_of_getElem? (i := 123) rfl)
theorem w124 (hw : own_W Z a0) : (Jvm.Cond.static ({ cls := "java/lang/StringLatin1", name := "lastIndexOf", desc := "([BII)I" } : Jvm.MethodName)).before a0 Z = true := hw _ (List.mem_of_getElem? (i := 124) rfl)
theorem w125 (hw : own_W Z a0) : (Jvm.Cond.initialized "java/lang/StringLatin1").before a0 Z = true := hw _ (List.mem_of_getElem? (i := 125) rfl)
theorem w126 (hw : own_W Z a0) : (Jvm.Cond.code ({ cls := "java/lang/StringLatin1", name := "lastIndexOf", desc := "([BII)I" } : Jvm.MethodName) jdk_43_method_27_code (4 : Nat) (Option.some Jvm.ClassFile.FieldType.int)).before a0 Z = true := hw _ (List.mem_of_getElem? (i := 126) rfl)
theorem w127 (hw : own_W Z a0) : (Jvm.Cond.methodLink "java/lang/StringLatin1" (88 : Nat) ({ cls := "java/lang/StringLatin1", name := "canEncode", desc := "(I)Z" } : Jvm.MethodName)).before a0 Z = true := hw _ (List.mem_of_getElem? (i := 127) rfl)
theorem w128 (hw : own_W Z a0) : (Jvm.Cond.static ({ cls := "java/lang/StringLatin1", name := "canEncode", desc := "(I)Z" } : Jvm.MethodName)).before a0 Z = true := hw _ (List.mem_of_getElem? (i := 128) rfl)
theorem w129 (hw : own_W Z a0) : (Jvm.Cond.code ({ cls := "java/lang/StringLatin1", name := "canEncode", desc := "(I)Z" } : Jvm.MethodName) jdk_43_method_4_code (1 : Nat) (Option.some Jvm.ClassFile.FieldType.boolean)).before a0 Z = true := hw _ (List.mem_of_getElem? (i := 129) rfl)
theorem w130 (hw : own_W Z a0) : (Jvm.Cond.methodLink "java/lang/StringLatin1" (38 : Nat) ({ cls := "java/lang/Math", name := "min", desc := "(II)I" } : Jvm.MethodName)).before a0 Z = true := hw _ (List.mem_of_getElem? (i := 130) rfl)
theorem w131 (hw : own_W Z a0) : (Jvm.Cond.methodLink "com/example/kenning/kenning/Punycode" (15 : Nat) ({ cls := "java/lang/Math", name := "max", desc := "(II)I" } : Jvm.MethodName)).before a0 Z = true := hw _ (List.mem_of_getElem? (i := 131) rfl)
theorem w132 (hw : own_W Z a0) : (Jvm.Cond.static ({ cls := "java/lang/Math", name := "max", desc := "(II)I" } : Jvm.MethodName)).before a0 Z = true := hw _ (List.mem_of_getElem? (i := 132) rfl)
theorem w133 (hw : own_W Z a0) : (Jvm.Cond.code ({ cls := "java/lang/Math", name := "max", desc := "(II)I" } : Jvm.MethodName) jdk_29_method_65_code (2 : Nat) (Option.some Jvm.ClassFile.FieldType.int)).before a0 Z = true := hw _ (List.mem_of_getElem? (i := 133) rfl)
theorem w134 (hw : own_W Z a0) : (Jvm.Cond.methodLink "com/example/kenning/kenning/Punycode" (21 : Nat) ({ cls := "java/lang/String", name := "length", desc := "()I" } : Jvm.MethodName)).before a0 Z = true := hw _ (List.mem_of_getElem? (i := 134) rfl)
theorem w135 (hw : own_W Z a0) : (Jvm.Cond.constantLong "com/example/kenning/kenning/Punycode" (29 : Nat) (128 : Int64)).before a0 Z = true := hw _ (List.mem_of_getElem? (i := 135) rfl)
theorem w136 (hw : own_W Z a0) : (Jvm.Cond.methodLink "com/example/kenning/kenning/Punycode" (56 : Nat) ({ cls := "java/util/Arrays", name := "copyOf", desc := "([II)[I" } : Jvm.MethodName)).before a0 Z = true := hw _ (List.mem_of_getElem? (i := 136) rfl)
theorem w137 (hw : own_W Z a0) : (Jvm.Cond.static ({ cls := "java/util/Arrays", name := "copyOf", desc := "([II)[I" } : Jvm.MethodName)).before a0 Z = true := hw _ (List.mem_of_getElem? (i := 137) rfl)
theorem w138 (hw : own_W Z a0) : (Jvm.Cond.code ({ cls := "java/util/Arrays", name := "copyOf", desc := "([II)[I" } : Jvm.MethodName) jdk_65_method_123_code (3 : Nat) (Option.some (Jvm.ClassFile.FieldType.array Jvm.ClassFile.FieldType.int))).before a0 Z = true := hw _ (List.mem_of_getElem? (i := 138) rfl)
theorem w139 (hw : own_W Z a0) : (Jvm.Cond.methodLink "java/util/Arrays" (316 : Nat) ({ cls := "[I", name := "clone", desc := "()Ljava/lang/Object;" } : Jvm.MethodName)).before a0 Z = true := hw _ (List.mem_of_getElem? (i := 139) rfl)
theorem w140 (hw : own_W Z a0) : (Jvm.Cond.sameMethod "[I" "java/lang/Object" "clone" "()Ljava/lang/Object;").before a0 Z = true := hw _ (List.mem_of_getElem? (i := 140) rfl)
theorem w142 (hw : own_W Z a0) : (Jvm.Cond.instanceMethod ({ cls := "java/lang/Object", name := "clone", desc := "()Ljava/lang/Object;" } : Jvm.MethodName)).before a0 Z = true := hw _ (List.mem_of_getElem? (i := 142) rfl)
theorem w143 (hw : own_W Z a0) : (Jvm.Cond.selects "[I" ({ cls := "[I", name := "clone", desc := "()Ljava/lang/Object;" } : Jvm.MethodName) ({ cls := "java/lang/Object", name := "clone", desc := "()Ljava/lang/Object;" } : Jvm.MethodName)).before a0 Z = true := hw _ (List.mem_of_getElem? (i := 143) rfl)
theorem w144 (hw : own_W Z a0) : (Jvm.Cond.native ({ cls := "java/lang/Object", name := "clone", desc := "()Ljava/lang/Object;" } : Jvm.MethodName)).before a0 Z = true := hw _ (List.mem_of_getElem? (i := 144) rfl)
theorem w145 (hw : own_W Z a0) : (Jvm.Cond.castable "[I" "java/lang/Cloneable").before a0 Z = true := hw _ (List.mem_of_getElem? (i := 145) rfl)
theorem w146 (hw : own_W Z a0) : (Jvm.Cond.classLink "java/util/Arrays" (317 : Nat) "[I").before a0 Z = true := hw _ (List.mem_of_getElem? (i := 146) rfl)
theorem w148 (hw : own_W Z a0) : (Jvm.Cond.methodLink "com/example/kenning/kenning/PunycodeEncodePinLaw" (25 : Nat) ({ cls := "com/example/kenning/kenning/PunycodeEncodePinLaw", name := "same", desc := "([I[II)Z" } : Jvm.MethodName)).before a0 Z = true := hw _ (List.mem_of_getElem? (i := 148) rfl)
theorem w149 (hw : own_W Z a0) : (Jvm.Cond.static ({ cls := "com/example/kenning/kenning/PunycodeEncodePinLaw", name := "same", desc := "([I[II)Z" } : Jvm.MethodName)).before a0 Z = true := hw _ (List.mem_of_getElem? (i := 149) rfl)
theorem w150 (hw : own_W Z a0) : (Jvm.Cond.code ({ cls := "com/example/kenning/kenning/PunycodeEncodePinLaw", name := "same", desc := "([I[II)Z" } : Jvm.MethodName) method_3_code (3 : Nat) (Option.some Jvm.ClassFile.FieldType.boolean)).before a0 Z = true := hw _ (List.mem_of_getElem? (i := 150) rfl)
theorem w151 (hw : own_W Z a0) : (Jvm.Cond.methodLink "com/example/kenning/kenning/Punycode" (65 : Nat) ({ cls := "java/lang/StringBuilder", name := "append", desc := "(C)Ljava/lang/StringBuilder;" } : Jvm.MethodName)).before a0 Z = true := hw _ (List.mem_of_getElem? (i := 151) rfl)
theorem w152 (hw : own_W Z a0) : (Jvm.Cond.declares ({ cls := "java/lang/StringBuilder", name := "append", desc := "(C)Ljava/lang/StringBuilder;" } : Jvm.MethodName)).before a0 Z = true := hw _ (List.mem_of_getElem? (i := 152) rfl)
theorem w153 (hw : own_W Z a0) : (Jvm.Cond.instanceMethod ({ cls := "java/lang/StringBuilder", name := "append", desc := "(C)Ljava/lang/StringBuilder;" } : Jvm.MethodName)).before a0 Z = true := hw _ (List.mem_of_getElem? (i := 153) rfl)
theorem w154 (hw : own_W Z a0) : (Jvm.Cond.selects "java/lang/StringBuilder" ({ cls := "java/lang/StringBuilder", name := "append", desc := "(C)Ljava/lang/StringBuilder;" } : Jvm.MethodName) ({ cls := "java/lang/StringBuilder", name := "append", desc := "(C)Ljava/lang/StringBuilder;" } : Jvm.MethodName)).before a0 Z = true := hw _ (List.mem_of_getElem? (i := 154) rfl)
theorem w155 (hw : own_W Z a0) : (Jvm.Cond.code ({ cls := "java/lang/StringBuilder", name := "append", desc := "(C)Ljava/lang/StringBuilder;" } : Jvm.MethodName) jdk_67_method_14_code (2 : Nat) (Option.some (Jvm.ClassFile.FieldType.object "java/lang/StringBuilder"))).before a0 Z = true := hw _ (List.mem_of_getElem? (i := 155) rfl)
theorem w156 (hw : own_W Z a0) : (Jvm.Cond.methodLink "java/lang/StringBuilder" (50 : Nat) ({ cls := "java/lang/AbstractStringBuilder", name := "append", desc := "(C)Ljava/lang/AbstractStringBuilder;" } : Jvm.MethodName)).before a0 Z = true := hw _ (List.mem_of_getElem? (i := 156) rfl)
theorem w157 (hw : own_W Z a0) : (Jvm.Cond.instanceMethod ({ cls := "java/lang/AbstractStringBuilder", name := "append", desc := "(C)Ljava/lang/AbstractStringBuilder;" } : Jvm.MethodName)).before a0 Z = true := hw _ (List.mem_of_getElem? (i := 157) rfl)
theorem w159 (hw : own_W Z a0) : (Jvm.Cond.code ({ cls := "java/lang/AbstractStringBuilder", name := "append", desc := "(C)Ljava/lang/AbstractStringBuilder;" } : Jvm.MethodName) jdk_68_method_31_code (2 : Nat) (Option.some (Jvm.ClassFile.FieldType.object "java/lang/AbstractStringBuilder"))).before a0 Z = true := hw _ (List.mem_of_getElem? (i := 159) rfl)
theorem w160 (hw : own_W Z a0) : (Jvm.Cond.methodLink "java/lang/AbstractStringBuilder" (100 : Nat) ({ cls := "java/lang/AbstractStringBuilder", name := "ensureCapacityInternal", desc := "(I)V" } : Jvm.MethodName)).before a0 Z = true := hw _ (List.mem_of_getElem? (i := 160) rfl)
theorem w161 (hw : own_W Z a0) : (Jvm.Cond.instanceMethod ({ cls := "java/lang/AbstractStringBuilder", name := "ensureCapacityInternal", desc := "(I)V" } : Jvm.MethodName)).before a0 Z = true := hw _ (List.mem_of_getElem? (i := 161) rfl)
theorem w162 (hw : own_W Z a0) : (Jvm.Cond.privateMethod ({ cls := "java/lang/AbstractStringBuilder", name := "ensureCapacityInternal", desc := "(I)V" } : Jvm.MethodName)).before a0 Z = true := hw _ (List.mem_of_getElem? (i := 162) rfl)
theorem w163 (hw : own_W Z a0) : (Jvm.Cond.selects "java/lang/StringBuilder" ({ cls := "java/lang/AbstractStringBuilder", name := "ensureCapacityInternal", desc := "(I)V" } : Jvm.MethodName) ({ cls := "java/lang/AbstractStringBuilder", name := "ensureCapacityInternal", desc := "(I)V" } : Jvm.MethodName)).before a0 Z = true := hw _ (List.mem_of_getElem? (i := 163) rfl)
theorem w164 (hw : own_W Z a0) : (Jvm.Cond.code ({ cls := "java/lang/AbstractStringBuilder", name := "ensureCapacityInternal", desc := "(I)V" } : Jvm.MethodName) jdk_68_method_9_code (3 : Nat) (Option.none : Option Jvm.ClassFile.FieldType)).before a0 Z = true := hw _ (List.mem_of_getElem? (i := 164) rfl)
theorem w165 (hw : own_W Z a0) : (Jvm.Cond.methodLink "java/lang/AbstractStringBuilder" (83 : Nat) ({ cls := "java/lang/AbstractStringBuilder", name := "isLatin1", desc := "()Z" } : Jvm.MethodName)).before a0 Z = true := hw _ (List.mem_of_getElem? (i := 165) rfl)
theorem w166 (hw : own_W Z a0) : (Jvm.Cond.methodLink "java/lang/AbstractStringBuilder" (191 : Nat) ({ cls := "java/lang/StringLatin1", name := "canEncode", desc := "(C)Z" } : Jvm.MethodName)).before a0 Z = true := hw _ (List.mem_of_getElem? (i := 166) rfl)
theorem w167 (hw : own_W Z a0) : (Jvm.Cond.static ({ cls := "java/lang/StringLatin1", name := "canEncode", desc := "(C)Z" } : Jvm.MethodName)).before a0 Z = true := hw _ (List.mem_of_getElem? (i := 167) rfl)
theorem w168 (hw : own_W Z a0) : (Jvm.Cond.code ({ cls := "java/lang/StringLatin1", name := "canEncode", desc := "(C)Z" } : Jvm.MethodName) jdk_43_method_3_code (1 : Nat) (Option.some Jvm.ClassFile.FieldType.boolean)).before a0 Z = true := hw _ (List.mem_of_getElem? (i := 168) rfl)
theorem w169 (hw : own_W Z a0) : (Jvm.Cond.constant "com/example/kenning/kenning/Punycode" (70 : Nat) (2147483647 : Int32)).before a0 Z = true := hw _ (List.mem_of_getElem? (i := 169) rfl)
theorem w170 (hw : own_W Z a0) : (Jvm.Cond.methodLink "com/example/kenning/kenning/Punycode" (71 : Nat) ({ cls := "java/lang/Math", name := "min", desc := "(II)I" } : Jvm.MethodName)).before a0 Z = true := hw _ (List.mem_of_getElem? (i := 170) rfl)
theorem w171 (hw : own_W Z a0) : (Jvm.Cond.methodLink "com/example/kenning/kenning/Punycode" (39 : Nat) ({ cls := "com/example/kenning/kenning/Punycode", name := "threshold", desc := "(II)I" } : Jvm.MethodName)).before a0 Z = true := hw _ (List.mem_of_getElem? (i := 171) rfl)
theorem w172 (hw : own_W Z a0) : (Jvm.Cond.static ({ cls := "com/example/kenning/kenning/Punycode", name := "threshold", desc := "(II)I" } : Jvm.MethodName)).before a0 Z = true := hw _ (List.mem_of_getElem? (i := 172) rfl)
theorem w173 (hw : own_W Z a0) : (Jvm.Cond.code ({ cls := "com/example/kenning/kenning/Punycode", name := "threshold", desc := "(II)I" } : Jvm.MethodName) prog_12_method_6_code (2 : Nat) (Option.some Jvm.ClassFile.FieldType.int)).before a0 Z = true := hw _ (List.mem_of_getElem? (i := 173) rfl)
theorem w174 (hw : own_W Z a0) : (Jvm.Cond.methodLink "com/example/kenning/kenning/Punycode" (74 : Nat) ({ cls := "com/example/kenning/kenning/Punycode", name := "digitChar", desc := "(J)C" } : Jvm.MethodName)).before a0 Z = true := hw _ (List.mem_of_getElem? (i := 174) rfl)
theorem w175 (hw : own_W Z a0) : (Jvm.Cond.static ({ cls := "com/example/kenning/kenning/Punycode", name := "digitChar", desc := "(J)C" } : Jvm.MethodName)).before a0 Z = true := hw _ (List.mem_of_getElem? (i := 175) rfl)
theorem w176 (hw : own_W Z a0) : (Jvm.Cond.code ({ cls := "com/example/kenning/kenning/Punycode", name := "digitChar", desc := "(J)C" } : Jvm.MethodName) prog_12_method_5_code (2 : Nat) (Option.some Jvm.ClassFile.FieldType.char)).before a0 Z = true := hw _ (List.mem_of_getElem? (i := 176) rfl)
theorem w177 (hw : own_W Z a0) : (Jvm.Cond.constantLong "com/example/kenning/kenning/Punycode" (82 : Nat) (26 : Int64)).before a0 Z = true := hw _ (List.mem_of_getElem? (i := 177) rfl)
theorem w178 (hw : own_W Z a0) : (Jvm.Cond.constantLong "com/example/kenning/kenning/Punycode" (84 : Nat) (97 : Int64)).before a0 Z = true := hw _ (List.mem_of_getElem? (i := 178) rfl)
theorem w179 (hw : own_W Z a0) : (Jvm.Cond.methodLink "com/example/kenning/kenning/Punycode" (42 : Nat) ({ cls := "com/example/kenning/kenning/Punycode", name := "adapt", desc := "(JIZ)I" } : Jvm.MethodName)).before a0 Z = true := hw _ (List.mem_of_getElem? (i := 179) rfl)
theorem w180 (hw : own_W Z a0) : (Jvm.Cond.static ({ cls := "com/example/kenning/kenning/Punycode", name := "adapt", desc := "(JIZ)I" } : Jvm.MethodName)).before a0 Z = true := hw _ (List.mem_of_getElem? (i := 180) rfl)
theorem w181 (hw : own_W Z a0) : (Jvm.Cond.code ({ cls := "com/example/kenning/kenning/Punycode", name := "adapt", desc := "(JIZ)I" } : Jvm.MethodName) prog_12_method_7_code (7 : Nat) (Option.some Jvm.ClassFile.FieldType.int)).before a0 Z = true := hw _ (List.mem_of_getElem? (i := 181) rfl)
theorem w182 (hw : own_W Z a0) : (Jvm.Cond.constantLong "com/example/kenning/kenning/Punycode" (88 : Nat) (700 : Int64)).before a0 Z = true := hw _ (List.mem_of_getElem? (i := 182) rfl)
theorem w183 (hw : own_W Z a0) : (Jvm.Cond.constantLong "com/example/kenning/kenning/Punycode" (92 : Nat) (455 : Int64)).before a0 Z = true := hw _ (List.mem_of_getElem? (i := 183) rfl)
theorem w184 (hw : own_W Z a0) : (Jvm.Cond.constantLong "com/example/kenning/kenning/Punycode" (96 : Nat) (36 : Int64)).before a0 Z = true := hw _ (List.mem_of_getElem? (i := 184) rfl)
theorem w185 (hw : own_W Z a0) : (Jvm.Cond.constantLong "com/example/kenning/kenning/Punycode" (98 : Nat) (38 : Int64)).before a0 Z = true := hw _ (List.mem_of_getElem? (i := 185) rfl)
theorem w186 (hw : own_W Z a0) : (Jvm.Cond.methodLink "com/example/kenning/kenning/Punycode" (25 : Nat) ({ cls := "java/lang/String", name := "charAt", desc := "(I)C" } : Jvm.MethodName)).before a0 Z = true := hw _ (List.mem_of_getElem? (i := 186) rfl)
theorem w187 (hw : own_W Z a0) : (Jvm.Cond.declares ({ cls := "java/lang/String", name := "charAt", desc := "(I)C" } : Jvm.MethodName)).before a0 Z = true := hw _ (List.mem_of_getElem? (i := 187) rfl)
theorem w188 (hw : own_W Z a0) : (Jvm.Cond.instanceMethod ({ cls := "java/lang/String", name := "charAt", desc := "(I)C" } : Jvm.MethodName)).before a0 Z = true := hw _ (List.mem_of_getElem? (i := 188) rfl)
theorem w189 (hw : own_W Z a0) : (Jvm.Cond.selects "java/lang/String" ({ cls := "java/lang/String", name := "charAt", desc := "(I)C" } : Jvm.MethodName) ({ cls := "java/lang/String", name := "charAt", desc := "(I)C" } : Jvm.MethodName)).before a0 Z = true := hw _ (List.mem_of_getElem? (i := 189) rfl)
theorem w190 (hw : own_W Z a0) : (Jvm.Cond.code ({ cls := "java/lang/String", name := "charAt", desc := "(I)C" } : Jvm.MethodName) jdk_42_method_56_code (2 : Nat) (Option.some Jvm.ClassFile.FieldType.char)).before a0 Z = true := hw _ (List.mem_of_getElem? (i := 190) rfl)
theorem w191 (hw : own_W Z a0) : (Jvm.Cond.methodLink "java/lang/String" (495 : Nat) ({ cls := "java/lang/StringLatin1", name := "charAt", desc := "([BI)C" } : Jvm.MethodName)).before a0 Z = true := hw _ (List.mem_of_getElem? (i := 191) rfl)
theorem w192 (hw : own_W Z a0) : (Jvm.Cond.static ({ cls := "java/lang/StringLatin1", name := "charAt", desc := "([BI)C" } : Jvm.MethodName)).before a0 Z = true := hw _ (List.mem_of_getElem? (i := 192) rfl)
theorem w193 (hw : own_W Z a0) : (Jvm.Cond.code ({ cls := "java/lang/StringLatin1", name := "charAt", desc := "([BI)C" } : Jvm.MethodName) jdk_43_method_2_code (2 : Nat) (Option.some Jvm.ClassFile.FieldType.char)).before a0 Z = true := hw _ (List.mem_of_getElem? (i := 193) rfl)
theorem w194 (hw : own_W Z a0) : (Jvm.Cond.methodLink "java/lang/StringLatin1" (9 : Nat) ({ cls := "java/lang/String", name := "checkIndex", desc := "(II)V" } : Jvm.MethodName)).before a0 Z = true := hw _ (List.mem_of_getElem? (i := 194) rfl)
theorem w195 (hw : own_W Z a0) : (Jvm.Cond.static ({ cls := "java/lang/String", name := "checkIndex", desc := "(II)V" } : Jvm.MethodName)).before a0 Z = true := hw _ (List.mem_of_getElem? (i := 195) rfl)
theorem w196 (hw : own_W Z a0) : (Jvm.Cond.code ({ cls := "java/lang/String", name := "checkIndex", desc := "(II)V" } : Jvm.MethodName) jdk_42_method_155_code (2 : Nat) (Option.none : Option Jvm.ClassFile.FieldType)).before a0 Z = true := hw _ (List.mem_of_getElem? (i := 196) rfl)
theorem w197 (hw : own_W Z a0) : (Jvm.Cond.fieldLink "java/lang/String" (1053 : Nat) "jdk/internal/util/Preconditions" "SIOOBE_FORMATTER" "Ljava/util/function/BiFunction;").before a0 Z = true := hw _ (List.mem_of_getElem? (i := 197) rfl)
theorem w198 (hw : own_W Z a0) : (Jvm.Cond.initialized "jdk/internal/util/Preconditions").before a0 Z = true := hw _ (List.mem_of_getElem? (i := 198) rfl)
theorem w199 (hw : own_W Z a0) : (Jvm.Cond.methodLink "java/lang/String" (1059 : Nat) ({ cls := "jdk/internal/util/Preconditions", name := "checkIndex", desc := "(IILjava/util/function/BiFunction;)I" } : Jvm.MethodName)).before a0 Z = true := hw _ (List.mem_of_getElem? (i := 199) rfl)
theorem w200 (hw : own_W Z a0) : (Jvm.Cond.static ({ cls := "jdk/internal/util/Preconditions", name := "checkIndex", desc := "(IILjava/util/function/BiFunction;)I" } : Jvm.MethodName)).before a0 Z = true := hw _ (List.mem_of_getElem? (i := 200) rfl)
theorem w201 (hw : own_W Z a0) : (Jvm.Cond.code ({ cls := "jdk/internal/util/Preconditions", name := "checkIndex", desc := "(IILjava/util/function/BiFunction;)I" } : Jvm.MethodName) jdk_41_method_11_code (3 : Nat) (Option.some Jvm.ClassFile.FieldType.int)).before a0 Z = true := hw _ (List.mem_of_getElem? (i := 201) rfl)
theorem w202 (hw : own_W Z a0) : (Jvm.Cond.methodLink "com/example/kenning/kenning/Punycode" (31 : Nat) ({ cls := "com/example/kenning/kenning/Punycode", name := "digit", desc := "(C)I" } : Jvm.MethodName)).before a0 Z = true := hw _ (List.mem_of_getElem? (i := 202) rfl)
theorem w203 (hw : own_W Z a0) : (Jvm.Cond.static ({ cls := "com/example/kenning/kenning/Punycode", name := "digit", desc := "(C)I" } : Jvm.MethodName)).before a0 Z = true := hw _ (List.mem_of_getElem? (i := 203) rfl)
theorem w204 (hw : own_W Z a0) : (Jvm.Cond.code ({ cls := "com/example/kenning/kenning/Punycode", name := "digit", desc := "(C)I" } : Jvm.MethodName) prog_12_method_4_code (2 : Nat) (Option.some Jvm.ClassFile.FieldType.int)).before a0 Z = true := hw _ (List.mem_of_getElem? (i := 204) rfl)
theorem w205 (hw : own_W Z a0) : (Jvm.Cond.constantLong "com/example/kenning/kenning/Punycode" (37 : Nat) (2147483647 : Int64)).before a0 Z = true := hw _ (List.mem_of_getElem? (i := 205) rfl)
theorem w206 (hw : own_W Z a0) : (Jvm.Cond.constantLong "com/example/kenning/kenning/Punycode" (48 : Nat) (1114111 : Int64)).before a0 Z = true := hw _ (List.mem_of_getElem? (i := 206) rfl)
theorem w207 (hw : own_W Z a0) : (Jvm.Cond.methodLink "com/example/kenning/kenning/Punycode" (50 : Nat) ({ cls := "java/lang/System", name := "arraycopy", desc := "(Ljava/lang/Object;ILjava/lang/Object;II)V" } : Jvm.MethodName)).before a0 Z = true := hw _ (List.mem_of_getElem? (i := 207) rfl)
theorem w208 (hw : own_W Z a0) : (Jvm.Cond.constantLong "com/example/kenning/kenning/Punycode" (86 : Nat) (48 : Int64)).before a0 Z = true := hw _ (List.mem_of_getElem? (i := 208) rfl)
theorem w209 (hw : own_W Z a0) : (Jvm.Cond.constantLong "com/example/kenning/kenning/Punycode" (94 : Nat) (35 : Int64)).before a0 Z = true := hw _ (List.mem_of_getElem? (i := 209) rfl)
theorem w210 (hw : own_W Z a0) : (Jvm.Cond.constantLong "com/example/kenning/kenning/Punycode" (90 : Nat) (2 : Int64)).before a0 Z = true := hw _ (List.mem_of_getElem? (i := 210) rfl)
theorem w211 (hw : own_W Z a0) : (Jvm.Cond.methodLink "java/util/Arrays" (310 : Nat) ({ cls := "[B", name := "clone", desc := "()Ljava/lang/Object;" } : Jvm.MethodName)).before a0 Z = true := hw _ (List.mem_of_getElem? (i := 211) rfl)
theorem w212 (hw : own_W Z a0) : (Jvm.Cond.sameMethod "[B" "java/lang/Object" "clone" "()Ljava/lang/Object;").before a0 Z = true := hw _ (List.mem_of_getElem? (i := 212) rfl)
theorem w213 (hw : own_W Z a0) : (Jvm.Cond.selects "[B" ({ cls := "[B", name := "clone", desc := "()Ljava/lang/Object;" } : Jvm.MethodName) ({ cls := "java/lang/Object", name := "clone", desc := "()Ljava/lang/Object;" } : Jvm.MethodName)).before a0 Z = true := hw _ (List.mem_of_getElem? (i := 213) rfl)
theorem w214 (hw : own_W Z a0) : (Jvm.Cond.castable "[B" "java/lang/Cloneable").before a0 Z = true := hw _ (List.mem_of_getElem? (i := 214) rfl)
theorem w215 (hw : own_W Z a0) : (Jvm.Cond.classLink "java/util/Arrays" (311 : Nat) "[B").before a0 Z = true := hw _ (List.mem_of_getElem? (i := 215) rfl)
theorem w217 (hw : own_W Z a0) : (Jvm.Cond.methodLink "java/lang/AbstractStringBuilder" (104 : Nat) ({ cls := "java/lang/AbstractStringBuilder", name := "newCapacity", desc := "(I)I" } : Jvm.MethodName)).before a0 Z = true := hw _ (List.mem_of_getElem? (i := 217) rfl)
theorem w218 (hw : own_W Z a0) : (Jvm.Cond.instanceMethod ({ cls := "java/lang/AbstractStringBuilder", name := "newCapacity", desc := "(I)I" } : Jvm.MethodName)).before a0 Z = true := hw _ (List.mem_of_getElem? (i := 218) rfl)
theorem w219 (hw : own_W Z a0) : (Jvm.Cond.privateMethod ({ cls := "java/lang/AbstractStringBuilder", name := "newCapacity", desc := "(I)I" } : Jvm.MethodName)).before a0 Z = true := hw _ (List.mem_of_getElem? (i := 219) rfl)
theorem w220 (hw : own_W Z a0) : (Jvm.Cond.selects "java/lang/StringBuilder" ({ cls := "java/lang/AbstractStringBuilder", name := "newCapacity", desc := "(I)I" } : Jvm.MethodName) ({ cls := "java/lang/AbstractStringBuilder", name := "newCapacity", desc := "(I)I" } : Jvm.MethodName)).before a0 Z = true := hw _ (List.mem_of_getElem? (i := 220) rfl)
theorem w221 (hw : own_W Z a0) : (Jvm.Cond.code ({ cls := "java/lang/AbstractStringBuilder", name := "newCapacity", desc := "(I)I" } : Jvm.MethodName) jdk_68_method_10_code (6 : Nat) (Option.some Jvm.ClassFile.FieldType.int)).before a0 Z = true := hw _ (List.mem_of_getElem? (i := 221) rfl)
theorem w222 (hw : own_W Z a0) : (Jvm.Cond.methodLink "java/lang/AbstractStringBuilder" (114 : Nat) ({ cls := "jdk/internal/util/ArraysSupport", name := "newLength", desc := "(III)I" } : Jvm.MethodName)).before a0 Z = true := hw _ (List.mem_of_getElem? (i := 222) rfl)
theorem w223 (hw : own_W Z a0) : (Jvm.Cond.static ({ cls := "jdk/internal/util/ArraysSupport", name := "newLength", desc := "(III)I" } : Jvm.MethodName)).before a0 Z = true := hw _ (List.mem_of_getElem? (i := 223) rfl)
theorem w224 (hw : own_W Z a0) : (Jvm.Cond.initialized "jdk/internal/util/ArraysSupport").before a0 Z = true := hw _ (List.mem_of_getElem? (i := 224) rfl)
theorem w225 (hw : own_W Z a0) : (Jvm.Cond.code ({ cls := "jdk/internal/util/ArraysSupport", name := "newLength", desc := "(III)I" } : Jvm.MethodName) jdk_48_method_27_code (4 : Nat) (Option.some Jvm.ClassFile.FieldType.int)).before a0 Z = true := hw _ (List.mem_of_getElem? (i := 225) rfl)
theorem w226 (hw : own_W Z a0) : (Jvm.Cond.methodLink "jdk/internal/util/ArraysSupport" (194 : Nat) ({ cls := "java/lang/Math", name := "max", desc := "(II)I" } : Jvm.MethodName)).before a0 Z = true := hw _ (List.mem_of_getElem? (i := 226) rfl)
theorem w227 (hw : own_W Z a0) : (Jvm.Cond.constant "jdk/internal/util/ArraysSupport" (200 : Nat) (2147483639 : Int32)).before a0 Z = true := hw _ (List.mem_of_getElem? (i := 227) rfl)
theorem w228 (hw : own_W Z a0) : (Jvm.Cond.constant "java/lang/AbstractStringBuilder" (39 : Nat) (2147483647 : Int32)).before a0 Z = true := hw _ (List.mem_of_getElem? (i := 228) rfl)
theorem w229 (hw : own_W Z a0) : (Jvm.Cond.methodLink "java/lang/AbstractStringBuilder" (108 : Nat) ({ cls := "java/util/Arrays", name := "copyOf", desc := "([BI)[B" } : Jvm.MethodName)).before a0 Z = true := hw _ (List.mem_of_getElem? (i := 229) rfl)
theorem w230 (hw : own_W Z a0) : (Jvm.Cond.static ({ cls := "java/util/Arrays", name := "copyOf", desc := "([BI)[B" } : Jvm.MethodName)).before a0 Z = true := hw _ (List.mem_of_getElem? (i := 230) rfl)
theorem w231 (hw : own_W Z a0) : (Jvm.Cond.code ({ cls := "java/util/Arrays", name := "copyOf", desc := "([BI)[B" } : Jvm.MethodName) jdk_65_method_121_code (3 : Nat) (Option.some (Jvm.ClassFile.FieldType.array Jvm.ClassFile.FieldType.byte))).before a0 Z = true := hw _ (List.mem_of_getElem? (i := 231) rfl)
end Words
abbrev Y0 : MethodName := (⟨"java/lang/Math", "min", "(II)I"⟩ : MethodName)
abbrev Y1 : MethodName := (⟨"java/lang/Math", "max", "(II)I"⟩ : MethodName)
abbrev Y2 : MethodName := (⟨"com/example/kenning/kenning/Punycode", "threshold", "(II)I"⟩ : MethodName)
abbrev Y3 : MethodName := (⟨"com/example/kenning/kenning/Punycode", "digitChar", "(J)C"⟩ : MethodName)
abbrev Y4 : MethodName := (⟨"com/example/kenning/kenning/Punycode", "adapt", "(JIZ)I"⟩ : MethodName)
abbrev Y5 : MethodName := (⟨"com/example/kenning/kenning/Punycode", "digit", "(C)I"⟩ : MethodName)
abbrev Y6 : MethodName := (⟨"java/lang/AbstractStringBuilder", "<init>", "(I)V"⟩ : MethodName)
abbrev Y7 : MethodName := (⟨"java/lang/StringBuilder", "<init>", "()V"⟩ : MethodName)
abbrev Y8 : MethodName := (⟨"java/lang/AbstractStringBuilder", "isLatin1", "()Z"⟩ : MethodName)
abbrev Y9 : MethodName := (⟨"java/lang/AbstractStringBuilder", "length", "()I"⟩ : MethodName)
abbrev Y10 : MethodName := (⟨"java/lang/StringBuilder", "length", "()I"⟩ : MethodName)
abbrev Y11 : MethodName := (⟨"java/lang/AbstractStringBuilder", "getValue", "()[B"⟩ : MethodName)
abbrev Y12 : MethodName := (⟨"java/lang/StringLatin1", "canEncode", "(C)Z"⟩ : MethodName)
abbrev Y13 : MethodName := (⟨"java/lang/StringLatin1", "canEncode", "(I)Z"⟩ : MethodName)
abbrev Y14 : MethodName := (⟨"jdk/internal/util/ArraysSupport", "newLength", "(III)I"⟩ : MethodName)
abbrev Y15 : MethodName := (⟨"java/lang/AbstractStringBuilder", "newCapacity", "(I)I"⟩ : MethodName)
abbrev Y16 : MethodName := (⟨"java/util/Arrays", "copyOf", "([BI)[B"⟩ : MethodName)
abbrev Y17 : MethodName := (⟨"java/lang/AbstractStringBuilder", "ensureCapacityInternal", "(I)V"⟩ : MethodName)
abbrev Y18 : MethodName := (⟨"java/lang/AbstractStringBuilder", "append", "(C)Ljava/lang/AbstractStringBuilder;"⟩ : MethodName)
abbrev Y19 : MethodName := (⟨"java/lang/StringBuilder", "append", "(C)Ljava/lang/StringBuilder;"⟩ : MethodName)
abbrev Y20 : MethodName := (⟨"java/util/Arrays", "checkLength", "(II)V"⟩ : MethodName)
abbrev Y21 : MethodName := (⟨"java/util/Arrays", "copyOfRangeByte", "([BII)[B"⟩ : MethodName)
abbrev Y22 : MethodName := (⟨"java/util/Arrays", "copyOfRange", "([BII)[B"⟩ : MethodName)
abbrev Y23 : MethodName := (⟨"java/lang/String", "<init>", "(Ljava/lang/AbstractStringBuilder;Ljava/lang/Void;)V"⟩ : MethodName)
abbrev Y24 : MethodName := (⟨"java/lang/String", "<init>", "(Ljava/lang/StringBuilder;)V"⟩ : MethodName)
abbrev Y25 : MethodName := (⟨"java/lang/StringBuilder", "toString", "()Ljava/lang/String;"⟩ : MethodName)
abbrev Y26 : MethodName := (⟨"java/lang/String", "coder", "()B"⟩ : MethodName)
abbrev Y27 : MethodName := (⟨"java/lang/String", "isLatin1", "()Z"⟩ : MethodName)
abbrev Y28 : MethodName := (⟨"java/lang/String", "length", "()I"⟩ : MethodName)
abbrev Y29 : MethodName := (⟨"jdk/internal/util/Preconditions", "checkIndex", "(IILjava/util/function/BiFunction;)I"⟩ : MethodName)
abbrev Y30 : MethodName := (⟨"java/lang/String", "checkIndex", "(II)V"⟩ : MethodName)
abbrev Y31 : MethodName := (⟨"java/lang/StringLatin1", "charAt", "([BI)C"⟩ : MethodName)
abbrev Y32 : MethodName := (⟨"java/lang/String", "charAt", "(I)C"⟩ : MethodName)
abbrev Y33 : MethodName := (⟨"java/lang/StringLatin1", "lastIndexOf", "([BII)I"⟩ : MethodName)
abbrev Y34 : MethodName := (⟨"java/lang/String", "lastIndexOf", "(II)I"⟩ : MethodName)
abbrev Y35 : MethodName := (⟨"java/lang/String", "lastIndexOf", "(I)I"⟩ : MethodName)
abbrev Y36 : MethodName := (⟨"java/util/Arrays", "copyOf", "([II)[I"⟩ : MethodName)
abbrev Y37 : MethodName := (⟨"com/example/kenning/kenning/Punycode", "encode", "([I)Ljava/lang/String;"⟩ : MethodName)
abbrev Y38 : MethodName := (⟨"com/example/kenning/kenning/Punycode", "decode", "(Ljava/lang/String;)[I"⟩ : MethodName)
abbrev Y39 : MethodName := (⟨"com/example/kenning/kenning/PunycodeEncodePinLaw", "cp", "(I)I"⟩ : MethodName)
abbrev Y40 : MethodName := (⟨"com/example/kenning/kenning/PunycodeEncodePinLaw", "same", "([I[II)Z"⟩ : MethodName)
abbrev vI (x : Int32) : Slot := .val (.int x)
abbrev vR (x : Addr) : Slot := .val (.ref x)
abbrev uS : Slot := .unset
abbrev Rm0 : Room := ({ frames := 0, cells := 0, slots := 0, locals := 0 } : Room)
abbrev Rm1 : Room := ({ frames := 1, cells := 0, slots := 0, locals := 14 } : Room)
abbrev Rm2 : Room := ({ frames := 1, cells := 1, slots := 16, locals := 12 } : Room)
abbrev Rm3 : Room := ({ frames := 2, cells := 1, slots := 16, locals := 25 } : Room)
abbrev Rm4 : Room := ({ frames := 1, cells := 0, slots := 0, locals := 12 } : Room)
abbrev Rm5 : Room := ({ frames := 2, cells := 0, slots := 0, locals := 29 } : Room)
abbrev Rm6 : Room := ({ frames := 1, cells := 1, slots := 34, locals := 18 } : Room)
abbrev Rm7 : Room := ({ frames := 3, cells := 1, slots := 34, locals := 48 } : Room)
abbrev Rm8 : Room := ({ frames := 4, cells := 1, slots := 34, locals := 62 } : Room)
abbrev Rm9 : Room := ({ frames := 2, cells := 0, slots := 0, locals := 27 } : Room)
abbrev Rm10 : Room := ({ frames := 5, cells := 1, slots := 34, locals := 75 } : Room)
abbrev Rm11 : Room := ({ frames := 2, cells := 1, slots := 34, locals := 34 } : Room)
abbrev Rm12 : Room := ({ frames := 3, cells := 1, slots := 34, locals := 49 } : Room)
abbrev Rm13 : Room := ({ frames := 4, cells := 1, slots := 34, locals := 65 } : Room)
abbrev Rm14 : Room := ({ frames := 5, cells := 2, slots := 38, locals := 79 } : Room)
abbrev Rm15 : Room := ({ frames := 1, cells := 0, slots := 0, locals := 13 } : Room)
abbrev Rm16 : Room := ({ frames := 3, cells := 0, slots := 0, locals := 40 } : Room)
abbrev Rm17 : Room := ({ frames := 2, cells := 0, slots := 0, locals := 28 } : Room)
abbrev Rm18 : Room := ({ frames := 3, cells := 0, slots := 0, locals := 42 } : Room)
abbrev Rm19 : Room := ({ frames := 6, cells := 5, slots := 92, locals := 91 } : Room)
abbrev Rm20 : Room := ({ frames := 4, cells := 2, slots := 68, locals := 55 } : Room)
abbrev dC0 (n : Nat) (i : Instr × Nat) : Prop := decode jdk_29_method_69_code n = .ok i
abbrev dC1 (n : Nat) (i : Instr × Nat) : Prop := decode jdk_29_method_65_code n = .ok i
abbrev dC2 (n : Nat) (i : Instr × Nat) : Prop := decode prog_12_method_6_code n = .ok i
abbrev dC3 (n : Nat) (i : Instr × Nat) : Prop := decode prog_12_method_5_code n = .ok i
abbrev dC4 (n : Nat) (i : Instr × Nat) : Prop := decode prog_12_method_7_code n = .ok i
abbrev dC5 (n : Nat) (i : Instr × Nat) : Prop := decode prog_12_method_4_code n = .ok i
abbrev dC6 (n : Nat) (i : Instr × Nat) : Prop := decode jdk_68_method_2_code n = .ok i
abbrev dC7 (n : Nat) (i : Instr × Nat) : Prop := decode jdk_67_method_1_code n = .ok i
abbrev dC8 (n : Nat) (i : Instr × Nat) : Prop := decode jdk_68_method_68_code n = .ok i
abbrev dC9 (n : Nat) (i : Instr × Nat) : Prop := decode jdk_68_method_6_code n = .ok i
abbrev dC10 (n : Nat) (i : Instr × Nat) : Prop := decode jdk_67_method_93_code n = .ok i
abbrev dC11 (n : Nat) (i : Instr × Nat) : Prop := decode jdk_68_method_64_code n = .ok i
abbrev dC12 (n : Nat) (i : Instr × Nat) : Prop := decode jdk_43_method_3_code n = .ok i
abbrev dC13 (n : Nat) (i : Instr × Nat) : Prop := decode jdk_43_method_4_code n = .ok i
abbrev dC14 (n : Nat) (i : Instr × Nat) : Prop := decode jdk_48_method_27_code n = .ok i
abbrev dC15 (n : Nat) (i : Instr × Nat) : Prop := decode jdk_68_method_10_code n = .ok i
abbrev dC16 (n : Nat) (i : Instr × Nat) : Prop := decode jdk_65_method_121_code n = .ok i
abbrev dC17 (n : Nat) (i : Instr × Nat) : Prop := decode jdk_68_method_9_code n = .ok i
abbrev dC18 (n : Nat) (i : Instr × Nat) : Prop := decode jdk_68_method_31_code n = .ok i
abbrev dC19 (n : Nat) (i : Instr × Nat) : Prop := decode jdk_67_method_14_code n = .ok i
abbrev dC20 (n : Nat) (i : Instr × Nat) : Prop := decode jdk_65_method_131_code n = .ok i
abbrev dC21 (n : Nat) (i : Instr × Nat) : Prop := decode jdk_65_method_133_code n = .ok i
abbrev dC22 (n : Nat) (i : Instr × Nat) : Prop := decode jdk_65_method_132_code n = .ok i
abbrev dC23 (n : Nat) (i : Instr × Nat) : Prop := decode jdk_42_method_150_code n = .ok i
abbrev dC24 (n : Nat) (i : Instr × Nat) : Prop := decode jdk_42_method_53_code n = .ok i
abbrev dC25 (n : Nat) (i : Instr × Nat) : Prop := decode jdk_67_method_42_code n = .ok i
abbrev dC26 (n : Nat) (i : Instr × Nat) : Prop := decode jdk_42_method_152_code n = .ok i
abbrev dC27 (n : Nat) (i : Instr × Nat) : Prop := decode jdk_42_method_154_code n = .ok i
abbrev dC28 (n : Nat) (i : Instr × Nat) : Prop := decode jdk_42_method_54_code n = .ok i
abbrev dC29 (n : Nat) (i : Instr × Nat) : Prop := decode jdk_41_method_11_code n = .ok i
abbrev dC30 (n : Nat) (i : Instr × Nat) : Prop := decode jdk_42_method_155_code n = .ok i
abbrev dC31 (n : Nat) (i : Instr × Nat) : Prop := decode jdk_43_method_2_code n = .ok i
abbrev dC32 (n : Nat) (i : Instr × Nat) : Prop := decode jdk_42_method_56_code n = .ok i
abbrev dC33 (n : Nat) (i : Instr × Nat) : Prop := decode jdk_43_method_27_code n = .ok i
abbrev dC34 (n : Nat) (i : Instr × Nat) : Prop := decode jdk_42_method_83_code n = .ok i
abbrev dC35 (n : Nat) (i : Instr × Nat) : Prop := decode jdk_42_method_82_code n = .ok i
abbrev dC36 (n : Nat) (i : Instr × Nat) : Prop := decode jdk_65_method_123_code n = .ok i
abbrev dC37 (n : Nat) (i : Instr × Nat) : Prop := decode prog_12_method_3_code n = .ok i
abbrev dC38 (n : Nat) (i : Instr × Nat) : Prop := decode prog_12_method_2_code n = .ok i
abbrev dC39 (n : Nat) (i : Instr × Nat) : Prop := decode method_2_code n = .ok i
abbrev dC40 (n : Nat) (i : Instr × Nat) : Prop := decode method_3_code n = .ok i
abbrev gG {tb : Tables} {e : Env} {below : List Frame} {Post : Outcome → State → Prop} (T : State) (m : MethodId) (pc : Nat) (L : Array Slot) (S : List Value) : Prop := Go tb e below Post (T.setTop (mkF m pc L S))
/-! Punycode as functions on numbers, and that decoding undoes encoding -/
def own_thr (k b : Nat) : Nat := max 1 (min 26 (k - b))
theorem own_thr_le (k b : Nat) : 1 ≤ own_thr k b ∧ own_thr k b ≤ 26 := by unfold own_thr; omega
/-- the digits of q -/
def own_vint (q k b : Nat) : List Nat :=
  if h : q < own_thr k b then [q] else (own_thr k b + (q - own_thr k b) % (36 - own_thr k b)) :: own_vint ((q - own_thr k b) / (36 - own_thr k b)) (k + 36) b
termination_by q
decreasing_by
  have := own_thr_le k b
  exact Nat.lt_of_le_of_lt (Nat.div_le_self _ _) (by omega)
theorem own_vint_lt {q k b : Nat} (h : q < own_thr k b) : own_vint q k b = [q] := by rw [own_vint, dif_pos h]
theorem own_vint_ge {q k b : Nat} (h : ¬ q < own_thr k b) : own_vint q k b = (own_thr k b + (q - own_thr k b) % (36 - own_thr k b)) :: own_vint ((q - own_thr k b) / (36 - own_thr k b)) (k + 36) b := by rw [own_vint, dif_neg h]
/-- one number read off the digits: the sum and what is left -/
def own_vdec : List Nat → Nat → Nat → Nat → Nat → Option (Nat × List Nat)
  | [], _, _, _, _ => none
  | d :: r, k, b, w, i => if 2147483647 < i + d * w then none else if d < own_thr k b then some (i + d * w, r) else own_vdec r (k + 36) b (w * (36 - own_thr k b)) (i + d * w)
theorem own_vround (q : Nat) : ∀ (k b w i : Nat) (t : List Nat), i + q * w ≤ 2147483647 → own_vdec (own_vint q k b ++ t) k b w i = some (i + q * w, t) := by
  induction q using Nat.strongRecOn with
  | _ q ih =>
    intro k b w i t hb
    have ht := own_thr_le k b
    by_cases h : q < own_thr k b
    · rw [own_vint_lt h]
      show (if 2147483647 < i + q * w then none else if q < own_thr k b then some (i + q * w, t) else _) = _
      rw [if_neg (by omega), if_pos h]
    · rw [own_vint_ge h]
      generalize hT : own_thr k b = T at *
      have hq : T + (q - T) = q := by omega
      have hd := Nat.div_add_mod (q - T) (36 - T)
      generalize hD : (q - T) / (36 - T) = D at *
      generalize hM : (q - T) % (36 - T) = M at *
      have e : (T + M) * w + D * (w * (36 - T)) = q * w := by
        have : q = T + M + (36 - T) * D := by omega
        rw [this, Nat.add_mul (T + M), Nat.mul_comm (36 - T) D, Nat.mul_assoc D, Nat.mul_comm (36 - T) w]
      have hDl : D < q := by
        rw [← hD]; exact Nat.lt_of_le_of_lt (Nat.div_le_self _ _) (by omega)
      show (if 2147483647 < i + (T + M) * w then none else if T + M < own_thr k b then some (i + (T + M) * w, _) else own_vdec (own_vint D (k + 36) b ++ t) (k + 36) b (w * (36 - own_thr k b)) (i + (T + M) * w)) = _
      rw [hT, if_neg (by omega), if_neg (by omega), ih D hDl _ _ _ _ _ (by omega)]
      congr 2
      omega
def own_ad (s k : Nat) : Nat := if h : 455 < s then own_ad (s / 35) (k + 36) else k + 36 * s / (s + 38)
termination_by s
decreasing_by exact Nat.div_lt_self (by omega) (by decide)
def own_adapt (delta points : Nat) (first : Bool) : Nat :=
  let s := if first then delta / 700 else delta / 2
  own_ad (s + s / points) 0
/-- the encoder's inner loop: delta, bias, handled, digits -/
def own_inner (m basic : Nat) : List Nat → Nat → Nat → Nat → List Nat → Nat × Nat × Nat × List Nat
  | [], dl, b, h, o => (dl, b, h, o)
  | c :: r, dl, b, h, o => if c < m then own_inner m basic r (dl + 1) b h o else if c = m then own_inner m basic r 0 (own_adapt dl (h + 1) (h == basic)) (h + 1) (o ++ own_vint dl 36 b) else own_inner m basic r dl b h o
def own_nxt (n : Nat) : List Nat → Nat → Nat
  | [], x => x
  | c :: r, x => own_nxt n r (if n ≤ c then min x c else x)
/-- the encoder's outer loop: the digits -/
def own_outer (cs : List Nat) (basic : Nat) : Nat → Nat → Nat → Nat → Nat → List Nat → List Nat
  | 0, _, _, _, _, o => o
  | f + 1, n, dl, b, h, o =>
    if h < cs.length then
      let m := own_nxt n cs 2147483647
      let s := own_inner m basic cs (dl + (m - n) * (h + 1)) b h o
      own_outer cs basic f (m + 1) (s.1 + 1) s.2.1 s.2.2.1 s.2.2.2
    else o
/-- the decoder's loop over the digits -/
def own_dloop : Nat → List Nat → Nat → Nat → Nat → List Nat → Option (List Nat)
  | 0, _, _, _, _, _ => none
  | f + 1, t, n, i, b, o =>
    if t = [] then some o else
    match own_vdec t 36 b 1 i with
    | none => none
    | some (i', t') =>
      let z := o.length + 1
      if 1114111 < n + i' / z then none else
      own_dloop f t' (n + i' / z) (i' % z + 1) (own_adapt (i' - i) z (i == 0)) (o.take (i' % z) ++ (n + i' / z) :: o.drop (i' % z))
theorem own_vint_ne (q k b : Nat) : own_vint q k b ≠ [] := by
  by_cases h : q < own_thr k b
  · rw [own_vint_lt h]; simp
  · rw [own_vint_ge h]; simp
theorem own_dstep {f n i b : Nat} {t t' o : List Nat} {i' : Nat} (ht : t ≠ []) (hv : own_vdec t 36 b 1 i = some (i', t')) (hn : n + i' / (o.length + 1) ≤ 1114111) : own_dloop (f + 1) t n i b o = own_dloop f t' (n + i' / (o.length + 1)) (i' % (o.length + 1) + 1) (own_adapt (i' - i) (o.length + 1) (i == 0)) (o.take (i' % (o.length + 1)) ++ (n + i' / (o.length + 1)) :: o.drop (i' % (o.length + 1))) := by
  show (if t = [] then some o else _) = _
  rw [if_neg ht]
  simp only [hv]
  rw [if_neg (by omega)]
theorem own_ri (m basic : Nat) (hm : m ≤ 1114111) : ∀ (suf pre : List Nat) (dl b h : Nat) (o : List Nat) (nd idx : Nat), pre.length + suf.length ≤ 500 → h = (pre.filter (fun x => decide (x ≤ m)) ++ suf.filter (fun x => decide (x < m))).length →
    dl + nd * (h + 1) + idx = m * (h + 1) + (pre.filter (fun x => decide (x ≤ m))).length → ((h == basic) = (idx == 0)) → basic ≤ h →
    ∃ E k nd' idx', (own_inner m basic suf dl b h o).2.2.2 = o ++ E ∧ (own_inner m basic suf dl b h o).2.2.1 = ((pre ++ suf).filter (fun x => decide (x ≤ m))).length ∧
      (own_inner m basic suf dl b h o).1 + nd' * ((own_inner m basic suf dl b h o).2.2.1 + 1) + idx' = m * ((own_inner m basic suf dl b h o).2.2.1 + 1) + (own_inner m basic suf dl b h o).2.2.1 ∧
      (((own_inner m basic suf dl b h o).2.2.1 == basic) = (idx' == 0)) ∧ basic ≤ (own_inner m basic suf dl b h o).2.2.1 ∧
      ∀ f t, own_dloop (f + k) (E ++ t) nd idx b (pre.filter (fun x => decide (x ≤ m)) ++ suf.filter (fun x => decide (x < m))) = own_dloop f t nd' idx' (own_inner m basic suf dl b h o).2.1 ((pre ++ suf).filter (fun x => decide (x ≤ m))) := by
  intro suf
  induction suf with
  | nil =>
    intro pre dl b h o nd idx hl hh he hf hb
    simp only [List.filter_nil, List.append_nil] at hh he ⊢
    refine ⟨[], 0, nd, idx, by simp [own_inner], hh, ?_, hf, hb, fun f t => by simp [own_inner]⟩
    show dl + nd * (h + 1) + idx = m * (h + 1) + h
    omega
  | cons c r ih =>
    intro pre dl b h o nd idx hl hh he hf hb
    have hl' : (pre ++ [c]).length + r.length ≤ 500 := by simp only [List.length_append, List.length_cons, List.length_nil] at hl ⊢; omega
    have hcat : pre ++ c :: r = (pre ++ [c]) ++ r := by simp
    by_cases h1 : c < m
    · have e1 : own_inner m basic (c :: r) dl b h o = own_inner m basic r (dl + 1) b h o := by rw [own_inner, if_pos h1]
      have f1 : (c :: r).filter (fun x => decide (x < m)) = c :: r.filter (fun x => decide (x < m)) := by rw [List.filter_cons_of_pos (by simpa using h1)]
      have f2 : (pre ++ [c]).filter (fun x => decide (x ≤ m)) = pre.filter (fun x => decide (x ≤ m)) ++ [c] := by rw [List.filter_append, List.filter_cons_of_pos (by simp; omega), List.filter_nil]
      have f3 : pre.filter (fun x => decide (x ≤ m)) ++ (c :: r).filter (fun x => decide (x < m)) = (pre ++ [c]).filter (fun x => decide (x ≤ m)) ++ r.filter (fun x => decide (x < m)) := by rw [f1, f2]; simp
      rw [f3] at hh ⊢
      rw [e1, hcat]
      exact ih (pre ++ [c]) (dl + 1) b h o nd idx hl' hh (by rw [f2, List.length_append, List.length_singleton]; omega) hf hb
    · have f1 : (c :: r).filter (fun x => decide (x < m)) = r.filter (fun x => decide (x < m)) := by rw [List.filter_cons_of_neg (by simpa using h1)]
      by_cases h2 : c = m
      · subst h2
        have f2 : (pre ++ [c]).filter (fun x => decide (x ≤ c)) = pre.filter (fun x => decide (x ≤ c)) ++ [c] := by rw [List.filter_append, List.filter_cons_of_pos (by simp), List.filter_nil]
        rw [f1] at hh ⊢
        generalize hP : pre.filter (fun x => decide (x ≤ c)) = P at *
        generalize hS : r.filter (fun x => decide (x < c)) = S at *
        have e1 : own_inner c basic (c :: r) dl b h o = own_inner c basic r 0 (own_adapt dl (h + 1) (h == basic)) (h + 1) (o ++ own_vint dl 36 b) := by rw [own_inner, if_neg (by omega), if_pos rfl]
        have hlen : P.length ≤ h := by rw [hh, List.length_append]; omega
        have hP2 : P.length ≤ 500 := by
          have := List.length_filter_le (fun x => decide (x ≤ c)) pre
          rw [hP] at this; simp only [List.length_cons] at hl; omega
        have hS2 : S.length ≤ 500 := by
          have := List.length_filter_le (fun x => decide (x < c)) r
          rw [hS] at this; simp only [List.length_cons] at hl; omega
        have hh2 : h ≤ 1000 := by rw [hh, List.length_append]; omega
        have hbig : c * (h + 1) ≤ 1114111 * 1001 := Nat.mul_le_mul hm (by omega)
        have hbnd : idx + dl * 1 ≤ 2147483647 := by omega
        have hsum : idx + dl * 1 + nd * (h + 1) = c * (h + 1) + P.length := by omega
        have hdiv : nd + (idx + dl * 1) / (h + 1) = c := by
          have := Nat.add_mul_div_right (idx + dl * 1) nd (show 0 < h + 1 by omega)
          rw [hsum, Nat.add_comm (c * (h + 1)), Nat.add_mul_div_right _ _ (show 0 < h + 1 by omega), Nat.div_eq_of_lt (by omega)] at this
          omega
        have hmod : (idx + dl * 1) % (h + 1) = P.length := by
          have := Nat.add_mul_mod_self_right (idx + dl * 1) nd (h + 1)
          rw [hsum, Nat.add_comm (c * (h + 1)), Nat.add_mul_mod_self_right, Nat.mod_eq_of_lt (by omega)] at this
          omega
        obtain ⟨E, k, nd', idx', a1, a2, a3, a4, a5, a6⟩ := ih (pre ++ [c]) 0 (own_adapt dl (h + 1) (h == basic)) (h + 1) (o ++ own_vint dl 36 b) c (P.length + 1) hl' (by rw [f2, List.length_append, List.length_append, List.length_singleton, hh, List.length_append]; omega)
          (by rw [f2, List.length_append, List.length_singleton]; omega) (by
            have q1 : (h + 1 == basic) = false := by simp; omega
            rw [q1]; simp) (by omega)
        rw [e1, hcat]
        refine ⟨own_vint dl 36 b ++ E, k + 1, nd', idx', by rw [a1, List.append_assoc], a2, a3, a4, a5, fun f t => ?_⟩
        rw [show f + (k + 1) = (f + k) + 1 by omega, List.append_assoc]
        have hlo : (P ++ S).length = h := hh.symm
        rw [own_dstep (i' := idx + dl * 1) (t' := E ++ t) (by simp [own_vint_ne]) (own_vround dl 36 b 1 idx (E ++ t) hbnd) (by rw [hlo, hdiv]; exact hm)]
        rw [hlo, hdiv, hmod, show idx + dl * 1 - idx = dl by omega, ← hf, ← a6 f t, f2]
        congr 1
        rw [List.take_left' rfl, List.drop_left' rfl]; simp
      · have e1 : own_inner m basic (c :: r) dl b h o = own_inner m basic r dl b h o := by rw [own_inner, if_neg h1, if_neg h2]
        have f2 : (pre ++ [c]).filter (fun x => decide (x ≤ m)) = pre.filter (fun x => decide (x ≤ m)) := by rw [List.filter_append, List.filter_cons_of_neg (by simp; omega), List.filter_nil, List.append_nil]
        rw [f1] at hh ⊢
        have q := ih (pre ++ [c]) dl b h o nd idx hl' (by rw [f2]; exact hh) (by rw [f2]; exact he) hf hb
        rw [f2] at q
        rw [e1, hcat]
        exact q
theorem own_nxt_spec (n : Nat) : ∀ (cs : List Nat) (x : Nat), own_nxt n cs x ≤ x ∧ (∀ c ∈ cs, n ≤ c → own_nxt n cs x ≤ c) ∧ (own_nxt n cs x = x ∨ (own_nxt n cs x ∈ cs ∧ n ≤ own_nxt n cs x)) := by
  intro cs
  induction cs with
  | nil => intro x; exact ⟨Nat.le_refl _, fun c hc => (by cases hc), Or.inl rfl⟩
  | cons c r ih =>
    intro x
    have q := ih (if n ≤ c then min x c else x)
    have e : own_nxt n (c :: r) x = own_nxt n r (if n ≤ c then min x c else x) := rfl
    rw [e]
    obtain ⟨q1, q2, q3⟩ := q
    refine ⟨Nat.le_trans q1 (by split <;> omega), ?_, ?_⟩
    · intro d hd hn
      rcases List.mem_cons.mp hd with rfl | hd
      · rw [if_pos hn] at q1 ⊢; omega
      · exact q2 d hd hn
    · rcases q3 with q3 | ⟨q3, q4⟩
      · by_cases hc : n ≤ c
        · rw [if_pos hc] at q3 ⊢
          by_cases hx : x ≤ c
          · left; omega
          · right; rw [q3, Nat.min_eq_right (by omega)]; exact ⟨List.mem_cons_self, hc⟩
        · rw [if_neg hc] at q3 ⊢; exact Or.inl q3
      · exact Or.inr ⟨List.mem_cons_of_mem _ q3, q4⟩
theorem own_filter_all {cs : List Nat} {p : Nat → Bool} (h : (cs.filter p).length = cs.length) : cs.filter p = cs := by
  induction cs with
  | nil => rfl
  | cons c r ih =>
    by_cases q : p c = true
    · rw [List.filter_cons_of_pos q] at h ⊢
      simp only [List.length_cons] at h
      rw [ih (by omega)]
    · rw [List.filter_cons_of_neg q] at h
      have := List.length_filter_le p r
      simp only [List.length_cons] at h
      omega
theorem own_ro (cs : List Nat) (basic : Nat) (hcs : ∀ c ∈ cs, c ≤ 1114111) (hl : cs.length ≤ 500) : ∀ (fuel n dl b h : Nat) (o : List Nat) (nd idx : Nat), h = (cs.filter (fun x => decide (x < n))).length → dl + nd * (h + 1) + idx = n * (h + 1) → ((h == basic) = (idx == 0)) → basic ≤ h → cs.length < h + fuel →
    ∃ E k, own_outer cs basic fuel n dl b h o = o ++ E ∧ ∀ f, own_dloop (f + k + 1) E nd idx b (cs.filter (fun x => decide (x < n))) = some cs := by
  intro fuel
  induction fuel with
  | zero =>
    intro n dl b h o nd idx hh he hf hb hfu
    have := List.length_filter_le (fun x => decide (x < n)) cs
    omega
  | succ fuel ih =>
    intro n dl b h o nd idx hh he hf hb hfu
    by_cases hlt : h < cs.length
    · obtain ⟨m1, m2, m3⟩ := own_nxt_spec n cs 2147483647
      generalize hM : own_nxt n cs 2147483647 = m at *
      -- there is one that is not yet handled
      have hex : ∃ c ∈ cs, n ≤ c := by
        apply Classical.byContradiction
        intro hno
        have : cs.filter (fun x => decide (x < n)) = cs := List.filter_eq_self.mpr fun c hc => by
          have : ¬ n ≤ c := fun q => hno ⟨c, hc, q⟩
          simp; omega
        rw [this] at hh
        omega
      obtain ⟨c, hc, hnc⟩ := hex
      have hmc := m2 c hc hnc
      have hm : m ≤ 1114111 := Nat.le_trans hmc (hcs c hc)
      have hmem : m ∈ cs ∧ n ≤ m := by
        rcases m3 with q | q
        · omega
        · exact q
      have ff : cs.filter (fun x => decide (x < m)) = cs.filter (fun x => decide (x < n)) := List.filter_congr fun d hd => by
        by_cases q : n ≤ d
        · have := m2 d hd q
          have a1 : decide (d < m) = false := by simp; omega
          have a2 : decide (d < n) = false := by simp; omega
          rw [a1, a2]
        · have a1 : decide (d < m) = true := by simp; omega
          have a2 : decide (d < n) = true := by simp; omega
          rw [a1, a2]
      have key : dl + (m - n) * (h + 1) + nd * (h + 1) + idx = m * (h + 1) := by
        have : (m - n) * (h + 1) + n * (h + 1) = m * (h + 1) := by rw [← Nat.add_mul, Nat.sub_add_cancel hmem.2]
        omega
      obtain ⟨E, k, nd', idx', a1, a2, a3, a4, a5, a6⟩ := own_ri m basic hm cs [] (dl + (m - n) * (h + 1)) b h o nd idx (by simpa using hl) (by simpa [ff] using hh) (by simpa using key) hf hb
      simp only [List.nil_append, List.filter_nil] at a2 a6
      have f1 : cs.filter (fun x => decide (x ≤ m)) = cs.filter (fun x => decide (x < m + 1)) := List.filter_congr fun d _ => by simp [Nat.lt_succ_iff]
      have hgrow : h < (cs.filter (fun x => decide (x ≤ m))).length := by
        have hle : (cs.filter (fun x => decide (x < m))).length < (cs.filter (fun x => decide (x ≤ m))).length := by
          obtain ⟨u, v, huv⟩ := List.append_of_mem hmem.1
          have hs : ∀ l : List Nat, (l.filter (fun x => decide (x < m))).length ≤ (l.filter (fun x => decide (x ≤ m))).length := fun l => by
            induction l with
            | nil => exact Nat.le_refl _
            | cons d r ihd =>
              by_cases q : d < m
              · rw [List.filter_cons_of_pos (by simpa using q), List.filter_cons_of_pos (by simp; omega)]
                simp only [List.length_cons]; omega
              · rw [List.filter_cons_of_neg (by simpa using q)]
                by_cases q2 : d ≤ m
                · rw [List.filter_cons_of_pos (by simpa using q2)]; simp only [List.length_cons]; omega
                · rw [List.filter_cons_of_neg (by simpa using q2)]; exact ihd
          rw [huv, List.filter_append, List.filter_append, List.filter_cons_of_neg (by simp), List.filter_cons_of_pos (by simp), List.length_append, List.length_append, List.length_cons]
          have := hs u
          have := hs v
          omega
        rw [ff, ← hh] at hle
        exact hle
      generalize hI : own_inner m basic cs (dl + (m - n) * (h + 1)) b h o = I at *
      obtain ⟨E2, k2, c1, c2⟩ := ih (m + 1) (I.1 + 1) I.2.1 I.2.2.1 I.2.2.2 nd' idx' (by rw [a2, f1]) (by rw [Nat.add_mul m 1]; omega) a4 a5 (by rw [a2]; omega)
      refine ⟨E ++ E2, k2 + k, ?_, fun f => ?_⟩
      · show (if h < cs.length then _ else o) = _
        rw [if_pos hlt]
        simp only [hM, hI]
        rw [c1, a1, List.append_assoc]
      · rw [show f + (k2 + k) + 1 = (f + k2 + 1) + k by omega, ← ff, a6 (f + k2 + 1) E2, f1, c2 f]
    · have hlen : (cs.filter (fun x => decide (x < n))).length = cs.length := by
        have := List.length_filter_le (fun x => decide (x < n)) cs
        omega
      refine ⟨[], 0, ?_, fun f => ?_⟩
      · show (if h < cs.length then _ else o) = _
        rw [if_neg hlt, List.append_nil]
      · show (if ([] : List Nat) = [] then some _ else _) = _
        rw [if_pos rfl, own_filter_all hlen]
theorem own_vint_36 (q : Nat) : ∀ (k b : Nat), ∀ d ∈ own_vint q k b, d < 36 := by
  induction q using Nat.strongRecOn with
  | _ q ih =>
    intro k b d hd
    have ht := own_thr_le k b
    by_cases h : q < own_thr k b
    · rw [own_vint_lt h] at hd
      have := List.mem_singleton.mp hd
      omega
    · rw [own_vint_ge h] at hd
      rcases List.mem_cons.mp hd with hd | hd
      · have := Nat.mod_lt (q - own_thr k b) (show 0 < 36 - own_thr k b by omega)
        omega
      · exact ih _ (Nat.lt_of_le_of_lt (Nat.div_le_self _ _) (by omega)) _ _ d hd
theorem own_inner_36 (m basic : Nat) : ∀ (cs : List Nat) (dl b h : Nat) (o : List Nat), (∀ d ∈ o, d < 36) → ∀ d ∈ (own_inner m basic cs dl b h o).2.2.2, d < 36 := by
  intro cs
  induction cs with
  | nil => intro dl b h o ho d hd; exact ho d hd
  | cons c r ih =>
    intro dl b h o ho d hd
    rw [own_inner] at hd
    split at hd
    · exact ih _ _ _ _ ho d hd
    · split at hd
      · exact ih _ _ _ _ (fun x hx => (List.mem_append.mp hx).elim (ho x) (own_vint_36 dl 36 b x)) d hd
      · exact ih _ _ _ _ ho d hd
theorem own_outer_36 (cs : List Nat) (basic : Nat) : ∀ (f n dl b h : Nat) (o : List Nat), (∀ d ∈ o, d < 36) → ∀ d ∈ own_outer cs basic f n dl b h o, d < 36 := by
  intro f
  induction f with
  | zero => intro n dl b h o ho d hd; exact ho d hd
  | succ f ih =>
    intro n dl b h o ho d hd
    rw [own_outer] at hd
    split at hd
    · exact ih _ _ _ _ _ (own_inner_36 _ _ _ _ _ _ _ ho) d hd
    · exact ho d hd
def own_dch (d : Nat) : Nat := if d < 26 then 97 + d else 22 + d
def own_dig (c : Nat) : Option Nat := if 48 ≤ c ∧ c ≤ 57 then some (c - 48 + 26) else if 97 ≤ c ∧ c ≤ 122 then some (c - 97) else if 65 ≤ c ∧ c ≤ 90 then some (c - 65) else none
theorem own_dig_dch {d : Nat} (h : d < 36) : own_dig (own_dch d) = some d := by
  unfold own_dch own_dig
  split
  · rw [if_neg (by omega), if_pos (by omega)]; congr 1; omega
  · rw [if_pos (by omega)]; congr 1; omega
/-! numbers as ints and longs -/
def own_i (n : Nat) : Int32 := Int32.ofNat n
def own_j (n : Nat) : Int64 := Int64.ofNat n
theorem own_iT {n : Nat} (h : n < 2147483648) : (own_i n).toInt = n := Int32.toInt_ofNat_of_lt h
theorem own_jT {n : Nat} (h : n < 9223372036854775808) : (own_j n).toInt = n := Int64.toInt_ofNat_of_lt h
theorem own_iN {n : Nat} (h : n < 2147483648) : (own_i n).toNatClampNeg = n := by
  simp only [Int32.toNatClampNeg, own_iT h]; rfl
theorem own_il {a b : Nat} (ha : a < 2147483648) (hb : b < 2147483648) : own_i a < own_i b ↔ a < b := by
  rw [Int32.lt_iff_toInt_lt, own_iT ha, own_iT hb]; omega
theorem own_ie {a b : Nat} (ha : a < 2147483648) (hb : b < 2147483648) : own_i a = own_i b ↔ a = b := by
  rw [← Int32.toInt_inj, own_iT ha, own_iT hb]; omega
theorem own_jl {a b : Nat} (ha : a < 9223372036854775808) (hb : b < 9223372036854775808) : own_j a < own_j b ↔ a < b := by
  rw [Int64.lt_iff_toInt_lt, own_jT ha, own_jT hb]; omega
theorem own_je {a b : Nat} (ha : a < 9223372036854775808) (hb : b < 9223372036854775808) : own_j a = own_j b ↔ a = b := by
  rw [← Int64.toInt_inj, own_jT ha, own_jT hb]; omega
theorem own_ia (a b : Nat) : own_i a + own_i b = own_i (a + b) := (Int32.ofNat_add a b).symm
theorem own_ja (a b : Nat) : own_j a + own_j b = own_j (a + b) := (Int64.ofNat_add a b).symm
theorem own_jm (a b : Nat) : own_j a * own_j b = own_j (a * b) := (Int64.ofNat_mul a b).symm
theorem own_is {a b : Nat} (h : b ≤ a) : own_i a - own_i b = own_i (a - b) := by
  have q := own_ia (a - b) b
  rw [Nat.sub_add_cancel h] at q
  rw [← q, Int32.add_sub_cancel]
theorem own_js {a b : Nat} (h : b ≤ a) : own_j a - own_j b = own_j (a - b) := by
  have q := own_ja (a - b) b
  rw [Nat.sub_add_cancel h] at q
  rw [← q, Int64.add_sub_cancel]
theorem own_jd {a b : Nat} (ha : a < 9223372036854775808) (hb : b < 9223372036854775808) : own_j a / own_j b = own_j (a / b) := by
  apply Int64.toInt_inj.mp
  rw [Int64.toInt_div_of_ne_left _ _ (by
    intro q
    have q2 := congrArg Int64.toInt q
    rw [own_jT ha] at q2
    have : (Int64.minValue).toInt = -9223372036854775808 := by decide
    omega), own_jT ha, own_jT hb, own_jT (Nat.lt_of_le_of_lt (Nat.div_le_self _ _) ha), Int.ofNat_tdiv]
theorem own_jr {a b : Nat} (ha : a < 9223372036854775808) (hb : b < 9223372036854775808) : own_j a - own_j a / own_j b * own_j b = own_j (a % b) := by
  rw [own_jd ha hb, own_jm]
  have h := Nat.div_add_mod a b
  rw [own_js (by rw [Nat.mul_comm]; exact Nat.mul_div_le a b)]
  congr 1
  rw [Nat.mul_comm] at h
  omega
theorem own_ij {a : Nat} (h : a < 2147483648) : (own_i a).toInt64 = own_j a := by
  apply Int64.toInt_inj.mp
  rw [Int32.toInt_toInt64, own_iT h, own_jT (by omega)]
theorem own_ji {a : Nat} (h : a < 2147483648) : (own_j a).toInt32 = own_i a := by
  apply Int32.toInt_inj.mp
  rw [Int64.toInt_toInt32, own_jT (by omega), own_iT h]
  exact Int.bmod_eq_of_le (by omega) (by omega)
theorem own_vint_len : ∀ (j q k b : Nat), q < 10 ^ j → (own_vint q k b).length ≤ j + 1 := by
  intro j
  induction j with
  | zero =>
    intro q k b h
    have ht := own_thr_le k b
    rw [own_vint_lt (by simp at h; omega)]; exact Nat.le_refl _
  | succ j ih =>
    intro q k b h
    have ht := own_thr_le k b
    by_cases hq : q < own_thr k b
    · rw [own_vint_lt hq]; simp
    · rw [own_vint_ge hq, List.length_cons]
      have q1 : (q - own_thr k b) / (36 - own_thr k b) < 10 ^ j := by
        apply Nat.div_lt_of_lt_mul
        have : 10 ^ j * 10 ≤ (36 - own_thr k b) * 10 ^ j := by rw [Nat.mul_comm]; exact Nat.mul_le_mul_right _ (by omega)
        rw [Nat.pow_succ] at h
        omega
      have := ih _ (k + 36) b q1
      omega
theorem own_inner_lt {m bn c dl b h : Nat} {r o : List Nat} (q : c < m) : own_inner m bn (c :: r) dl b h o = own_inner m bn r (dl + 1) b h o := by rw [own_inner, if_pos q]
theorem own_inner_eq {m bn c dl b h : Nat} {r o : List Nat} (q : c = m) : own_inner m bn (c :: r) dl b h o = own_inner m bn r 0 (own_adapt dl (h + 1) (h == bn)) (h + 1) (o ++ own_vint dl 36 b) := by rw [own_inner, if_neg (by omega), if_pos q]
theorem own_inner_gt {m bn c dl b h : Nat} {r o : List Nat} (q : ¬ c < m) (q2 : ¬ c = m) : own_inner m bn (c :: r) dl b h o = own_inner m bn r dl b h o := by rw [own_inner, if_neg q, if_neg q2]
theorem own_inner_len (m bn : Nat) : ∀ (r : List Nat) (dl b h : Nat) (o : List Nat), o.length ≤ (own_inner m bn r dl b h o).2.2.2.length ∧ (own_inner m bn r dl b h o).1 ≤ dl + r.length ∧ (own_inner m bn r dl b h o).2.2.1 = h + (r.filter (fun x => decide (x = m))).length := by
  intro r
  induction r with
  | nil => intro dl b h o; exact ⟨Nat.le_refl _, Nat.le_refl _, rfl⟩
  | cons c r ih =>
    intro dl b h o
    rw [List.length_cons]
    by_cases h1 : c < m
    · rw [own_inner_lt h1, List.filter_cons_of_neg (by simp; omega)]
      obtain ⟨a1, a2, a3⟩ := ih (dl + 1) b h o
      exact ⟨a1, by omega, a3⟩
    · by_cases h2 : c = m
      · rw [own_inner_eq h2, List.filter_cons_of_pos (by simpa using h2), List.length_cons]
        obtain ⟨a1, a2, a3⟩ := ih 0 (own_adapt dl (h + 1) (h == bn)) (h + 1) (o ++ own_vint dl 36 b)
        rw [List.length_append] at a1
        exact ⟨by omega, by omega, by omega⟩
      · rw [own_inner_gt h1 h2, List.filter_cons_of_neg (by simpa using h2)]
        obtain ⟨a1, a2, a3⟩ := ih dl b h o
        exact ⟨a1, by omega, a3⟩
theorem own_inner_len8 (m bn : Nat) : ∀ (r : List Nat) (dl b h : Nat) (o : List Nat), dl + r.length < 10000000 → (own_inner m bn r dl b h o).2.2.2.length ≤ o.length + 8 * (r.filter (fun x => decide (x = m))).length := by
  intro r
  induction r with
  | nil => intro dl b h o _; exact Nat.le_refl _
  | cons c r ih =>
    intro dl b h o hd
    rw [List.length_cons] at hd
    by_cases h1 : c < m
    · rw [own_inner_lt h1, List.filter_cons_of_neg (by simp; omega)]
      exact ih (dl + 1) b h o (by omega)
    · by_cases h2 : c = m
      · rw [own_inner_eq h2, List.filter_cons_of_pos (by simpa using h2), List.length_cons]
        have a := ih 0 (own_adapt dl (h + 1) (h == bn)) (h + 1) (o ++ own_vint dl 36 b) (by omega)
        have v := own_vint_len 7 dl 36 b (by omega)
        rw [List.length_append] at a
        omega
      · rw [own_inner_gt h1 h2, List.filter_cons_of_neg (by simpa using h2)]
        exact ih dl b h o (by omega)
theorem own_outer_len (cs : List Nat) (bn : Nat) : ∀ (f n dl b h : Nat) (o : List Nat), o.length ≤ (own_outer cs bn f n dl b h o).length := by
  intro f
  induction f with
  | zero => intro n dl b h o; exact Nat.le_refl _
  | succ f ih =>
    intro n dl b h o
    rw [own_outer]
    split
    · exact Nat.le_trans (own_inner_len _ _ _ _ _ _ _).1 (ih _ _ _ _ _)
    · exact Nat.le_refl _
theorem own_filter_eq (m : Nat) (cs : List Nat) : (cs.filter (fun x => decide (x < m + 1))).length = (cs.filter (fun x => decide (x < m))).length + (cs.filter (fun x => decide (x = m))).length := by
  induction cs with
  | nil => rfl
  | cons c r ih =>
    by_cases h1 : c < m
    · rw [List.filter_cons_of_pos (by simp; omega), List.filter_cons_of_pos (by simpa using h1), List.filter_cons_of_neg (by simp; omega), List.length_cons, List.length_cons]; omega
    · by_cases h2 : c = m
      · rw [List.filter_cons_of_pos (by simp; omega), List.filter_cons_of_neg (by simpa using h1), List.filter_cons_of_pos (by simpa using h2), List.length_cons, List.length_cons]; omega
      · rw [List.filter_cons_of_neg (by simp; omega), List.filter_cons_of_neg (by simpa using h1), List.filter_cons_of_neg (by simpa using h2)]; exact ih
/-- what one turn of the outer loop meets -/
theorem own_turn {cs : List Nat} {n h : Nat} (hcs : ∀ c ∈ cs, c ≤ 1114111) (hh : h = (cs.filter (fun x => decide (x < n))).length) (hlt : h < cs.length) :
    n ≤ own_nxt n cs 2147483647 ∧ own_nxt n cs 2147483647 ≤ 1114111 ∧ h + (cs.filter (fun x => decide (x = own_nxt n cs 2147483647))).length = (cs.filter (fun x => decide (x < own_nxt n cs 2147483647 + 1))).length ∧ 0 < (cs.filter (fun x => decide (x = own_nxt n cs 2147483647))).length := by
  obtain ⟨m1, m2, m3⟩ := own_nxt_spec n cs 2147483647
  generalize own_nxt n cs 2147483647 = m at *
  have hex : ∃ c ∈ cs, n ≤ c := by
    apply Classical.byContradiction
    intro hno
    have : cs.filter (fun x => decide (x < n)) = cs := List.filter_eq_self.mpr fun c hc => by
      have : ¬ n ≤ c := fun q => hno ⟨c, hc, q⟩
      simp; omega
    rw [this] at hh
    omega
  obtain ⟨c, hc, hnc⟩ := hex
  have hmc := m2 c hc hnc
  have hcb := hcs c hc
  have hmem : m ∈ cs ∧ n ≤ m := by
    rcases m3 with q | q
    · omega
    · exact q
  have ff : cs.filter (fun x => decide (x < m)) = cs.filter (fun x => decide (x < n)) := List.filter_congr fun d hd => by
    by_cases q : n ≤ d
    · have := m2 d hd q
      have a1 : decide (d < m) = false := by simp; omega
      have a2 : decide (d < n) = false := by simp; omega
      rw [a1, a2]
    · have a1 : decide (d < m) = true := by simp; omega
      have a2 : decide (d < n) = true := by simp; omega
      rw [a1, a2]
  refine ⟨hmem.2, by omega, ?_, ?_⟩
  · rw [own_filter_eq, ff, ← hh]
  · apply List.length_pos_of_mem (a := m)
    rw [List.mem_filter]; exact ⟨hmem.1, by simp⟩
theorem own_outer_len8 (cs : List Nat) (bn : Nat) (hcs : ∀ c ∈ cs, c ≤ 1114111) (hl : cs.length ≤ 4) : ∀ (f n dl b h : Nat) (o : List Nat), h = (cs.filter (fun x => decide (x < n))).length → dl ≤ 5 * n → n ≤ 1114112 → (own_outer cs bn f n dl b h o).length ≤ o.length + 8 * (cs.length - h) := by
  intro f
  induction f with
  | zero => intro n dl b h o _ _ _; rw [own_outer]; omega
  | succ f ih =>
    intro n dl b h o hh hd hn
    rw [own_outer]
    split
    · rename_i hlt
      obtain ⟨t1, t2, t3, t4⟩ := own_turn hcs hh hlt
      generalize own_nxt n cs 2147483647 = m at *
      have hm5 : (m - n) * (h + 1) ≤ (m - n) * 4 := Nat.mul_le_mul_left _ (by omega)
      have i1 := own_inner_len m bn cs (dl + (m - n) * (h + 1)) b h o
      have i8 := own_inner_len8 m bn cs (dl + (m - n) * (h + 1)) b h o (by omega)
      simp only
      generalize own_inner m bn cs (dl + (m - n) * (h + 1)) b h o = I at *
      have hle := List.length_filter_le (fun x => decide (x < m + 1)) cs
      have := ih (m + 1) (I.1 + 1) I.2.1 I.2.2.1 I.2.2.2 (by omega) (by omega) (by omega)
      omega
    · omega
def own_bas (cs : List Nat) : List Nat := cs.filter (fun x => decide (x < 128))
def own_B (cs : List Nat) : List Nat := own_bas cs ++ (if (own_bas cs).length = 0 then [] else [45])
def own_ds (cs : List Nat) : List Nat := own_outer cs (own_bas cs).length (cs.length + 1) 128 0 72 (own_bas cs).length []
def own_txt (cs : List Nat) : List Nat := own_B cs ++ (own_ds cs).map own_dch
theorem own_ds_len {cs : List Nat} (hcs : ∀ c ∈ cs, c ≤ 1114111) (hl : cs.length ≤ 4) : (own_B cs).length + (own_ds cs).length ≤ 33 ∧ (own_bas cs).length ≤ cs.length ∧ (own_bas cs).length ≤ (own_B cs).length ∧ (own_B cs).length ≤ 5 := by
  have h1 := own_outer_len8 cs (own_bas cs).length hcs hl (cs.length + 1) 128 0 72 (own_bas cs).length [] rfl (by omega) (by omega)
  have h2 : (own_bas cs).length ≤ cs.length := List.length_filter_le _ _
  have h3 : (own_B cs).length ≤ (own_bas cs).length + 1 := by
    unfold own_B
    rw [List.length_append]
    split
    · simp
    · simp
  have h4 : (own_bas cs).length ≤ (own_B cs).length := by
    unfold own_B
    rw [List.length_append]; omega
  simp only [List.length_nil] at h1
  unfold own_ds
  omega
theorem own_dec {cs : List Nat} (hcs : ∀ c ∈ cs, c ≤ 1114111) (hl : cs.length ≤ 4) : ∃ f, own_dloop f (own_ds cs) 128 0 72 (own_bas cs) = some cs := by
  obtain ⟨E, k, h1, h2⟩ := own_ro cs (own_bas cs).length hcs (by omega) (cs.length + 1) 128 0 72 (own_bas cs).length [] 128 0 rfl (by omega) (by simp) (Nat.le_refl _) (by
    omega)
  refine ⟨0 + k + 1, ?_⟩
  have := h2 0
  unfold own_ds
  rw [h1, List.nil_append]
  exact this
theorem own_ds_36 (cs : List Nat) : ∀ d ∈ own_ds cs, d < 36 := own_outer_36 _ _ _ _ _ _ _ _ (fun d hd => by cases hd)
theorem own_dch_lt {d : Nat} (h : d < 36) : own_dch d < 128 ∧ own_dch d ≠ 45 := by
  unfold own_dch; split <;> omega
theorem own_txt_lt (cs : List Nat) : ∀ c ∈ own_txt cs, c < 128 := by
  intro c hc
  unfold own_txt own_B own_bas at hc
  rw [List.mem_append, List.mem_append] at hc
  rcases hc with (hc | hc) | hc
  · have := (List.mem_filter.mp hc).2; simpa using this
  · split at hc
    · cases hc
    · have := List.mem_singleton.mp hc; omega
  · obtain ⟨d, hd, rfl⟩ := List.mem_map.mp hc
    exact (own_dch_lt (own_ds_36 cs d hd)).1
theorem own_ad_le (s : Nat) : ∀ k, own_ad s k ≤ k + 36 * s + 36 := by
  induction s using Nat.strongRecOn with
  | _ s ih =>
    intro k
    rw [own_ad]
    split
    · have := ih (s / 35) (Nat.div_lt_self (by omega) (by decide)) (k + 36)
      omega
    · have : 36 * s / (s + 38) ≤ 36 * s := Nat.div_le_self _ _
      omega
theorem own_adapt_le {dl p : Nat} (fi : Bool) (h : dl ≤ 20000000) (hp : 0 < p) : own_adapt dl p fi ≤ 1000000000 := by
  unfold own_adapt
  have h1 : (if fi = true then dl / 700 else dl / 2) ≤ dl / 2 := by split <;> omega
  generalize (if fi = true then dl / 700 else dl / 2) = s at *
  have h2 : s / p ≤ s := Nat.div_le_self _ _
  have := own_ad_le (s + s / p) 0
  simp only
  omega
/-- the last place of the dash below i -/
def own_lg (t : List Nat) : Nat → Int32
  | 0 => -1
  | i + 1 => if t.getD i 0 = 45 then own_i i else own_lg t i
theorem own_lg_none (t : List Nat) : ∀ i, (∀ j, j < i → t.getD j 0 ≠ 45) → own_lg t i = -1 := by
  intro i
  induction i with
  | zero => intro _; rfl
  | succ i ih => intro h; rw [own_lg, if_neg (h i (by omega))]; exact ih fun j hj => h j (by omega)
theorem own_lg_some (t : List Nat) (p : Nat) (hp : t.getD p 0 = 45) : ∀ i, p < i → (∀ j, p < j → j < i → t.getD j 0 ≠ 45) → own_lg t i = own_i p := by
  intro i
  induction i with
  | zero => intro h; omega
  | succ i ih =>
    intro h1 h2
    by_cases q : i = p
    · subst q; rw [own_lg, if_pos hp]
    · rw [own_lg, if_neg (h2 i (by omega) (by omega))]; exact ih (by omega) fun j a b => h2 j a (by omega)
theorem own_txt_la (cs : List Nat) : (own_lg (own_txt cs) (own_txt cs).length = -1 ∧ (own_bas cs).length = 0 ∧ (own_B cs).length = 0) ∨ (own_lg (own_txt cs) (own_txt cs).length = own_i (own_bas cs).length ∧ 0 < (own_bas cs).length ∧ (own_B cs).length = (own_bas cs).length + 1) := by
  have hds : ∀ j, ((own_ds cs).map own_dch).getD j 0 ≠ 45 := by
    intro j
    rw [List.getD_eq_getElem?_getD, List.getElem?_map]
    cases hj : (own_ds cs)[j]? with
    | none => simp
    | some d => simpa using (own_dch_lt (own_ds_36 cs d (List.mem_of_getElem? hj))).2
  by_cases hb : (own_bas cs).length = 0
  · left
    have hB : own_B cs = [] := by unfold own_B; rw [if_pos hb, List.length_eq_zero_iff.mp hb]; rfl
    refine ⟨?_, hb, by rw [hB]; rfl⟩
    have ht : own_txt cs = (own_ds cs).map own_dch := by unfold own_txt; rw [hB, List.nil_append]
    rw [ht]
    exact own_lg_none _ _ fun j _ => hds j
  · right
    have hB : own_B cs = own_bas cs ++ [45] := by unfold own_B; rw [if_neg hb]
    have hBl : (own_B cs).length = (own_bas cs).length + 1 := by rw [hB]; simp
    refine ⟨?_, by omega, hBl⟩
    have hp : (own_txt cs).getD (own_bas cs).length 0 = 45 := by
      unfold own_txt
      rw [hB]
      simp
    have hl : (own_txt cs).length = (own_B cs).length + (own_ds cs).length := by unfold own_txt; simp
    refine own_lg_some _ _ hp _ (by omega) fun j h1 h2 => ?_
    have : (own_txt cs).getD j 0 = ((own_ds cs).map own_dch).getD (j - (own_B cs).length) 0 := by
      unfold own_txt
      rw [List.getD_eq_getElem?_getD, List.getD_eq_getElem?_getD, List.getElem?_append_right (by omega)]
    rw [this]
    exact hds _
def own_min (x y : Int32) : Int32 := if y < x then y else x
def own_max (x y : Int32) : Int32 := if x < y then y else x
theorem own_minT {x y : Int32} (h : y < x) : own_min x y = y := by unfold own_min; rw [if_pos h]
theorem own_minF {x y : Int32} (h : ¬ y < x) : own_min x y = x := by unfold own_min; rw [if_neg h]
theorem own_maxT {x y : Int32} (h : x < y) : own_max x y = y := by unfold own_max; rw [if_pos h]
theorem own_maxF {x y : Int32} (h : ¬ x < y) : own_max x y = x := by unfold own_max; rw [if_neg h]
theorem own_mini {a b : Nat} (ha : a < 2147483648) (hb : b < 2147483648) : own_min (own_i a) (own_i b) = own_i (min a b) := by
  by_cases h : b < a
  · rw [own_minT ((own_il hb ha).mpr h), Nat.min_eq_right (by omega)]
  · rw [own_minF (fun q => h ((own_il hb ha).mp q)), Nat.min_eq_left (by omega)]
theorem own_maxi {a b : Nat} (ha : a < 2147483648) (hb : b < 2147483648) : own_max (own_i a) (own_i b) = own_i (max a b) := by
  by_cases h : a < b
  · rw [own_maxT ((own_il ha hb).mpr h), Nat.max_eq_right (by omega)]
  · rw [own_maxF (fun q => h ((own_il ha hb).mp q)), Nat.max_eq_left (by omega)]
theorem own_thr_i {k b : Nat} (hk : k < 1073741824) (hb : b < 1073741824) : own_max (1 : Int32) (own_min (26 : Int32) (own_i k - own_i b)) = own_i (own_thr k b) := by
  by_cases h : b ≤ k
  · rw [own_is h]
    have e := own_mini (a := 26) (b := k - b) (by omega) (by omega)
    have e2 := own_maxi (a := 1) (b := min 26 (k - b)) (by omega) (by omega)
    rw [← e] at e2
    exact e2
  · have e : (own_i k - own_i b).toInt = (k : Int) - b := by
      rw [Int32.toInt_sub, own_iT (by omega), own_iT (by omega)]
      exact Int.bmod_eq_of_le (by omega) (by omega)
    have e26 : (26 : Int32).toInt = 26 := by decide
    have e1 : (1 : Int32).toInt = 1 := by decide
    rw [own_minT (by rw [Int32.lt_iff_toInt_lt]; omega), own_maxF (by rw [Int32.lt_iff_toInt_lt]; omega)]
    unfold own_thr
    rw [show k - b = 0 by omega]
    decide
theorem own_jnz {n : Nat} (h : 0 < n) (h2 : n < 9223372036854775808) : own_j n ≠ 0 := fun q => by
  have := (own_je (a := n) (b := 0) h2 (by omega)).mp q
  omega
theorem own_ilT {a b : Nat} (ha : a < 2147483648) (hb : b < 2147483648) (h : a < b) : own_i a < own_i b := (own_il ha hb).mpr h
theorem own_ilF {a b : Nat} (ha : a < 2147483648) (hb : b < 2147483648) (h : ¬ a < b) : ¬ own_i a < own_i b := fun q => h ((own_il ha hb).mp q)
theorem own_ilt {a b : Nat} (ha : a < 2147483648) (hb : b < 2147483648) (h : own_i a < own_i b) : a < b := (own_il ha hb).mp h
theorem own_ilf {a b : Nat} (ha : a < 2147483648) (hb : b < 2147483648) (h : ¬ own_i a < own_i b) : ¬ a < b := fun q => h ((own_il ha hb).mpr q)
theorem own_ieT {a b : Nat} (h : a = b) : own_i a = own_i b := congrArg own_i h
theorem own_ieF {a b : Nat} (ha : a < 2147483648) (hb : b < 2147483648) (h : ¬ a = b) : ¬ own_i a = own_i b := fun q => h ((own_ie ha hb).mp q)
theorem own_iet {a b : Nat} (ha : a < 2147483648) (hb : b < 2147483648) (h : own_i a = own_i b) : a = b := (own_ie ha hb).mp h
theorem own_ief {a b : Nat} (_ha : a < 2147483648) (_hb : b < 2147483648) (h : ¬ own_i a = own_i b) : ¬ a = b := fun q => h (congrArg own_i q)
theorem own_dchT {d : Nat} (h : d < 26) : own_dch d = 97 + d := by unfold own_dch; rw [if_pos h]
theorem own_dchF {d : Nat} (h : ¬ d < 26) : own_dch d = 22 + d := by unfold own_dch; rw [if_neg h]
theorem own_adT {s k : Nat} (h : 455 < s) : own_ad s k = own_ad (s / 35) (k + 36) := by rw [own_ad, dif_pos h]
theorem own_adF {s k : Nat} (h : ¬ 455 < s) : own_ad s k = k + 36 * s / (s + 38) := by rw [own_ad, dif_neg h]
theorem own_getN (tx : List Nat) (i : Nat) : (tx.map own_i).getD i 0 = own_i (tx.getD i 0) := by
  simp only [List.getD_eq_getElem?_getD, List.getElem?_map]
  cases tx[i]? <;> rfl
theorem own_mapA (tx : List Nat) (cx : Nat) : tx.map own_i ++ [own_i cx] = (tx ++ [cx]).map own_i := by simp
theorem own_getE {pre : List Nat} {cx : Nat} {suf : List Nat} : (pre ++ cx :: suf).getD pre.length 0 = cx := by simp [List.getD_eq_getElem?_getD]
theorem own_nonneg {e : Int32} (h : 0 ≤ e.toInt) : own_i e.toInt.toNat = e := by
  rw [← Int32.toInt_inj, own_iT (by have := e.toInt_lt; omega)]
  omega
/-- an int array moved up by one place, and set -/
theorem own_ins (O : List Nat) (i v : Nat) (hi : i ≤ O.length) (us : List Int32) (hu : us = (List.range (O.length - i)).map fun j => ((O ++ [0]).map own_i).getD (i + j) 0) :
    ((((O ++ [0]).map own_i).take (i + 1)) ++ us ++ (((O ++ [0]).map own_i).drop (i + 1 + (O.length - i)))).set i (own_i v) = (O.take i ++ v :: O.drop i).map own_i := by
  apply List.ext_getElem?
  intro n
  have hl1 : ((O ++ [0]).map own_i).length = O.length + 1 := by simp
  have e0 : i + 1 + (O.length - i) = O.length + 1 := by omega
  rw [e0, List.drop_eq_nil_of_le (by omega), List.append_nil]
  have hul : us.length = O.length - i := by rw [hu]; simp
  have htl : (((O ++ [0]).map own_i).take (i + 1)).length = i + 1 := by rw [List.length_take, hl1]; omega
  rw [List.getElem?_set, List.getElem?_map]
  by_cases h1 : i = n
  · subst h1
    rw [if_pos rfl, if_pos (by rw [List.length_append, htl, hul]; omega), List.getElem?_append_right (by rw [List.length_take]; omega), List.length_take, Nat.min_eq_left hi, Nat.sub_self]
    rfl
  · rw [if_neg h1]
    by_cases h2 : n < i
    · rw [List.getElem?_append_left (by omega), List.getElem?_take_of_lt (by omega), List.getElem?_map, List.getElem?_append_left (by omega), List.getElem?_append_left (by rw [List.length_take]; omega), List.getElem?_take_of_lt h2]
    · rw [List.getElem?_append_right (by omega), htl, List.getElem?_append_right (by rw [List.length_take]; omega), List.length_take, Nat.min_eq_left hi, hu, List.getElem?_map]
      have e3 : n - i = (n - (i + 1)) + 1 := by omega
      rw [e3, List.getElem?_cons_succ, List.getElem?_drop]
      by_cases h3 : n < O.length + 1
      · rw [List.getElem?_range (by omega)]
        show some (((O ++ [0]).map own_i).getD (i + (n - (i + 1))) 0) = _
        rw [List.getD_eq_getElem?_getD, List.getElem?_map, List.getElem?_append_left (by omega), List.getElem?_eq_getElem (by omega)]
        rfl
      · rw [List.getElem?_eq_none (by simp; omega), List.getElem?_eq_none (by omega)]
        rfl
theorem own_nneg {n : Nat} (h : n < 2147483648) : ¬ own_i n < (0 : Int32) := own_ilF (b := 0) h (by omega) (by omega)
theorem own_capN {n N : Nat} (h : n ≤ N) (h2 : n < 2147483648) : (own_i n).toNatClampNeg ≤ N := by rw [own_iN h2]; exact h
theorem own_zT {z : Int32} {n : Nat} (h : n < z.toNatClampNeg) : z.toInt = z.toNatClampNeg := by
  simp only [Int32.toNatClampNeg] at *
  omega
theorem own_hg {z : Int32} {n : Nat} (h : n < z.toNatClampNeg) (hn : n < 100) : ¬ (0 : Int32) < own_i (n + 1) - z := by
  have hz := own_zT h
  have r := z.toInt_lt
  have e : (own_i (n + 1) - z).toInt = (n : Int) + 1 - z.toInt := by
    rw [Int32.toInt_sub, own_iT (by omega)]
    exact Int.bmod_eq_of_le (by omega) (by omega)
  have e0 : (0 : Int32).toInt = 0 := by decide
  rw [Int32.lt_iff_toInt_lt, e]
  omega
theorem own_minz {z : Int32} {n : Nat} (h : n ≤ z.toNatClampNeg) (hn : n < 2147483648) (h0 : ¬ z < 0) : own_min z (own_i n) = own_i n := by
  by_cases q : own_i n < z
  · exact own_minT q
  · rw [own_minF q]
    have e0 : (0 : Int32).toInt = 0 := by decide
    rw [Int32.lt_iff_toInt_lt, own_iT hn] at q
    rw [Int32.lt_iff_toInt_lt] at h0
    rw [← Int32.toInt_inj, own_iT hn]
    simp only [Int32.toNatClampNeg] at h
    omega
theorem own_minxx (x : Int32) : own_min x x = x := by unfold own_min; split <;> rfl
theorem own_h4 {z : Int32} {n : Nat} (h : n ≤ z.toNatClampNeg) (hn : n < 2147483648) : (0 : Int32).toNatClampNeg + (own_i n).toNatClampNeg ≤ z.toNatClampNeg := by
  have z0 : (0 : Int32).toNatClampNeg = 0 := by decide
  rw [z0, own_iN hn]; omega
theorem own_h6 {n : Nat} {α : Type} (v : α) (hn : n < 2147483648) : (0 : Int32).toNatClampNeg + (own_i n).toNatClampNeg ≤ (List.replicate n v).length := by
  have z0 : (0 : Int32).toNatClampNeg = 0 := by decide
  rw [z0, own_iN hn, List.length_replicate]; omega
theorem own_p1 (n : Nat) : own_i (n + 1) - (1 : Int32) = own_i n := own_is (a := n + 1) (b := 1) (by omega)
theorem own_m1 (x : Int32) : x + (-1 : Int32) = x - (1 : Int32) := (Int32.sub_eq_add_neg x 1).symm
theorem own_gd128 {tx : List Nat} (h : ∀ c ∈ tx, c < 128) (j : Nat) : tx.getD j 0 < 128 := by
  rw [List.getD_eq_getElem?_getD]
  cases hj : tx[j]? with
  | none => simp
  | some d => exact h d (List.mem_of_getElem? hj)
theorem own_bas_T {pre : List Nat} {cx : Nat} (h : cx < 128) : own_bas pre ++ [cx] = own_bas (pre ++ [cx]) := by
  unfold own_bas; rw [List.filter_append, List.filter_cons_of_pos (by simpa using h), List.filter_nil]
theorem own_bas_F {pre : List Nat} {cx : Nat} (h : ¬ cx < 128) : own_bas pre = own_bas (pre ++ [cx]) := by
  unfold own_bas; rw [List.filter_append, List.filter_cons_of_neg (by simpa using h), List.filter_nil, List.append_nil]
theorem own_B_T {cl : List Nat} (h : 0 < (own_bas cl).length) : own_bas cl ++ [45] = own_B cl := by unfold own_B; rw [if_neg (by omega)]
theorem own_B_F {cl : List Nat} (h : ¬ 0 < (own_bas cl).length) : own_bas cl = own_B cl := by unfold own_B; rw [if_pos (by omega), List.append_nil]
/-- what is still to come, within the inner loop -/
def own_rest (cl : List Nat) (bn fu m : Nat) (suf : List Nat) (dl b h : Nat) (o : List Nat) : List Nat := own_outer cl bn fu (m + 1) ((own_inner m bn suf dl b h o).1 + 1) (own_inner m bn suf dl b h o).2.1 (own_inner m bn suf dl b h o).2.2.1 (own_inner m bn suf dl b h o).2.2.2
theorem own_rest_lt {cl : List Nat} {bn fu m c dl b h : Nat} {r o : List Nat} (q : c < m) : own_rest cl bn fu m (c :: r) dl b h o = own_rest cl bn fu m r (dl + 1) b h o := by unfold own_rest; rw [own_inner_lt q]
theorem own_rest_eq {cl : List Nat} {bn fu m c dl b h : Nat} {r o : List Nat} (q : c = m) : own_rest cl bn fu m (c :: r) dl b h o = own_rest cl bn fu m r 0 (own_adapt dl (h + 1) (h == bn)) (h + 1) (o ++ own_vint dl 36 b) := by unfold own_rest; rw [own_inner_eq q]
theorem own_rest_gt {cl : List Nat} {bn fu m c dl b h : Nat} {r o : List Nat} (q : ¬ c < m) (q2 : ¬ c = m) : own_rest cl bn fu m (c :: r) dl b h o = own_rest cl bn fu m r dl b h o := by unfold own_rest; rw [own_inner_gt q q2]
theorem own_rest_len {cl : List Nat} {bn fu m dl b h : Nat} {r o : List Nat} : o.length ≤ (own_rest cl bn fu m r dl b h o).length := Nat.le_trans (own_inner_len _ _ _ _ _ _ _).1 (own_outer_len _ _ _ _ _ _ _ _)
theorem own_nxtT {n c x : Nat} {r : List Nat} (h : ¬ c < n) : own_nxt n (c :: r) x = own_nxt n r (min x c) := by rw [own_nxt, if_pos (by omega)]
theorem own_nxtF {n c x : Nat} {r : List Nat} (h : c < n) : own_nxt n (c :: r) x = own_nxt n r x := by rw [own_nxt, if_neg (by omega)]
theorem own_outerT {cl : List Nat} {bn f n dl b h : Nat} {o : List Nat} (q : h < cl.length) : own_outer cl bn (f + 1) n dl b h o = own_rest cl bn f (own_nxt n cl 2147483647) cl (dl + (own_nxt n cl 2147483647 - n) * (h + 1)) b h o := by rw [own_outer, if_pos q]; rfl
theorem own_outerF {cl : List Nat} {bn f n dl b h : Nat} {o : List Nat} (q : ¬ h < cl.length) : own_outer cl bn (f + 1) n dl b h o = o := by rw [own_outer, if_neg q]
theorem own_txA (B uw : List Nat) (d : Nat) : (B ++ uw.map own_dch) ++ [own_dch d] = B ++ (uw ++ [d]).map own_dch := by simp
theorem own_cpeq {a b c : List Nat} (h : a = b) (g : a = c) : c = b := g.symm.trans h
theorem own_take (cl : List Nat) : (own_txt cl).take (own_bas cl).length = own_bas cl := by
  unfold own_txt own_B
  rw [List.append_assoc, List.take_left' rfl]
theorem own_takeS {tx : List Nat} {i : Nat} (h : i < tx.length) : tx.take i ++ [tx.getD i 0] = tx.take (i + 1) := by
  rw [List.take_add_one, List.getD_eq_getElem?_getD, List.getElem?_eq_getElem h]
  rfl
theorem own_dloop_len : ∀ (f : Nat) (t : List Nat) (n i b : Nat) (o r : List Nat), own_dloop f t n i b o = some r → o.length ≤ r.length := by
  intro f
  induction f with
  | zero => intro t n i b o r h; simp [own_dloop] at h
  | succ f ih =>
    intro t n i b o r h
    rw [own_dloop] at h
    split at h
    · cases h; exact Nat.le_refl _
    · split at h
      · cases h
      · simp only at h
        split at h
        · cases h
        · have := ih _ _ _ _ _ _ h
          simp only [List.length_append, List.length_cons, List.length_take, List.length_drop] at this
          omega
theorem own_dinv {f n i b : Nat} {t o r : List Nat} (h : own_dloop (f + 1) t n i b o = some r) (ht : t ≠ []) : ∃ i' t', own_vdec t 36 b 1 i = some (i', t') ∧ n + i' / (o.length + 1) ≤ 1114111 ∧ own_dloop f t' (n + i' / (o.length + 1)) (i' % (o.length + 1) + 1) (own_adapt (i' - i) (o.length + 1) (i == 0)) (o.take (i' % (o.length + 1)) ++ (n + i' / (o.length + 1)) :: o.drop (i' % (o.length + 1))) = some r := by
  rw [own_dloop, if_neg ht] at h
  split at h
  · cases h
  · rename_i i' t' hv
    simp only at h
    split at h
    · cases h
    · exact ⟨i', t', hv, by omega, h⟩
theorem own_vd {dx k b w i iF : Nat} {rv tF : List Nat} (h : own_vdec (dx :: rv) k b w i = some (iF, tF)) : ¬ 2147483647 < i + dx * w ∧ ((dx < own_thr k b ∧ iF = i + dx * w ∧ tF = rv) ∨ (¬ dx < own_thr k b ∧ own_vdec rv (k + 36) b (w * (36 - own_thr k b)) (i + dx * w) = some (iF, tF))) := by
  rw [own_vdec] at h
  split at h
  · cases h
  · rename_i h1
    refine ⟨h1, ?_⟩
    split at h
    · rename_i h2
      cases h
      exact Or.inl ⟨h2, rfl, rfl⟩
    · rename_i h2
      exact Or.inr ⟨h2, h⟩
theorem own_vdec_le : ∀ (t : List Nat) (k b w i iF : Nat) (tF : List Nat), own_vdec t k b w i = some (iF, tF) → i ≤ iF := by
  intro t
  induction t with
  | nil => intro k b w i iF tF h; simp [own_vdec] at h
  | cons d t ih =>
    intro k b w i iF tF h
    rcases (own_vd h).2 with ⟨_, h2, _⟩ | ⟨_, h2⟩
    · omega
    · have := ih _ _ _ _ _ _ h2; omega
theorem own_txt_get {cl tx dn rv : List Nat} {dx ix : Nat} (htx : tx = own_txt cl) (hs : own_ds cl = dn ++ dx :: rv) (hi : ix = (own_B cl).length + dn.length) : tx.getD ix 0 = own_dch dx := by
  subst htx hi
  unfold own_txt
  rw [hs, List.getD_eq_getElem?_getD, List.getElem?_append_right (by omega), Nat.add_sub_cancel_left, List.getElem?_map, List.getElem?_append_right (by omega), Nat.sub_self]
  rfl
theorem own_inslen {O : List Nat} {ii v : Nat} (h : ii ≤ O.length) : (O.take ii ++ v :: O.drop ii).length = O.length + 1 := by
  simp only [List.length_append, List.length_cons, List.length_take, List.length_drop]; omega
theorem own_maxla {la : Int32} {nb bl : Nat} (h : (la = -1 ∧ nb = 0 ∧ bl = 0) ∨ (la = own_i nb ∧ 0 < nb ∧ bl = nb + 1)) (hn : nb < 2147483648) : own_max la (0 : Int32) = own_i nb := by
  rcases h with ⟨rfl, rfl, _⟩ | ⟨rfl, h2, _⟩
  · decide
  · exact own_maxF (own_nneg hn)
theorem own_adB : "[" ++ (newarray.typeOf .byte).toString = "[B" := by decide +kernel
theorem own_adI : "[" ++ (newarray.typeOf .int).toString = "[I" := by decide +kernel
theorem own_sta_keep {Z : State} {h h' : Heap} {C n d : String} {v : Value} {ws : List Addr} (F : Sta Z h C n d v) (Kp : Keep h h' ws) (E : ∀ a ∈ ws, ∃ K, Exa Z h a K) : Sta Z h' C n d v := by
  obtain ⟨cf, i, k, f, st, cell, h1, h2, h3, h4, h5, h6, h7⟩ := F
  refine ⟨cf, i, k, f, st, cell, h1, h2, h3, h4, Kp.2.1 st cell h5 ?_, h6, h7⟩
  intro q
  obtain ⟨K, c', k', e1, _, _, e4, _⟩ := E _ q
  cases h5.symm.trans e1
  rw [h6] at e4
  cases e4
theorem own_arv_more {Z : State} {h : Heap} {b : Addr} {k : ClassId} {ty : FieldType} {z : Int32} {vs vs' : List Value} {d : Value} (F : Arv Z h b k ty z vs d) (q : ∀ i, i < z.toNatClampNeg → vs'.getD i d = vs.getD i d) : Arv Z h b k ty z vs' d := by
  obtain ⟨c, A, r1, r2, r3, H, G⟩ := F
  exact ⟨c, A, r1, r2, r3, fun i hi => by rw [q i (by rw [← r2]; exact hi)]; exact H i hi, fun i hi => by rw [q i (by rw [← r2]; exact hi)]; exact G i hi⟩
theorem own_getD (bs : List Int32) (i : Nat) : (bs.map Value.int).getD i (.int 0) = .int (bs.getD i 0) := by
  simp only [List.getD_eq_getElem?_getD, List.getElem?_map]
  cases bs[i]? <;> rfl
theorem own_at (tx : List Nat) (i : Nat) : ((tx.map own_i).map Value.int).getD i (.int 0) = .int (own_i (tx.getD i 0)) := by rw [own_getD, own_getN]
theorem own_selq {s : State} {args : Array Value} {y : MethodName} {C : String} (wsel : (Jvm.Cond.selects C y y).before args s = true) (hp : s.PrivateAt y) (wm : (Jvm.Cond.instanceMethod y).before args s = true) (hy : y.cls ≠ "java/lang/invoke/MethodHandle" ∧ y.cls ≠ "java/lang/invoke/VarHandle") : (Jvm.Cond.selects y.cls y y).before args s = true := by
  obtain ⟨c, r, m, h1, h2, h3, h4, mk, h5, h6⟩ := Cond.selects_spec wsel
  exact selects_self_of_private (findClass_of_methodNamed h3) h5 h6 hp wm hy
theorem own_c16 {n : Nat} (h : n < 65536) : (own_i n).toUInt32.toUInt16.toUInt32.toInt32 = own_i n := by
  have q := c_i2c (own_i n)
  have e := own_iT (n := n) (by omega)
  rw [← Int32.toInt_inj]
  omega
theorem own_nc {n : Nat} (h : n < 65536) : nar .char (own_i n) = own_i n := own_c16 h
theorem own_b8 {n : Nat} (h : n < 128) : (own_i n).toInt8.toInt32 = own_i n := by
  have q := c_i2b (own_i n)
  have e := own_iT (n := n) (by omega)
  rw [← Int32.toInt_inj]
  omega
theorem own_m255 {n : Nat} (h : n < 128) : (own_i n &&& (255 : Int32)) = own_i n := by
  have q := c_mask (own_i n) 255 8 (by decide) (by decide)
  have e := own_iT (n := n) (by omega)
  rw [← Int32.toInt_inj, q, e]
  omega
theorem own_sh0 (x : Int32) : (x >>> ((0 : Int32) &&& 31)) = x := by
  have q := c_ishr x 0 0 (by decide)
  rw [← Int32.toInt_inj, q]
  simp
theorem own_llT {a b : Nat} (ha : a < 9223372036854775808) (hb : b < 9223372036854775808) (h : a < b) : lcmpW (own_j a) (own_j b) < (0 : Int32) := (lw_lt _ _).mpr ((own_jl ha hb).mpr h)
theorem own_llF {a b : Nat} (ha : a < 9223372036854775808) (hb : b < 9223372036854775808) (h : ¬ a < b) : ¬ lcmpW (own_j a) (own_j b) < (0 : Int32) := fun q => h ((own_jl ha hb).mp ((lw_lt _ _).mp q))
theorem own_llt {a b : Nat} (ha : a < 9223372036854775808) (hb : b < 9223372036854775808) (h : lcmpW (own_j a) (own_j b) < (0 : Int32)) : a < b := (own_jl ha hb).mp ((lw_lt _ _).mp h)
theorem own_llf {a b : Nat} (ha : a < 9223372036854775808) (hb : b < 9223372036854775808) (h : ¬ lcmpW (own_j a) (own_j b) < (0 : Int32)) : ¬ a < b := fun q => h (own_llT ha hb q)
theorem own_lgT {a b : Nat} (ha : a < 9223372036854775808) (hb : b < 9223372036854775808) (h : a < b) : (0 : Int32) < lcmpW (own_j b) (own_j a) := (lw_gt _ _).mpr ((own_jl ha hb).mpr h)
theorem own_lgF {a b : Nat} (ha : a < 9223372036854775808) (hb : b < 9223372036854775808) (h : ¬ a < b) : ¬ (0 : Int32) < lcmpW (own_j b) (own_j a) := fun q => h ((own_jl ha hb).mp ((lw_gt _ _).mp q))
theorem own_lgt {a b : Nat} (ha : a < 9223372036854775808) (hb : b < 9223372036854775808) (h : (0 : Int32) < lcmpW (own_j b) (own_j a)) : a < b := (own_jl ha hb).mp ((lw_gt _ _).mp h)
theorem own_lgf {a b : Nat} (ha : a < 9223372036854775808) (hb : b < 9223372036854775808) (h : ¬ (0 : Int32) < lcmpW (own_j b) (own_j a)) : ¬ a < b := fun q => h (own_lgT ha hb q)
theorem own_lqT {a b : Nat} (_ha : a < 9223372036854775808) (_hb : b < 9223372036854775808) (h : a = b) : lcmpW (own_j a) (own_j b) = (0 : Int32) := (lw_eq _ _).mpr (congrArg own_j h)
theorem own_lqF {a b : Nat} (ha : a < 9223372036854775808) (hb : b < 9223372036854775808) (h : ¬ a = b) : ¬ lcmpW (own_j a) (own_j b) = (0 : Int32) := fun q => h ((own_je ha hb).mp ((lw_eq _ _).mp q))
theorem own_lqt {a b : Nat} (ha : a < 9223372036854775808) (hb : b < 9223372036854775808) (h : lcmpW (own_j a) (own_j b) = (0 : Int32)) : a = b := (own_je ha hb).mp ((lw_eq _ _).mp h)
theorem own_lqf {a b : Nat} (ha : a < 9223372036854775808) (hb : b < 9223372036854775808) (h : ¬ lcmpW (own_j a) (own_j b) = (0 : Int32)) : ¬ a = b := fun q => h (own_lqT ha hb q)
theorem own_m5 (x : Int32) : ((x &&& (2147483647 : Int32)) % (5 : Int32)) = 0 ∨ ((x &&& (2147483647 : Int32)) % (5 : Int32)) = 1 ∨ ((x &&& (2147483647 : Int32)) % (5 : Int32)) = 2 ∨ ((x &&& (2147483647 : Int32)) % (5 : Int32)) = 3 ∨ ((x &&& (2147483647 : Int32)) % (5 : Int32)) = 4 := by
  have h := c_mask x 2147483647 31 (by decide) (by decide)
  have h2 := (c_irem (x &&& (2147483647 : Int32)) 5 5 (by decide)).1 (by omega)
  have e0 : (0 : Int32).toInt = 0 := by decide
  have e1 : (1 : Int32).toInt = 1 := by decide
  have e2 : (2 : Int32).toInt = 2 := by decide
  have e3 : (3 : Int32).toInt = 3 := by decide
  have e4 : (4 : Int32).toInt = 4 := by decide
  simp only [← Int32.toInt_inj, h2, e0, e1, e2, e3, e4]
  omega
/-- what cp makes of p -/
def own_cpi (q : Int32) : Int32 := if (q &&& (1 : Int32)) = 0 then (((q.toUInt32 >>> ((1 : Int32) &&& 31).toUInt32).toInt32) &&& (127 : Int32)) else ((128 : Int32) + (((q.toUInt32 >>> ((1 : Int32) &&& 31).toUInt32).toInt32) % (1113984 : Int32)))
theorem own_cpi_le (q : Int32) : 0 ≤ (own_cpi q).toInt ∧ (own_cpi q).toInt ≤ 1114111 := by
  have hu := c_iushr q 1 1 (by decide) (by decide)
  unfold own_cpi
  generalize (q.toUInt32 >>> ((1 : Int32) &&& 31).toUInt32).toInt32 = u at *
  have hr := rng32 q
  split
  · have h := c_mask u 127 7 (by decide) (by decide)
    omega
  · have h := (c_irem u 1113984 1113984 (by decide)).1 (by omega)
    have h2 := c_iadd (128 : Int32) (u % (1113984 : Int32))
    have e : (128 : Int32).toInt = 128 := by decide
    have r := rng32 ((128 : Int32) + u % (1113984 : Int32))
    omega
def own_cpn (q : Int32) : Nat := (own_cpi q).toInt.toNat
theorem own_cpn_le (q : Int32) : own_cpn q ≤ 1114111 := by have := own_cpi_le q; unfold own_cpn; omega
theorem own_cpn_i (q : Int32) : own_i (own_cpn q) = own_cpi q := own_nonneg (own_cpi_le q).1
/-- an index within -/
theorem own_inN {sz : Nat} {z : Int32} {i : Nat} (S : sz = z.toNatClampNeg) (h2 : i < z.toNatClampNeg) (h3 : i < 2147483648) : ¬ (own_i i < 0 ∨ sz ≤ (own_i i).toNatClampNeg) := by
  rw [own_iN h3, S]
  have e : ¬ own_i i < own_i 0 := own_ilF h3 (by omega) (by omega)
  rintro (r | r)
  · exact e r
  · omega
theorem own_more {Z : State} {h : Heap} {a : Addr} {k : ClassId} {ty : FieldType} {z : Int32} {l : List Nat} (F : Arv Z h a k ty z ((l.map own_i).map Value.int) (.int 0)) : Arv Z h a k ty z (((l ++ [0]).map own_i).map Value.int) (.int 0) := own_arv_more F fun i _ => by
  rw [own_at, own_at]
  simp only [List.getD_eq_getElem?_getD]
  by_cases q : i < l.length
  · rw [List.getElem?_append_left q]
  · rw [List.getElem?_append_right (Nat.le_of_not_lt q), List.getElem?_eq_none (Nat.le_of_not_lt q)]
    cases i - l.length <;> rfl
theorem own_push {Z : State} {h h' : Heap} {a : Addr} {k : ClassId} {ty : FieldType} {z : Int32} {l : List Nat} {cx : Nat} {v : Value} (hv : v = .int (own_i cx)) (ft : fits ty (.int (own_i cx)) = true) (F : Arv Z h a k ty z ((l.map own_i).map Value.int) (.int 0)) (hl : l.length < 2147483648) (W : Wr h h' a (own_i l.length).toNatClampNeg v) : Arv Z h' a k ty z (((l ++ [cx]).map own_i).map Value.int) (.int 0) := by
  subst hv
  obtain ⟨c, A, q1, S, q3, H, G⟩ := own_more F
  have R := Arv.set (j := own_i l.length) A q1 S q3 H G ft W l.length (by rw [own_iN hl]) (by simp)
  have es : (((l ++ [0]).map own_i).map Value.int).set l.length (Value.int (own_i cx)) = ((l ++ [cx]).map own_i).map Value.int := by
    rw [List.map_append, List.map_append, List.set_append_right _ _ (by simp)]
    simp
  exact es ▸ R
theorem own_rep {Z : State} {h : Heap} {a : Addr} {k : ClassId} {ty : FieldType} {z : Int32} (F : Arv Z h a k ty z ((([] : List Nat).map own_i).map Value.int) (.int 0)) (n : Nat) : Arv Z h a k ty z (List.replicate n (.int 0)) (.int 0) := own_arv_more F fun i _ => by
  simp only [List.getD_eq_getElem?_getD, List.getElem?_replicate]
  split <;> rfl
/-- a list copied into a fresh array -/
theorem own_cpl {Z : State} {h : Heap} {a : Addr} {k : ClassId} {ty : FieldType} {z : Int32} {l : List Nat} {N : Nat} (hl : l.length < 2147483648) (F : Arv Z h a k ty z ((List.replicate N (Value.int 0)).take (0 : Int32).toNatClampNeg ++ ((List.range (own_i l.length).toNatClampNeg).map fun i => ((l.map own_i).map Value.int).getD ((0 : Int32).toNatClampNeg + i) (.int 0)) ++ (List.replicate N (Value.int 0)).drop ((0 : Int32).toNatClampNeg + (own_i l.length).toNatClampNeg)) (.int 0)) : Arv Z h a k ty z ((l.map own_i).map Value.int) (.int 0) := own_arv_more F fun i _ => by
  have z0 : (0 : Int32).toNatClampNeg = 0 := by decide
  rw [z0, List.take_zero, List.nil_append, own_iN hl]
  simp only [Nat.zero_add, List.getD_eq_getElem?_getD]
  by_cases q : i < l.length
  · have e : ((List.range l.length).map fun i => ((l.map own_i).map Value.int)[i]?.getD (Value.int 0))[i]? = some (((l.map own_i).map Value.int)[i]?.getD (Value.int 0)) := by
      rw [List.getElem?_map, List.getElem?_range q]; rfl
    rw [List.getElem?_append_left (by simpa using q), e]
    rfl
  · rw [List.getElem?_append_right (by simpa using q), List.getElem?_eq_none (by simpa using q), List.drop_replicate, List.getElem?_replicate]
    split <;> rfl
/-- the decoder's array: moved up by one place -/
theorem own_mvu {Z : State} {h : Heap} {a : Addr} {k : ClassId} {ty : FieldType} {z : Int32} {O : List Nat} {ii : Nat} {us : List Value} (hi : ii ≤ O.length) (hO : O.length < 2147483647) (hus : us = (List.range (own_i (O.length - ii)).toNatClampNeg).map fun j => (((O ++ [0]).map own_i).map Value.int).getD ((own_i ii).toNatClampNeg + j) (.int 0))
    (F : Arv Z h a k ty z ((((O ++ [0]).map own_i).map Value.int).take (own_i (ii + 1)).toNatClampNeg ++ us ++ (((O ++ [0]).map own_i).map Value.int).drop ((own_i (ii + 1)).toNatClampNeg + (own_i (O.length - ii)).toNatClampNeg)) (.int 0)) :
    ∃ us' : List Int32, us' = ((List.range (O.length - ii)).map fun j => ((O ++ [0]).map own_i).getD (ii + j) 0) ∧ Arv Z h a k ty z (((((O ++ [0]).map own_i).take (ii + 1)) ++ us' ++ (((O ++ [0]).map own_i).drop (ii + 1 + (O.length - ii)))).map Value.int) (.int 0) := by
  refine ⟨_, rfl, ?_⟩
  rw [own_iN (by omega), own_iN (by omega)] at F
  rw [own_iN (by omega), own_iN (by omega)] at hus
  have e : us = ((List.range (O.length - ii)).map fun j => ((O ++ [0]).map own_i).getD (ii + j) 0).map Value.int := by
    rw [hus]
    refine Eq.trans (List.map_congr_left fun j _ => own_getD ((O ++ [0]).map own_i) (ii + j)) ?_
    exact (List.map_map (g := Value.int)).symm
  rw [e] at F
  rw [List.map_append, List.map_append, List.map_take, List.map_drop]
  exact F
theorem own_set {Z : State} {h h' : Heap} {a : Addr} {k : ClassId} {z : Int32} {O : List Nat} {ii v : Nat} {us : List Int32} (hi : ii ≤ O.length) (hO : O.length < 2147483647) (hus : us = ((List.range (O.length - ii)).map fun j => ((O ++ [0]).map own_i).getD (ii + j) 0)) (F : Arv Z h a k .int z (((((O ++ [0]).map own_i).take (ii + 1)) ++ us ++ (((O ++ [0]).map own_i).drop (ii + 1 + (O.length - ii)))).map Value.int) (.int 0)) (W : Wr h h' a (own_i ii).toNatClampNeg (.int (own_i v))) : Arv Z h' a k .int z (((O.take ii ++ v :: O.drop ii).map own_i).map Value.int) (.int 0) := by
  obtain ⟨c, A, q1, S, q3, H, G⟩ := F
  have R := Arv.set (j := own_i ii) A q1 S q3 H G (v := .int (own_i v)) rfl W ii (by rw [own_iN (by omega)]) (by simp; omega)
  rw [← List.map_set, own_ins O ii v hi us hus] at R
  exact R
theorem own_nf {args : Array Value} {s : State} {C : String} {y y' : MethodName} (hsel : (Cond.selects C y' y').before args s = true) (hc : y'.cls = y.cls) : NotFace s y := fun r0 h0 => by
  obtain ⟨c2, r2, m2, q1, q2, q3, q4, kP, hkP, hkPi⟩ := Cond.selects_spec hsel
  have a := findClass_of_methodNamed q3
  have b := findClass_of_methodNamed h0
  rw [hc] at a
  have e : m2.cls = r0.cls := Option.some.inj (a.symm.trans b)
  exact ⟨kP, by rw [← e]; exact hkP, hkPi⟩
theorem own_fb {cx : Nat} (h : cx < 128) : fits .byte (.int (own_i cx)) = true := by
  have q := fits_nar_byte (own_i cx)
  rw [own_b8 h] at q
  exact q
theorem own_same2 {Z : State} {a0 : Array Value} {y y' : MethodName} {C : String} (wi : (Jvm.Cond.instanceMethod y).before a0 Z = true) (ws : (Jvm.Cond.selects C y' y').before a0 Z = true) (hc : y'.cls = y.cls) (hy : y.cls ≠ "java/lang/invoke/MethodHandle" ∧ y.cls ≠ "java/lang/invoke/VarHandle") : (Jvm.Cond.sameMethod y.cls y.cls y.name y.desc).before a0 Z = true := by
  obtain ⟨mk, methM, hnamed, -⟩ := Cond.instanceMethod_spec wi
  have hf := State.methodFound?_of_named hnamed hy
  have hcl := findClass_of_methodNamed hnamed
  obtain ⟨c2, r2, m2, q1, q2, q3, q4, kP, hkP, hkPi⟩ := Cond.selects_spec ws
  have a := findClass_of_methodNamed q3
  rw [hc] at a
  have e : m2.cls = mk.cls := Option.some.inj (a.symm.trans hcl)
  rw [e] at hkP
  have hn' : Z.methodNamed? ⟨y.cls, y.name, y.desc⟩ = some mk := hnamed
  simp [Cond.before, Cond.holds, Cond.value, hcl, hf, hn', hkP, hkPi]
theorem d16_0 : dC0 0 (.iload_n 0, 1) := by decide +kernel
theorem d16_1 : dC0 1 (.iload_n 1, 1) := by decide +kernel
theorem d16_2 : dC0 2 (.if_icmp .gt 7, 3) := by decide +kernel
theorem d16_5 : dC0 5 (.iload_n 0, 1) := by decide +kernel
theorem d16_6 : dC0 6 (.goto 4, 3) := by decide +kernel
theorem d16_9 : dC0 9 (.iload_n 1, 1) := by decide +kernel
theorem d16_10 : dC0 10 (.ireturn, 1) := by decide +kernel
theorem ef_rmmin (m : MethodId) (xa : Int32) (xb : Int32) : entryFrame m #[(.int xa), (.int xb)] 2 = mkF m 0 #[vI xa, vI xb] [] := by first | (simp [entryFrame, mkF, argsToLocals, Value.category]; done) | rfl
def Qrmmin (Z : State) (xa : Int32) (xb : Int32) (h0 : Heap) (n0 : Nat) (v : Option Value) (h : Heap) (L : List Loc) : Prop := v = some (.int (own_min xa xb)) ∧ Fr n0 L ∧ h = h0
set_option maxRecDepth 65536 in
set_option maxHeartbeats 40000000 in
theorem rmmin (l : Launch) (Z : State) (a0 : Array Value) (hw : ∀ d ∈ tables_1, d.before a0 Z = true) (ws : List Jvm.Cond) (xa : Int32) (xb : Int32) (h0 : Heap) (n0 : Nat) (Z0 : n0 ≤ h0.size) :
    MetFree l Y0 (head1 (Jvm.Cond.code Y0 jdk_29_method_69_code 2 (some .int) :: ws) Rm0) (fun a U => a = #[(.int xa), (.int xb)] ∧ Z.Warmed39 U.vm ∧ U.heap = h0) (fun _ _ _ _ _ => True) (fun _ U o U' => ∃ v L, o = .returned v ∧ Qrmmin Z xa xb h0 n0 v U'.heap L ∧ FrameEnd U o U' L Rm0.cells Rm0.slots) := by
 refine MetFree.of_bodySF (Jvm.Free.JP.mathPlain rfl (by decide +kernel)) hisR ?_
 intro p e s m args below meth c s₁ Bd hml0 hP hK
 obtain ⟨rfl, hZ, hh⟩ := hP
 have hx := Bd.exec
 have hby := Bd.bytes
 have hml : c.maxLocals = 2 := hml0
 have hown : s.vm.findClass "java/lang/Math" = some m.cls := findClass_of_methodNamed Bd.named
 have hnm := (name_of_methodNamed Bd.named Bd.method).1
 have X0 : Stand p l e Rm0 s m #[(.int xa), (.int xb)] below meth c s₁ [] 0 0 := Stand.of_body Bd
 have e0 : s₁.heap = h0 := by rw [← hh, Bd.state]; rfl
 have N0 := Fr.nil n0
 show Go p.tables e below (fun o U' => ∃ v L, o = .returned v ∧ Qrmmin Z xa xb h0 n0 v U'.heap L ∧ FrameEnd s o U' L Rm0.cells Rm0.slots) _
 refine Go.step (fun t kt => castTop (ef_rmmin m xa xb) kt) ?_
 show gG s₁ m 0 #[vI xa, vI xb] []
 refine Go.step (fun _ kt => XS.iloadN X0.here hx rfl (hb hby d16_0) rfl (XS.iloadN X0.here hx rfl (hb hby d16_1) rfl kt)) ?_
 show gG s₁ m 2 #[vI xa, vI xb] [(.int xb), (.int xa)]
 by_cases hc2_101 : xb < xa
 ·refine Go.step (fun _ kt => XS.icmpYes X0.here hx rfl (pc0 := 2) (pc' := 9) rfl (hb hby d16_2) rfl (tlt hc2_101).2.2.1 (by decide) (by decide) (XS.iloadN X0.here hx rfl (hb hby d16_9) rfl kt)) ?_
  show gG s₁ m 10 #[vI xa, vI xb] [(.int xb)]
  obtain ⟨fs, hr, hrun, hended, hW, hsame⟩ := X0.leave (v := some (.int xb)) (fun h => by rw [Bd.returns] at h; cases h)
  refine ⟨_, _, retI X0 hx Bd.returns (hb hby d16_10) hr, hrun, hended, _, _, rfl, ?_, ⟨_, rfl⟩, hW, hsame.mono (by decide) (by decide)⟩
  show Qrmmin Z xa xb h0 n0 _ s₁.heap _
  rw [e0]
  refine ⟨?_, N0, rfl⟩
  rw [own_minT hc2_101]
 ·refine Go.step (fun _ kt => XS.icmpNo X0.here hx rfl (hb hby d16_2) rfl (flt hc2_101).2.2.1 (XS.iloadN X0.here hx rfl (hb hby d16_5) rfl (XS.goto X0.here hx rfl (pc0 := 6) (pc' := 10) rfl (hb hby d16_6) (by decide) (by decide) kt))) ?_
  show gG s₁ m 10 #[vI xa, vI xb] [(.int xa)]
  obtain ⟨fs, hr, hrun, hended, hW, hsame⟩ := X0.leave (v := some (.int xa)) (fun h => by rw [Bd.returns] at h; cases h)
  refine ⟨_, _, retI X0 hx Bd.returns (hb hby d16_10) hr, hrun, hended, _, _, rfl, ?_, ⟨_, rfl⟩, hW, hsame.mono (by decide) (by decide)⟩
  show Qrmmin Z xa xb h0 n0 _ s₁.heap _
  rw [e0]
  refine ⟨?_, N0, rfl⟩
  rw [own_minF hc2_101]
theorem d25_0 : dC1 0 (.iload_n 0, 1) := by decide +kernel
theorem d25_1 : dC1 1 (.iload_n 1, 1) := by decide +kernel
theorem d25_2 : dC1 2 (.if_icmp .lt 7, 3) := by decide +kernel
theorem d25_5 : dC1 5 (.iload_n 0, 1) := by decide +kernel
theorem d25_6 : dC1 6 (.goto 4, 3) := by decide +kernel
theorem d25_9 : dC1 9 (.iload_n 1, 1) := by decide +kernel
theorem d25_10 : dC1 10 (.ireturn, 1) := by decide +kernel
theorem ef_rmmax (m : MethodId) (xa : Int32) (xb : Int32) : entryFrame m #[(.int xa), (.int xb)] 2 = mkF m 0 #[vI xa, vI xb] [] := by first | (simp [entryFrame, mkF, argsToLocals, Value.category]; done) | rfl
def Qrmmax (Z : State) (xa : Int32) (xb : Int32) (h0 : Heap) (n0 : Nat) (v : Option Value) (h : Heap) (L : List Loc) : Prop := v = some (.int (own_max xa xb)) ∧ Fr n0 L ∧ h = h0
set_option maxRecDepth 65536 in
set_option maxHeartbeats 40000000 in
theorem rmmax (l : Launch) (Z : State) (a0 : Array Value) (hw : ∀ d ∈ tables_1, d.before a0 Z = true) (ws : List Jvm.Cond) (xa : Int32) (xb : Int32) (h0 : Heap) (n0 : Nat) (Z0 : n0 ≤ h0.size) :
    MetFree l Y1 (head1 (Jvm.Cond.code Y1 jdk_29_method_65_code 2 (some .int) :: ws) Rm0) (fun a U => a = #[(.int xa), (.int xb)] ∧ Z.Warmed39 U.vm ∧ U.heap = h0) (fun _ _ _ _ _ => True) (fun _ U o U' => ∃ v L, o = .returned v ∧ Qrmmax Z xa xb h0 n0 v U'.heap L ∧ FrameEnd U o U' L Rm0.cells Rm0.slots) := by
 refine MetFree.of_bodySF (Jvm.Free.JP.mathPlain rfl (by decide +kernel)) hisR ?_
 intro p e s m args below meth c s₁ Bd hml0 hP hK
 obtain ⟨rfl, hZ, hh⟩ := hP
 have hx := Bd.exec
 have hby := Bd.bytes
 have hml : c.maxLocals = 2 := hml0
 have hown : s.vm.findClass "java/lang/Math" = some m.cls := findClass_of_methodNamed Bd.named
 have hnm := (name_of_methodNamed Bd.named Bd.method).1
 have X0 : Stand p l e Rm0 s m #[(.int xa), (.int xb)] below meth c s₁ [] 0 0 := Stand.of_body Bd
 have e0 : s₁.heap = h0 := by rw [← hh, Bd.state]; rfl
 have N0 := Fr.nil n0
 show Go p.tables e below (fun o U' => ∃ v L, o = .returned v ∧ Qrmmax Z xa xb h0 n0 v U'.heap L ∧ FrameEnd s o U' L Rm0.cells Rm0.slots) _
 refine Go.step (fun t kt => castTop (ef_rmmax m xa xb) kt) ?_
 show gG s₁ m 0 #[vI xa, vI xb] []
 refine Go.step (fun _ kt => XS.iloadN X0.here hx rfl (hb hby d25_0) rfl (XS.iloadN X0.here hx rfl (hb hby d25_1) rfl kt)) ?_
 show gG s₁ m 2 #[vI xa, vI xb] [(.int xb), (.int xa)]
 by_cases hc2_101 : xa < xb
 ·refine Go.step (fun _ kt => XS.icmpYes X0.here hx rfl (pc0 := 2) (pc' := 9) rfl (hb hby d25_2) rfl (tlt hc2_101).1 (by decide) (by decide) (XS.iloadN X0.here hx rfl (hb hby d25_9) rfl kt)) ?_
  show gG s₁ m 10 #[vI xa, vI xb] [(.int xb)]
  obtain ⟨fs, hr, hrun, hended, hW, hsame⟩ := X0.leave (v := some (.int xb)) (fun h => by rw [Bd.returns] at h; cases h)
  refine ⟨_, _, retI X0 hx Bd.returns (hb hby d25_10) hr, hrun, hended, _, _, rfl, ?_, ⟨_, rfl⟩, hW, hsame.mono (by decide) (by decide)⟩
  show Qrmmax Z xa xb h0 n0 _ s₁.heap _
  rw [e0]
  refine ⟨?_, N0, rfl⟩
  rw [own_maxT hc2_101]
 ·refine Go.step (fun _ kt => XS.icmpNo X0.here hx rfl (hb hby d25_2) rfl (flt hc2_101).1 (XS.iloadN X0.here hx rfl (hb hby d25_5) rfl (XS.goto X0.here hx rfl (pc0 := 6) (pc' := 10) rfl (hb hby d25_6) (by decide) (by decide) kt))) ?_
  show gG s₁ m 10 #[vI xa, vI xb] [(.int xa)]
  obtain ⟨fs, hr, hrun, hended, hW, hsame⟩ := X0.leave (v := some (.int xa)) (fun h => by rw [Bd.returns] at h; cases h)
  refine ⟨_, _, retI X0 hx Bd.returns (hb hby d25_10) hr, hrun, hended, _, _, rfl, ?_, ⟨_, rfl⟩, hW, hsame.mono (by decide) (by decide)⟩
  show Qrmmax Z xa xb h0 n0 _ s₁.heap _
  rw [e0]
  refine ⟨?_, N0, rfl⟩
  rw [own_maxF hc2_101]
theorem pd_0 : parseMethodDescriptor "(II)I" = some ⟨[.int, .int], some .int⟩ := by decide +kernel
theorem pn_0 : plainName "com/example/kenning/kenning/Punycode" = true := by first | (simp [plainName, overriddenIn]; done) | decide +kernel
theorem d32_0 : dC2 0 (.iconst 1, 1) := by decide +kernel
theorem d32_1 : dC2 1 (.bipush 26, 2) := by decide +kernel
theorem d32_3 : dC2 3 (.iload_n 0, 1) := by decide +kernel
theorem d32_4 : dC2 4 (.iload_n 1, 1) := by decide +kernel
theorem d32_5 : dC2 5 (.isub, 1) := by decide +kernel
theorem d32_6 : dC2 6 (.invokestatic 71, 3) := by decide +kernel
theorem d32_9 : dC2 9 (.invokestatic 15, 3) := by decide +kernel
theorem d32_12 : dC2 12 (.ireturn, 1) := by decide +kernel
theorem ef_rmthr (m : MethodId) (tk : Nat) (tb : Nat) : entryFrame m #[(.int (own_i tk)), (.int (own_i tb))] 2 = mkF m 0 #[vI (own_i tk), vI (own_i tb)] [] := by first | (simp [entryFrame, mkF, argsToLocals, Value.category]; done) | rfl
def Qrmthr (Z : State) (tk : Nat) (tb : Nat) (h0 : Heap) (n0 : Nat) (v : Option Value) (h : Heap) (L : List Loc) : Prop := v = some (.int (own_i (own_thr tk tb))) ∧ Fr n0 L ∧ h = h0
set_option maxRecDepth 65536 in
set_option maxHeartbeats 40000000 in
theorem rmthr (l : Launch) (Z : State) (a0 : Array Value) (hw : ∀ d ∈ tables_1, d.before a0 Z = true) (ws : List Jvm.Cond) (tk : Nat) (tb : Nat) (h0 : Heap) (n0 : Nat) (Z0 : n0 ≤ h0.size) (hk1 : tk < 1073741824) (hb1 : tb < 1073741824) :
    MetFree l Y2 (head1 (Jvm.Cond.code Y2 prog_12_method_6_code 2 (some .int) :: ws) Rm1) (fun a U => a = #[(.int (own_i tk)), (.int (own_i tb))] ∧ Z.Warmed39 U.vm ∧ U.heap = h0) (fun _ _ _ _ _ => True) (fun _ U o U' => ∃ v L, o = .returned v ∧ Qrmthr Z tk tb h0 n0 v U'.heap L ∧ FrameEnd U o U' L Rm1.cells Rm1.slots) := by
 refine MetFree.of_bodySF (plainFor_of_name pn_0) hisR ?_
 intro p e s m args below meth c s₁ Bd hml0 hP hK
 obtain ⟨rfl, hZ, hh⟩ := hP
 have hx := Bd.exec
 have hby := Bd.bytes
 have hml : c.maxLocals = 2 := hml0
 have hown : s.vm.findClass "com/example/kenning/kenning/Punycode" = some m.cls := findClass_of_methodNamed Bd.named
 have hnm := (name_of_methodNamed Bd.named Bd.method).1
 have X0 : Stand p l e Rm1 s m #[(.int (own_i tk)), (.int (own_i tb))] below meth c s₁ [] 0 0 := Stand.of_body Bd
 have e0 : s₁.heap = h0 := by rw [← hh, Bd.state]; rfl
 have N0 := Fr.nil n0
 show Go p.tables e below (fun o U' => ∃ v L, o = .returned v ∧ Qrmthr Z tk tb h0 n0 v U'.heap L ∧ FrameEnd s o U' L Rm1.cells Rm1.slots) _
 refine Go.step (fun t kt => castTop (ef_rmthr m tk tb) kt) ?_
 show gG s₁ m 0 #[vI (own_i tk), vI (own_i tb)] []
 refine Go.step (fun _ kt => XS.iconst X0.here hx rfl (hb hby d32_0) (XS.bipush X0.here hx rfl (hb hby d32_1) (XS.iloadN X0.here hx rfl (hb hby d32_3) rfl (XS.iloadN X0.here hx rfl (hb hby d32_4) rfl (XS.isub X0.here hx rfl (hb hby d32_5) rfl kt))))) ?_
 obtain ⟨_, _, ⟨T101, L101, k101, n101⟩, -, X101, ⟨Lc101, hQ101, l101, y101, z101⟩, st101⟩ := Jvm.LawKit.callS X0 hx (y := Y0) hown (mvT hZ (w170 hw)) (mvT hZ (w85 hw)) (mvT hZ (w86 hw)) (mvT hZ (w87 hw)) (by decide) (backOf (W := 1) (rmmin l Z a0 hw [] (26 : Int32) ((own_i tk) - (own_i tb))  h0 n0 Z0  ) hZ (w87 hw) (w86 hw) (by decide) (by decide)) (g := (mkF m 6 #[vI (own_i tk), vI (own_i tb)] [(.int ((own_i tk) - (own_i tb))), (.int 26), (.int 1)])) rfl hml.symm (argsL := [(.int 26), (.int ((own_i tk) - (own_i tb)))]) (rest := [(.int 1)]) (lenOf pd_0 rfl) rfl (Nat.le_of_eq rfl) (hb hby d32_6) (fun _ _ => ⟨rfl, e0, (by decide : 0 + 0 ≤ _), (by decide : 0 + 0 ≤ _)⟩)
 dsimp only [Pt.U, Pt.locs, Pt.cells, Pt.slots] at X101 l101 y101 z101 st101 hQ101
 subst l101 y101 z101
 obtain ⟨rfl, N101q, eh101⟩ := hQ101
 have N101 := Fr.app N0 N101q
 refine Go.step st101 ?_
 obtain ⟨_, _, ⟨T102, L102, k102, n102⟩, -, X102, ⟨Lc102, hQ102, l102, y102, z102⟩, st102⟩ := Jvm.LawKit.callS X101 hx (y := Y1) hown (mvT hZ (w131 hw)) (mvT hZ (w132 hw)) (mvT hZ (w86 hw)) (mvT hZ (w133 hw)) (by decide) (backOf (W := 0) (rmmax l Z a0 hw [] (1 : Int32) (own_min (26 : Int32) ((own_i tk) - (own_i tb)))  h0 n0 Z0  ) hZ (w133 hw) (w86 hw) (by decide) (by decide)) (g := (mkF m 9 #[vI (own_i tk), vI (own_i tb)] [(.int (own_min (26 : Int32) ((own_i tk) - (own_i tb)))), (.int 1)])) rfl hml.symm (argsL := [(.int 1), (.int (own_min (26 : Int32) ((own_i tk) - (own_i tb))))]) (rest := []) (lenOf pd_0 rfl) rfl (Nat.le_of_eq rfl) (hb hby d32_9) (fun _ _ => ⟨rfl, eh101, (by decide : 0 + 0 ≤ _), (by decide : 0 + 0 ≤ _)⟩)
 dsimp only [Pt.U, Pt.locs, Pt.cells, Pt.slots] at X102 l102 y102 z102 st102 hQ102
 subst l102 y102 z102
 obtain ⟨rfl, N102q, eh102⟩ := hQ102
 have N102 := Fr.app N101 N102q
 refine Go.step st102 ?_
 show gG T102 m 12 #[vI (own_i tk), vI (own_i tb)] [(.int (own_max (1 : Int32) (own_min (26 : Int32) ((own_i tk) - (own_i tb)))))]
 obtain ⟨fs, hr, hrun, hended, hW, hsame⟩ := X102.leave (v := some (.int (own_max (1 : Int32) (own_min (26 : Int32) ((own_i tk) - (own_i tb)))))) (fun h => by rw [Bd.returns] at h; cases h)
 refine ⟨_, _, retI X102 hx Bd.returns (hb hby d32_12) hr, hrun, hended, _, _, rfl, ?_, ⟨_, rfl⟩, hW, hsame.mono (by decide) (by decide)⟩
 show Qrmthr Z tk tb h0 n0 _ T102.heap _
 rw [eh102]
 refine ⟨?_, N102, rfl⟩
 rw [own_thr_i hk1 hb1]
theorem d33_0 : dC3 0 (.lload_n 0, 1) := by decide +kernel
theorem d33_1 : dC3 1 (.ldc2_w 82, 3) := by decide +kernel
theorem d33_4 : dC3 4 (.lcmp, 1) := by decide +kernel
theorem d33_5 : dC3 5 (.ifCond .ge 11, 3) := by decide +kernel
theorem d33_8 : dC3 8 (.ldc2_w 84, 3) := by decide +kernel
theorem d33_11 : dC3 11 (.lload_n 0, 1) := by decide +kernel
theorem d33_12 : dC3 12 (.ladd, 1) := by decide +kernel
theorem d33_13 : dC3 13 (.goto 12, 3) := by decide +kernel
theorem d33_16 : dC3 16 (.ldc2_w 86, 3) := by decide +kernel
theorem d33_19 : dC3 19 (.lload_n 0, 1) := by decide +kernel
theorem d33_20 : dC3 20 (.ladd, 1) := by decide +kernel
theorem d33_21 : dC3 21 (.ldc2_w 82, 3) := by decide +kernel
theorem d33_24 : dC3 24 (.lsub, 1) := by decide +kernel
theorem d33_25 : dC3 25 (.l2i, 1) := by decide +kernel
theorem d33_26 : dC3 26 (.i2c, 1) := by decide +kernel
theorem d33_27 : dC3 27 (.ireturn, 1) := by decide +kernel
theorem ef_rmdch (m : MethodId) (td : Nat) : entryFrame m #[(.long (own_j td))] 2 = mkF m 0 #[.val (.long (own_j td)), .second] [] := by first | (simp [entryFrame, mkF, argsToLocals, Value.category]; done) | rfl
def Qrmdch (Z : State) (td : Nat) (h0 : Heap) (n0 : Nat) (v : Option Value) (h : Heap) (L : List Loc) : Prop := v = some (.int (own_i (own_dch td))) ∧ Fr n0 L ∧ h = h0
set_option maxRecDepth 65536 in
set_option maxHeartbeats 40000000 in
theorem rmdch (l : Launch) (Z : State) (a0 : Array Value) (hw : ∀ d ∈ tables_1, d.before a0 Z = true) (ws : List Jvm.Cond) (td : Nat) (h0 : Heap) (n0 : Nat) (Z0 : n0 ≤ h0.size) (hd1 : td < 36) :
    MetFree l Y3 (head1 (Jvm.Cond.code Y3 prog_12_method_5_code 2 (some .char) :: ws) Rm0) (fun a U => a = #[(.long (own_j td))] ∧ Z.Warmed39 U.vm ∧ U.heap = h0) (fun _ _ _ _ _ => True) (fun _ U o U' => ∃ v L, o = .returned v ∧ Qrmdch Z td h0 n0 v U'.heap L ∧ FrameEnd U o U' L Rm0.cells Rm0.slots) := by
 refine MetFree.of_bodySF (plainFor_of_name pn_0) hisR ?_
 intro p e s m args below meth c s₁ Bd hml0 hP hK
 obtain ⟨rfl, hZ, hh⟩ := hP
 have hx := Bd.exec
 have hby := Bd.bytes
 have hml : c.maxLocals = 2 := hml0
 have hown : s.vm.findClass "com/example/kenning/kenning/Punycode" = some m.cls := findClass_of_methodNamed Bd.named
 have hnm := (name_of_methodNamed Bd.named Bd.method).1
 have X0 : Stand p l e Rm0 s m #[(.long (own_j td))] below meth c s₁ [] 0 0 := Stand.of_body Bd
 have e0 : s₁.heap = h0 := by rw [← hh, Bd.state]; rfl
 have N0 := Fr.nil n0
 show Go p.tables e below (fun o U' => ∃ v L, o = .returned v ∧ Qrmdch Z td h0 n0 v U'.heap L ∧ FrameEnd s o U' L Rm0.cells Rm0.slots) _
 refine Go.step (fun t kt => castTop (ef_rmdch m td) kt) ?_
 show gG s₁ m 0 #[.val (.long (own_j td)), .second] []
 refine Go.step (fun _ kt => XS.lloadN X0.here hx rfl (hb hby d33_0) rfl kt) ?_
 refine Go.step (X0.ldc2Long hx hown (mvT hZ (w177 hw)) (g := (mkF m 1 #[.val (.long (own_j td)), .second] [(.long (own_j td))])) rfl (hb hby d33_1)) ?_
 show gG s₁ m 4 #[.val (.long (own_j td)), .second] [(.long (26 : Int64)), (.long (own_j td))]
 refine Go.step (fun _ kt => XS.lcmp X0.here hx rfl (hb hby d33_4) rfl kt) ?_
 show gG s₁ m 5 #[.val (.long (own_j td)), .second] [(.int (lcmpW (own_j td) (26 : Int64)))]
 by_cases hc5_101 : (lcmpW (own_j td) (26 : Int64)) < (0 : Int32)
 ·have hN5 : td < 26 := own_llt (a := td) (b := 26) (by omega) (by omega) hc5_101
  refine Go.step (fun _ kt => XS.ifNo X0.here hx rfl (hb hby d33_5) rfl ((if0 _ _).trans (tlt hc5_101).2.1) kt) ?_
  refine Go.step (X0.ldc2Long hx hown (mvT hZ (w178 hw)) (g := (mkF m 8 #[.val (.long (own_j td)), .second] [])) rfl (hb hby d33_8)) ?_
  show gG s₁ m 11 #[.val (.long (own_j td)), .second] [(.long (97 : Int64))]
  refine Go.step (fun _ kt => XS.lloadN X0.here hx rfl (hb hby d33_11) rfl (XS.ladd X0.here hx rfl (hb hby d33_12) rfl kt)) ?_
  show gG s₁ m 13 #[.val (.long (own_j td)), .second] [(.long ((97 : Int64) + (own_j td)))]
  have q102 : ((97 : Int64) + (own_j td)) = (own_j (97 + td)) := own_ja 97 td
  rw [q102]
  refine Go.step (fun _ kt => XS.goto X0.here hx rfl (pc0 := 13) (pc' := 25) rfl (hb hby d33_13) (by decide) (by decide) (XS.l2i X0.here hx rfl (hb hby d33_25) rfl kt)) ?_
  show gG s₁ m 26 #[.val (.long (own_j td)), .second] [(.int ((own_j (97 + td)).toInt32))]
  have q103 : ((own_j (97 + td)).toInt32) = (own_i (97 + td)) := own_ji (a := (97 + td)) (by omega)
  rw [q103]
  refine Go.step (fun _ kt => XS.i2c X0.here hx rfl (hb hby d33_26) rfl kt) ?_
  show gG s₁ m 27 #[.val (.long (own_j td)), .second] [(.int ((own_i (97 + td)).toUInt32.toUInt16.toUInt32.toInt32))]
  have q104 : ((own_i (97 + td)).toUInt32.toUInt16.toUInt32.toInt32) = (own_i (97 + td)) := own_c16 (n := (97 + td)) (by omega)
  rw [q104]
  obtain ⟨fs, hr, hrun, hended, hW, hsame⟩ := X0.leave (v := some (.int (nar .char (own_i (97 + td))))) (fun h => by rw [Bd.returns] at h; cases h)
  refine ⟨_, _, retN X0 hx (t := .char) Bd.returns (by simp) (hb hby d33_27) hr, hrun, hended, _, _, rfl, ?_, ⟨_, rfl⟩, hW, hsame.mono (by decide) (by decide)⟩
  show Qrmdch Z td h0 n0 _ s₁.heap _
  rw [e0]
  refine ⟨?_, N0, rfl⟩
  have q0 : (97 + td) = own_dch td := by have q := own_dchT hN5; omega
  rw [own_nc (n := (97 + td)) (by omega), q0]
 ·have hN5 : ¬ (td < 26) := own_llf (a := td) (b := 26) (by omega) (by omega) hc5_101
  refine Go.step (fun _ kt => XS.ifYes X0.here hx rfl (pc0 := 5) (pc' := 16) rfl (hb hby d33_5) rfl ((if0 _ _).trans (flt hc5_101).2.1) (by decide) (by decide) kt) ?_
  refine Go.step (X0.ldc2Long hx hown (mvT hZ (w208 hw)) (g := (mkF m 16 #[.val (.long (own_j td)), .second] [])) rfl (hb hby d33_16)) ?_
  show gG s₁ m 19 #[.val (.long (own_j td)), .second] [(.long (48 : Int64))]
  refine Go.step (fun _ kt => XS.lloadN X0.here hx rfl (hb hby d33_19) rfl (XS.ladd X0.here hx rfl (hb hby d33_20) rfl kt)) ?_
  show gG s₁ m 21 #[.val (.long (own_j td)), .second] [(.long ((48 : Int64) + (own_j td)))]
  have q105 : ((48 : Int64) + (own_j td)) = (own_j (48 + td)) := own_ja 48 td
  rw [q105]
  refine Go.step (X0.ldc2Long hx hown (mvT hZ (w177 hw)) (g := (mkF m 21 #[.val (.long (own_j td)), .second] [(.long (own_j (48 + td)))])) rfl (hb hby d33_21)) ?_
  show gG s₁ m 24 #[.val (.long (own_j td)), .second] [(.long (26 : Int64)), (.long (own_j (48 + td)))]
  refine Go.step (fun _ kt => XS.lsub X0.here hx rfl (hb hby d33_24) rfl kt) ?_
  show gG s₁ m 25 #[.val (.long (own_j td)), .second] [(.long ((own_j (48 + td)) - (26 : Int64)))]
  have q106 : ((own_j (48 + td)) - (26 : Int64)) = (own_j ((48 + td) - 26)) := own_js (a := (48 + td)) (b := 26) (by omega)
  rw [q106]
  refine Go.step (fun _ kt => XS.l2i X0.here hx rfl (hb hby d33_25) rfl kt) ?_
  show gG s₁ m 26 #[.val (.long (own_j td)), .second] [(.int ((own_j ((48 + td) - 26)).toInt32))]
  have q107 : ((own_j ((48 + td) - 26)).toInt32) = (own_i ((48 + td) - 26)) := own_ji (a := ((48 + td) - 26)) (by omega)
  rw [q107]
  refine Go.step (fun _ kt => XS.i2c X0.here hx rfl (hb hby d33_26) rfl kt) ?_
  show gG s₁ m 27 #[.val (.long (own_j td)), .second] [(.int ((own_i ((48 + td) - 26)).toUInt32.toUInt16.toUInt32.toInt32))]
  have q108 : ((own_i ((48 + td) - 26)).toUInt32.toUInt16.toUInt32.toInt32) = (own_i ((48 + td) - 26)) := own_c16 (n := ((48 + td) - 26)) (by omega)
  rw [q108]
  obtain ⟨fs, hr, hrun, hended, hW, hsame⟩ := X0.leave (v := some (.int (nar .char (own_i ((48 + td) - 26))))) (fun h => by rw [Bd.returns] at h; cases h)
  refine ⟨_, _, retN X0 hx (t := .char) Bd.returns (by simp) (hb hby d33_27) hr, hrun, hended, _, _, rfl, ?_, ⟨_, rfl⟩, hW, hsame.mono (by decide) (by decide)⟩
  show Qrmdch Z td h0 n0 _ s₁.heap _
  rw [e0]
  refine ⟨?_, N0, rfl⟩
  have q0 : ((48 + td) - 26) = own_dch td := by have q := own_dchF hN5; omega
  rw [own_nc (n := ((48 + td) - 26)) (by omega), q0]
theorem d34_0 : dC4 0 (.iload_n 3, 1) := by decide +kernel
theorem d34_1 : dC4 1 (.ifCond .eq 11, 3) := by decide +kernel
theorem d34_4 : dC4 4 (.lload_n 0, 1) := by decide +kernel
theorem d34_5 : dC4 5 (.ldc2_w 88, 3) := by decide +kernel
theorem d34_8 : dC4 8 (.ldiv, 1) := by decide +kernel
theorem d34_9 : dC4 9 (.goto 8, 3) := by decide +kernel
theorem d34_12 : dC4 12 (.lload_n 0, 1) := by decide +kernel
theorem d34_13 : dC4 13 (.ldc2_w 90, 3) := by decide +kernel
theorem d34_16 : dC4 16 (.ldiv, 1) := by decide +kernel
theorem d34_17 : dC4 17 (.lstore 4, 2) := by decide +kernel
theorem d34_19 : dC4 19 (.lload 4, 2) := by decide +kernel
theorem d34_21 : dC4 21 (.lload 4, 2) := by decide +kernel
theorem d34_23 : dC4 23 (.iload_n 2, 1) := by decide +kernel
theorem d34_24 : dC4 24 (.i2l, 1) := by decide +kernel
theorem d34_25 : dC4 25 (.ldiv, 1) := by decide +kernel
theorem d34_26 : dC4 26 (.ladd, 1) := by decide +kernel
theorem d34_27 : dC4 27 (.lstore 4, 2) := by decide +kernel
theorem d34_29 : dC4 29 (.iconst 0, 1) := by decide +kernel
theorem d34_30 : dC4 30 (.istore 6, 2) := by decide +kernel
theorem d34_32 : dC4 32 (.lload 4, 2) := by decide +kernel
theorem d34_34 : dC4 34 (.ldc2_w 92, 3) := by decide +kernel
theorem d34_37 : dC4 37 (.lcmp, 1) := by decide +kernel
theorem d34_38 : dC4 38 (.ifCond .le 17, 3) := by decide +kernel
theorem d34_41 : dC4 41 (.lload 4, 2) := by decide +kernel
theorem d34_43 : dC4 43 (.ldc2_w 94, 3) := by decide +kernel
theorem d34_46 : dC4 46 (.ldiv, 1) := by decide +kernel
theorem d34_47 : dC4 47 (.lstore 4, 2) := by decide +kernel
theorem d34_49 : dC4 49 (.iinc 6 36, 3) := by decide +kernel
theorem d34_52 : dC4 52 (.goto (-20), 3) := by decide +kernel
theorem d34_55 : dC4 55 (.iload 6, 2) := by decide +kernel
theorem d34_57 : dC4 57 (.i2l, 1) := by decide +kernel
theorem d34_58 : dC4 58 (.ldc2_w 96, 3) := by decide +kernel
theorem d34_61 : dC4 61 (.lload 4, 2) := by decide +kernel
theorem d34_63 : dC4 63 (.lmul, 1) := by decide +kernel
theorem d34_64 : dC4 64 (.lload 4, 2) := by decide +kernel
theorem d34_66 : dC4 66 (.ldc2_w 98, 3) := by decide +kernel
theorem d34_69 : dC4 69 (.ladd, 1) := by decide +kernel
theorem d34_70 : dC4 70 (.ldiv, 1) := by decide +kernel
theorem d34_71 : dC4 71 (.ladd, 1) := by decide +kernel
theorem d34_72 : dC4 72 (.l2i, 1) := by decide +kernel
theorem d34_73 : dC4 73 (.ireturn, 1) := by decide +kernel
theorem ef_rmad (m : MethodId) (fi : Int32) (dl : Nat) (pt : Nat) (fb : Bool) : entryFrame m #[(.long (own_j dl)), (.int (own_i pt)), (.int fi)] 7 = mkF m 0 #[.val (.long (own_j dl)), .second, vI (own_i pt), vI fi, uS, uS, uS] [] := by first | (simp [entryFrame, mkF, argsToLocals, Value.category]; done) | rfl
def Qrmad (Z : State) (fi : Int32) (dl : Nat) (pt : Nat) (fb : Bool) (h0 : Heap) (n0 : Nat) (v : Option Value) (h : Heap) (L : List Loc) : Prop := v = some (.int (own_i (own_adapt dl pt fb))) ∧ Fr n0 L ∧ h = h0
set_option maxRecDepth 65536 in
set_option maxHeartbeats 40000000 in
theorem rmad (l : Launch) (Z : State) (a0 : Array Value) (hw : ∀ d ∈ tables_1, d.before a0 Z = true) (ws : List Jvm.Cond) (fi : Int32) (dl : Nat) (pt : Nat) (fb : Bool) (h0 : Heap) (n0 : Nat) (Z0 : n0 ≤ h0.size) (hd1 : dl ≤ 20000000) (hp1 : 0 < pt ∧ pt < 2147483648) (hfi : fi = (if fb = true then 1 else 0)) :
    MetFree l Y4 (head1 (Jvm.Cond.code Y4 prog_12_method_7_code 7 (some .int) :: ws) Rm0) (fun a U => a = #[(.long (own_j dl)), (.int (own_i pt)), (.int fi)] ∧ Z.Warmed39 U.vm ∧ U.heap = h0) (fun _ _ _ _ _ => True) (fun _ U o U' => ∃ v L, o = .returned v ∧ Qrmad Z fi dl pt fb h0 n0 v U'.heap L ∧ FrameEnd U o U' L Rm0.cells Rm0.slots) := by
 refine MetFree.of_bodySF (plainFor_of_name pn_0) hisR ?_
 intro p e s m args below meth c s₁ Bd hml0 hP hK
 obtain ⟨rfl, hZ, hh⟩ := hP
 have hx := Bd.exec
 have hby := Bd.bytes
 have hml : c.maxLocals = 7 := hml0
 have hown : s.vm.findClass "com/example/kenning/kenning/Punycode" = some m.cls := findClass_of_methodNamed Bd.named
 have hnm := (name_of_methodNamed Bd.named Bd.method).1
 have X0 : Stand p l e Rm0 s m #[(.long (own_j dl)), (.int (own_i pt)), (.int fi)] below meth c s₁ [] 0 0 := Stand.of_body Bd
 have e0 : s₁.heap = h0 := by rw [← hh, Bd.state]; rfl
 have N0 := Fr.nil n0
 show Go p.tables e below (fun o U' => ∃ v L, o = .returned v ∧ Qrmad Z fi dl pt fb h0 n0 v U'.heap L ∧ FrameEnd s o U' L Rm0.cells Rm0.slots) _
 refine Go.step (fun t kt => castTop (ef_rmad m fi dl pt fb) kt) ?_
 show gG s₁ m 0 #[.val (.long (own_j dl)), .second, vI (own_i pt), vI fi, uS, uS, uS] []
 refine Go.step (fun _ kt => XS.iloadN X0.here hx rfl (hb hby d34_0) rfl kt) ?_
 show gG s₁ m 1 #[.val (.long (own_j dl)), .second, vI (own_i pt), vI fi, uS, uS, uS] [(.int fi)]
 have J17 : ∀ (sd : Nat) (hsd : sd = (if fb = true then dl / 700 else dl / 2)) (hsl : sd ≤ dl), Go p.tables e below (fun o U' => ∃ v L, o = .returned v ∧ Qrmad Z fi dl pt fb h0 n0 v U'.heap L ∧ FrameEnd s o U' L Rm0.cells Rm0.slots) (s₁.setTop (mkF m 17 #[.val (.long (own_j dl)), .second, vI (own_i pt), vI fi, uS, uS, uS] [(.long (own_j sd))])) := by
  intro sd hsd hsl
  show gG s₁ m 17 #[.val (.long (own_j dl)), .second, vI (own_i pt), vI fi, uS, uS, uS] [(.long (own_j sd))]
  refine Go.step (fun _ kt => XS.lstore X0.here hx rfl (hb hby d34_17) rfl (l' := #[.val (.long (own_j dl)), .second, vI (own_i pt), vI fi, .val (.long (own_j sd)), .second, uS]) rfl (XS.lload X0.here hx rfl (hb hby d34_19) rfl (XS.lload X0.here hx rfl (hb hby d34_21) rfl (XS.iloadN X0.here hx rfl (hb hby d34_23) rfl (XS.i2l X0.here hx rfl (hb hby d34_24) rfl kt))))) ?_
  show gG s₁ m 25 #[.val (.long (own_j dl)), .second, vI (own_i pt), vI fi, .val (.long (own_j sd)), .second, uS] [(.long ((own_i pt).toInt64)), (.long (own_j sd)), (.long (own_j sd))]
  have q101 : ((own_i pt).toInt64) = (own_j pt) := own_ij (a := pt) (by omega)
  rw [q101]
  refine Go.step (fun _ kt => XS.ldiv X0.here hx rfl (hb hby d34_25) rfl (own_jnz (by omega) (by omega)) kt) ?_
  show gG s₁ m 26 #[.val (.long (own_j dl)), .second, vI (own_i pt), vI fi, .val (.long (own_j sd)), .second, uS] [(.long ((own_j sd) / (own_j pt))), (.long (own_j sd))]
  have hq0 := Nat.div_le_self sd pt
  have q102 : ((own_j sd) / (own_j pt)) = (own_j (sd / pt)) := own_jd (a := sd) (b := pt) (by omega) (by omega)
  rw [q102]
  refine Go.step (fun _ kt => XS.ladd X0.here hx rfl (hb hby d34_26) rfl kt) ?_
  show gG s₁ m 27 #[.val (.long (own_j dl)), .second, vI (own_i pt), vI fi, .val (.long (own_j sd)), .second, uS] [(.long ((own_j sd) + (own_j (sd / pt))))]
  have q103 : ((own_j sd) + (own_j (sd / pt))) = (own_j (sd + (sd / pt))) := own_ja sd (sd / pt)
  rw [q103]
  refine Go.step (fun _ kt => XS.lstore X0.here hx rfl (hb hby d34_27) rfl (l' := #[.val (.long (own_j dl)), .second, vI (own_i pt), vI fi, .val (.long (own_j (sd + (sd / pt)))), .second, uS]) rfl (XS.iconst X0.here hx rfl (hb hby d34_29) (XS.istore X0.here hx rfl (hb hby d34_30) rfl (l' := #[.val (.long (own_j dl)), .second, vI (own_i pt), vI fi, .val (.long (own_j (sd + (sd / pt)))), .second, vI 0]) rfl kt))) ?_
  show gG s₁ m 32 #[.val (.long (own_j dl)), .second, vI (own_i pt), vI fi, .val (.long (own_j (sd + (sd / pt)))), .second, vI 0] []
  have J32 : ∀ (fu : Nat) (sx : Nat) (kx : Nat) (hA : own_adapt dl pt fb = own_ad sx kx) (hs : sx < fu) (hk1 : kx + 36 * sx + 36 ≤ 2000000000), Go p.tables e below (fun o U' => ∃ v L, o = .returned v ∧ Qrmad Z fi dl pt fb h0 n0 v U'.heap L ∧ FrameEnd s o U' L Rm0.cells Rm0.slots) (s₁.setTop (mkF m 32 #[.val (.long (own_j dl)), .second, vI (own_i pt), vI fi, .val (.long (own_j sx)), .second, vI (own_i kx)] [])) := by
   intro fu
   induction fu with
   | zero =>
    intro sx kx hA hs hk1
    exact absurd hs (Nat.not_lt_zero _)
   | succ fu ih32 =>
    intro sx kx hA hs hk1
    show gG s₁ m 32 #[.val (.long (own_j dl)), .second, vI (own_i pt), vI fi, .val (.long (own_j sx)), .second, vI (own_i kx)] []
    refine Go.step (fun _ kt => XS.lload X0.here hx rfl (hb hby d34_32) rfl kt) ?_
    refine Go.step (X0.ldc2Long hx hown (mvT hZ (w183 hw)) (g := (mkF m 34 #[.val (.long (own_j dl)), .second, vI (own_i pt), vI fi, .val (.long (own_j sx)), .second, vI (own_i kx)] [(.long (own_j sx))])) rfl (hb hby d34_34)) ?_
    show gG s₁ m 37 #[.val (.long (own_j dl)), .second, vI (own_i pt), vI fi, .val (.long (own_j sx)), .second, vI (own_i kx)] [(.long (455 : Int64)), (.long (own_j sx))]
    refine Go.step (fun _ kt => XS.lcmp X0.here hx rfl (hb hby d34_37) rfl kt) ?_
    show gG s₁ m 38 #[.val (.long (own_j dl)), .second, vI (own_i pt), vI fi, .val (.long (own_j sx)), .second, vI (own_i kx)] [(.int (lcmpW (own_j sx) (455 : Int64)))]
    by_cases hc38_104 : (0 : Int32) < (lcmpW (own_j sx) (455 : Int64))
    ·have hN38 : 455 < sx := own_lgt (a := 455) (b := sx) (by omega) (by omega) hc38_104
     refine Go.step (fun _ kt => XS.ifNo X0.here hx rfl (hb hby d34_38) rfl ((if0 _ _).trans (tlt hc38_104).2.2.2) (XS.lload X0.here hx rfl (hb hby d34_41) rfl kt)) ?_
     refine Go.step (X0.ldc2Long hx hown (mvT hZ (w209 hw)) (g := (mkF m 43 #[.val (.long (own_j dl)), .second, vI (own_i pt), vI fi, .val (.long (own_j sx)), .second, vI (own_i kx)] [(.long (own_j sx))])) rfl (hb hby d34_43)) ?_
     show gG s₁ m 46 #[.val (.long (own_j dl)), .second, vI (own_i pt), vI fi, .val (.long (own_j sx)), .second, vI (own_i kx)] [(.long (35 : Int64)), (.long (own_j sx))]
     refine Go.step (fun _ kt => XS.ldiv X0.here hx rfl (hb hby d34_46) rfl (by decide) kt) ?_
     show gG s₁ m 47 #[.val (.long (own_j dl)), .second, vI (own_i pt), vI fi, .val (.long (own_j sx)), .second, vI (own_i kx)] [(.long ((own_j sx) / (35 : Int64)))]
     have q105 : ((own_j sx) / (35 : Int64)) = (own_j (sx / 35)) := own_jd (a := sx) (b := 35) (by omega) (by omega)
     rw [q105]
     refine Go.step (fun _ kt => XS.lstore X0.here hx rfl (hb hby d34_47) rfl (l' := #[.val (.long (own_j dl)), .second, vI (own_i pt), vI fi, .val (.long (own_j (sx / 35))), .second, vI (own_i kx)]) rfl (XS.iinc X0.here hx rfl (hb hby d34_49) rfl (l' := #[.val (.long (own_j dl)), .second, vI (own_i pt), vI fi, .val (.long (own_j (sx / 35))), .second, vI ((own_i kx) + (36 : Int32))]) rfl kt)) ?_
     show gG s₁ m 52 #[.val (.long (own_j dl)), .second, vI (own_i pt), vI fi, .val (.long (own_j (sx / 35))), .second, vI ((own_i kx) + (36 : Int32))] []
     have q106 : ((own_i kx) + (36 : Int32)) = (own_i (kx + 36)) := own_ia kx 36
     rw [q106]
     refine Go.step (fun _ kt => XS.goto X0.here hx rfl (pc0 := 52) (pc' := 32) rfl (hb hby d34_52) (by decide) (by decide) kt) ?_
     show gG s₁ m 32 #[.val (.long (own_j dl)), .second, vI (own_i pt), vI fi, .val (.long (own_j (sx / 35))), .second, vI (own_i (kx + 36))] []
     exact ih32 (sx / 35) (kx + 36) (by rw [hA, own_adT hN38]) (by omega) (by omega)
    ·have hN38 : ¬ (455 < sx) := own_lgf (a := 455) (b := sx) (by omega) (by omega) hc38_104
     refine Go.step (fun _ kt => XS.ifYes X0.here hx rfl (pc0 := 38) (pc' := 55) rfl (hb hby d34_38) rfl ((if0 _ _).trans (flt hc38_104).2.2.2) (by decide) (by decide) (XS.iload X0.here hx rfl (hb hby d34_55) rfl (XS.i2l X0.here hx rfl (hb hby d34_57) rfl kt))) ?_
     show gG s₁ m 58 #[.val (.long (own_j dl)), .second, vI (own_i pt), vI fi, .val (.long (own_j sx)), .second, vI (own_i kx)] [(.long ((own_i kx).toInt64))]
     have q107 : ((own_i kx).toInt64) = (own_j kx) := own_ij (a := kx) (by omega)
     rw [q107]
     refine Go.step (X0.ldc2Long hx hown (mvT hZ (w184 hw)) (g := (mkF m 58 #[.val (.long (own_j dl)), .second, vI (own_i pt), vI fi, .val (.long (own_j sx)), .second, vI (own_i kx)] [(.long (own_j kx))])) rfl (hb hby d34_58)) ?_
     show gG s₁ m 61 #[.val (.long (own_j dl)), .second, vI (own_i pt), vI fi, .val (.long (own_j sx)), .second, vI (own_i kx)] [(.long (36 : Int64)), (.long (own_j kx))]
     refine Go.step (fun _ kt => XS.lload X0.here hx rfl (hb hby d34_61) rfl (XS.lmul X0.here hx rfl (hb hby d34_63) rfl kt)) ?_
     show gG s₁ m 64 #[.val (.long (own_j dl)), .second, vI (own_i pt), vI fi, .val (.long (own_j sx)), .second, vI (own_i kx)] [(.long ((36 : Int64) * (own_j sx))), (.long (own_j kx))]
     have q108 : ((36 : Int64) * (own_j sx)) = (own_j (36 * sx)) := own_jm 36 sx
     rw [q108]
     refine Go.step (fun _ kt => XS.lload X0.here hx rfl (hb hby d34_64) rfl kt) ?_
     refine Go.step (X0.ldc2Long hx hown (mvT hZ (w185 hw)) (g := (mkF m 66 #[.val (.long (own_j dl)), .second, vI (own_i pt), vI fi, .val (.long (own_j sx)), .second, vI (own_i kx)] [(.long (own_j sx)), (.long (own_j (36 * sx))), (.long (own_j kx))])) rfl (hb hby d34_66)) ?_
     show gG s₁ m 69 #[.val (.long (own_j dl)), .second, vI (own_i pt), vI fi, .val (.long (own_j sx)), .second, vI (own_i kx)] [(.long (38 : Int64)), (.long (own_j sx)), (.long (own_j (36 * sx))), (.long (own_j kx))]
     refine Go.step (fun _ kt => XS.ladd X0.here hx rfl (hb hby d34_69) rfl kt) ?_
     show gG s₁ m 70 #[.val (.long (own_j dl)), .second, vI (own_i pt), vI fi, .val (.long (own_j sx)), .second, vI (own_i kx)] [(.long ((own_j sx) + (38 : Int64))), (.long (own_j (36 * sx))), (.long (own_j kx))]
     have q109 : ((own_j sx) + (38 : Int64)) = (own_j (sx + 38)) := own_ja sx 38
     rw [q109]
     refine Go.step (fun _ kt => XS.ldiv X0.here hx rfl (hb hby d34_70) rfl (own_jnz (by omega) (by omega)) kt) ?_
     show gG s₁ m 71 #[.val (.long (own_j dl)), .second, vI (own_i pt), vI fi, .val (.long (own_j sx)), .second, vI (own_i kx)] [(.long ((own_j (36 * sx)) / (own_j (sx + 38)))), (.long (own_j kx))]
     have hq1 := Nat.div_le_self (36 * sx) (sx + 38)
     have q110 : ((own_j (36 * sx)) / (own_j (sx + 38))) = (own_j ((36 * sx) / (sx + 38))) := own_jd (a := (36 * sx)) (b := (sx + 38)) (by omega) (by omega)
     rw [q110]
     refine Go.step (fun _ kt => XS.ladd X0.here hx rfl (hb hby d34_71) rfl kt) ?_
     show gG s₁ m 72 #[.val (.long (own_j dl)), .second, vI (own_i pt), vI fi, .val (.long (own_j sx)), .second, vI (own_i kx)] [(.long ((own_j kx) + (own_j ((36 * sx) / (sx + 38)))))]
     have q111 : ((own_j kx) + (own_j ((36 * sx) / (sx + 38)))) = (own_j (kx + ((36 * sx) / (sx + 38)))) := own_ja kx ((36 * sx) / (sx + 38))
     rw [q111]
     refine Go.step (fun _ kt => XS.l2i X0.here hx rfl (hb hby d34_72) rfl kt) ?_
     show gG s₁ m 73 #[.val (.long (own_j dl)), .second, vI (own_i pt), vI fi, .val (.long (own_j sx)), .second, vI (own_i kx)] [(.int ((own_j (kx + ((36 * sx) / (sx + 38)))).toInt32))]
     have q112 : ((own_j (kx + ((36 * sx) / (sx + 38)))).toInt32) = (own_i (kx + ((36 * sx) / (sx + 38)))) := own_ji (a := (kx + ((36 * sx) / (sx + 38)))) (by omega)
     rw [q112]
     obtain ⟨fs, hr, hrun, hended, hW, hsame⟩ := X0.leave (v := some (.int (own_i (kx + ((36 * sx) / (sx + 38)))))) (fun h => by rw [Bd.returns] at h; cases h)
     refine ⟨_, _, retI X0 hx Bd.returns (hb hby d34_73) hr, hrun, hended, _, _, rfl, ?_, ⟨_, rfl⟩, hW, hsame.mono (by decide) (by decide)⟩
     show Qrmad Z fi dl pt fb h0 n0 _ s₁.heap _
     rw [e0]
     refine ⟨?_, N0, rfl⟩
     rw [hA, own_adF hN38]
  exact J32 ((sd + (sd / pt)) + 1) (sd + (sd / pt)) 0 (by rw [hsd]; rfl) (Nat.lt_succ_self _) (by omega)
 by_cases hc1_113 : fi = (0 : Int32)
 ·refine Go.step (fun _ kt => XS.ifYes X0.here hx rfl (pc0 := 1) (pc' := 12) rfl (hb hby d34_1) rfl ((if0 _ _).trans (teq hc1_113).1) (by decide) (by decide) kt) ?_
  show gG s₁ m 12 #[.val (.long (own_j dl)), .second, vI (own_i pt), vI fi, uS, uS, uS] []
  have hfb : fb = false := by cases fb <;> simp_all
  refine Go.step (fun _ kt => XS.lloadN X0.here hx rfl (hb hby d34_12) rfl kt) ?_
  refine Go.step (X0.ldc2Long hx hown (mvT hZ (w210 hw)) (g := (mkF m 13 #[.val (.long (own_j dl)), .second, vI (own_i pt), vI fi, uS, uS, uS] [(.long (own_j dl))])) rfl (hb hby d34_13)) ?_
  show gG s₁ m 16 #[.val (.long (own_j dl)), .second, vI (own_i pt), vI fi, uS, uS, uS] [(.long (2 : Int64)), (.long (own_j dl))]
  refine Go.step (fun _ kt => XS.ldiv X0.here hx rfl (hb hby d34_16) rfl (by decide) kt) ?_
  show gG s₁ m 17 #[.val (.long (own_j dl)), .second, vI (own_i pt), vI fi, uS, uS, uS] [(.long ((own_j dl) / (2 : Int64)))]
  have q114 : ((own_j dl) / (2 : Int64)) = (own_j (dl / 2)) := own_jd (a := dl) (b := 2) (by omega) (by omega)
  rw [q114]
  exact J17 (dl / 2) (by simp [hfb]) (by omega)
 ·refine Go.step (fun _ kt => XS.ifNo X0.here hx rfl (hb hby d34_1) rfl ((if0 _ _).trans (feq hc1_113).1) kt) ?_
  show gG s₁ m 4 #[.val (.long (own_j dl)), .second, vI (own_i pt), vI fi, uS, uS, uS] []
  have hfb : fb = true := by cases fb <;> simp_all
  refine Go.step (fun _ kt => XS.lloadN X0.here hx rfl (hb hby d34_4) rfl kt) ?_
  refine Go.step (X0.ldc2Long hx hown (mvT hZ (w182 hw)) (g := (mkF m 5 #[.val (.long (own_j dl)), .second, vI (own_i pt), vI fi, uS, uS, uS] [(.long (own_j dl))])) rfl (hb hby d34_5)) ?_
  show gG s₁ m 8 #[.val (.long (own_j dl)), .second, vI (own_i pt), vI fi, uS, uS, uS] [(.long (700 : Int64)), (.long (own_j dl))]
  refine Go.step (fun _ kt => XS.ldiv X0.here hx rfl (hb hby d34_8) rfl (by decide) kt) ?_
  show gG s₁ m 9 #[.val (.long (own_j dl)), .second, vI (own_i pt), vI fi, uS, uS, uS] [(.long ((own_j dl) / (700 : Int64)))]
  have q115 : ((own_j dl) / (700 : Int64)) = (own_j (dl / 700)) := own_jd (a := dl) (b := 700) (by omega) (by omega)
  rw [q115]
  refine Go.step (fun _ kt => XS.goto X0.here hx rfl (pc0 := 9) (pc' := 17) rfl (hb hby d34_9) (by decide) (by decide) kt) ?_
  show gG s₁ m 17 #[.val (.long (own_j dl)), .second, vI (own_i pt), vI fi, uS, uS, uS] [(.long (own_j (dl / 700)))]
  exact J17 (dl / 700) (by simp [hfb]) (by omega)
theorem d39_0 : dC5 0 (.iload_n 0, 1) := by decide +kernel
theorem d39_1 : dC5 1 (.bipush 48, 2) := by decide +kernel
theorem d39_3 : dC5 3 (.if_icmp .lt 20, 3) := by decide +kernel
theorem d39_6 : dC5 6 (.iload_n 0, 1) := by decide +kernel
theorem d39_7 : dC5 7 (.bipush 57, 2) := by decide +kernel
theorem d39_9 : dC5 9 (.if_icmp .gt 14, 3) := by decide +kernel
theorem d39_12 : dC5 12 (.iload_n 0, 1) := by decide +kernel
theorem d39_13 : dC5 13 (.bipush 48, 2) := by decide +kernel
theorem d39_15 : dC5 15 (.isub, 1) := by decide +kernel
theorem d39_16 : dC5 16 (.bipush 26, 2) := by decide +kernel
theorem d39_18 : dC5 18 (.iadd, 1) := by decide +kernel
theorem d39_19 : dC5 19 (.istore_n 1, 1) := by decide +kernel
theorem d39_20 : dC5 20 (.goto 45, 3) := by decide +kernel
theorem d39_23 : dC5 23 (.iload_n 0, 1) := by decide +kernel
theorem d39_24 : dC5 24 (.bipush 97, 2) := by decide +kernel
theorem d39_26 : dC5 26 (.if_icmp .lt 17, 3) := by decide +kernel
theorem d39_29 : dC5 29 (.iload_n 0, 1) := by decide +kernel
theorem d39_30 : dC5 30 (.bipush 122, 2) := by decide +kernel
theorem d39_32 : dC5 32 (.if_icmp .gt 11, 3) := by decide +kernel
theorem d39_35 : dC5 35 (.iload_n 0, 1) := by decide +kernel
theorem d39_36 : dC5 36 (.bipush 97, 2) := by decide +kernel
theorem d39_38 : dC5 38 (.isub, 1) := by decide +kernel
theorem d39_39 : dC5 39 (.istore_n 1, 1) := by decide +kernel
theorem d39_40 : dC5 40 (.goto 25, 3) := by decide +kernel
theorem d39_65 : dC5 65 (.iload_n 1, 1) := by decide +kernel
theorem d39_66 : dC5 66 (.ireturn, 1) := by decide +kernel
theorem ef_rmdig (m : MethodId) (cx : Nat) (td : Nat) : entryFrame m #[(.int (own_i cx))] 2 = mkF m 0 #[vI (own_i cx), uS] [] := by first | (simp [entryFrame, mkF, argsToLocals, Value.category]; done) | rfl
def Qrmdig (Z : State) (cx : Nat) (td : Nat) (h0 : Heap) (n0 : Nat) (v : Option Value) (h : Heap) (L : List Loc) : Prop := v = some (.int (own_i td)) ∧ Fr n0 L ∧ h = h0
set_option maxRecDepth 65536 in
set_option maxHeartbeats 40000000 in
theorem rmdig (l : Launch) (Z : State) (a0 : Array Value) (hw : ∀ d ∈ tables_1, d.before a0 Z = true) (ws : List Jvm.Cond) (cx : Nat) (td : Nat) (h0 : Heap) (n0 : Nat) (Z0 : n0 ≤ h0.size) (hd1 : td < 36) (hcx : cx = own_dch td) :
    MetFree l Y5 (head1 (Jvm.Cond.code Y5 prog_12_method_4_code 2 (some .int) :: ws) Rm0) (fun a U => a = #[(.int (own_i cx))] ∧ Z.Warmed39 U.vm ∧ U.heap = h0) (fun _ _ _ _ _ => True) (fun _ U o U' => ∃ v L, o = .returned v ∧ Qrmdig Z cx td h0 n0 v U'.heap L ∧ FrameEnd U o U' L Rm0.cells Rm0.slots) := by
 refine MetFree.of_bodySF (plainFor_of_name pn_0) hisR ?_
 intro p e s m args below meth c s₁ Bd hml0 hP hK
 obtain ⟨rfl, hZ, hh⟩ := hP
 have hx := Bd.exec
 have hby := Bd.bytes
 have hml : c.maxLocals = 2 := hml0
 have hown : s.vm.findClass "com/example/kenning/kenning/Punycode" = some m.cls := findClass_of_methodNamed Bd.named
 have hnm := (name_of_methodNamed Bd.named Bd.method).1
 have X0 : Stand p l e Rm0 s m #[(.int (own_i cx))] below meth c s₁ [] 0 0 := Stand.of_body Bd
 have e0 : s₁.heap = h0 := by rw [← hh, Bd.state]; rfl
 have N0 := Fr.nil n0
 show Go p.tables e below (fun o U' => ∃ v L, o = .returned v ∧ Qrmdig Z cx td h0 n0 v U'.heap L ∧ FrameEnd s o U' L Rm0.cells Rm0.slots) _
 refine Go.step (fun t kt => castTop (ef_rmdig m cx td) kt) ?_
 show gG s₁ m 0 #[vI (own_i cx), uS] []
 by_cases hk101 : td < 26
 ·have hv : cx = 97 + td := by rw [hcx, own_dchT hk101]
  show gG s₁ m 0 #[vI (own_i cx), uS] []
  refine Go.step (fun _ kt => XS.iloadN X0.here hx rfl (hb hby d39_0) rfl (XS.bipush X0.here hx rfl (hb hby d39_1) (XS.icmpNo X0.here hx rfl (hb hby d39_3) rfl (flt (own_ilF (a := cx) (b := 48) (by omega) (by omega) (by omega))).1 (XS.iloadN X0.here hx rfl (hb hby d39_6) rfl (XS.bipush X0.here hx rfl (hb hby d39_7) (XS.icmpYes X0.here hx rfl (pc0 := 9) (pc' := 23) rfl (hb hby d39_9) rfl (tlt (own_ilT (a := 57) (b := cx) (by omega) (by omega) (by omega))).2.2.1 (by decide) (by decide) (XS.iloadN X0.here hx rfl (hb hby d39_23) rfl (XS.bipush X0.here hx rfl (hb hby d39_24) (XS.icmpNo X0.here hx rfl (hb hby d39_26) rfl (flt (own_ilF (a := cx) (b := 97) (by omega) (by omega) (by omega))).1 (XS.iloadN X0.here hx rfl (hb hby d39_29) rfl (XS.bipush X0.here hx rfl (hb hby d39_30) (XS.icmpNo X0.here hx rfl (hb hby d39_32) rfl (flt (own_ilF (a := 122) (b := cx) (by omega) (by omega) (by omega))).2.2.1 (XS.iloadN X0.here hx rfl (hb hby d39_35) rfl (XS.bipush X0.here hx rfl (hb hby d39_36) (XS.isub X0.here hx rfl (hb hby d39_38) rfl kt))))))))))))))) ?_
  show gG s₁ m 39 #[vI (own_i cx), uS] [(.int ((own_i cx) - (97 : Int32)))]
  have q102 : ((own_i cx) - (97 : Int32)) = (own_i (cx - 97)) := own_is (a := cx) (b := 97) (by omega)
  rw [q102]
  refine Go.step (fun _ kt => XS.istoreN X0.here hx rfl (hb hby d39_39) rfl (l' := #[vI (own_i cx), vI (own_i (cx - 97))]) rfl (XS.goto X0.here hx rfl (pc0 := 40) (pc' := 65) rfl (hb hby d39_40) (by decide) (by decide) (XS.iloadN X0.here hx rfl (hb hby d39_65) rfl kt))) ?_
  show gG s₁ m 66 #[vI (own_i cx), vI (own_i (cx - 97))] [(.int (own_i (cx - 97)))]
  obtain ⟨fs, hr, hrun, hended, hW, hsame⟩ := X0.leave (v := some (.int (own_i (cx - 97)))) (fun h => by rw [Bd.returns] at h; cases h)
  refine ⟨_, _, retI X0 hx Bd.returns (hb hby d39_66) hr, hrun, hended, _, _, rfl, ?_, ⟨_, rfl⟩, hW, hsame.mono (by decide) (by decide)⟩
  show Qrmdig Z cx td h0 n0 _ s₁.heap _
  rw [e0]
  refine ⟨?_, N0, rfl⟩
  have q0 : (cx - 97) = td := by omega
  rw [q0]
 ·have hv : cx = 22 + td := by rw [hcx, own_dchF hk101]
  show gG s₁ m 0 #[vI (own_i cx), uS] []
  refine Go.step (fun _ kt => XS.iloadN X0.here hx rfl (hb hby d39_0) rfl (XS.bipush X0.here hx rfl (hb hby d39_1) (XS.icmpNo X0.here hx rfl (hb hby d39_3) rfl (flt (own_ilF (a := cx) (b := 48) (by omega) (by omega) (by omega))).1 (XS.iloadN X0.here hx rfl (hb hby d39_6) rfl (XS.bipush X0.here hx rfl (hb hby d39_7) (XS.icmpNo X0.here hx rfl (hb hby d39_9) rfl (flt (own_ilF (a := 57) (b := cx) (by omega) (by omega) (by omega))).2.2.1 (XS.iloadN X0.here hx rfl (hb hby d39_12) rfl (XS.bipush X0.here hx rfl (hb hby d39_13) (XS.isub X0.here hx rfl (hb hby d39_15) rfl kt))))))))) ?_
  show gG s₁ m 16 #[vI (own_i cx), uS] [(.int ((own_i cx) - (48 : Int32)))]
  have q103 : ((own_i cx) - (48 : Int32)) = (own_i (cx - 48)) := own_is (a := cx) (b := 48) (by omega)
  rw [q103]
  refine Go.step (fun _ kt => XS.bipush X0.here hx rfl (hb hby d39_16) (XS.iadd X0.here hx rfl (hb hby d39_18) rfl kt)) ?_
  show gG s₁ m 19 #[vI (own_i cx), uS] [(.int ((own_i (cx - 48)) + (26 : Int32)))]
  have q104 : ((own_i (cx - 48)) + (26 : Int32)) = (own_i ((cx - 48) + 26)) := own_ia (cx - 48) 26
  rw [q104]
  refine Go.step (fun _ kt => XS.istoreN X0.here hx rfl (hb hby d39_19) rfl (l' := #[vI (own_i cx), vI (own_i ((cx - 48) + 26))]) rfl (XS.goto X0.here hx rfl (pc0 := 20) (pc' := 65) rfl (hb hby d39_20) (by decide) (by decide) (XS.iloadN X0.here hx rfl (hb hby d39_65) rfl kt))) ?_
  show gG s₁ m 66 #[vI (own_i cx), vI (own_i ((cx - 48) + 26))] [(.int (own_i ((cx - 48) + 26)))]
  obtain ⟨fs, hr, hrun, hended, hW, hsame⟩ := X0.leave (v := some (.int (own_i ((cx - 48) + 26)))) (fun h => by rw [Bd.returns] at h; cases h)
  refine ⟨_, _, retI X0 hx Bd.returns (hb hby d39_66) hr, hrun, hended, _, _, rfl, ?_, ⟨_, rfl⟩, hW, hsame.mono (by decide) (by decide)⟩
  show Qrmdig Z cx td h0 n0 _ s₁.heap _
  rw [e0]
  refine ⟨?_, N0, rfl⟩
  have q0 : ((cx - 48) + 26) = td := by omega
  rw [q0]
theorem pn_1 : plainName "java/lang/AbstractStringBuilder" = true := by first | (simp [plainName, overriddenIn]; done) | decide +kernel
theorem d4_0 : dC6 0 (.aload_n 0, 1) := by decide +kernel
theorem d4_1 : dC6 1 (.invokespecial 3, 3) := by decide +kernel
theorem d4_4 : dC6 4 (.getstatic 18, 3) := by decide +kernel
theorem d4_7 : dC6 7 (.ifCond .eq 18, 3) := by decide +kernel
theorem d4_10 : dC6 10 (.aload_n 0, 1) := by decide +kernel
theorem d4_11 : dC6 11 (.iload_n 1, 1) := by decide +kernel
theorem d4_12 : dC6 12 (.newarray .byte, 2) := by decide +kernel
theorem d4_14 : dC6 14 (.putfield 15, 3) := by decide +kernel
theorem d4_17 : dC6 17 (.aload_n 0, 1) := by decide +kernel
theorem d4_18 : dC6 18 (.iconst 0, 1) := by decide +kernel
theorem d4_19 : dC6 19 (.putfield 22, 3) := by decide +kernel
theorem d4_22 : dC6 22 (.goto 16, 3) := by decide +kernel
theorem d4_38 : dC6 38 (.return_, 1) := by decide +kernel
theorem ef_rmin4 (m : MethodId) (a1 : Addr) (cs : Int32) : entryFrame m #[(.ref a1), (.int 16)] 2 = mkF m 0 #[vR a1, vI 16] [] := by first | (simp [entryFrame, mkF, argsToLocals, Value.category]; done) | rfl
def Qrmin4 (Z : State) (a1 : Addr) (cs : Int32) (h0 : Heap) (n0 : Nat) (v : Option Value) (h : Heap) (L : List Loc) : Prop := ∃ vb : Addr, ∃ kb : ClassId, v = none ∧ Fr n0 L ∧ Keep h0 h [a1] ∧ Exa Z h a1 "java/lang/StringBuilder" ∧ Fld Z h a1 "java/lang/AbstractStringBuilder" "value" "[B" (.ref vb) ∧ Fld Z h a1 "java/lang/AbstractStringBuilder" "coder" "B" (.int 0) ∧ Fld Z h a1 "java/lang/AbstractStringBuilder" "count" "I" (.int (own_i ([] : List Nat).length)) ∧ Exa Z h vb "[B" ∧ Arv Z h vb kb .byte (16 : Int32) ((([] : List Nat).map own_i).map Value.int) (.int 0) ∧ n0 ≤ vb ∧ h0.size ≤ vb
set_option maxRecDepth 65536 in
set_option maxHeartbeats 40000000 in
theorem rmin4 (l : Launch) (Z : State) (a0 : Array Value) (hw : ∀ d ∈ tables_1, d.before a0 Z = true) (ws : List Jvm.Cond) (a1 : Addr) (cs : Int32) (h0 : Heap) (n0 : Nat) (Z0 : n0 ≤ h0.size) (E1 : Exa Z h0 a1 "java/lang/StringBuilder") (Fv : Fld Z h0 a1 "java/lang/AbstractStringBuilder" "value" "[B" .null) (Fc : Fld Z h0 a1 "java/lang/AbstractStringBuilder" "coder" "B" (.int 0)) (Fn : Fld Z h0 a1 "java/lang/AbstractStringBuilder" "count" "I" (.int 0)) (S_cs : Sta Z h0 "java/lang/String" "COMPACT_STRINGS" "Z" (.int cs)) (g_a1 : n0 ≤ a1) (hcs : ¬ cs = 0) :
    MetFree l Y6 (head1 (Jvm.Cond.code Y6 jdk_68_method_2_code 2 none :: ws) Rm2) (fun a U => a = #[(.ref a1), (.int 16)] ∧ Z.Warmed39 U.vm ∧ U.heap = h0) (fun _ _ _ _ _ => True) (fun _ U o U' => ∃ v L, o = .returned v ∧ Qrmin4 Z a1 cs h0 n0 v U'.heap L ∧ FrameEnd U o U' L Rm2.cells Rm2.slots) := by
 refine MetFree.of_bodySF (plainFor_of_name pn_1) hisR ?_
 intro p e s m args below meth c s₁ Bd hml0 hP hK
 obtain ⟨rfl, hZ, hh⟩ := hP
 have hx := Bd.exec
 have hby := Bd.bytes
 have hml : c.maxLocals = 2 := hml0
 have hown : s.vm.findClass "java/lang/AbstractStringBuilder" = some m.cls := findClass_of_methodNamed Bd.named
 have hnm := (name_of_methodNamed Bd.named Bd.method).1
 have X0 : Stand p l e Rm2 s m #[(.ref a1), (.int 16)] below meth c s₁ [] 0 0 := Stand.of_body Bd
 have e0 : s₁.heap = h0 := by rw [← hh, Bd.state]; rfl
 have N0 := Fr.nil n0
 show Go p.tables e below (fun o U' => ∃ v L, o = .returned v ∧ Qrmin4 Z a1 cs h0 n0 v U'.heap L ∧ FrameEnd s o U' L Rm2.cells Rm2.slots) _
 refine Go.step (fun t kt => castTop (ef_rmin4 m a1 cs) kt) ?_
 show gG s₁ m 0 #[vR a1, vI 16] []
 have K101 : Keep h0 h0 [a1] := (Keep.refl h0 [a1])
 refine Go.step (fun _ kt => XS.aloadN X0.here hx rfl (hb hby d4_0) rfl rfl kt) ?_
 obtain ⟨T102, X102, e102, st102⟩ := initO X0 hx hZ hown (w23 hw) (w24 hw) (w25 hw) e0 (g := (mkF m 1 #[vR a1, vI 16] [(.ref a1)])) rfl hml.symm rfl (hb hby d4_1) (by decide) (W := 0) (Nat.le_of_eq rfl) (by decide)
 refine Go.step st102 ?_
 obtain ⟨T103, X103, e103, st103⟩ := getS2 X102 hx hZ hown (host := "") (Or.inl (w26 hw)) Via.refl e102 S_cs (g := (mkF m 4 #[vR a1, vI 16] [])) rfl (hb hby d4_4)
 refine Go.step st103 ?_
 show gG T103 m 7 #[vR a1, vI 16] [(.int cs)]
 refine Go.step (fun _ kt => XS.ifNo X103.here hx rfl (hb hby d4_7) rfl ((if0 _ _).trans (feq hcs).1) (XS.aloadN X103.here hx rfl (hb hby d4_10) rfl rfl (XS.iloadN X103.here hx rfl (hb hby d4_11) rfl kt))) ?_
 obtain ⟨T104, h104, k104, X104, e104, E104, A104, Ex104, st104⟩ := newPE (aty := .byte) X103 hx hZ (w28 hw) e103 (g := (mkF m 12 #[vR a1, vI 16] [(.int 16), (.ref a1)])) rfl (hb hby d4_12) rfl (by decide) (cap := 16) (by decide) (by decide) (by decide) (by decide) (ad := "[B") own_adB
 obtain ⟨b104, g104⟩ : ∃ z, z = h0.size := ⟨_, rfl⟩
 rw [← g104] at A104 Ex104 st104
 refine Go.step st104 ?_
 have ne_a1_b104 : a1 ≠ b104 := Nat.ne_of_lt (Nat.lt_of_lt_of_le E1.lt (Nat.le_of_eq g104.symm))
 have g_b104 : n0 ≤ b104 := Nat.le_trans Z0 (Nat.le_of_eq g104.symm)
 have sz_b104 : h0.size ≤ b104 := Nat.le_trans K101.1 (Nat.le_of_eq g104.symm)
 have F105 := (E1.ext E104)
 have F106 := (Fv.ext E104)
 have F107 := (Fc.ext E104)
 have F108 := (Fn.ext E104)
 have F109 := (S_cs.ext E104)
 have Z110 : n0 ≤ h104.size := (Nat.le_trans Z0 E104.1)
 have K111 : Keep h0 h104 [a1] := (K101.ext E104)
 have V112 : Arv Z h104 b104 k104 .byte (16 : Int32) ((([] : List Nat).map own_i).map Value.int) (.int 0) := Arv.new A104 (by decide)
 obtain ⟨T113, h113, X113, e113, W113, st113⟩ := putF X104 hx hZ hown (host := "") (Or.inl (w29 hw)) Via.refl e104 F106 F105 (Or.inl (w30 hw)) (w12 hw) (ty := (.array .byte)) (by decide) rfl rfl (g := (mkF m 14 #[vR a1, vI 16] [(.ref b104), (.ref a1)])) rfl rfl (hb hby d4_14)
 refine Go.step st113 ?_
 have N113 := Fr.snoc X113 N0 g_a1
 have F114 := (F105.wr W113)
 have F115 := (F106.same W113)
 have F116 := (F107.other W113 (Or.inr (slot_ne (Or.inl (w32 hw)) (Or.inl (w30 hw)) (by decide) (t := .byte) (t' := (.array .byte)) (by decide) (by decide))))
 have F117 := (F108.other W113 (Or.inr (slot_ne (Or.inl (w44 hw)) (Or.inl (w30 hw)) (by decide) (t := .int) (t' := (.array .byte)) (by decide) (by decide))))
 have F118 := (F109.wr W113)
 have F119 := (V112.other W113 (Ne.symm ne_a1_b104))
 have F120 := (Ex104.wr W113)
 have Z121 : n0 ≤ h113.size := (Nat.le_trans Z110 (Nat.le_of_eq W113.size.symm))
 have K122 : Keep h0 h113 [a1] := (K111.wr W113 (Or.inl (List.mem_of_getElem? (i := 0) rfl)))
 show gG T113 m 17 #[vR a1, vI 16] []
 refine Go.step (fun _ kt => XS.aloadN X113.here hx rfl (hb hby d4_17) rfl rfl (XS.iconst X113.here hx rfl (hb hby d4_18) kt)) ?_
 obtain ⟨T123, h123, X123, e123, W123, st123⟩ := putFN X113 hx hZ hown (w31 hw) Via.refl e113 F116 F114 (Or.inl (w32 hw)) (w12 hw) (ty := .byte) (v' := (.int 0)) (by decide) rfl rfl (g := (mkF m 19 #[vR a1, vI 16] [(.int 0), (.ref a1)])) rfl rfl (hb hby d4_19)
 refine Go.step st123 ?_
 have N123 := Fr.snoc X123 N113 g_a1
 have F124 := (F114.wr W123)
 have F125 := (F115.other W123 (Or.inr (slot_ne (Or.inl (w30 hw)) (Or.inl (w32 hw)) (by decide) (t := (.array .byte)) (t' := .byte) (by decide) (by decide))))
 have F126 := (F116.same W123)
 have F127 := (F117.other W123 (Or.inr (slot_ne (Or.inl (w44 hw)) (Or.inl (w32 hw)) (by decide) (t := .int) (t' := .byte) (by decide) (by decide))))
 have F128 := (F118.wr W123)
 have F129 := (F119.other W123 (Ne.symm ne_a1_b104))
 have F130 := (F120.wr W123)
 have Z131 : n0 ≤ h123.size := (Nat.le_trans Z121 (Nat.le_of_eq W123.size.symm))
 have K132 : Keep h0 h123 [a1] := (K122.wr W123 (Or.inl (List.mem_of_getElem? (i := 0) rfl)))
 show gG T123 m 22 #[vR a1, vI 16] []
 refine Go.step (fun _ kt => XS.goto X123.here hx rfl (pc0 := 22) (pc' := 38) rfl (hb hby d4_22) (by decide) (by decide) kt) ?_
 show gG T123 m 38 #[vR a1, vI 16] []
 obtain ⟨fs, hr, hrun, hended, hW, hsame⟩ := X123.leave (v := none) (fun _ => rfl)
 refine ⟨_, _, X123.returnOut hx Bd.returns (hb hby d4_38) hr, hrun, hended, _, _, rfl, ?_, ⟨_, rfl⟩, hW, hsame.mono (by decide) (by decide)⟩
 show Qrmin4 Z a1 cs h0 n0 _ T123.heap _
 rw [e123]
 refine ⟨b104, k104, ?_, N123, K132, F124, F125, F126, F127, F130, F129, g_b104, sz_b104⟩
 rfl
theorem pd_1 : parseMethodDescriptor "(I)V" = some ⟨[.int], none⟩ := by decide +kernel
theorem pn_2 : plainName "java/lang/StringBuilder" = true := by first | (simp [plainName, overriddenIn]; done) | decide +kernel
theorem d3_0 : dC7 0 (.aload_n 0, 1) := by decide +kernel
theorem d3_1 : dC7 1 (.bipush 16, 2) := by decide +kernel
theorem d3_3 : dC7 3 (.invokespecial 1, 3) := by decide +kernel
theorem d3_6 : dC7 6 (.return_, 1) := by decide +kernel
theorem ef_rmin3 (m : MethodId) (a1 : Addr) (cs : Int32) : entryFrame m #[(.ref a1)] 1 = mkF m 0 #[vR a1] [] := by first | (simp [entryFrame, mkF, argsToLocals, Value.category]; done) | rfl
def Qrmin3 (Z : State) (a1 : Addr) (cs : Int32) (h0 : Heap) (n0 : Nat) (v : Option Value) (h : Heap) (L : List Loc) : Prop := ∃ vb : Addr, ∃ kb : ClassId, v = none ∧ Fr n0 L ∧ Keep h0 h [a1] ∧ Exa Z h a1 "java/lang/StringBuilder" ∧ Fld Z h a1 "java/lang/AbstractStringBuilder" "value" "[B" (.ref vb) ∧ Fld Z h a1 "java/lang/AbstractStringBuilder" "coder" "B" (.int 0) ∧ Fld Z h a1 "java/lang/AbstractStringBuilder" "count" "I" (.int (own_i ([] : List Nat).length)) ∧ Exa Z h vb "[B" ∧ Arv Z h vb kb .byte (16 : Int32) ((([] : List Nat).map own_i).map Value.int) (.int 0) ∧ n0 ≤ vb ∧ h0.size ≤ vb
set_option maxRecDepth 65536 in
set_option maxHeartbeats 40000000 in
theorem rmin3 (l : Launch) (Z : State) (a0 : Array Value) (hw : ∀ d ∈ tables_1, d.before a0 Z = true) (ws : List Jvm.Cond) (a1 : Addr) (cs : Int32) (h0 : Heap) (n0 : Nat) (Z0 : n0 ≤ h0.size) (E1 : Exa Z h0 a1 "java/lang/StringBuilder") (Fv : Fld Z h0 a1 "java/lang/AbstractStringBuilder" "value" "[B" .null) (Fc : Fld Z h0 a1 "java/lang/AbstractStringBuilder" "coder" "B" (.int 0)) (Fn : Fld Z h0 a1 "java/lang/AbstractStringBuilder" "count" "I" (.int 0)) (S_cs : Sta Z h0 "java/lang/String" "COMPACT_STRINGS" "Z" (.int cs)) (g_a1 : n0 ≤ a1) (hcs : ¬ cs = 0) :
    MetFree l Y7 (head1 (Jvm.Cond.code Y7 jdk_67_method_1_code 1 none :: ws) Rm3) (fun a U => a = #[(.ref a1)] ∧ Z.Warmed39 U.vm ∧ U.heap = h0) (fun _ _ _ _ _ => True) (fun _ U o U' => ∃ v L, o = .returned v ∧ Qrmin3 Z a1 cs h0 n0 v U'.heap L ∧ FrameEnd U o U' L Rm3.cells Rm3.slots) := by
 refine MetFree.of_bodySF (plainFor_of_name pn_2) hisR ?_
 intro p e s m args below meth c s₁ Bd hml0 hP hK
 obtain ⟨rfl, hZ, hh⟩ := hP
 have hx := Bd.exec
 have hby := Bd.bytes
 have hml : c.maxLocals = 1 := hml0
 have hown : s.vm.findClass "java/lang/StringBuilder" = some m.cls := findClass_of_methodNamed Bd.named
 have hnm := (name_of_methodNamed Bd.named Bd.method).1
 have X0 : Stand p l e Rm3 s m #[(.ref a1)] below meth c s₁ [] 0 0 := Stand.of_body Bd
 have e0 : s₁.heap = h0 := by rw [← hh, Bd.state]; rfl
 have N0 := Fr.nil n0
 show Go p.tables e below (fun o U' => ∃ v L, o = .returned v ∧ Qrmin3 Z a1 cs h0 n0 v U'.heap L ∧ FrameEnd s o U' L Rm3.cells Rm3.slots) _
 refine Go.step (fun t kt => castTop (ef_rmin3 m a1 cs) kt) ?_
 show gG s₁ m 0 #[vR a1] []
 have K101 : Keep h0 h0 [a1] := (Keep.refl h0 [a1])
 refine Go.step (fun _ kt => XS.aloadN X0.here hx rfl (hb hby d3_0) rfl rfl (XS.bipush X0.here hx rfl (hb hby d3_1) kt)) ?_
 obtain ⟨_, _, ⟨T102, L102, k102, n102⟩, -, X102, ⟨Lc102, hQ102, l102, y102, z102⟩, st102⟩ := X0.specialBack hx (y := Y6) rfl hown (mvT hZ (w17 hw)) (mvT hZ (w18 hw)) (mvT hZ (w22 hw)) (by decide) (backOf (W := 0) (rmin4 l Z a0 hw [] a1 cs h0 n0 Z0 E1 Fv Fc Fn S_cs g_a1 hcs) hZ (w22 hw) (w21 hw) (by decide) (by decide)) (g := (mkF m 3 #[vR a1] [(.int 16), (.ref a1)])) rfl hml.symm (Steps.refl _) (a := a1) (argsL := [(.int 16)]) (rest := []) (lenOf pd_1 rfl) rfl (Nat.le_of_eq rfl) (hb hby d3_3) (fun _ _ => ⟨rfl, e0, (by decide : 0 + 1 ≤ _), (by decide : 0 + 16 ≤ _)⟩)
 dsimp only [Pt.U, Pt.locs, Pt.cells, Pt.slots] at X102 l102 y102 z102 st102 hQ102
 subst l102 y102 z102
 obtain ⟨b102vb, b102kb, rfl, N102q, Kq102, P103, P104, P105, P106, P107, P108, g_b102vb, szq_b102vb⟩ := hQ102
 have ne_a1_b102vb : a1 ≠ b102vb := Nat.ne_of_lt (Nat.lt_of_lt_of_le E1.lt szq_b102vb)
 have sz_b102vb : h0.size ≤ b102vb := Nat.le_trans K101.1 szq_b102vb
 have F109 := (E1.keep Kq102)
 have F110 := (own_sta_keep S_cs Kq102 (by intro x hx; cases List.mem_singleton.mp hx; exact ⟨_, E1⟩))
 have Z111 : n0 ≤ T102.heap.size := (Nat.le_trans Z0 Kq102.1)
 have K112 : Keep h0 T102.heap [a1] := (K101.trans Kq102 (by intro x hx; cases List.mem_singleton.mp hx; exact (Or.inl (List.mem_of_getElem? (i := 0) rfl))))
 have N102 := Fr.app N0 N102q
 refine Go.step (fun _ kt => st102.trans kt) ?_
 show gG T102 m 6 #[vR a1] []
 obtain ⟨fs, hr, hrun, hended, hW, hsame⟩ := X102.leave (v := none) (fun _ => rfl)
 refine ⟨_, _, X102.returnOut hx Bd.returns (hb hby d3_6) hr, hrun, hended, _, _, rfl, ?_, ⟨_, rfl⟩, hW, hsame.mono (by decide) (by decide)⟩
 show Qrmin3 Z a1 cs h0 n0 _ T102.heap _
 refine ⟨b102vb, b102kb, ?_, N102, K112, P103, P104, P105, P106, P107, P108, g_b102vb, sz_b102vb⟩
 rfl
theorem d12_0 : dC8 0 (.getstatic 18, 3) := by decide +kernel
theorem d12_3 : dC8 3 (.ifCond .eq 14, 3) := by decide +kernel
theorem d12_6 : dC8 6 (.aload_n 0, 1) := by decide +kernel
theorem d12_7 : dC8 7 (.getfield 22, 3) := by decide +kernel
theorem d12_10 : dC8 10 (.ifCond .ne 7, 3) := by decide +kernel
theorem d12_13 : dC8 13 (.iconst 1, 1) := by decide +kernel
theorem d12_14 : dC8 14 (.goto 4, 3) := by decide +kernel
theorem d12_18 : dC8 18 (.ireturn, 1) := by decide +kernel
theorem ef_rmlat (m : MethodId) (a1 : Addr) (cs : Int32) : entryFrame m #[(.ref a1)] 1 = mkF m 0 #[vR a1] [] := by first | (simp [entryFrame, mkF, argsToLocals, Value.category]; done) | rfl
def Qrmlat (Z : State) (a1 : Addr) (cs : Int32) (h0 : Heap) (n0 : Nat) (v : Option Value) (h : Heap) (L : List Loc) : Prop := v = some (.int 1) ∧ Fr n0 L ∧ h = h0
set_option maxRecDepth 65536 in
set_option maxHeartbeats 40000000 in
theorem rmlat (l : Launch) (Z : State) (a0 : Array Value) (hw : ∀ d ∈ tables_1, d.before a0 Z = true) (ws : List Jvm.Cond) (a1 : Addr) (cs : Int32) (h0 : Heap) (n0 : Nat) (Z0 : n0 ≤ h0.size) (E1 : Exa Z h0 a1 "java/lang/StringBuilder") (Fc : Fld Z h0 a1 "java/lang/AbstractStringBuilder" "coder" "B" (.int 0)) (S_cs : Sta Z h0 "java/lang/String" "COMPACT_STRINGS" "Z" (.int cs)) (hcs : ¬ cs = 0) :
    MetFree l Y8 (head1 (Jvm.Cond.code Y8 jdk_68_method_68_code 1 (some .boolean) :: ws) Rm0) (fun a U => a = #[(.ref a1)] ∧ Z.Warmed39 U.vm ∧ U.heap = h0) (fun _ _ _ _ _ => True) (fun _ U o U' => ∃ v L, o = .returned v ∧ Qrmlat Z a1 cs h0 n0 v U'.heap L ∧ FrameEnd U o U' L Rm0.cells Rm0.slots) := by
 refine MetFree.of_bodySF (plainFor_of_name pn_1) hisR ?_
 intro p e s m args below meth c s₁ Bd hml0 hP hK
 obtain ⟨rfl, hZ, hh⟩ := hP
 have hx := Bd.exec
 have hby := Bd.bytes
 have hml : c.maxLocals = 1 := hml0
 have hown : s.vm.findClass "java/lang/AbstractStringBuilder" = some m.cls := findClass_of_methodNamed Bd.named
 have hnm := (name_of_methodNamed Bd.named Bd.method).1
 have X0 : Stand p l e Rm0 s m #[(.ref a1)] below meth c s₁ [] 0 0 := Stand.of_body Bd
 have e0 : s₁.heap = h0 := by rw [← hh, Bd.state]; rfl
 have N0 := Fr.nil n0
 show Go p.tables e below (fun o U' => ∃ v L, o = .returned v ∧ Qrmlat Z a1 cs h0 n0 v U'.heap L ∧ FrameEnd s o U' L Rm0.cells Rm0.slots) _
 refine Go.step (fun t kt => castTop (ef_rmlat m a1 cs) kt) ?_
 obtain ⟨T101, X101, e101, st101⟩ := getS2 X0 hx hZ hown (host := "") (Or.inl (w26 hw)) Via.refl e0 S_cs (g := (mkF m 0 #[vR a1] [])) rfl (hb hby d12_0)
 refine Go.step st101 ?_
 show gG T101 m 3 #[vR a1] [(.int cs)]
 refine Go.step (fun _ kt => XS.ifNo X101.here hx rfl (hb hby d12_3) rfl ((if0 _ _).trans (feq hcs).1) (XS.aloadN X101.here hx rfl (hb hby d12_6) rfl rfl kt)) ?_
 obtain ⟨T102, X102, e102, st102⟩ := getF X101 hx hZ hown (host := "") (Or.inl (w31 hw)) Via.refl e101 Fc (g := (mkF m 7 #[vR a1] [(.ref a1)])) rfl rfl (hb hby d12_7)
 refine Go.step st102 ?_
 show gG T102 m 10 #[vR a1] [(.int 0)]
 refine Go.step (fun _ kt => XS.ifNo X102.here hx rfl (hb hby d12_10) rfl ((if0 _ _).trans (teq (by decide : (0 : Int32) = (0 : Int32))).2) (XS.iconst X102.here hx rfl (hb hby d12_13) (XS.goto X102.here hx rfl (pc0 := 14) (pc' := 18) rfl (hb hby d12_14) (by decide) (by decide) kt))) ?_
 show gG T102 m 18 #[vR a1] [(.int 1)]
 obtain ⟨fs, hr, hrun, hended, hW, hsame⟩ := X102.leave (v := some (.int 1)) (fun h => by rw [Bd.returns] at h; cases h)
 refine ⟨_, _, retN X102 hx (t := .boolean) Bd.returns (by simp) (hb hby d12_18) hr, hrun, hended, _, _, rfl, ?_, ⟨_, rfl⟩, hW, hsame.mono (by decide) (by decide)⟩
 show Qrmlat Z a1 cs h0 n0 _ T102.heap _
 rw [e102]
 refine ⟨?_, N0, rfl⟩
 rfl
theorem d7_0 : dC9 0 (.aload_n 0, 1) := by decide +kernel
theorem d7_1 : dC9 1 (.getfield 79, 3) := by decide +kernel
theorem d7_4 : dC9 4 (.ireturn, 1) := by decide +kernel
theorem ef_rmlen7 (m : MethodId) (a1 : Addr) (cn : Int32) : entryFrame m #[(.ref a1)] 1 = mkF m 0 #[vR a1] [] := by first | (simp [entryFrame, mkF, argsToLocals, Value.category]; done) | rfl
def Qrmlen7 (Z : State) (a1 : Addr) (cn : Int32) (h0 : Heap) (n0 : Nat) (v : Option Value) (h : Heap) (L : List Loc) : Prop := v = some (.int cn) ∧ Fr n0 L ∧ h = h0
set_option maxRecDepth 65536 in
set_option maxHeartbeats 40000000 in
theorem rmlen7 (l : Launch) (Z : State) (a0 : Array Value) (hw : ∀ d ∈ tables_1, d.before a0 Z = true) (ws : List Jvm.Cond) (a1 : Addr) (cn : Int32) (h0 : Heap) (n0 : Nat) (Z0 : n0 ≤ h0.size) (E1 : Exa Z h0 a1 "java/lang/StringBuilder") (Fn : Fld Z h0 a1 "java/lang/AbstractStringBuilder" "count" "I" (.int cn)) :
    MetFree l Y9 (head1 (Jvm.Cond.code Y9 jdk_68_method_6_code 1 (some .int) :: ws) Rm0) (fun a U => a = #[(.ref a1)] ∧ Z.Warmed39 U.vm ∧ U.heap = h0) (fun _ _ _ _ _ => True) (fun _ U o U' => ∃ v L, o = .returned v ∧ Qrmlen7 Z a1 cn h0 n0 v U'.heap L ∧ FrameEnd U o U' L Rm0.cells Rm0.slots) := by
 refine MetFree.of_bodySF (plainFor_of_name pn_1) hisR ?_
 intro p e s m args below meth c s₁ Bd hml0 hP hK
 obtain ⟨rfl, hZ, hh⟩ := hP
 have hx := Bd.exec
 have hby := Bd.bytes
 have hml : c.maxLocals = 1 := hml0
 have hown : s.vm.findClass "java/lang/AbstractStringBuilder" = some m.cls := findClass_of_methodNamed Bd.named
 have hnm := (name_of_methodNamed Bd.named Bd.method).1
 have X0 : Stand p l e Rm0 s m #[(.ref a1)] below meth c s₁ [] 0 0 := Stand.of_body Bd
 have e0 : s₁.heap = h0 := by rw [← hh, Bd.state]; rfl
 have N0 := Fr.nil n0
 show Go p.tables e below (fun o U' => ∃ v L, o = .returned v ∧ Qrmlen7 Z a1 cn h0 n0 v U'.heap L ∧ FrameEnd s o U' L Rm0.cells Rm0.slots) _
 refine Go.step (fun t kt => castTop (ef_rmlen7 m a1 cn) kt) ?_
 show gG s₁ m 0 #[vR a1] []
 refine Go.step (fun _ kt => XS.aloadN X0.here hx rfl (hb hby d7_0) rfl rfl kt) ?_
 obtain ⟨T101, X101, e101, st101⟩ := getF X0 hx hZ hown (host := "") (Or.inl (w43 hw)) Via.refl e0 Fn (g := (mkF m 1 #[vR a1] [(.ref a1)])) rfl rfl (hb hby d7_1)
 refine Go.step st101 ?_
 show gG T101 m 4 #[vR a1] [(.int cn)]
 obtain ⟨fs, hr, hrun, hended, hW, hsame⟩ := X101.leave (v := some (.int cn)) (fun h => by rw [Bd.returns] at h; cases h)
 refine ⟨_, _, retI X101 hx Bd.returns (hb hby d7_4) hr, hrun, hended, _, _, rfl, ?_, ⟨_, rfl⟩, hW, hsame.mono (by decide) (by decide)⟩
 show Qrmlen7 Z a1 cn h0 n0 _ T101.heap _
 rw [e101]
 refine ⟨?_, N0, rfl⟩
 rfl
theorem pd_2 : parseMethodDescriptor "()I" = some ⟨[], some .int⟩ := by decide +kernel
theorem d6_0 : dC10 0 (.aload_n 0, 1) := by decide +kernel
theorem d6_1 : dC10 1 (.invokespecial 343, 3) := by decide +kernel
theorem d6_4 : dC10 4 (.ireturn, 1) := by decide +kernel
theorem ef_rmlen6 (m : MethodId) (a1 : Addr) (cn : Int32) : entryFrame m #[(.ref a1)] 1 = mkF m 0 #[vR a1] [] := by first | (simp [entryFrame, mkF, argsToLocals, Value.category]; done) | rfl
def Qrmlen6 (Z : State) (a1 : Addr) (cn : Int32) (h0 : Heap) (n0 : Nat) (v : Option Value) (h : Heap) (L : List Loc) : Prop := v = some (.int cn) ∧ Fr n0 L ∧ h = h0
set_option maxRecDepth 65536 in
set_option maxHeartbeats 40000000 in
theorem rmlen6 (l : Launch) (Z : State) (a0 : Array Value) (hw : ∀ d ∈ tables_1, d.before a0 Z = true) (ws : List Jvm.Cond) (a1 : Addr) (cn : Int32) (h0 : Heap) (n0 : Nat) (Z0 : n0 ≤ h0.size) (E1 : Exa Z h0 a1 "java/lang/StringBuilder") (Fn : Fld Z h0 a1 "java/lang/AbstractStringBuilder" "count" "I" (.int cn)) :
    MetFree l Y10 (head1 (Jvm.Cond.code Y10 jdk_67_method_93_code 1 (some .int) :: ws) Rm4) (fun a U => a = #[(.ref a1)] ∧ Z.Warmed39 U.vm ∧ U.heap = h0) (fun _ _ _ _ _ => True) (fun _ U o U' => ∃ v L, o = .returned v ∧ Qrmlen6 Z a1 cn h0 n0 v U'.heap L ∧ FrameEnd U o U' L Rm4.cells Rm4.slots) := by
 refine MetFree.of_bodySF (plainFor_of_name pn_2) hisR ?_
 intro p e s m args below meth c s₁ Bd hml0 hP hK
 obtain ⟨rfl, hZ, hh⟩ := hP
 have hx := Bd.exec
 have hby := Bd.bytes
 have hml : c.maxLocals = 1 := hml0
 have hown : s.vm.findClass "java/lang/StringBuilder" = some m.cls := findClass_of_methodNamed Bd.named
 have hnm := (name_of_methodNamed Bd.named Bd.method).1
 have X0 : Stand p l e Rm4 s m #[(.ref a1)] below meth c s₁ [] 0 0 := Stand.of_body Bd
 have e0 : s₁.heap = h0 := by rw [← hh, Bd.state]; rfl
 have N0 := Fr.nil n0
 show Go p.tables e below (fun o U' => ∃ v L, o = .returned v ∧ Qrmlen6 Z a1 cn h0 n0 v U'.heap L ∧ FrameEnd s o U' L Rm4.cells Rm4.slots) _
 refine Go.step (fun t kt => castTop (ef_rmlen6 m a1 cn) kt) ?_
 show gG s₁ m 0 #[vR a1] []
 refine Go.step (fun _ kt => XS.aloadN X0.here hx rfl (hb hby d6_0) rfl rfl kt) ?_
 obtain ⟨_, _, ⟨T101, L101, k101, n101⟩, -, X101, ⟨Lc101, hQ101, l101, y101, z101⟩, st101⟩ := superBack X0 hx hZ (y := Y9) hown (w38 hw) (own_same2 (y := Y9) (y' := Y11) (w39 hw) (w63 hw) rfl (by decide)) (w39 hw) (w40 hw) (by decide) (backOf (W := 0) (rmlen7 l Z a0 hw [] a1 cn h0 n0 Z0 E1 Fn ) hZ (w42 hw) (w21 hw) (by decide) (by decide)) e0 (Ins.self E1) (g := (mkF m 1 #[vR a1] [(.ref a1)])) rfl hml.symm (w42 hw) (argsL := []) (rest := []) (lenOf pd_2 rfl) rfl (Nat.le_of_eq rfl) (hb hby d6_1) (fun _ _ => ⟨rfl, e0, (by decide : 0 + 0 ≤ _), (by decide : 0 + 0 ≤ _)⟩)
 dsimp only [Pt.U, Pt.locs, Pt.cells, Pt.slots] at X101 l101 y101 z101 st101 hQ101
 subst l101 y101 z101
 obtain ⟨rfl, N101q, eh101⟩ := hQ101
 have N101 := Fr.app N0 N101q
 refine Go.step (fun _ kt => st101.trans kt) ?_
 show gG T101 m 4 #[vR a1] [(.int cn)]
 obtain ⟨fs, hr, hrun, hended, hW, hsame⟩ := X101.leave (v := some (.int cn)) (fun h => by rw [Bd.returns] at h; cases h)
 refine ⟨_, _, retI X101 hx Bd.returns (hb hby d6_4) hr, hrun, hended, _, _, rfl, ?_, ⟨_, rfl⟩, hW, hsame.mono (by decide) (by decide)⟩
 show Qrmlen6 Z a1 cn h0 n0 _ T101.heap _
 rw [eh101]
 refine ⟨?_, N101, rfl⟩
 rfl
theorem d11_0 : dC11 0 (.aload_n 0, 1) := by decide +kernel
theorem d11_1 : dC11 1 (.getfield 15, 3) := by decide +kernel
theorem d11_4 : dC11 4 (.areturn, 1) := by decide +kernel
theorem ef_rmgv (m : MethodId) (a1 : Addr) (vb : Addr) : entryFrame m #[(.ref a1)] 1 = mkF m 0 #[vR a1] [] := by first | (simp [entryFrame, mkF, argsToLocals, Value.category]; done) | rfl
def Qrmgv (Z : State) (a1 : Addr) (vb : Addr) (h0 : Heap) (n0 : Nat) (v : Option Value) (h : Heap) (L : List Loc) : Prop := v = some (.ref vb) ∧ Fr n0 L ∧ h = h0
set_option maxRecDepth 65536 in
set_option maxHeartbeats 40000000 in
theorem rmgv (l : Launch) (Z : State) (a0 : Array Value) (hw : ∀ d ∈ tables_1, d.before a0 Z = true) (ws : List Jvm.Cond) (a1 : Addr) (vb : Addr) (h0 : Heap) (n0 : Nat) (Z0 : n0 ≤ h0.size) (E1 : Exa Z h0 a1 "java/lang/StringBuilder") (Fv : Fld Z h0 a1 "java/lang/AbstractStringBuilder" "value" "[B" (.ref vb)) :
    MetFree l Y11 (head1 (Jvm.Cond.code Y11 jdk_68_method_64_code 1 (some (.array .byte)) :: ws) Rm0) (fun a U => a = #[(.ref a1)] ∧ Z.Warmed39 U.vm ∧ U.heap = h0) (fun _ _ _ _ _ => True) (fun _ U o U' => ∃ v L, o = .returned v ∧ Qrmgv Z a1 vb h0 n0 v U'.heap L ∧ FrameEnd U o U' L Rm0.cells Rm0.slots) := by
 refine MetFree.of_bodySF (plainFor_of_name pn_1) hisR ?_
 intro p e s m args below meth c s₁ Bd hml0 hP hK
 obtain ⟨rfl, hZ, hh⟩ := hP
 have hx := Bd.exec
 have hby := Bd.bytes
 have hml : c.maxLocals = 1 := hml0
 have hown : s.vm.findClass "java/lang/AbstractStringBuilder" = some m.cls := findClass_of_methodNamed Bd.named
 have hnm := (name_of_methodNamed Bd.named Bd.method).1
 have X0 : Stand p l e Rm0 s m #[(.ref a1)] below meth c s₁ [] 0 0 := Stand.of_body Bd
 have e0 : s₁.heap = h0 := by rw [← hh, Bd.state]; rfl
 have N0 := Fr.nil n0
 show Go p.tables e below (fun o U' => ∃ v L, o = .returned v ∧ Qrmgv Z a1 vb h0 n0 v U'.heap L ∧ FrameEnd s o U' L Rm0.cells Rm0.slots) _
 refine Go.step (fun t kt => castTop (ef_rmgv m a1 vb) kt) ?_
 show gG s₁ m 0 #[vR a1] []
 refine Go.step (fun _ kt => XS.aloadN X0.here hx rfl (hb hby d11_0) rfl rfl kt) ?_
 obtain ⟨T101, X101, e101, st101⟩ := getF X0 hx hZ hown (host := "") (Or.inl (w29 hw)) Via.refl e0 Fv (g := (mkF m 1 #[vR a1] [(.ref a1)])) rfl rfl (hb hby d11_1)
 refine Go.step st101 ?_
 show gG T101 m 4 #[vR a1] [(.ref vb)]
 obtain ⟨fs, hr, hrun, hended, hW, hsame⟩ := X101.leave (v := some (.ref vb)) (fun h => by rw [Bd.returns] at h; cases h)
 refine ⟨_, _, retOut X101 hx Bd.returns rfl (Or.inr (Or.inr (Or.inr (Or.inr ⟨rfl, rfl, rfl⟩)))) (hb hby d11_4) hr, hrun, hended, _, _, rfl, ?_, ⟨_, rfl⟩, hW, hsame.mono (by decide) (by decide)⟩
 show Qrmgv Z a1 vb h0 n0 _ T101.heap _
 rw [e101]
 refine ⟨?_, N0, rfl⟩
 rfl
theorem pn_3 : plainName "java/lang/StringLatin1" = true := by first | (simp [plainName, overriddenIn]; done) | decide +kernel
theorem d31_0 : dC12 0 (.iload_n 0, 1) := by decide +kernel
theorem d31_1 : dC12 1 (.sipush 255, 3) := by decide +kernel
theorem d31_4 : dC12 4 (.if_icmp .gt 7, 3) := by decide +kernel
theorem d31_7 : dC12 7 (.iconst 1, 1) := by decide +kernel
theorem d31_8 : dC12 8 (.goto 4, 3) := by decide +kernel
theorem d31_12 : dC12 12 (.ireturn, 1) := by decide +kernel
theorem ef_rmcan (m : MethodId) (cx : Nat) : entryFrame m #[(.int (own_i cx))] 1 = mkF m 0 #[vI (own_i cx)] [] := by first | (simp [entryFrame, mkF, argsToLocals, Value.category]; done) | rfl
def Qrmcan (Z : State) (cx : Nat) (h0 : Heap) (n0 : Nat) (v : Option Value) (h : Heap) (L : List Loc) : Prop := v = some (.int 1) ∧ Fr n0 L ∧ h = h0
set_option maxRecDepth 65536 in
set_option maxHeartbeats 40000000 in
theorem rmcan (l : Launch) (Z : State) (a0 : Array Value) (hw : ∀ d ∈ tables_1, d.before a0 Z = true) (ws : List Jvm.Cond) (cx : Nat) (h0 : Heap) (n0 : Nat) (Z0 : n0 ≤ h0.size) (hcx : cx < 128) :
    MetFree l Y12 (head1 (Jvm.Cond.code Y12 jdk_43_method_3_code 1 (some .boolean) :: ws) Rm0) (fun a U => a = #[(.int (own_i cx))] ∧ Z.Warmed39 U.vm ∧ U.heap = h0) (fun _ _ _ _ _ => True) (fun _ U o U' => ∃ v L, o = .returned v ∧ Qrmcan Z cx h0 n0 v U'.heap L ∧ FrameEnd U o U' L Rm0.cells Rm0.slots) := by
 refine MetFree.of_bodySF (plainFor_of_name pn_3) hisR ?_
 intro p e s m args below meth c s₁ Bd hml0 hP hK
 obtain ⟨rfl, hZ, hh⟩ := hP
 have hx := Bd.exec
 have hby := Bd.bytes
 have hml : c.maxLocals = 1 := hml0
 have hown : s.vm.findClass "java/lang/StringLatin1" = some m.cls := findClass_of_methodNamed Bd.named
 have hnm := (name_of_methodNamed Bd.named Bd.method).1
 have X0 : Stand p l e Rm0 s m #[(.int (own_i cx))] below meth c s₁ [] 0 0 := Stand.of_body Bd
 have e0 : s₁.heap = h0 := by rw [← hh, Bd.state]; rfl
 have N0 := Fr.nil n0
 show Go p.tables e below (fun o U' => ∃ v L, o = .returned v ∧ Qrmcan Z cx h0 n0 v U'.heap L ∧ FrameEnd s o U' L Rm0.cells Rm0.slots) _
 refine Go.step (fun t kt => castTop (ef_rmcan m cx) kt) ?_
 show gG s₁ m 0 #[vI (own_i cx)] []
 refine Go.step (fun _ kt => XS.iloadN X0.here hx rfl (hb hby d31_0) rfl (XS.sipush X0.here hx rfl (hb hby d31_1) (XS.icmpNo X0.here hx rfl (hb hby d31_4) rfl (flt (own_ilF (a := 255) (b := cx) (by omega) (by omega) (by omega))).2.2.1 (XS.iconst X0.here hx rfl (hb hby d31_7) (XS.goto X0.here hx rfl (pc0 := 8) (pc' := 12) rfl (hb hby d31_8) (by decide) (by decide) kt))))) ?_
 show gG s₁ m 12 #[vI (own_i cx)] [(.int 1)]
 obtain ⟨fs, hr, hrun, hended, hW, hsame⟩ := X0.leave (v := some (.int 1)) (fun h => by rw [Bd.returns] at h; cases h)
 refine ⟨_, _, retN X0 hx (t := .boolean) Bd.returns (by simp) (hb hby d31_12) hr, hrun, hended, _, _, rfl, ?_, ⟨_, rfl⟩, hW, hsame.mono (by decide) (by decide)⟩
 show Qrmcan Z cx h0 n0 _ s₁.heap _
 rw [e0]
 refine ⟨?_, N0, rfl⟩
 rfl
theorem d24_0 : dC13 0 (.iload_n 0, 1) := by decide +kernel
theorem d24_1 : dC13 1 (.ifCond .lt 14, 3) := by decide +kernel
theorem d24_4 : dC13 4 (.iload_n 0, 1) := by decide +kernel
theorem d24_5 : dC13 5 (.sipush 255, 3) := by decide +kernel
theorem d24_8 : dC13 8 (.if_icmp .gt 7, 3) := by decide +kernel
theorem d24_11 : dC13 11 (.iconst 1, 1) := by decide +kernel
theorem d24_12 : dC13 12 (.goto 4, 3) := by decide +kernel
theorem d24_16 : dC13 16 (.ireturn, 1) := by decide +kernel
theorem ef_rmcani (m : MethodId)  : entryFrame m #[(.int 45)] 1 = mkF m 0 #[vI 45] [] := by first | (simp [entryFrame, mkF, argsToLocals, Value.category]; done) | rfl
def Qrmcani (Z : State)  (h0 : Heap) (n0 : Nat) (v : Option Value) (h : Heap) (L : List Loc) : Prop := v = some (.int 1) ∧ Fr n0 L ∧ h = h0
set_option maxRecDepth 65536 in
set_option maxHeartbeats 40000000 in
theorem rmcani (l : Launch) (Z : State) (a0 : Array Value) (hw : ∀ d ∈ tables_1, d.before a0 Z = true) (ws : List Jvm.Cond)  (h0 : Heap) (n0 : Nat) (Z0 : n0 ≤ h0.size) :
    MetFree l Y13 (head1 (Jvm.Cond.code Y13 jdk_43_method_4_code 1 (some .boolean) :: ws) Rm0) (fun a U => a = #[(.int 45)] ∧ Z.Warmed39 U.vm ∧ U.heap = h0) (fun _ _ _ _ _ => True) (fun _ U o U' => ∃ v L, o = .returned v ∧ Qrmcani Z  h0 n0 v U'.heap L ∧ FrameEnd U o U' L Rm0.cells Rm0.slots) := by
 refine MetFree.of_bodySF (plainFor_of_name pn_3) hisR ?_
 intro p e s m args below meth c s₁ Bd hml0 hP hK
 obtain ⟨rfl, hZ, hh⟩ := hP
 have hx := Bd.exec
 have hby := Bd.bytes
 have hml : c.maxLocals = 1 := hml0
 have hown : s.vm.findClass "java/lang/StringLatin1" = some m.cls := findClass_of_methodNamed Bd.named
 have hnm := (name_of_methodNamed Bd.named Bd.method).1
 have X0 : Stand p l e Rm0 s m #[(.int 45)] below meth c s₁ [] 0 0 := Stand.of_body Bd
 have e0 : s₁.heap = h0 := by rw [← hh, Bd.state]; rfl
 have N0 := Fr.nil n0
 show Go p.tables e below (fun o U' => ∃ v L, o = .returned v ∧ Qrmcani Z  h0 n0 v U'.heap L ∧ FrameEnd s o U' L Rm0.cells Rm0.slots) _
 refine Go.step (fun t kt => castTop (ef_rmcani m ) kt) ?_
 show gG s₁ m 0 #[vI 45] []
 refine Go.step (fun _ kt => XS.iloadN X0.here hx rfl (hb hby d24_0) rfl (XS.ifNo X0.here hx rfl (hb hby d24_1) rfl ((if0 _ _).trans (flt (by decide : ¬ ((45 : Int32) < (0 : Int32)))).1) (XS.iloadN X0.here hx rfl (hb hby d24_4) rfl (XS.sipush X0.here hx rfl (hb hby d24_5) (XS.icmpNo X0.here hx rfl (hb hby d24_8) rfl (flt (by decide : ¬ ((255 : Int32) < (45 : Int32)))).2.2.1 (XS.iconst X0.here hx rfl (hb hby d24_11) (XS.goto X0.here hx rfl (pc0 := 12) (pc' := 16) rfl (hb hby d24_12) (by decide) (by decide) kt))))))) ?_
 show gG s₁ m 16 #[vI 45] [(.int 1)]
 obtain ⟨fs, hr, hrun, hended, hW, hsame⟩ := X0.leave (v := some (.int 1)) (fun h => by rw [Bd.returns] at h; cases h)
 refine ⟨_, _, retN X0 hx (t := .boolean) Bd.returns (by simp) (hb hby d24_16) hr, hrun, hended, _, _, rfl, ?_, ⟨_, rfl⟩, hW, hsame.mono (by decide) (by decide)⟩
 show Qrmcani Z  h0 n0 _ s₁.heap _
 rw [e0]
 refine ⟨?_, N0, rfl⟩
 rfl
theorem pn_4 : plainName "jdk/internal/util/ArraysSupport" = true := by first | (simp [plainName, overriddenIn]; done) | decide +kernel
theorem d41_0 : dC14 0 (.iload_n 0, 1) := by decide +kernel
theorem d41_1 : dC14 1 (.iload_n 1, 1) := by decide +kernel
theorem d41_2 : dC14 2 (.iload_n 2, 1) := by decide +kernel
theorem d41_3 : dC14 3 (.invokestatic 194, 3) := by decide +kernel
theorem d41_6 : dC14 6 (.iadd, 1) := by decide +kernel
theorem d41_7 : dC14 7 (.istore_n 3, 1) := by decide +kernel
theorem d41_8 : dC14 8 (.iconst 0, 1) := by decide +kernel
theorem d41_9 : dC14 9 (.iload_n 3, 1) := by decide +kernel
theorem d41_10 : dC14 10 (.if_icmp .ge 11, 3) := by decide +kernel
theorem d41_13 : dC14 13 (.iload_n 3, 1) := by decide +kernel
theorem d41_14 : dC14 14 (.ldc 200, 2) := by decide +kernel
theorem d41_16 : dC14 16 (.if_icmp .gt 5, 3) := by decide +kernel
theorem d41_19 : dC14 19 (.iload_n 3, 1) := by decide +kernel
theorem d41_20 : dC14 20 (.ireturn, 1) := by decide +kernel
theorem ef_rmnl (m : MethodId)  : entryFrame m #[(.int 16), (.int 1), (.int 18)] 4 = mkF m 0 #[vI 16, vI 1, vI 18, uS] [] := by first | (simp [entryFrame, mkF, argsToLocals, Value.category]; done) | rfl
def Qrmnl (Z : State)  (h0 : Heap) (n0 : Nat) (v : Option Value) (h : Heap) (L : List Loc) : Prop := v = some (.int 34) ∧ Fr n0 L ∧ h = h0
set_option maxRecDepth 65536 in
set_option maxHeartbeats 40000000 in
theorem rmnl (l : Launch) (Z : State) (a0 : Array Value) (hw : ∀ d ∈ tables_1, d.before a0 Z = true) (ws : List Jvm.Cond)  (h0 : Heap) (n0 : Nat) (Z0 : n0 ≤ h0.size) :
    MetFree l Y14 (head1 (Jvm.Cond.code Y14 jdk_48_method_27_code 4 (some .int) :: ws) Rm1) (fun a U => a = #[(.int 16), (.int 1), (.int 18)] ∧ Z.Warmed39 U.vm ∧ U.heap = h0) (fun _ _ _ _ _ => True) (fun _ U o U' => ∃ v L, o = .returned v ∧ Qrmnl Z  h0 n0 v U'.heap L ∧ FrameEnd U o U' L Rm1.cells Rm1.slots) := by
 refine MetFree.of_bodySF (plainFor_of_name pn_4) hisR ?_
 intro p e s m args below meth c s₁ Bd hml0 hP hK
 obtain ⟨rfl, hZ, hh⟩ := hP
 have hx := Bd.exec
 have hby := Bd.bytes
 have hml : c.maxLocals = 4 := hml0
 have hown : s.vm.findClass "jdk/internal/util/ArraysSupport" = some m.cls := findClass_of_methodNamed Bd.named
 have hnm := (name_of_methodNamed Bd.named Bd.method).1
 have X0 : Stand p l e Rm1 s m #[(.int 16), (.int 1), (.int 18)] below meth c s₁ [] 0 0 := Stand.of_body Bd
 have e0 : s₁.heap = h0 := by rw [← hh, Bd.state]; rfl
 have N0 := Fr.nil n0
 show Go p.tables e below (fun o U' => ∃ v L, o = .returned v ∧ Qrmnl Z  h0 n0 v U'.heap L ∧ FrameEnd s o U' L Rm1.cells Rm1.slots) _
 refine Go.step (fun t kt => castTop (ef_rmnl m ) kt) ?_
 show gG s₁ m 0 #[vI 16, vI 1, vI 18, uS] []
 refine Go.step (fun _ kt => XS.iloadN X0.here hx rfl (hb hby d41_0) rfl (XS.iloadN X0.here hx rfl (hb hby d41_1) rfl (XS.iloadN X0.here hx rfl (hb hby d41_2) rfl kt))) ?_
 obtain ⟨_, _, ⟨T101, L101, k101, n101⟩, -, X101, ⟨Lc101, hQ101, l101, y101, z101⟩, st101⟩ := Jvm.LawKit.callS X0 hx (y := Y1) hown (mvT hZ (w226 hw)) (mvT hZ (w132 hw)) (mvT hZ (w86 hw)) (mvT hZ (w133 hw)) (by decide) (backOf (W := 1) (rmmax l Z a0 hw [] (1 : Int32) (18 : Int32)  h0 n0 Z0  ) hZ (w133 hw) (w86 hw) (by decide) (by decide)) (g := (mkF m 3 #[vI 16, vI 1, vI 18, uS] [(.int 18), (.int 1), (.int 16)])) rfl hml.symm (argsL := [(.int 1), (.int 18)]) (rest := [(.int 16)]) (lenOf pd_0 rfl) rfl (Nat.le_of_eq rfl) (hb hby d41_3) (fun _ _ => ⟨rfl, e0, (by decide : 0 + 0 ≤ _), (by decide : 0 + 0 ≤ _)⟩)
 dsimp only [Pt.U, Pt.locs, Pt.cells, Pt.slots] at X101 l101 y101 z101 st101 hQ101
 subst l101 y101 z101
 obtain ⟨rfl, N101q, eh101⟩ := hQ101
 have N101 := Fr.app N0 N101q
 refine Go.step st101 ?_
 show gG T101 m 6 #[vI 16, vI 1, vI 18, uS] [(.int (own_max (1 : Int32) (18 : Int32))), (.int 16)]
 have q102 : (own_max (1 : Int32) (18 : Int32)) = (18 : Int32) := by decide
 rw [q102]
 refine Go.step (fun _ kt => XS.iadd X101.here hx rfl (hb hby d41_6) rfl kt) ?_
 show gG T101 m 7 #[vI 16, vI 1, vI 18, uS] [(.int ((16 : Int32) + (18 : Int32)))]
 have q103 : ((16 : Int32) + (18 : Int32)) = (34 : Int32) := by decide
 rw [q103]
 refine Go.step (fun _ kt => XS.istoreN X101.here hx rfl (hb hby d41_7) rfl (l' := #[vI 16, vI 1, vI 18, vI 34]) rfl (XS.iconst X101.here hx rfl (hb hby d41_8) (XS.iloadN X101.here hx rfl (hb hby d41_9) rfl (XS.icmpNo X101.here hx rfl (hb hby d41_10) rfl (tlt (by decide : (0 : Int32) < (34 : Int32))).2.1 (XS.iloadN X101.here hx rfl (hb hby d41_13) rfl kt))))) ?_
 show gG T101 m 14 #[vI 16, vI 1, vI 18, vI 34] [(.int 34)]
 refine Go.step (X101.ldcInt hx hown (mvT hZ (w227 hw)) (g := (mkF m 14 #[vI 16, vI 1, vI 18, vI 34] [(.int 34)])) rfl (hb hby d41_14)) ?_
 show gG T101 m 16 #[vI 16, vI 1, vI 18, vI 34] [(.int 2147483639), (.int 34)]
 refine Go.step (fun _ kt => XS.icmpNo X101.here hx rfl (hb hby d41_16) rfl (flt (by decide : ¬ ((2147483639 : Int32) < (34 : Int32)))).2.2.1 (XS.iloadN X101.here hx rfl (hb hby d41_19) rfl kt)) ?_
 show gG T101 m 20 #[vI 16, vI 1, vI 18, vI 34] [(.int 34)]
 obtain ⟨fs, hr, hrun, hended, hW, hsame⟩ := X101.leave (v := some (.int 34)) (fun h => by rw [Bd.returns] at h; cases h)
 refine ⟨_, _, retI X101 hx Bd.returns (hb hby d41_20) hr, hrun, hended, _, _, rfl, ?_, ⟨_, rfl⟩, hW, hsame.mono (by decide) (by decide)⟩
 show Qrmnl Z  h0 n0 _ T101.heap _
 rw [eh101]
 refine ⟨?_, N101, rfl⟩
 rfl
theorem pd_3 : parseMethodDescriptor "(III)I" = some ⟨[.int, .int, .int], some .int⟩ := by decide +kernel
theorem d40_0 : dC15 0 (.aload_n 0, 1) := by decide +kernel
theorem d40_1 : dC15 1 (.getfield 15, 3) := by decide +kernel
theorem d40_4 : dC15 4 (.arraylength, 1) := by decide +kernel
theorem d40_5 : dC15 5 (.istore_n 2, 1) := by decide +kernel
theorem d40_6 : dC15 6 (.iload_n 1, 1) := by decide +kernel
theorem d40_7 : dC15 7 (.aload_n 0, 1) := by decide +kernel
theorem d40_8 : dC15 8 (.getfield 22, 3) := by decide +kernel
theorem d40_11 : dC15 11 (.ishl, 1) := by decide +kernel
theorem d40_12 : dC15 12 (.istore_n 3, 1) := by decide +kernel
theorem d40_13 : dC15 13 (.iload_n 3, 1) := by decide +kernel
theorem d40_14 : dC15 14 (.iload_n 2, 1) := by decide +kernel
theorem d40_15 : dC15 15 (.isub, 1) := by decide +kernel
theorem d40_16 : dC15 16 (.istore 4, 2) := by decide +kernel
theorem d40_18 : dC15 18 (.iload_n 2, 1) := by decide +kernel
theorem d40_19 : dC15 19 (.iload 4, 2) := by decide +kernel
theorem d40_21 : dC15 21 (.iload_n 2, 1) := by decide +kernel
theorem d40_22 : dC15 22 (.iconst 2, 1) := by decide +kernel
theorem d40_23 : dC15 23 (.aload_n 0, 1) := by decide +kernel
theorem d40_24 : dC15 24 (.getfield 22, 3) := by decide +kernel
theorem d40_27 : dC15 27 (.ishl, 1) := by decide +kernel
theorem d40_28 : dC15 28 (.iadd, 1) := by decide +kernel
theorem d40_29 : dC15 29 (.invokestatic 114, 3) := by decide +kernel
theorem d40_32 : dC15 32 (.istore 5, 2) := by decide +kernel
theorem d40_34 : dC15 34 (.iload 5, 2) := by decide +kernel
theorem d40_36 : dC15 36 (.ldc 39, 2) := by decide +kernel
theorem d40_38 : dC15 38 (.if_icmp .ne 13, 3) := by decide +kernel
theorem d40_51 : dC15 51 (.iload 5, 2) := by decide +kernel
theorem d40_53 : dC15 53 (.aload_n 0, 1) := by decide +kernel
theorem d40_54 : dC15 54 (.getfield 22, 3) := by decide +kernel
theorem d40_57 : dC15 57 (.ishr, 1) := by decide +kernel
theorem d40_58 : dC15 58 (.ireturn, 1) := by decide +kernel
theorem ef_rmnc (m : MethodId) (a1 : Addr) (vb : Addr) (kb : ClassId) (tx : List Nat) : entryFrame m #[(.ref a1), (.int 17)] 6 = mkF m 0 #[vR a1, vI 17, uS, uS, uS, uS] [] := by first | (simp [entryFrame, mkF, argsToLocals, Value.category]; done) | rfl
def Qrmnc (Z : State) (a1 : Addr) (vb : Addr) (kb : ClassId) (tx : List Nat) (h0 : Heap) (n0 : Nat) (v : Option Value) (h : Heap) (L : List Loc) : Prop := v = some (.int 34) ∧ Fr n0 L ∧ h = h0
set_option maxRecDepth 65536 in
set_option maxHeartbeats 40000000 in
theorem rmnc (l : Launch) (Z : State) (a0 : Array Value) (hw : ∀ d ∈ tables_1, d.before a0 Z = true) (ws : List Jvm.Cond) (a1 : Addr) (vb : Addr) (kb : ClassId) (tx : List Nat) (h0 : Heap) (n0 : Nat) (Z0 : n0 ≤ h0.size) (E1 : Exa Z h0 a1 "java/lang/StringBuilder") (Fv : Fld Z h0 a1 "java/lang/AbstractStringBuilder" "value" "[B" (.ref vb)) (Fc : Fld Z h0 a1 "java/lang/AbstractStringBuilder" "coder" "B" (.int 0)) (Vb : Arv Z h0 vb kb .byte (16 : Int32) ((tx.map own_i).map Value.int) (.int 0)) :
    MetFree l Y15 (head1 (Jvm.Cond.code Y15 jdk_68_method_10_code 6 (some .int) :: ws) Rm5) (fun a U => a = #[(.ref a1), (.int 17)] ∧ Z.Warmed39 U.vm ∧ U.heap = h0) (fun _ _ _ _ _ => True) (fun _ U o U' => ∃ v L, o = .returned v ∧ Qrmnc Z a1 vb kb tx h0 n0 v U'.heap L ∧ FrameEnd U o U' L Rm5.cells Rm5.slots) := by
 refine MetFree.of_bodySF (plainFor_of_name pn_1) hisR ?_
 intro p e s m args below meth c s₁ Bd hml0 hP hK
 obtain ⟨rfl, hZ, hh⟩ := hP
 have hx := Bd.exec
 have hby := Bd.bytes
 have hml : c.maxLocals = 6 := hml0
 have hown : s.vm.findClass "java/lang/AbstractStringBuilder" = some m.cls := findClass_of_methodNamed Bd.named
 have hnm := (name_of_methodNamed Bd.named Bd.method).1
 have X0 : Stand p l e Rm5 s m #[(.ref a1), (.int 17)] below meth c s₁ [] 0 0 := Stand.of_body Bd
 have e0 : s₁.heap = h0 := by rw [← hh, Bd.state]; rfl
 have N0 := Fr.nil n0
 show Go p.tables e below (fun o U' => ∃ v L, o = .returned v ∧ Qrmnc Z a1 vb kb tx h0 n0 v U'.heap L ∧ FrameEnd s o U' L Rm5.cells Rm5.slots) _
 refine Go.step (fun t kt => castTop (ef_rmnc m a1 vb kb tx) kt) ?_
 show gG s₁ m 0 #[vR a1, vI 17, uS, uS, uS, uS] []
 refine Go.step (fun _ kt => XS.aloadN X0.here hx rfl (hb hby d40_0) rfl rfl kt) ?_
 obtain ⟨T101, X101, e101, st101⟩ := getF X0 hx hZ hown (host := "") (Or.inl (w29 hw)) Via.refl e0 Fv (g := (mkF m 1 #[vR a1, vI 17, uS, uS, uS, uS] [(.ref a1)])) rfl rfl (hb hby d40_1)
 refine Go.step st101 ?_
 obtain ⟨cl102, Ar102, qa102, Sa102, Na102, Ha102, Ga102⟩ := (id Vb)
 refine Go.step (X101.arraylength hx (by rw [e101]; exact Ar102.1) (State.isArrayOf_alike hZ.alike Ar102.2.1) (g := (mkF m 4 #[vR a1, vI 17, uS, uS, uS, uS] [(.ref vb)])) rfl rfl (hb hby d40_4)) ?_
 rw [len_of Sa102 Na102]
 show gG T101 m 5 #[vR a1, vI 17, uS, uS, uS, uS] [(.int 16)]
 refine Go.step (fun _ kt => XS.istoreN X101.here hx rfl (hb hby d40_5) rfl (l' := #[vR a1, vI 17, vI 16, uS, uS, uS]) rfl (XS.iloadN X101.here hx rfl (hb hby d40_6) rfl (XS.aloadN X101.here hx rfl (hb hby d40_7) rfl rfl kt))) ?_
 obtain ⟨T103, X103, e103, st103⟩ := getF X101 hx hZ hown (host := "") (Or.inl (w31 hw)) Via.refl e101 Fc (g := (mkF m 8 #[vR a1, vI 17, vI 16, uS, uS, uS] [(.ref a1), (.int 17)])) rfl rfl (hb hby d40_8)
 refine Go.step st103 ?_
 show gG T103 m 11 #[vR a1, vI 17, vI 16, uS, uS, uS] [(.int 0), (.int 17)]
 refine Go.step (fun _ kt => XS.ishl X103.here hx rfl (hb hby d40_11) rfl kt) ?_
 show gG T103 m 12 #[vR a1, vI 17, vI 16, uS, uS, uS] [(.int ((17 : Int32) <<< ((0 : Int32) &&& 31)))]
 have q104 : ((17 : Int32) <<< ((0 : Int32) &&& 31)) = (17 : Int32) := by decide
 rw [q104]
 refine Go.step (fun _ kt => XS.istoreN X103.here hx rfl (hb hby d40_12) rfl (l' := #[vR a1, vI 17, vI 16, vI 17, uS, uS]) rfl (XS.iloadN X103.here hx rfl (hb hby d40_13) rfl (XS.iloadN X103.here hx rfl (hb hby d40_14) rfl (XS.isub X103.here hx rfl (hb hby d40_15) rfl kt)))) ?_
 show gG T103 m 16 #[vR a1, vI 17, vI 16, vI 17, uS, uS] [(.int ((17 : Int32) - (16 : Int32)))]
 have q105 : ((17 : Int32) - (16 : Int32)) = (1 : Int32) := by decide
 rw [q105]
 refine Go.step (fun _ kt => XS.istore X103.here hx rfl (hb hby d40_16) rfl (l' := #[vR a1, vI 17, vI 16, vI 17, vI 1, uS]) rfl (XS.iloadN X103.here hx rfl (hb hby d40_18) rfl (XS.iload X103.here hx rfl (hb hby d40_19) rfl (XS.iloadN X103.here hx rfl (hb hby d40_21) rfl (XS.iconst X103.here hx rfl (hb hby d40_22) (XS.aloadN X103.here hx rfl (hb hby d40_23) rfl rfl kt)))))) ?_
 show gG T103 m 24 #[vR a1, vI 17, vI 16, vI 17, vI 1, uS] [(.ref a1), (.int 2), (.int 16), (.int 1), (.int 16)]
 obtain ⟨T106, X106, e106, st106⟩ := getF X103 hx hZ hown (host := "") (Or.inl (w31 hw)) Via.refl e103 Fc (g := (mkF m 24 #[vR a1, vI 17, vI 16, vI 17, vI 1, uS] [(.ref a1), (.int 2), (.int 16), (.int 1), (.int 16)])) rfl rfl (hb hby d40_24)
 refine Go.step st106 ?_
 show gG T106 m 27 #[vR a1, vI 17, vI 16, vI 17, vI 1, uS] [(.int 0), (.int 2), (.int 16), (.int 1), (.int 16)]
 refine Go.step (fun _ kt => XS.ishl X106.here hx rfl (hb hby d40_27) rfl kt) ?_
 show gG T106 m 28 #[vR a1, vI 17, vI 16, vI 17, vI 1, uS] [(.int ((2 : Int32) <<< ((0 : Int32) &&& 31))), (.int 16), (.int 1), (.int 16)]
 have q107 : ((2 : Int32) <<< ((0 : Int32) &&& 31)) = (2 : Int32) := by decide
 rw [q107]
 refine Go.step (fun _ kt => XS.iadd X106.here hx rfl (hb hby d40_28) rfl kt) ?_
 show gG T106 m 29 #[vR a1, vI 17, vI 16, vI 17, vI 1, uS] [(.int ((16 : Int32) + (2 : Int32))), (.int 1), (.int 16)]
 have q108 : ((16 : Int32) + (2 : Int32)) = (18 : Int32) := by decide
 rw [q108]
 obtain ⟨_, _, ⟨T109, L109, k109, n109⟩, -, X109, ⟨Lc109, hQ109, l109, y109, z109⟩, st109⟩ := Jvm.LawKit.callS X106 hx (y := Y14) hown (mvT hZ (w222 hw)) (mvT hZ (w223 hw)) (mvT hZ (w224 hw)) (mvT hZ (w225 hw)) (by decide) (backOf (W := 0) (rmnl l Z a0 hw []   h0 n0 Z0  ) hZ (w225 hw) (w224 hw) (by decide) (by decide)) (g := (mkF m 29 #[vR a1, vI 17, vI 16, vI 17, vI 1, uS] [(.int 18), (.int 1), (.int 16)])) rfl hml.symm (argsL := [(.int 16), (.int 1), (.int 18)]) (rest := []) (lenOf pd_3 rfl) rfl (Nat.le_of_eq rfl) (hb hby d40_29) (fun _ _ => ⟨rfl, e106, (by decide : 0 + 0 ≤ _), (by decide : 0 + 0 ≤ _)⟩)
 dsimp only [Pt.U, Pt.locs, Pt.cells, Pt.slots] at X109 l109 y109 z109 st109 hQ109
 subst l109 y109 z109
 obtain ⟨rfl, N109q, eh109⟩ := hQ109
 have N109 := Fr.app N0 N109q
 refine Go.step st109 ?_
 show gG T109 m 32 #[vR a1, vI 17, vI 16, vI 17, vI 1, uS] [(.int 34)]
 refine Go.step (fun _ kt => XS.istore X109.here hx rfl (hb hby d40_32) rfl (l' := #[vR a1, vI 17, vI 16, vI 17, vI 1, vI 34]) rfl (XS.iload X109.here hx rfl (hb hby d40_34) rfl kt)) ?_
 refine Go.step (X109.ldcInt hx hown (mvT hZ (w228 hw)) (g := (mkF m 36 #[vR a1, vI 17, vI 16, vI 17, vI 1, vI 34] [(.int 34)])) rfl (hb hby d40_36)) ?_
 show gG T109 m 38 #[vR a1, vI 17, vI 16, vI 17, vI 1, vI 34] [(.int 2147483647), (.int 34)]
 refine Go.step (fun _ kt => XS.icmpYes X109.here hx rfl (pc0 := 38) (pc' := 51) rfl (hb hby d40_38) rfl (feq (by decide : ¬ ((34 : Int32) = (2147483647 : Int32)))).2 (by decide) (by decide) (XS.iload X109.here hx rfl (hb hby d40_51) rfl (XS.aloadN X109.here hx rfl (hb hby d40_53) rfl rfl kt))) ?_
 show gG T109 m 54 #[vR a1, vI 17, vI 16, vI 17, vI 1, vI 34] [(.ref a1), (.int 34)]
 obtain ⟨T110, X110, e110, st110⟩ := getF X109 hx hZ hown (host := "") (Or.inl (w31 hw)) Via.refl eh109 Fc (g := (mkF m 54 #[vR a1, vI 17, vI 16, vI 17, vI 1, vI 34] [(.ref a1), (.int 34)])) rfl rfl (hb hby d40_54)
 refine Go.step st110 ?_
 show gG T110 m 57 #[vR a1, vI 17, vI 16, vI 17, vI 1, vI 34] [(.int 0), (.int 34)]
 refine Go.step (fun _ kt => XS.ishr X110.here hx rfl (hb hby d40_57) rfl kt) ?_
 show gG T110 m 58 #[vR a1, vI 17, vI 16, vI 17, vI 1, vI 34] [(.int ((34 : Int32) >>> ((0 : Int32) &&& 31)))]
 have q111 : ((34 : Int32) >>> ((0 : Int32) &&& 31)) = (34 : Int32) := by decide
 rw [q111]
 obtain ⟨fs, hr, hrun, hended, hW, hsame⟩ := X110.leave (v := some (.int 34)) (fun h => by rw [Bd.returns] at h; cases h)
 refine ⟨_, _, retI X110 hx Bd.returns (hb hby d40_58) hr, hrun, hended, _, _, rfl, ?_, ⟨_, rfl⟩, hW, hsame.mono (by decide) (by decide)⟩
 show Qrmnc Z a1 vb kb tx h0 n0 _ T110.heap _
 rw [e110]
 refine ⟨?_, N109, rfl⟩
 rfl
theorem pn_5 : plainName "java/util/Arrays" = true := by first | (simp [plainName, overriddenIn]; done) | decide +kernel
theorem d42_0 : dC16 0 (.iload_n 1, 1) := by decide +kernel
theorem d42_1 : dC16 1 (.aload_n 0, 1) := by decide +kernel
theorem d42_2 : dC16 2 (.arraylength, 1) := by decide +kernel
theorem d42_3 : dC16 3 (.if_icmp .ne 11, 3) := by decide +kernel
theorem d42_14 : dC16 14 (.iload_n 1, 1) := by decide +kernel
theorem d42_15 : dC16 15 (.newarray .byte, 2) := by decide +kernel
theorem d42_17 : dC16 17 (.astore_n 2, 1) := by decide +kernel
theorem d42_18 : dC16 18 (.aload_n 0, 1) := by decide +kernel
theorem d42_19 : dC16 19 (.iconst 0, 1) := by decide +kernel
theorem d42_20 : dC16 20 (.aload_n 2, 1) := by decide +kernel
theorem d42_21 : dC16 21 (.iconst 0, 1) := by decide +kernel
theorem d42_22 : dC16 22 (.aload_n 0, 1) := by decide +kernel
theorem d42_23 : dC16 23 (.arraylength, 1) := by decide +kernel
theorem d42_24 : dC16 24 (.iload_n 1, 1) := by decide +kernel
theorem d42_25 : dC16 25 (.invokestatic 304, 3) := by decide +kernel
theorem d42_28 : dC16 28 (.invokestatic 150, 3) := by decide +kernel
theorem d42_31 : dC16 31 (.aload_n 2, 1) := by decide +kernel
theorem d42_32 : dC16 32 (.areturn, 1) := by decide +kernel
theorem ef_rmcog (m : MethodId) (a1 : Addr) (k1 : ClassId) (tx : List Nat) : entryFrame m #[(.ref a1), (.int 34)] 3 = mkF m 0 #[vR a1, vI 34, uS] [] := by first | (simp [entryFrame, mkF, argsToLocals, Value.category]; done) | rfl
def Qrmcog (Z : State) (a1 : Addr) (k1 : ClassId) (tx : List Nat) (h0 : Heap) (n0 : Nat) (v : Option Value) (h : Heap) (L : List Loc) : Prop := ∃ r : Addr, ∃ kr : ClassId, v = some (.ref r) ∧ Fr n0 L ∧ Keep h0 h [] ∧ Exa Z h r "[B" ∧ Arv Z h r kr .byte (34 : Int32) ((tx.map own_i).map Value.int) (.int 0) ∧ n0 ≤ r ∧ h0.size ≤ r
set_option maxRecDepth 65536 in
set_option maxHeartbeats 40000000 in
theorem rmcog (l : Launch) (Z : State) (a0 : Array Value) (hw : ∀ d ∈ tables_1, d.before a0 Z = true) (ws : List Jvm.Cond) (a1 : Addr) (k1 : ClassId) (tx : List Nat) (h0 : Heap) (n0 : Nat) (Z0 : n0 ≤ h0.size) (E1 : Exa Z h0 a1 "[B") (V1 : Arv Z h0 a1 k1 .byte (16 : Int32) ((tx.map own_i).map Value.int) (.int 0)) (hb16 : tx.length = 16) :
    MetFree l Y16 (head1 (Jvm.Cond.code Y16 jdk_65_method_121_code 3 (some (.array .byte)) :: ws) Rm6) (fun a U => a = #[(.ref a1), (.int 34)] ∧ Z.Warmed39 U.vm ∧ U.heap = h0) (fun _ _ _ _ _ => True) (fun _ U o U' => ∃ v L, o = .returned v ∧ Qrmcog Z a1 k1 tx h0 n0 v U'.heap L ∧ FrameEnd U o U' L Rm6.cells Rm6.slots) := by
 refine MetFree.of_bodySF (plainFor_of_name pn_5) hisR ?_
 intro p e s m args below meth c s₁ Bd hml0 hP hK
 obtain ⟨rfl, hZ, hh⟩ := hP
 have hx := Bd.exec
 have hby := Bd.bytes
 have hml : c.maxLocals = 3 := hml0
 have hown : s.vm.findClass "java/util/Arrays" = some m.cls := findClass_of_methodNamed Bd.named
 have hnm := (name_of_methodNamed Bd.named Bd.method).1
 have X0 : Stand p l e Rm6 s m #[(.ref a1), (.int 34)] below meth c s₁ [] 0 0 := Stand.of_body Bd
 have e0 : s₁.heap = h0 := by rw [← hh, Bd.state]; rfl
 have N0 := Fr.nil n0
 show Go p.tables e below (fun o U' => ∃ v L, o = .returned v ∧ Qrmcog Z a1 k1 tx h0 n0 v U'.heap L ∧ FrameEnd s o U' L Rm6.cells Rm6.slots) _
 refine Go.step (fun t kt => castTop (ef_rmcog m a1 k1 tx) kt) ?_
 show gG s₁ m 0 #[vR a1, vI 34, uS] []
 have K101 : Keep h0 h0 [] := (Keep.refl h0 [])
 refine Go.step (fun _ kt => XS.iloadN X0.here hx rfl (hb hby d42_0) rfl (XS.aloadN X0.here hx rfl (hb hby d42_1) rfl rfl kt)) ?_
 obtain ⟨cl102, Ar102, qa102, Sa102, Na102, Ha102, Ga102⟩ := (id V1)
 refine Go.step (X0.arraylength hx (by rw [e0]; exact Ar102.1) (State.isArrayOf_alike hZ.alike Ar102.2.1) (g := (mkF m 2 #[vR a1, vI 34, uS] [(.ref a1), (.int 34)])) rfl rfl (hb hby d42_2)) ?_
 rw [len_of Sa102 Na102]
 show gG s₁ m 3 #[vR a1, vI 34, uS] [(.int 16), (.int 34)]
 refine Go.step (fun _ kt => XS.icmpYes X0.here hx rfl (pc0 := 3) (pc' := 14) rfl (hb hby d42_3) rfl (feq (by decide : ¬ ((34 : Int32) = (16 : Int32)))).2 (by decide) (by decide) (XS.iloadN X0.here hx rfl (hb hby d42_14) rfl kt)) ?_
 obtain ⟨T103, h103, k103, X103, e103, E103, A103, Ex103, st103⟩ := newPE (aty := .byte) X0 hx hZ (w28 hw) e0 (g := (mkF m 15 #[vR a1, vI 34, uS] [(.int 34)])) rfl (hb hby d42_15) rfl (by decide) (cap := 34) (by decide) (by decide) (by decide) (by decide) (ad := "[B") own_adB
 obtain ⟨b103, g103⟩ : ∃ z, z = h0.size := ⟨_, rfl⟩
 rw [← g103] at A103 Ex103 st103
 refine Go.step st103 ?_
 have ne_a1_b103 : a1 ≠ b103 := Nat.ne_of_lt (Nat.lt_of_lt_of_le E1.lt (Nat.le_of_eq g103.symm))
 have g_b103 : n0 ≤ b103 := Nat.le_trans Z0 (Nat.le_of_eq g103.symm)
 have sz_b103 : h0.size ≤ b103 := Nat.le_trans K101.1 (Nat.le_of_eq g103.symm)
 have F104 := (E1.ext E103)
 have F105 := (V1.ext E103)
 have Z106 : n0 ≤ h103.size := (Nat.le_trans Z0 E103.1)
 have K107 : Keep h0 h103 [] := (K101.ext E103)
 have V108 : Arv Z h103 b103 k103 .byte (34 : Int32) ((([] : List Nat).map own_i).map Value.int) (.int 0) := Arv.new A103 (by decide)
 show gG T103 m 17 #[vR a1, vI 34, uS] [(.ref b103)]
 refine Go.step (fun _ kt => XS.astoreN X103.here hx rfl (hb hby d42_17) rfl rfl (l' := #[vR a1, vI 34, vR b103]) rfl (XS.aloadN X103.here hx rfl (hb hby d42_18) rfl rfl (XS.iconst X103.here hx rfl (hb hby d42_19) (XS.aloadN X103.here hx rfl (hb hby d42_20) rfl rfl (XS.iconst X103.here hx rfl (hb hby d42_21) (XS.aloadN X103.here hx rfl (hb hby d42_22) rfl rfl kt)))))) ?_
 show gG T103 m 23 #[vR a1, vI 34, vR b103] [(.ref a1), (.int 0), (.ref b103), (.int 0), (.ref a1)]
 obtain ⟨cl109, Ar109, qa109, Sa109, Na109, Ha109, Ga109⟩ := (id F105)
 refine Go.step (X103.arraylength hx (by rw [e103]; exact Ar109.1) (State.isArrayOf_alike hZ.alike Ar109.2.1) (g := (mkF m 23 #[vR a1, vI 34, vR b103] [(.ref a1), (.int 0), (.ref b103), (.int 0), (.ref a1)])) rfl rfl (hb hby d42_23)) ?_
 rw [len_of Sa109 Na109]
 show gG T103 m 24 #[vR a1, vI 34, vR b103] [(.int 16), (.int 0), (.ref b103), (.int 0), (.ref a1)]
 refine Go.step (fun _ kt => XS.iloadN X103.here hx rfl (hb hby d42_24) rfl kt) ?_
 obtain ⟨_, _, ⟨T111, L111, k111, n111⟩, -, X111, ⟨Lc111, hQ111, l111, y111, z111⟩, st111⟩ := Jvm.LawKit.callS X103 hx (y := Y0) hown (mvT hZ (w84 hw)) (mvT hZ (w85 hw)) (mvT hZ (w86 hw)) (mvT hZ (w87 hw)) (by decide) (backOf (W := 4) (rmmin l Z a0 hw [] (16 : Int32) (34 : Int32)  h103 n0 Z106  ) hZ (w87 hw) (w86 hw) (by decide) (by decide)) (g := (mkF m 25 #[vR a1, vI 34, vR b103] [(.int 34), (.int 16), (.int 0), (.ref b103), (.int 0), (.ref a1)])) rfl hml.symm (argsL := [(.int 16), (.int 34)]) (rest := [(.int 0), (.ref b103), (.int 0), (.ref a1)]) (lenOf pd_0 rfl) rfl (Nat.le_of_eq rfl) (hb hby d42_25) (fun _ _ => ⟨rfl, e103, (by decide : 1 + 0 ≤ _), (by decide : 34 + 0 ≤ _)⟩)
 dsimp only [Pt.U, Pt.locs, Pt.cells, Pt.slots] at X111 l111 y111 z111 st111 hQ111
 subst l111 y111 z111
 obtain ⟨rfl, N111q, eh111⟩ := hQ111
 have N111 := Fr.app N0 N111q
 refine Go.step st111 ?_
 show gG T111 m 28 #[vR a1, vI 34, vR b103] [(.int (own_min (16 : Int32) (34 : Int32))), (.int 0), (.ref b103), (.int 0), (.ref a1)]
 have q112 : (own_min (16 : Int32) (34 : Int32)) = (16 : Int32) := by decide
 rw [q112]
 obtain ⟨T113, h113, L113, X113, e113, N113, Kq113, V113, st113⟩ := cpA X111 hx hZ hown (w88 hw) (w91 hw) (w89 hw) (w90 hw) eh111 F105 (own_rep V108 34) (Or.inl ⟨rfl, rfl⟩) (by decide) (by decide) (by decide) (by decide) (by decide) rfl (by decide) N111 g_b103 (g := (mkF m 28 #[vR a1, vI 34, vR b103] [(.int 16), (.int 0), (.ref b103), (.int 0), (.ref a1)])) rfl hml.symm rfl (hb hby d42_28) (by decide) (W := 0) (Nat.le_of_eq rfl) (by decide)
 refine Go.step st113 ?_
 have F114 := (F104.keep Kq113)
 have F115 := (F105.keep Kq113 (fun q => ne_a1_b103 (List.mem_singleton.mp q)))
 have F116 := (Ex103.keep Kq113)
 have Z117 : n0 ≤ h113.size := (Nat.le_trans Z106 Kq113.1)
 have K118 : Keep h0 h113 [] := (K107.trans Kq113 (by intro x hx; cases List.mem_singleton.mp hx; exact (Or.inr sz_b103)))
 have Vc119 : Arv Z h113 b103 k103 .byte (34 : Int32) ((tx.map own_i).map Value.int) (.int 0) := own_cpl (N := 34) (by omega) (by rw [hb16]; exact V113)
 show gG T113 m 31 #[vR a1, vI 34, vR b103] []
 refine Go.step (fun _ kt => XS.aloadN X113.here hx rfl (hb hby d42_31) rfl rfl kt) ?_
 show gG T113 m 32 #[vR a1, vI 34, vR b103] [(.ref b103)]
 obtain ⟨fs, hr, hrun, hended, hW, hsame⟩ := X113.leave (v := some (.ref b103)) (fun h => by rw [Bd.returns] at h; cases h)
 refine ⟨_, _, retOut X113 hx Bd.returns rfl (Or.inr (Or.inr (Or.inr (Or.inr ⟨rfl, rfl, rfl⟩)))) (hb hby d42_32) hr, hrun, hended, _, _, rfl, ?_, ⟨_, rfl⟩, hW, hsame.mono (by decide) (by decide)⟩
 show Qrmcog Z a1 k1 tx h0 n0 _ T113.heap _
 rw [e113]
 refine ⟨b103, k103, ?_, N113, K118, F116, Vc119, g_b103, sz_b103⟩
 rfl
theorem pd_4 : parseMethodDescriptor "(I)I" = some ⟨[.int], some .int⟩ := by decide +kernel
theorem pd_5 : parseMethodDescriptor "([BI)[B" = some ⟨[(.array .byte), .int], some (.array .byte)⟩ := by decide +kernel
theorem d30_0 : dC17 0 (.aload_n 0, 1) := by decide +kernel
theorem d30_1 : dC17 1 (.getfield 15, 3) := by decide +kernel
theorem d30_4 : dC17 4 (.arraylength, 1) := by decide +kernel
theorem d30_5 : dC17 5 (.aload_n 0, 1) := by decide +kernel
theorem d30_6 : dC17 6 (.getfield 22, 3) := by decide +kernel
theorem d30_9 : dC17 9 (.ishr, 1) := by decide +kernel
theorem d30_10 : dC17 10 (.istore_n 2, 1) := by decide +kernel
theorem d30_11 : dC17 11 (.iload_n 1, 1) := by decide +kernel
theorem d30_12 : dC17 12 (.iload_n 2, 1) := by decide +kernel
theorem d30_13 : dC17 13 (.isub, 1) := by decide +kernel
theorem d30_14 : dC17 14 (.ifCond .le 24, 3) := by decide +kernel
theorem d30_17 : dC17 17 (.aload_n 0, 1) := by decide +kernel
theorem d30_18 : dC17 18 (.aload_n 0, 1) := by decide +kernel
theorem d30_19 : dC17 19 (.getfield 15, 3) := by decide +kernel
theorem d30_22 : dC17 22 (.aload_n 0, 1) := by decide +kernel
theorem d30_23 : dC17 23 (.iload_n 1, 1) := by decide +kernel
theorem d30_24 : dC17 24 (.invokevirtual 104, 3) := by decide +kernel
theorem d30_27 : dC17 27 (.aload_n 0, 1) := by decide +kernel
theorem d30_28 : dC17 28 (.getfield 22, 3) := by decide +kernel
theorem d30_31 : dC17 31 (.ishl, 1) := by decide +kernel
theorem d30_32 : dC17 32 (.invokestatic 108, 3) := by decide +kernel
theorem d30_35 : dC17 35 (.putfield 15, 3) := by decide +kernel
theorem d30_38 : dC17 38 (.return_, 1) := by decide +kernel
theorem ef_rmensg (m : MethodId) (a1 : Addr) (tx : List Nat) (vb : Addr) (kb : ClassId) (cs : Int32) : entryFrame m #[(.ref a1), (.int 17)] 3 = mkF m 0 #[vR a1, vI 17, uS] [] := by first | (simp [entryFrame, mkF, argsToLocals, Value.category]; done) | rfl
def Qrmensg (Z : State) (a1 : Addr) (tx : List Nat) (vb : Addr) (kb : ClassId) (cs : Int32) (h0 : Heap) (n0 : Nat) (v : Option Value) (h : Heap) (L : List Loc) : Prop := ∃ v2 : Addr, ∃ k2 : ClassId, v = none ∧ Fr n0 L ∧ Keep h0 h [a1] ∧ Exa Z h a1 "java/lang/StringBuilder" ∧ Fld Z h a1 "java/lang/AbstractStringBuilder" "value" "[B" (.ref v2) ∧ Fld Z h a1 "java/lang/AbstractStringBuilder" "coder" "B" (.int 0) ∧ Fld Z h a1 "java/lang/AbstractStringBuilder" "count" "I" (.int (own_i tx.length)) ∧ Exa Z h v2 "[B" ∧ Arv Z h v2 k2 .byte (34 : Int32) ((tx.map own_i).map Value.int) (.int 0) ∧ n0 ≤ v2 ∧ h0.size ≤ v2
set_option maxRecDepth 65536 in
set_option maxHeartbeats 40000000 in
theorem rmensg (l : Launch) (Z : State) (a0 : Array Value) (hw : ∀ d ∈ tables_1, d.before a0 Z = true) (ws : List Jvm.Cond) (a1 : Addr) (tx : List Nat) (vb : Addr) (kb : ClassId) (cs : Int32) (h0 : Heap) (n0 : Nat) (Z0 : n0 ≤ h0.size) (E1 : Exa Z h0 a1 "java/lang/StringBuilder") (Fv1 : Fld Z h0 a1 "java/lang/AbstractStringBuilder" "value" "[B" (.ref vb)) (Fc1 : Fld Z h0 a1 "java/lang/AbstractStringBuilder" "coder" "B" (.int 0)) (Fn1 : Fld Z h0 a1 "java/lang/AbstractStringBuilder" "count" "I" (.int (own_i tx.length))) (Eb1 : Exa Z h0 vb "[B") (Vb1 : Arv Z h0 vb kb .byte (16 : Int32) ((tx.map own_i).map Value.int) (.int 0)) (S_cs : Sta Z h0 "java/lang/String" "COMPACT_STRINGS" "Z" (.int cs)) (g_a1 : n0 ≤ a1) (hb16 : tx.length = 16) :
    MetFree l Y17 (head1 (Jvm.Cond.code Y17 jdk_68_method_9_code 3 none :: ws) Rm7) (fun a U => a = #[(.ref a1), (.int 17)] ∧ Z.Warmed39 U.vm ∧ U.heap = h0) (fun _ _ _ _ _ => True) (fun _ U o U' => ∃ v L, o = .returned v ∧ Qrmensg Z a1 tx vb kb cs h0 n0 v U'.heap L ∧ FrameEnd U o U' L Rm7.cells Rm7.slots) := by
 refine MetFree.of_bodySF (plainFor_of_name pn_1) hisR ?_
 intro p e s m args below meth c s₁ Bd hml0 hP hK
 obtain ⟨rfl, hZ, hh⟩ := hP
 have hx := Bd.exec
 have hby := Bd.bytes
 have hml : c.maxLocals = 3 := hml0
 have hown : s.vm.findClass "java/lang/AbstractStringBuilder" = some m.cls := findClass_of_methodNamed Bd.named
 have hnm := (name_of_methodNamed Bd.named Bd.method).1
 have X0 : Stand p l e Rm7 s m #[(.ref a1), (.int 17)] below meth c s₁ [] 0 0 := Stand.of_body Bd
 have e0 : s₁.heap = h0 := by rw [← hh, Bd.state]; rfl
 have N0 := Fr.nil n0
 show Go p.tables e below (fun o U' => ∃ v L, o = .returned v ∧ Qrmensg Z a1 tx vb kb cs h0 n0 v U'.heap L ∧ FrameEnd s o U' L Rm7.cells Rm7.slots) _
 refine Go.step (fun t kt => castTop (ef_rmensg m a1 tx vb kb cs) kt) ?_
 show gG s₁ m 0 #[vR a1, vI 17, uS] []
 have K101 : Keep h0 h0 [a1] := (Keep.refl h0 [a1])
 refine Go.step (fun _ kt => XS.aloadN X0.here hx rfl (hb hby d30_0) rfl rfl kt) ?_
 obtain ⟨T102, X102, e102, st102⟩ := getF X0 hx hZ hown (host := "") (Or.inl (w29 hw)) Via.refl e0 Fv1 (g := (mkF m 1 #[vR a1, vI 17, uS] [(.ref a1)])) rfl rfl (hb hby d30_1)
 refine Go.step st102 ?_
 obtain ⟨cl103, Ar103, qa103, Sa103, Na103, Ha103, Ga103⟩ := (id Vb1)
 refine Go.step (X102.arraylength hx (by rw [e102]; exact Ar103.1) (State.isArrayOf_alike hZ.alike Ar103.2.1) (g := (mkF m 4 #[vR a1, vI 17, uS] [(.ref vb)])) rfl rfl (hb hby d30_4)) ?_
 rw [len_of Sa103 Na103]
 show gG T102 m 5 #[vR a1, vI 17, uS] [(.int 16)]
 refine Go.step (fun _ kt => XS.aloadN X102.here hx rfl (hb hby d30_5) rfl rfl kt) ?_
 obtain ⟨T104, X104, e104, st104⟩ := getF X102 hx hZ hown (host := "") (Or.inl (w31 hw)) Via.refl e102 Fc1 (g := (mkF m 6 #[vR a1, vI 17, uS] [(.ref a1), (.int 16)])) rfl rfl (hb hby d30_6)
 refine Go.step st104 ?_
 show gG T104 m 9 #[vR a1, vI 17, uS] [(.int 0), (.int 16)]
 refine Go.step (fun _ kt => XS.ishr X104.here hx rfl (hb hby d30_9) rfl kt) ?_
 show gG T104 m 10 #[vR a1, vI 17, uS] [(.int ((16 : Int32) >>> ((0 : Int32) &&& 31)))]
 have q105 : ((16 : Int32) >>> ((0 : Int32) &&& 31)) = (16 : Int32) := by decide
 rw [q105]
 refine Go.step (fun _ kt => XS.istoreN X104.here hx rfl (hb hby d30_10) rfl (l' := #[vR a1, vI 17, vI 16]) rfl (XS.iloadN X104.here hx rfl (hb hby d30_11) rfl (XS.iloadN X104.here hx rfl (hb hby d30_12) rfl (XS.isub X104.here hx rfl (hb hby d30_13) rfl kt)))) ?_
 show gG T104 m 14 #[vR a1, vI 17, vI 16] [(.int ((17 : Int32) - (16 : Int32)))]
 have q106 : ((17 : Int32) - (16 : Int32)) = (1 : Int32) := by decide
 rw [q106]
 refine Go.step (fun _ kt => XS.ifNo X104.here hx rfl (hb hby d30_14) rfl ((if0 _ _).trans (tlt (by decide : (0 : Int32) < (1 : Int32))).2.2.2) (XS.aloadN X104.here hx rfl (hb hby d30_17) rfl rfl (XS.aloadN X104.here hx rfl (hb hby d30_18) rfl rfl kt))) ?_
 obtain ⟨T107, X107, e107, st107⟩ := getF X104 hx hZ hown (host := "") (Or.inl (w29 hw)) Via.refl e104 Fv1 (g := (mkF m 19 #[vR a1, vI 17, vI 16] [(.ref a1), (.ref a1)])) rfl rfl (hb hby d30_19)
 refine Go.step st107 ?_
 show gG T107 m 22 #[vR a1, vI 17, vI 16] [(.ref vb), (.ref a1)]
 refine Go.step (fun _ kt => XS.aloadN X107.here hx rfl (hb hby d30_22) rfl rfl (XS.iloadN X107.here hx rfl (hb hby d30_23) rfl kt)) ?_
 show gG T107 m 24 #[vR a1, vI 17, vI 16] [(.int 17), (.ref a1), (.ref vb), (.ref a1)]
 obtain ⟨cq108, q108, q108'⟩ := E1.cell
 obtain ⟨_, _, ⟨T108, L108, k108, n108⟩, -, X108, ⟨Lc108, hQ108, l108, y108, z108⟩, st108⟩ := X107.privateBack hx (y := Y15) hown (mvT hZ (w217 hw)) (mvT hZ (w218 hw)) (own_selq (y := Y15) (mvT hZ (w220 hw)) (Cond.privateMethod_at (mvP hZ (w219 hw) (args := #[]))) (mvT hZ (w218 hw)) (by decide)) (Cond.privateMethod_at (mvP hZ (w219 hw) (args := #[]))) (mvT hZ (w221 hw)) (by decide) (backOf (W := 2) (rmnc l Z a0 hw [] a1 vb kb tx h0 n0 Z0 E1 Fv1 Fc1 Vb1 ) hZ (w221 hw) (w21 hw) (by decide) (by decide)) (g := (mkF m 24 #[vR a1, vI 17, vI 16] [(.int 17), (.ref a1), (.ref vb), (.ref a1)])) rfl hml.symm (Steps.refl _) (a := a1) (by rw [e107]; exact q108) q108' (argsL := [(.int 17)]) (rest := [(.ref vb), (.ref a1)]) (lenOf pd_4 rfl) rfl (Nat.le_of_eq rfl) (hb hby d30_24) (fun _ _ => ⟨rfl, e107, (by decide : 0 + 0 ≤ _), (by decide : 0 + 0 ≤ _)⟩)
 dsimp only [Pt.U, Pt.locs, Pt.cells, Pt.slots] at X108 l108 y108 z108 st108 hQ108
 subst l108 y108 z108
 obtain ⟨rfl, N108q, eh108⟩ := hQ108
 have N108 := Fr.app N0 N108q
 refine Go.step (fun _ kt => st108.trans kt) ?_
 show gG T108 m 27 #[vR a1, vI 17, vI 16] [(.int 34), (.ref vb), (.ref a1)]
 refine Go.step (fun _ kt => XS.aloadN X108.here hx rfl (hb hby d30_27) rfl rfl kt) ?_
 obtain ⟨T109, X109, e109, st109⟩ := getF X108 hx hZ hown (host := "") (Or.inl (w31 hw)) Via.refl eh108 Fc1 (g := (mkF m 28 #[vR a1, vI 17, vI 16] [(.ref a1), (.int 34), (.ref vb), (.ref a1)])) rfl rfl (hb hby d30_28)
 refine Go.step st109 ?_
 show gG T109 m 31 #[vR a1, vI 17, vI 16] [(.int 0), (.int 34), (.ref vb), (.ref a1)]
 refine Go.step (fun _ kt => XS.ishl X109.here hx rfl (hb hby d30_31) rfl kt) ?_
 show gG T109 m 32 #[vR a1, vI 17, vI 16] [(.int ((34 : Int32) <<< ((0 : Int32) &&& 31))), (.ref vb), (.ref a1)]
 have q110 : ((34 : Int32) <<< ((0 : Int32) &&& 31)) = (34 : Int32) := by decide
 rw [q110]
 obtain ⟨_, _, ⟨T111, L111, k111, n111⟩, -, X111, ⟨Lc111, hQ111, l111, y111, z111⟩, st111⟩ := Jvm.LawKit.callS X109 hx (y := Y16) hown (mvT hZ (w229 hw)) (mvT hZ (w230 hw)) (mvT hZ (w76 hw)) (mvT hZ (w231 hw)) (by decide) (backOf (W := 1) (rmcog l Z a0 hw [] vb kb tx h0 n0 Z0 Eb1 Vb1 hb16) hZ (w231 hw) (w76 hw) (by decide) (by decide)) (g := (mkF m 32 #[vR a1, vI 17, vI 16] [(.int 34), (.ref vb), (.ref a1)])) rfl hml.symm (argsL := [(.ref vb), (.int 34)]) (rest := [(.ref a1)]) (lenOf pd_5 rfl) rfl (Nat.le_of_eq rfl) (hb hby d30_32) (fun _ _ => ⟨rfl, e109, (by decide : 0 + 1 ≤ _), (by decide : 0 + 34 ≤ _)⟩)
 dsimp only [Pt.U, Pt.locs, Pt.cells, Pt.slots] at X111 l111 y111 z111 st111 hQ111
 subst l111 y111 z111
 obtain ⟨b111r, b111kr, rfl, N111q, Kq111, P112, P113, g_b111r, szq_b111r⟩ := hQ111
 have ne_a1_b111r : a1 ≠ b111r := Nat.ne_of_lt (Nat.lt_of_lt_of_le E1.lt szq_b111r)
 have ne_vb_b111r : vb ≠ b111r := Nat.ne_of_lt (Nat.lt_of_lt_of_le Eb1.lt szq_b111r)
 have sz_b111r : h0.size ≤ b111r := Nat.le_trans K101.1 szq_b111r
 have F114 := (E1.keep Kq111)
 have F115 := (Fv1.keep Kq111 (by simp))
 have F116 := (Fc1.keep Kq111 (by simp))
 have F117 := (Fn1.keep Kq111 (by simp))
 have F118 := (Eb1.keep Kq111)
 have F119 := (Vb1.keep Kq111 (by simp))
 have F120 := (own_sta_keep S_cs Kq111 (by intro x hx; cases hx))
 have Z121 : n0 ≤ T111.heap.size := (Nat.le_trans Z0 Kq111.1)
 have K122 : Keep h0 T111.heap [a1] := (K101.trans Kq111 (by intro x hx; cases hx))
 have N111 := Fr.app N108 N111q
 refine Go.step st111 ?_
 obtain ⟨T123, h123, X123, e123, W123, st123⟩ := putF X111 hx hZ hown (host := "") (Or.inl (w29 hw)) Via.refl rfl F115 F114 (Or.inl (w30 hw)) (w12 hw) (ty := (.array .byte)) (by decide) rfl rfl (g := (mkF m 35 #[vR a1, vI 17, vI 16] [(.ref b111r), (.ref a1)])) rfl rfl (hb hby d30_35)
 refine Go.step st123 ?_
 have N123 := Fr.snoc X123 N111 g_a1
 have F124 := (F114.wr W123)
 have F125 := (F115.same W123)
 have F126 := (F116.other W123 (Or.inr (slot_ne (Or.inl (w32 hw)) (Or.inl (w30 hw)) (by decide) (t := .byte) (t' := (.array .byte)) (by decide) (by decide))))
 have F127 := (F117.other W123 (Or.inr (slot_ne (Or.inl (w44 hw)) (Or.inl (w30 hw)) (by decide) (t := .int) (t' := (.array .byte)) (by decide) (by decide))))
 have F128 := (F118.wr W123)
 have F129 := (F119.other W123 (Exa.ne F118 F114 (by decide)))
 have F130 := (F120.wr W123)
 have F131 := (P112.wr W123)
 have F132 := (P113.other W123 (Ne.symm ne_a1_b111r))
 have Z133 : n0 ≤ h123.size := (Nat.le_trans Z121 (Nat.le_of_eq W123.size.symm))
 have K134 : Keep h0 h123 [a1] := (K122.wr W123 (Or.inl (List.mem_of_getElem? (i := 0) rfl)))
 show gG T123 m 38 #[vR a1, vI 17, vI 16] []
 obtain ⟨fs, hr, hrun, hended, hW, hsame⟩ := X123.leave (v := none) (fun _ => rfl)
 refine ⟨_, _, X123.returnOut hx Bd.returns (hb hby d30_38) hr, hrun, hended, _, _, rfl, ?_, ⟨_, rfl⟩, hW, hsame.mono (by decide) (by decide)⟩
 show Qrmensg Z a1 tx vb kb cs h0 n0 _ T123.heap _
 rw [e123]
 refine ⟨b111r, b111kr, ?_, N123, K134, F124, F125, F126, F127, F131, F132, g_b111r, sz_b111r⟩
 rfl
theorem ef_rmensn (m : MethodId) (a1 : Addr) (mx : Nat) (zc : Int32) (tx : List Nat) (vb : Addr) (kb : ClassId) : entryFrame m #[(.ref a1), (.int (own_i mx))] 3 = mkF m 0 #[vR a1, vI (own_i mx), uS] [] := by first | (simp [entryFrame, mkF, argsToLocals, Value.category]; done) | rfl
def Qrmensn (Z : State) (a1 : Addr) (mx : Nat) (zc : Int32) (tx : List Nat) (vb : Addr) (kb : ClassId) (h0 : Heap) (n0 : Nat) (v : Option Value) (h : Heap) (L : List Loc) : Prop := v = none ∧ Fr n0 L ∧ h = h0
set_option maxRecDepth 65536 in
set_option maxHeartbeats 40000000 in
theorem rmensn (l : Launch) (Z : State) (a0 : Array Value) (hw : ∀ d ∈ tables_1, d.before a0 Z = true) (ws : List Jvm.Cond) (a1 : Addr) (mx : Nat) (zc : Int32) (tx : List Nat) (vb : Addr) (kb : ClassId) (h0 : Heap) (n0 : Nat) (Z0 : n0 ≤ h0.size) (E1 : Exa Z h0 a1 "java/lang/StringBuilder") (Fv : Fld Z h0 a1 "java/lang/AbstractStringBuilder" "value" "[B" (.ref vb)) (Fc : Fld Z h0 a1 "java/lang/AbstractStringBuilder" "coder" "B" (.int 0)) (Vb : Arv Z h0 vb kb .byte zc ((tx.map own_i).map Value.int) (.int 0)) (hg : ¬ (0 : Int32) < ((own_i mx) - zc)) :
    MetFree l Y17 (head1 (Jvm.Cond.code Y17 jdk_68_method_9_code 3 none :: ws) Rm0) (fun a U => a = #[(.ref a1), (.int (own_i mx))] ∧ Z.Warmed39 U.vm ∧ U.heap = h0) (fun _ _ _ _ _ => True) (fun _ U o U' => ∃ v L, o = .returned v ∧ Qrmensn Z a1 mx zc tx vb kb h0 n0 v U'.heap L ∧ FrameEnd U o U' L Rm0.cells Rm0.slots) := by
 refine MetFree.of_bodySF (plainFor_of_name pn_1) hisR ?_
 intro p e s m args below meth c s₁ Bd hml0 hP hK
 obtain ⟨rfl, hZ, hh⟩ := hP
 have hx := Bd.exec
 have hby := Bd.bytes
 have hml : c.maxLocals = 3 := hml0
 have hown : s.vm.findClass "java/lang/AbstractStringBuilder" = some m.cls := findClass_of_methodNamed Bd.named
 have hnm := (name_of_methodNamed Bd.named Bd.method).1
 have X0 : Stand p l e Rm0 s m #[(.ref a1), (.int (own_i mx))] below meth c s₁ [] 0 0 := Stand.of_body Bd
 have e0 : s₁.heap = h0 := by rw [← hh, Bd.state]; rfl
 have N0 := Fr.nil n0
 show Go p.tables e below (fun o U' => ∃ v L, o = .returned v ∧ Qrmensn Z a1 mx zc tx vb kb h0 n0 v U'.heap L ∧ FrameEnd s o U' L Rm0.cells Rm0.slots) _
 refine Go.step (fun t kt => castTop (ef_rmensn m a1 mx zc tx vb kb) kt) ?_
 show gG s₁ m 0 #[vR a1, vI (own_i mx), uS] []
 refine Go.step (fun _ kt => XS.aloadN X0.here hx rfl (hb hby d30_0) rfl rfl kt) ?_
 obtain ⟨T101, X101, e101, st101⟩ := getF X0 hx hZ hown (host := "") (Or.inl (w29 hw)) Via.refl e0 Fv (g := (mkF m 1 #[vR a1, vI (own_i mx), uS] [(.ref a1)])) rfl rfl (hb hby d30_1)
 refine Go.step st101 ?_
 obtain ⟨cl102, Ar102, qa102, Sa102, Na102, Ha102, Ga102⟩ := (id Vb)
 refine Go.step (X101.arraylength hx (by rw [e101]; exact Ar102.1) (State.isArrayOf_alike hZ.alike Ar102.2.1) (g := (mkF m 4 #[vR a1, vI (own_i mx), uS] [(.ref vb)])) rfl rfl (hb hby d30_4)) ?_
 rw [len_of Sa102 Na102]
 show gG T101 m 5 #[vR a1, vI (own_i mx), uS] [(.int zc)]
 refine Go.step (fun _ kt => XS.aloadN X101.here hx rfl (hb hby d30_5) rfl rfl kt) ?_
 obtain ⟨T103, X103, e103, st103⟩ := getF X101 hx hZ hown (host := "") (Or.inl (w31 hw)) Via.refl e101 Fc (g := (mkF m 6 #[vR a1, vI (own_i mx), uS] [(.ref a1), (.int zc)])) rfl rfl (hb hby d30_6)
 refine Go.step st103 ?_
 show gG T103 m 9 #[vR a1, vI (own_i mx), uS] [(.int 0), (.int zc)]
 refine Go.step (fun _ kt => XS.ishr X103.here hx rfl (hb hby d30_9) rfl kt) ?_
 show gG T103 m 10 #[vR a1, vI (own_i mx), uS] [(.int (zc >>> ((0 : Int32) &&& 31)))]
 have q104 : (zc >>> ((0 : Int32) &&& 31)) = zc := own_sh0 _
 rw [q104]
 refine Go.step (fun _ kt => XS.istoreN X103.here hx rfl (hb hby d30_10) rfl (l' := #[vR a1, vI (own_i mx), vI zc]) rfl (XS.iloadN X103.here hx rfl (hb hby d30_11) rfl (XS.iloadN X103.here hx rfl (hb hby d30_12) rfl (XS.isub X103.here hx rfl (hb hby d30_13) rfl (XS.ifYes X103.here hx rfl (pc0 := 14) (pc' := 38) rfl (hb hby d30_14) rfl ((if0 _ _).trans (flt hg).2.2.2) (by decide) (by decide) kt))))) ?_
 show gG T103 m 38 #[vR a1, vI (own_i mx), vI zc] []
 obtain ⟨fs, hr, hrun, hended, hW, hsame⟩ := X103.leave (v := none) (fun _ => rfl)
 refine ⟨_, _, X103.returnOut hx Bd.returns (hb hby d30_38) hr, hrun, hended, _, _, rfl, ?_, ⟨_, rfl⟩, hW, hsame.mono (by decide) (by decide)⟩
 show Qrmensn Z a1 mx zc tx vb kb h0 n0 _ T103.heap _
 rw [e103]
 refine ⟨?_, N0, rfl⟩
 rfl
theorem pd_6 : parseMethodDescriptor "()Z" = some ⟨[], some .boolean⟩ := by decide +kernel
theorem pd_7 : parseMethodDescriptor "(C)Z" = some ⟨[.char], some .boolean⟩ := by decide +kernel
theorem d29_0 : dC18 0 (.aload_n 0, 1) := by decide +kernel
theorem d29_1 : dC18 1 (.aload_n 0, 1) := by decide +kernel
theorem d29_2 : dC18 2 (.getfield 79, 3) := by decide +kernel
theorem d29_5 : dC18 5 (.iconst 1, 1) := by decide +kernel
theorem d29_6 : dC18 6 (.iadd, 1) := by decide +kernel
theorem d29_7 : dC18 7 (.invokevirtual 100, 3) := by decide +kernel
theorem d29_10 : dC18 10 (.aload_n 0, 1) := by decide +kernel
theorem d29_11 : dC18 11 (.invokevirtual 83, 3) := by decide +kernel
theorem d29_14 : dC18 14 (.ifCond .eq 31, 3) := by decide +kernel
theorem d29_17 : dC18 17 (.iload_n 1, 1) := by decide +kernel
theorem d29_18 : dC18 18 (.invokestatic 191, 3) := by decide +kernel
theorem d29_21 : dC18 21 (.ifCond .eq 24, 3) := by decide +kernel
theorem d29_24 : dC18 24 (.aload_n 0, 1) := by decide +kernel
theorem d29_25 : dC18 25 (.getfield 15, 3) := by decide +kernel
theorem d29_28 : dC18 28 (.aload_n 0, 1) := by decide +kernel
theorem d29_29 : dC18 29 (.dup, 1) := by decide +kernel
theorem d29_30 : dC18 30 (.getfield 79, 3) := by decide +kernel
theorem d29_33 : dC18 33 (.dup_x1, 1) := by decide +kernel
theorem d29_34 : dC18 34 (.iconst 1, 1) := by decide +kernel
theorem d29_35 : dC18 35 (.iadd, 1) := by decide +kernel
theorem d29_36 : dC18 36 (.putfield 79, 3) := by decide +kernel
theorem d29_39 : dC18 39 (.iload_n 1, 1) := by decide +kernel
theorem d29_40 : dC18 40 (.i2b, 1) := by decide +kernel
theorem d29_41 : dC18 41 (.bastore, 1) := by decide +kernel
theorem d29_42 : dC18 42 (.goto 33, 3) := by decide +kernel
theorem d29_75 : dC18 75 (.aload_n 0, 1) := by decide +kernel
theorem d29_76 : dC18 76 (.areturn, 1) := by decide +kernel
theorem ef_rmap29n (m : MethodId) (a1 : Addr) (cx : Nat) (zc : Int32) (tx : List Nat) (vb : Addr) (kb : ClassId) (cs : Int32) : entryFrame m #[(.ref a1), (.int (own_i cx))] 2 = mkF m 0 #[vR a1, vI (own_i cx)] [] := by first | (simp [entryFrame, mkF, argsToLocals, Value.category]; done) | rfl
def Qrmap29n (Z : State) (a1 : Addr) (cx : Nat) (zc : Int32) (tx : List Nat) (vb : Addr) (kb : ClassId) (cs : Int32) (h0 : Heap) (n0 : Nat) (v : Option Value) (h : Heap) (L : List Loc) : Prop := v = some (.ref a1) ∧ Fr n0 L ∧ Keep h0 h [a1, vb] ∧ Exa Z h a1 "java/lang/StringBuilder" ∧ Fld Z h a1 "java/lang/AbstractStringBuilder" "value" "[B" (.ref vb) ∧ Fld Z h a1 "java/lang/AbstractStringBuilder" "coder" "B" (.int 0) ∧ Fld Z h a1 "java/lang/AbstractStringBuilder" "count" "I" (.int (own_i (tx ++ [cx]).length)) ∧ Exa Z h vb "[B" ∧ Arv Z h vb kb .byte zc (((tx ++ [cx]).map own_i).map Value.int) (.int 0)
set_option maxRecDepth 65536 in
set_option maxHeartbeats 40000000 in
theorem rmap29n (l : Launch) (Z : State) (a0 : Array Value) (hw : ∀ d ∈ tables_1, d.before a0 Z = true) (ws : List Jvm.Cond) (a1 : Addr) (cx : Nat) (zc : Int32) (tx : List Nat) (vb : Addr) (kb : ClassId) (cs : Int32) (h0 : Heap) (n0 : Nat) (Z0 : n0 ≤ h0.size) (E1 : Exa Z h0 a1 "java/lang/StringBuilder") (Fv1 : Fld Z h0 a1 "java/lang/AbstractStringBuilder" "value" "[B" (.ref vb)) (Fc1 : Fld Z h0 a1 "java/lang/AbstractStringBuilder" "coder" "B" (.int 0)) (Fn1 : Fld Z h0 a1 "java/lang/AbstractStringBuilder" "count" "I" (.int (own_i tx.length))) (Eb1 : Exa Z h0 vb "[B") (Vb1 : Arv Z h0 vb kb .byte zc ((tx.map own_i).map Value.int) (.int 0)) (S_cs : Sta Z h0 "java/lang/String" "COMPACT_STRINGS" "Z" (.int cs)) (g_a1 : n0 ≤ a1) (hcs : ¬ cs = 0) (hcx : cx < 128) (g_vb : n0 ≤ vb) (hz : tx.length < zc.toNatClampNeg ∧ tx.length < 100) :
    MetFree l Y18 (head1 (Jvm.Cond.code Y18 jdk_68_method_31_code 2 (some (.object "java/lang/AbstractStringBuilder")) :: ws) Rm1) (fun a U => a = #[(.ref a1), (.int (own_i cx))] ∧ Z.Warmed39 U.vm ∧ U.heap = h0) (fun _ _ _ _ _ => True) (fun _ U o U' => ∃ v L, o = .returned v ∧ Qrmap29n Z a1 cx zc tx vb kb cs h0 n0 v U'.heap L ∧ FrameEnd U o U' L Rm1.cells Rm1.slots) := by
 refine MetFree.of_bodySF (plainFor_of_name pn_1) hisR ?_
 intro p e s m args below meth c s₁ Bd hml0 hP hK
 obtain ⟨rfl, hZ, hh⟩ := hP
 have hx := Bd.exec
 have hby := Bd.bytes
 have hml : c.maxLocals = 2 := hml0
 have hown : s.vm.findClass "java/lang/AbstractStringBuilder" = some m.cls := findClass_of_methodNamed Bd.named
 have hnm := (name_of_methodNamed Bd.named Bd.method).1
 have X0 : Stand p l e Rm1 s m #[(.ref a1), (.int (own_i cx))] below meth c s₁ [] 0 0 := Stand.of_body Bd
 have e0 : s₁.heap = h0 := by rw [← hh, Bd.state]; rfl
 have N0 := Fr.nil n0
 show Go p.tables e below (fun o U' => ∃ v L, o = .returned v ∧ Qrmap29n Z a1 cx zc tx vb kb cs h0 n0 v U'.heap L ∧ FrameEnd s o U' L Rm1.cells Rm1.slots) _
 refine Go.step (fun t kt => castTop (ef_rmap29n m a1 cx zc tx vb kb cs) kt) ?_
 show gG s₁ m 0 #[vR a1, vI (own_i cx)] []
 have K101 : Keep h0 h0 [a1, vb] := (Keep.refl h0 [a1, vb])
 refine Go.step (fun _ kt => XS.aloadN X0.here hx rfl (hb hby d29_0) rfl rfl (XS.aloadN X0.here hx rfl (hb hby d29_1) rfl rfl kt)) ?_
 obtain ⟨T102, X102, e102, st102⟩ := getF X0 hx hZ hown (host := "") (Or.inl (w43 hw)) Via.refl e0 Fn1 (g := (mkF m 2 #[vR a1, vI (own_i cx)] [(.ref a1), (.ref a1)])) rfl rfl (hb hby d29_2)
 refine Go.step st102 ?_
 show gG T102 m 5 #[vR a1, vI (own_i cx)] [(.int (own_i tx.length)), (.ref a1)]
 refine Go.step (fun _ kt => XS.iconst X102.here hx rfl (hb hby d29_5) (XS.iadd X102.here hx rfl (hb hby d29_6) rfl kt)) ?_
 show gG T102 m 7 #[vR a1, vI (own_i cx)] [(.int ((own_i tx.length) + (1 : Int32))), (.ref a1)]
 have q103 : ((own_i tx.length) + (1 : Int32)) = (own_i (tx.length + 1)) := own_ia tx.length 1
 rw [q103]
 obtain ⟨cq104, q104, q104'⟩ := E1.cell
 obtain ⟨_, _, ⟨T104, L104, k104, n104⟩, -, X104, ⟨Lc104, hQ104, l104, y104, z104⟩, st104⟩ := X102.privateBack hx (y := Y17) hown (mvT hZ (w160 hw)) (mvT hZ (w161 hw)) (own_selq (y := Y17) (mvT hZ (w163 hw)) (Cond.privateMethod_at (mvP hZ (w162 hw) (args := #[]))) (mvT hZ (w161 hw)) (by decide)) (Cond.privateMethod_at (mvP hZ (w162 hw) (args := #[]))) (mvT hZ (w164 hw)) (by decide) (backOf (W := 0) (rmensn l Z a0 hw [] a1 (tx.length + 1) zc tx vb kb h0 n0 Z0 E1 Fv1 Fc1 Vb1 (own_hg hz.1 hz.2)) hZ (w164 hw) (w21 hw) (by decide) (by decide)) (g := (mkF m 7 #[vR a1, vI (own_i cx)] [(.int (own_i (tx.length + 1))), (.ref a1)])) rfl hml.symm (Steps.refl _) (a := a1) (by rw [e102]; exact q104) q104' (argsL := [(.int (own_i (tx.length + 1)))]) (rest := []) (lenOf pd_1 rfl) rfl (Nat.le_of_eq rfl) (hb hby d29_7) (fun _ _ => ⟨rfl, e102, (by decide : 0 + 0 ≤ _), (by decide : 0 + 0 ≤ _)⟩)
 dsimp only [Pt.U, Pt.locs, Pt.cells, Pt.slots] at X104 l104 y104 z104 st104 hQ104
 subst l104 y104 z104
 obtain ⟨rfl, N104q, eh104⟩ := hQ104
 have N104 := Fr.app N0 N104q
 refine Go.step (fun _ kt => st104.trans kt) ?_
 show gG T104 m 10 #[vR a1, vI (own_i cx)] []
 refine Go.step (fun _ kt => XS.aloadN X104.here hx rfl (hb hby d29_10) rfl rfl kt) ?_
 show gG T104 m 11 #[vR a1, vI (own_i cx)] [(.ref a1)]
 obtain ⟨cq105, kq105, q105a, q105b, q105c⟩ := isOf hZ eh104 E1
 obtain ⟨_, _, ⟨T105, L105, k105, n105⟩, -, X105, ⟨Lc105, hQ105, l105, y105, z105⟩, st105⟩ := X104.virtualBack hx (y := Y8) (z := Y8) hown (mvT hZ (w165 hw)) (mvT hZ (w68 hw)) (notFace_of_selects (args := #[]) (mvT hZ (w70 hw))) (mvT hZ (w70 hw)) (mvT hZ (w69 hw)) (by decide) (backOf (W := 0) (rmlat l Z a0 hw [] a1 cs h0 n0 Z0 E1 Fc1 S_cs hcs) hZ (w71 hw) (w21 hw) (by decide) (by decide)) q105a q105c (g := (mkF m 11 #[vR a1, vI (own_i cx)] [(.ref a1)])) rfl hml.symm (Steps.refl _) (argsL := []) (rest := []) (lenOf pd_6 rfl) rfl (Nat.le_of_eq rfl) (hb hby d29_11) (fun _ _ => ⟨rfl, eh104, (by decide : 0 + 0 ≤ _), (by decide : 0 + 0 ≤ _)⟩)
 dsimp only [Pt.U, Pt.locs, Pt.cells, Pt.slots] at X105 l105 y105 z105 st105 hQ105
 subst l105 y105 z105
 obtain ⟨rfl, N105q, eh105⟩ := hQ105
 have N105 := Fr.app N104 N105q
 refine Go.step (fun _ kt => st105.trans kt) ?_
 show gG T105 m 14 #[vR a1, vI (own_i cx)] [(.int 1)]
 refine Go.step (fun _ kt => XS.ifNo X105.here hx rfl (hb hby d29_14) rfl ((if0 _ _).trans (feq (by decide : ¬ ((1 : Int32) = (0 : Int32)))).1) (XS.iloadN X105.here hx rfl (hb hby d29_17) rfl kt)) ?_
 obtain ⟨_, _, ⟨T106, L106, k106, n106⟩, -, X106, ⟨Lc106, hQ106, l106, y106, z106⟩, st106⟩ := Jvm.LawKit.callS X105 hx (y := Y12) hown (mvT hZ (w166 hw)) (mvT hZ (w167 hw)) (mvT hZ (w125 hw)) (mvT hZ (w168 hw)) (by decide) (backOf (W := 0) (rmcan l Z a0 hw []  cx h0 n0 Z0  hcx) hZ (w168 hw) (w125 hw) (by decide) (by decide)) (g := (mkF m 18 #[vR a1, vI (own_i cx)] [(.int (own_i cx))])) rfl hml.symm (argsL := [(.int (own_i cx))]) (rest := []) (lenOf pd_7 rfl) rfl (Nat.le_of_eq rfl) (hb hby d29_18) (fun _ _ => ⟨rfl, eh105, (by decide : 0 + 0 ≤ _), (by decide : 0 + 0 ≤ _)⟩)
 dsimp only [Pt.U, Pt.locs, Pt.cells, Pt.slots] at X106 l106 y106 z106 st106 hQ106
 subst l106 y106 z106
 obtain ⟨rfl, N106q, eh106⟩ := hQ106
 have N106 := Fr.app N105 N106q
 refine Go.step st106 ?_
 show gG T106 m 21 #[vR a1, vI (own_i cx)] [(.int 1)]
 refine Go.step (fun _ kt => XS.ifNo X106.here hx rfl (hb hby d29_21) rfl ((if0 _ _).trans (feq (by decide : ¬ ((1 : Int32) = (0 : Int32)))).1) (XS.aloadN X106.here hx rfl (hb hby d29_24) rfl rfl kt)) ?_
 obtain ⟨T107, X107, e107, st107⟩ := getF X106 hx hZ hown (host := "") (Or.inl (w29 hw)) Via.refl eh106 Fv1 (g := (mkF m 25 #[vR a1, vI (own_i cx)] [(.ref a1)])) rfl rfl (hb hby d29_25)
 refine Go.step st107 ?_
 show gG T107 m 28 #[vR a1, vI (own_i cx)] [(.ref vb)]
 refine Go.step (fun _ kt => XS.aloadN X107.here hx rfl (hb hby d29_28) rfl rfl (XS.dup X107.here hx rfl (hb hby d29_29) rfl rfl kt)) ?_
 obtain ⟨T108, X108, e108, st108⟩ := getF X107 hx hZ hown (host := "") (Or.inl (w43 hw)) Via.refl e107 Fn1 (g := (mkF m 30 #[vR a1, vI (own_i cx)] [(.ref a1), (.ref a1), (.ref vb)])) rfl rfl (hb hby d29_30)
 refine Go.step st108 ?_
 show gG T108 m 33 #[vR a1, vI (own_i cx)] [(.int (own_i tx.length)), (.ref a1), (.ref vb)]
 refine Go.step (fun _ kt => XS.dupX1 X108.here hx rfl (hb hby d29_33) rfl rfl rfl (XS.iconst X108.here hx rfl (hb hby d29_34) (XS.iadd X108.here hx rfl (hb hby d29_35) rfl kt))) ?_
 show gG T108 m 36 #[vR a1, vI (own_i cx)] [(.int ((own_i tx.length) + (1 : Int32))), (.ref a1), (.int (own_i tx.length)), (.ref vb)]
 have q109 : ((own_i tx.length) + (1 : Int32)) = (own_i (tx.length + 1)) := own_ia tx.length 1
 rw [q109]
 obtain ⟨T110, h110, X110, e110, W110, st110⟩ := putF X108 hx hZ hown (host := "") (Or.inl (w43 hw)) Via.refl e108 Fn1 E1 (Or.inl (w44 hw)) (w12 hw) (ty := .int) (by decide) rfl rfl (g := (mkF m 36 #[vR a1, vI (own_i cx)] [(.int (own_i (tx.length + 1))), (.ref a1), (.int (own_i tx.length)), (.ref vb)])) rfl rfl (hb hby d29_36)
 refine Go.step st110 ?_
 have N110 := Fr.snoc X110 N106 g_a1
 have F111 := (E1.wr W110)
 have F112 := (Fv1.other W110 (Or.inr (slot_ne (Or.inl (w30 hw)) (Or.inl (w44 hw)) (by decide) (t := (.array .byte)) (t' := .int) (by decide) (by decide))))
 have F113 := (Fc1.other W110 (Or.inr (slot_ne (Or.inl (w32 hw)) (Or.inl (w44 hw)) (by decide) (t := .byte) (t' := .int) (by decide) (by decide))))
 have F114 := (Fn1.same W110)
 have F115 := (Eb1.wr W110)
 have F116 := (Vb1.other W110 (Exa.ne Eb1 E1 (by decide)))
 have F117 := (S_cs.wr W110)
 have Z118 : n0 ≤ h110.size := (Nat.le_trans Z0 (Nat.le_of_eq W110.size.symm))
 have K119 : Keep h0 h110 [a1, vb] := (K101.wr W110 (Or.inl (List.mem_of_getElem? (i := 0) rfl)))
 show gG T110 m 39 #[vR a1, vI (own_i cx)] [(.int (own_i tx.length)), (.ref vb)]
 refine Go.step (fun _ kt => XS.iloadN X110.here hx rfl (hb hby d29_39) rfl (XS.i2b X110.here hx rfl (hb hby d29_40) rfl kt)) ?_
 show gG T110 m 41 #[vR a1, vI (own_i cx)] [(.int ((own_i cx).toInt8.toInt32)), (.int (own_i tx.length)), (.ref vb)]
 have q120 : ((own_i cx).toInt8.toInt32) = (own_i cx) := own_b8 hcx
 rw [q120]
 obtain ⟨cl121, Ar121, qa121, Sa121, Na121, Ha121, Ga121⟩ := (id F116)
 obtain ⟨T121, h121, X121, e121, W121, st121⟩ := stB X110 hx hZ e110 Ar121 (j := (own_i tx.length)) (own_inN Sa121 hz.1 (by omega)) (g := (mkF m 41 #[vR a1, vI (own_i cx)] [(.int (own_i cx)), (.int (own_i tx.length)), (.ref vb)])) rfl rfl (hb hby d29_41)
 refine Go.step st121 ?_
 have V122 := own_push (cx := cx) (congrArg Value.int (own_b8 hcx)) (own_fb hcx) F116 (by omega) W121
 have N121 := Fr.snoc X121 N110 g_vb
 have F123 := (F111.wr W121)
 have F124 := (F112.other W121 (Or.inl (Exa.ne F111 F115 (by decide))))
 have F125 := (F113.other W121 (Or.inl (Exa.ne F111 F115 (by decide))))
 have F126 := (F114.other W121 (Or.inl (Exa.ne F111 F115 (by decide))))
 have F127 := (F115.wr W121)
 have F128 := (F117.wr W121)
 have Z129 : n0 ≤ h121.size := (Nat.le_trans Z118 (Nat.le_of_eq W121.size.symm))
 have K130 : Keep h0 h121 [a1, vb] := (K119.wr W121 (Or.inl (List.mem_of_getElem? (i := 1) rfl)))
 show gG T121 m 42 #[vR a1, vI (own_i cx)] []
 refine Go.step (fun _ kt => XS.goto X121.here hx rfl (pc0 := 42) (pc' := 75) rfl (hb hby d29_42) (by decide) (by decide) (XS.aloadN X121.here hx rfl (hb hby d29_75) rfl rfl kt)) ?_
 show gG T121 m 76 #[vR a1, vI (own_i cx)] [(.ref a1)]
 have R131 : Fld Z h121 a1 "java/lang/AbstractStringBuilder" "count" "I" (.int (own_i (tx ++ [cx]).length)) := by rw [List.length_append]; exact F126
 obtain ⟨fs, hr, hrun, hended, hW, hsame⟩ := X121.leave (v := some (.ref a1)) (fun h => by rw [Bd.returns] at h; cases h)
 refine ⟨_, _, retOut X121 hx Bd.returns rfl (Or.inr (Or.inr (Or.inr (Or.inr ⟨rfl, rfl, rfl⟩)))) (hb hby d29_76) hr, hrun, hended, _, _, rfl, ?_, ⟨_, rfl⟩, hW, hsame.mono (by decide) (by decide)⟩
 show Qrmap29n Z a1 cx zc tx vb kb cs h0 n0 _ T121.heap _
 rw [e121]
 refine ⟨?_, N121, K130, F123, F124, F125, R131, F127, V122⟩
 rfl
theorem ef_rmap29g (m : MethodId) (a1 : Addr) (cx : Nat) (tx : List Nat) (vb : Addr) (kb : ClassId) (cs : Int32) : entryFrame m #[(.ref a1), (.int (own_i cx))] 2 = mkF m 0 #[vR a1, vI (own_i cx)] [] := by first | (simp [entryFrame, mkF, argsToLocals, Value.category]; done) | rfl
def Qrmap29g (Z : State) (a1 : Addr) (cx : Nat) (tx : List Nat) (vb : Addr) (kb : ClassId) (cs : Int32) (h0 : Heap) (n0 : Nat) (v : Option Value) (h : Heap) (L : List Loc) : Prop := ∃ v2 : Addr, ∃ k2 : ClassId, v = some (.ref a1) ∧ Fr n0 L ∧ Keep h0 h [a1] ∧ Exa Z h a1 "java/lang/StringBuilder" ∧ Fld Z h a1 "java/lang/AbstractStringBuilder" "value" "[B" (.ref v2) ∧ Fld Z h a1 "java/lang/AbstractStringBuilder" "coder" "B" (.int 0) ∧ Fld Z h a1 "java/lang/AbstractStringBuilder" "count" "I" (.int (own_i (tx ++ [cx]).length)) ∧ Exa Z h v2 "[B" ∧ Arv Z h v2 k2 .byte (34 : Int32) (((tx ++ [cx]).map own_i).map Value.int) (.int 0) ∧ n0 ≤ v2 ∧ h0.size ≤ v2
set_option maxRecDepth 65536 in
set_option maxHeartbeats 40000000 in
theorem rmap29g (l : Launch) (Z : State) (a0 : Array Value) (hw : ∀ d ∈ tables_1, d.before a0 Z = true) (ws : List Jvm.Cond) (a1 : Addr) (cx : Nat) (tx : List Nat) (vb : Addr) (kb : ClassId) (cs : Int32) (h0 : Heap) (n0 : Nat) (Z0 : n0 ≤ h0.size) (E1 : Exa Z h0 a1 "java/lang/StringBuilder") (Fv1 : Fld Z h0 a1 "java/lang/AbstractStringBuilder" "value" "[B" (.ref vb)) (Fc1 : Fld Z h0 a1 "java/lang/AbstractStringBuilder" "coder" "B" (.int 0)) (Fn1 : Fld Z h0 a1 "java/lang/AbstractStringBuilder" "count" "I" (.int (own_i tx.length))) (Eb1 : Exa Z h0 vb "[B") (Vb1 : Arv Z h0 vb kb .byte (16 : Int32) ((tx.map own_i).map Value.int) (.int 0)) (S_cs : Sta Z h0 "java/lang/String" "COMPACT_STRINGS" "Z" (.int cs)) (g_a1 : n0 ≤ a1) (hcs : ¬ cs = 0) (hcx : cx < 128) (hb16 : tx.length = 16) :
    MetFree l Y18 (head1 (Jvm.Cond.code Y18 jdk_68_method_31_code 2 (some (.object "java/lang/AbstractStringBuilder")) :: ws) Rm8) (fun a U => a = #[(.ref a1), (.int (own_i cx))] ∧ Z.Warmed39 U.vm ∧ U.heap = h0) (fun _ _ _ _ _ => True) (fun _ U o U' => ∃ v L, o = .returned v ∧ Qrmap29g Z a1 cx tx vb kb cs h0 n0 v U'.heap L ∧ FrameEnd U o U' L Rm8.cells Rm8.slots) := by
 refine MetFree.of_bodySF (plainFor_of_name pn_1) hisR ?_
 intro p e s m args below meth c s₁ Bd hml0 hP hK
 obtain ⟨rfl, hZ, hh⟩ := hP
 have hx := Bd.exec
 have hby := Bd.bytes
 have hml : c.maxLocals = 2 := hml0
 have hown : s.vm.findClass "java/lang/AbstractStringBuilder" = some m.cls := findClass_of_methodNamed Bd.named
 have hnm := (name_of_methodNamed Bd.named Bd.method).1
 have X0 : Stand p l e Rm8 s m #[(.ref a1), (.int (own_i cx))] below meth c s₁ [] 0 0 := Stand.of_body Bd
 have e0 : s₁.heap = h0 := by rw [← hh, Bd.state]; rfl
 have N0 := Fr.nil n0
 show Go p.tables e below (fun o U' => ∃ v L, o = .returned v ∧ Qrmap29g Z a1 cx tx vb kb cs h0 n0 v U'.heap L ∧ FrameEnd s o U' L Rm8.cells Rm8.slots) _
 refine Go.step (fun t kt => castTop (ef_rmap29g m a1 cx tx vb kb cs) kt) ?_
 show gG s₁ m 0 #[vR a1, vI (own_i cx)] []
 have K101 : Keep h0 h0 [a1] := (Keep.refl h0 [a1])
 refine Go.step (fun _ kt => XS.aloadN X0.here hx rfl (hb hby d29_0) rfl rfl (XS.aloadN X0.here hx rfl (hb hby d29_1) rfl rfl kt)) ?_
 obtain ⟨T102, X102, e102, st102⟩ := getF X0 hx hZ hown (host := "") (Or.inl (w43 hw)) Via.refl e0 Fn1 (g := (mkF m 2 #[vR a1, vI (own_i cx)] [(.ref a1), (.ref a1)])) rfl rfl (hb hby d29_2)
 refine Go.step st102 ?_
 show gG T102 m 5 #[vR a1, vI (own_i cx)] [(.int (own_i tx.length)), (.ref a1)]
 refine Go.step (fun _ kt => XS.iconst X102.here hx rfl (hb hby d29_5) (XS.iadd X102.here hx rfl (hb hby d29_6) rfl kt)) ?_
 show gG T102 m 7 #[vR a1, vI (own_i cx)] [(.int ((own_i tx.length) + (1 : Int32))), (.ref a1)]
 have q103 : ((own_i tx.length) + (1 : Int32)) = (own_i (tx.length + 1)) := own_ia tx.length 1
 rw [q103]
 have q104 : (own_i (tx.length + 1)) = (17 : Int32) := by rw [hb16]; rfl
 rw [q104]
 obtain ⟨cq105, q105, q105'⟩ := E1.cell
 obtain ⟨_, _, ⟨T105, L105, k105, n105⟩, -, X105, ⟨Lc105, hQ105, l105, y105, z105⟩, st105⟩ := X102.privateBack hx (y := Y17) hown (mvT hZ (w160 hw)) (mvT hZ (w161 hw)) (own_selq (y := Y17) (mvT hZ (w163 hw)) (Cond.privateMethod_at (mvP hZ (w162 hw) (args := #[]))) (mvT hZ (w161 hw)) (by decide)) (Cond.privateMethod_at (mvP hZ (w162 hw) (args := #[]))) (mvT hZ (w164 hw)) (by decide) (backOf (W := 0) (rmensg l Z a0 hw [] a1 tx vb kb cs h0 n0 Z0 E1 Fv1 Fc1 Fn1 Eb1 Vb1 S_cs g_a1 hb16) hZ (w164 hw) (w21 hw) (by decide) (by decide)) (g := (mkF m 7 #[vR a1, vI (own_i cx)] [(.int 17), (.ref a1)])) rfl hml.symm (Steps.refl _) (a := a1) (by rw [e102]; exact q105) q105' (argsL := [(.int 17)]) (rest := []) (lenOf pd_1 rfl) rfl (Nat.le_of_eq rfl) (hb hby d29_7) (fun _ _ => ⟨rfl, e102, (by decide : 0 + 1 ≤ _), (by decide : 0 + 34 ≤ _)⟩)
 dsimp only [Pt.U, Pt.locs, Pt.cells, Pt.slots] at X105 l105 y105 z105 st105 hQ105
 subst l105 y105 z105
 obtain ⟨b105v2, b105k2, rfl, N105q, Kq105, P106, P107, P108, P109, P110, P111, g_b105v2, szq_b105v2⟩ := hQ105
 have ne_a1_b105v2 : a1 ≠ b105v2 := Nat.ne_of_lt (Nat.lt_of_lt_of_le E1.lt szq_b105v2)
 have ne_vb_b105v2 : vb ≠ b105v2 := Nat.ne_of_lt (Nat.lt_of_lt_of_le Eb1.lt szq_b105v2)
 have sz_b105v2 : h0.size ≤ b105v2 := Nat.le_trans K101.1 szq_b105v2
 have F112 := (E1.keep Kq105)
 have F113 := (Eb1.keep Kq105)
 have F114 := (Vb1.keep Kq105 (fun q => (Exa.ne Eb1 E1 (by decide)) (List.mem_singleton.mp q)))
 have F115 := (own_sta_keep S_cs Kq105 (by intro x hx; cases List.mem_singleton.mp hx; exact ⟨_, E1⟩))
 have Z116 : n0 ≤ T105.heap.size := (Nat.le_trans Z0 Kq105.1)
 have K117 : Keep h0 T105.heap [a1] := (K101.trans Kq105 (by intro x hx; cases List.mem_singleton.mp hx; exact (Or.inl (List.mem_of_getElem? (i := 0) rfl))))
 have N105 := Fr.app N0 N105q
 refine Go.step (fun _ kt => st105.trans kt) ?_
 show gG T105 m 10 #[vR a1, vI (own_i cx)] []
 refine Go.step (fun _ kt => XS.aloadN X105.here hx rfl (hb hby d29_10) rfl rfl kt) ?_
 show gG T105 m 11 #[vR a1, vI (own_i cx)] [(.ref a1)]
 obtain ⟨cq118, kq118, q118a, q118b, q118c⟩ := isOf hZ rfl P106
 obtain ⟨_, _, ⟨T118, L118, k118, n118⟩, -, X118, ⟨Lc118, hQ118, l118, y118, z118⟩, st118⟩ := X105.virtualBack hx (y := Y8) (z := Y8) hown (mvT hZ (w165 hw)) (mvT hZ (w68 hw)) (notFace_of_selects (args := #[]) (mvT hZ (w70 hw))) (mvT hZ (w70 hw)) (mvT hZ (w69 hw)) (by decide) (backOf (W := 0) (rmlat l Z a0 hw [] a1 cs T105.heap n0 Z116 P106 P108 F115 hcs) hZ (w71 hw) (w21 hw) (by decide) (by decide)) q118a q118c (g := (mkF m 11 #[vR a1, vI (own_i cx)] [(.ref a1)])) rfl hml.symm (Steps.refl _) (argsL := []) (rest := []) (lenOf pd_6 rfl) rfl (Nat.le_of_eq rfl) (hb hby d29_11) (fun _ _ => ⟨rfl, rfl, (by decide : 1 + 0 ≤ _), (by decide : 34 + 0 ≤ _)⟩)
 dsimp only [Pt.U, Pt.locs, Pt.cells, Pt.slots] at X118 l118 y118 z118 st118 hQ118
 subst l118 y118 z118
 obtain ⟨rfl, N118q, eh118⟩ := hQ118
 have N118 := Fr.app N105 N118q
 refine Go.step (fun _ kt => st118.trans kt) ?_
 show gG T118 m 14 #[vR a1, vI (own_i cx)] [(.int 1)]
 refine Go.step (fun _ kt => XS.ifNo X118.here hx rfl (hb hby d29_14) rfl ((if0 _ _).trans (feq (by decide : ¬ ((1 : Int32) = (0 : Int32)))).1) (XS.iloadN X118.here hx rfl (hb hby d29_17) rfl kt)) ?_
 obtain ⟨_, _, ⟨T119, L119, k119, n119⟩, -, X119, ⟨Lc119, hQ119, l119, y119, z119⟩, st119⟩ := Jvm.LawKit.callS X118 hx (y := Y12) hown (mvT hZ (w166 hw)) (mvT hZ (w167 hw)) (mvT hZ (w125 hw)) (mvT hZ (w168 hw)) (by decide) (backOf (W := 0) (rmcan l Z a0 hw []  cx T105.heap n0 Z116  hcx) hZ (w168 hw) (w125 hw) (by decide) (by decide)) (g := (mkF m 18 #[vR a1, vI (own_i cx)] [(.int (own_i cx))])) rfl hml.symm (argsL := [(.int (own_i cx))]) (rest := []) (lenOf pd_7 rfl) rfl (Nat.le_of_eq rfl) (hb hby d29_18) (fun _ _ => ⟨rfl, eh118, (by decide : 1 + 0 ≤ _), (by decide : 34 + 0 ≤ _)⟩)
 dsimp only [Pt.U, Pt.locs, Pt.cells, Pt.slots] at X119 l119 y119 z119 st119 hQ119
 subst l119 y119 z119
 obtain ⟨rfl, N119q, eh119⟩ := hQ119
 have N119 := Fr.app N118 N119q
 refine Go.step st119 ?_
 show gG T119 m 21 #[vR a1, vI (own_i cx)] [(.int 1)]
 refine Go.step (fun _ kt => XS.ifNo X119.here hx rfl (hb hby d29_21) rfl ((if0 _ _).trans (feq (by decide : ¬ ((1 : Int32) = (0 : Int32)))).1) (XS.aloadN X119.here hx rfl (hb hby d29_24) rfl rfl kt)) ?_
 obtain ⟨T120, X120, e120, st120⟩ := getF X119 hx hZ hown (host := "") (Or.inl (w29 hw)) Via.refl eh119 P107 (g := (mkF m 25 #[vR a1, vI (own_i cx)] [(.ref a1)])) rfl rfl (hb hby d29_25)
 refine Go.step st120 ?_
 show gG T120 m 28 #[vR a1, vI (own_i cx)] [(.ref b105v2)]
 refine Go.step (fun _ kt => XS.aloadN X120.here hx rfl (hb hby d29_28) rfl rfl (XS.dup X120.here hx rfl (hb hby d29_29) rfl rfl kt)) ?_
 obtain ⟨T121, X121, e121, st121⟩ := getF X120 hx hZ hown (host := "") (Or.inl (w43 hw)) Via.refl e120 P109 (g := (mkF m 30 #[vR a1, vI (own_i cx)] [(.ref a1), (.ref a1), (.ref b105v2)])) rfl rfl (hb hby d29_30)
 refine Go.step st121 ?_
 show gG T121 m 33 #[vR a1, vI (own_i cx)] [(.int (own_i tx.length)), (.ref a1), (.ref b105v2)]
 refine Go.step (fun _ kt => XS.dupX1 X121.here hx rfl (hb hby d29_33) rfl rfl rfl (XS.iconst X121.here hx rfl (hb hby d29_34) (XS.iadd X121.here hx rfl (hb hby d29_35) rfl kt))) ?_
 show gG T121 m 36 #[vR a1, vI (own_i cx)] [(.int ((own_i tx.length) + (1 : Int32))), (.ref a1), (.int (own_i tx.length)), (.ref b105v2)]
 have q122 : ((own_i tx.length) + (1 : Int32)) = (own_i (tx.length + 1)) := own_ia tx.length 1
 rw [q122]
 obtain ⟨T123, h123, X123, e123, W123, st123⟩ := putF X121 hx hZ hown (host := "") (Or.inl (w43 hw)) Via.refl e121 P109 P106 (Or.inl (w44 hw)) (w12 hw) (ty := .int) (by decide) rfl rfl (g := (mkF m 36 #[vR a1, vI (own_i cx)] [(.int (own_i (tx.length + 1))), (.ref a1), (.int (own_i tx.length)), (.ref b105v2)])) rfl rfl (hb hby d29_36)
 refine Go.step st123 ?_
 have N123 := Fr.snoc X123 N119 g_a1
 have F124 := (P106.wr W123)
 have F125 := (F113.wr W123)
 have F126 := (F114.other W123 (Exa.ne F113 P106 (by decide)))
 have F127 := (F115.wr W123)
 have F128 := (P107.other W123 (Or.inr (slot_ne (Or.inl (w30 hw)) (Or.inl (w44 hw)) (by decide) (t := (.array .byte)) (t' := .int) (by decide) (by decide))))
 have F129 := (P108.other W123 (Or.inr (slot_ne (Or.inl (w32 hw)) (Or.inl (w44 hw)) (by decide) (t := .byte) (t' := .int) (by decide) (by decide))))
 have F130 := (P109.same W123)
 have F131 := (P110.wr W123)
 have F132 := (P111.other W123 (Ne.symm ne_a1_b105v2))
 have Z133 : n0 ≤ h123.size := (Nat.le_trans Z116 (Nat.le_of_eq W123.size.symm))
 have K134 : Keep h0 h123 [a1] := (K117.wr W123 (Or.inl (List.mem_of_getElem? (i := 0) rfl)))
 show gG T123 m 39 #[vR a1, vI (own_i cx)] [(.int (own_i tx.length)), (.ref b105v2)]
 refine Go.step (fun _ kt => XS.iloadN X123.here hx rfl (hb hby d29_39) rfl (XS.i2b X123.here hx rfl (hb hby d29_40) rfl kt)) ?_
 show gG T123 m 41 #[vR a1, vI (own_i cx)] [(.int ((own_i cx).toInt8.toInt32)), (.int (own_i tx.length)), (.ref b105v2)]
 have q135 : ((own_i cx).toInt8.toInt32) = (own_i cx) := own_b8 hcx
 rw [q135]
 obtain ⟨cl136, Ar136, qa136, Sa136, Na136, Ha136, Ga136⟩ := (id F132)
 obtain ⟨T136, h136, X136, e136, W136, st136⟩ := stB X123 hx hZ e123 Ar136 (j := (own_i tx.length)) (own_inN Sa136 (by rw [hb16]; decide) (by omega)) (g := (mkF m 41 #[vR a1, vI (own_i cx)] [(.int (own_i cx)), (.int (own_i tx.length)), (.ref b105v2)])) rfl rfl (hb hby d29_41)
 refine Go.step st136 ?_
 have V137 := own_push (cx := cx) (congrArg Value.int (own_b8 hcx)) (own_fb hcx) F132 (by omega) W136
 have N136 := Fr.snoc X136 N123 g_b105v2
 have F138 := (F124.wr W136)
 have F139 := (F125.wr W136)
 have F140 := (F126.other W136 ne_vb_b105v2)
 have F141 := (F127.wr W136)
 have F142 := (F128.other W136 (Or.inl ne_a1_b105v2))
 have F143 := (F129.other W136 (Or.inl ne_a1_b105v2))
 have F144 := (F130.other W136 (Or.inl ne_a1_b105v2))
 have F145 := (F131.wr W136)
 have Z146 : n0 ≤ h136.size := (Nat.le_trans Z133 (Nat.le_of_eq W136.size.symm))
 have K147 : Keep h0 h136 [a1] := (K134.wr W136 (Or.inr sz_b105v2))
 show gG T136 m 42 #[vR a1, vI (own_i cx)] []
 refine Go.step (fun _ kt => XS.goto X136.here hx rfl (pc0 := 42) (pc' := 75) rfl (hb hby d29_42) (by decide) (by decide) (XS.aloadN X136.here hx rfl (hb hby d29_75) rfl rfl kt)) ?_
 show gG T136 m 76 #[vR a1, vI (own_i cx)] [(.ref a1)]
 have R148 : Fld Z h136 a1 "java/lang/AbstractStringBuilder" "count" "I" (.int (own_i (tx ++ [cx]).length)) := by rw [List.length_append]; exact F144
 obtain ⟨fs, hr, hrun, hended, hW, hsame⟩ := X136.leave (v := some (.ref a1)) (fun h => by rw [Bd.returns] at h; cases h)
 refine ⟨_, _, retOut X136 hx Bd.returns rfl (Or.inr (Or.inr (Or.inr (Or.inr ⟨rfl, rfl, rfl⟩)))) (hb hby d29_76) hr, hrun, hended, _, _, rfl, ?_, ⟨_, rfl⟩, hW, hsame.mono (by decide) (by decide)⟩
 show Qrmap29g Z a1 cx tx vb kb cs h0 n0 _ T136.heap _
 rw [e136]
 refine ⟨b105v2, b105k2, ?_, N136, K147, F138, F142, F143, R148, F145, V137, g_b105v2, sz_b105v2⟩
 rfl
theorem pd_8 : parseMethodDescriptor "(C)Ljava/lang/AbstractStringBuilder;" = some ⟨[.char], some (.object "java/lang/AbstractStringBuilder")⟩ := by decide +kernel
theorem d28_0 : dC19 0 (.aload_n 0, 1) := by decide +kernel
theorem d28_1 : dC19 1 (.iload_n 1, 1) := by decide +kernel
theorem d28_2 : dC19 2 (.invokespecial 50, 3) := by decide +kernel
theorem d28_5 : dC19 5 (.pop, 1) := by decide +kernel
theorem d28_6 : dC19 6 (.aload_n 0, 1) := by decide +kernel
theorem d28_7 : dC19 7 (.areturn, 1) := by decide +kernel
theorem ef_rmap28n (m : MethodId) (a1 : Addr) (cx : Nat) (zc : Int32) (tx : List Nat) (vb : Addr) (kb : ClassId) (cs : Int32) : entryFrame m #[(.ref a1), (.int (own_i cx))] 2 = mkF m 0 #[vR a1, vI (own_i cx)] [] := by first | (simp [entryFrame, mkF, argsToLocals, Value.category]; done) | rfl
def Qrmap28n (Z : State) (a1 : Addr) (cx : Nat) (zc : Int32) (tx : List Nat) (vb : Addr) (kb : ClassId) (cs : Int32) (h0 : Heap) (n0 : Nat) (v : Option Value) (h : Heap) (L : List Loc) : Prop := v = some (.ref a1) ∧ Fr n0 L ∧ Keep h0 h [a1, vb] ∧ Exa Z h a1 "java/lang/StringBuilder" ∧ Fld Z h a1 "java/lang/AbstractStringBuilder" "value" "[B" (.ref vb) ∧ Fld Z h a1 "java/lang/AbstractStringBuilder" "coder" "B" (.int 0) ∧ Fld Z h a1 "java/lang/AbstractStringBuilder" "count" "I" (.int (own_i (tx ++ [cx]).length)) ∧ Exa Z h vb "[B" ∧ Arv Z h vb kb .byte zc (((tx ++ [cx]).map own_i).map Value.int) (.int 0)
set_option maxRecDepth 65536 in
set_option maxHeartbeats 40000000 in
theorem rmap28n (l : Launch) (Z : State) (a0 : Array Value) (hw : ∀ d ∈ tables_1, d.before a0 Z = true) (ws : List Jvm.Cond) (a1 : Addr) (cx : Nat) (zc : Int32) (tx : List Nat) (vb : Addr) (kb : ClassId) (cs : Int32) (h0 : Heap) (n0 : Nat) (Z0 : n0 ≤ h0.size) (E1 : Exa Z h0 a1 "java/lang/StringBuilder") (Fv1 : Fld Z h0 a1 "java/lang/AbstractStringBuilder" "value" "[B" (.ref vb)) (Fc1 : Fld Z h0 a1 "java/lang/AbstractStringBuilder" "coder" "B" (.int 0)) (Fn1 : Fld Z h0 a1 "java/lang/AbstractStringBuilder" "count" "I" (.int (own_i tx.length))) (Eb1 : Exa Z h0 vb "[B") (Vb1 : Arv Z h0 vb kb .byte zc ((tx.map own_i).map Value.int) (.int 0)) (S_cs : Sta Z h0 "java/lang/String" "COMPACT_STRINGS" "Z" (.int cs)) (g_a1 : n0 ≤ a1) (hcs : ¬ cs = 0) (hcx : cx < 128) (g_vb : n0 ≤ vb) (hz : tx.length < zc.toNatClampNeg ∧ tx.length < 100) :
    MetFree l Y19 (head1 (Jvm.Cond.code Y19 jdk_67_method_14_code 2 (some (.object "java/lang/StringBuilder")) :: ws) Rm9) (fun a U => a = #[(.ref a1), (.int (own_i cx))] ∧ Z.Warmed39 U.vm ∧ U.heap = h0) (fun _ _ _ _ _ => True) (fun _ U o U' => ∃ v L, o = .returned v ∧ Qrmap28n Z a1 cx zc tx vb kb cs h0 n0 v U'.heap L ∧ FrameEnd U o U' L Rm9.cells Rm9.slots) := by
 refine MetFree.of_bodySF (plainFor_of_name pn_2) hisR ?_
 intro p e s m args below meth c s₁ Bd hml0 hP hK
 obtain ⟨rfl, hZ, hh⟩ := hP
 have hx := Bd.exec
 have hby := Bd.bytes
 have hml : c.maxLocals = 2 := hml0
 have hown : s.vm.findClass "java/lang/StringBuilder" = some m.cls := findClass_of_methodNamed Bd.named
 have hnm := (name_of_methodNamed Bd.named Bd.method).1
 have X0 : Stand p l e Rm9 s m #[(.ref a1), (.int (own_i cx))] below meth c s₁ [] 0 0 := Stand.of_body Bd
 have e0 : s₁.heap = h0 := by rw [← hh, Bd.state]; rfl
 have N0 := Fr.nil n0
 show Go p.tables e below (fun o U' => ∃ v L, o = .returned v ∧ Qrmap28n Z a1 cx zc tx vb kb cs h0 n0 v U'.heap L ∧ FrameEnd s o U' L Rm9.cells Rm9.slots) _
 refine Go.step (fun t kt => castTop (ef_rmap28n m a1 cx zc tx vb kb cs) kt) ?_
 show gG s₁ m 0 #[vR a1, vI (own_i cx)] []
 have K101 : Keep h0 h0 [a1, vb] := (Keep.refl h0 [a1, vb])
 refine Go.step (fun _ kt => XS.aloadN X0.here hx rfl (hb hby d28_0) rfl rfl (XS.iloadN X0.here hx rfl (hb hby d28_1) rfl kt)) ?_
 obtain ⟨_, _, ⟨T102, L102, k102, n102⟩, -, X102, ⟨Lc102, hQ102, l102, y102, z102⟩, st102⟩ := superBack X0 hx hZ (y := Y18) hown (w156 hw) (own_same2 (y := Y18) (y' := Y11) (w157 hw) (w63 hw) rfl (by decide)) (w157 hw) (w40 hw) (by decide) (backOf (W := 0) (rmap29n l Z a0 hw [] a1 cx zc tx vb kb cs h0 n0 Z0 E1 Fv1 Fc1 Fn1 Eb1 Vb1 S_cs g_a1 hcs hcx g_vb hz) hZ (w159 hw) (w21 hw) (by decide) (by decide)) e0 (Ins.self E1) (g := (mkF m 2 #[vR a1, vI (own_i cx)] [(.int (own_i cx)), (.ref a1)])) rfl hml.symm (w159 hw) (argsL := [(.int (own_i cx))]) (rest := []) (lenOf pd_8 rfl) rfl (Nat.le_of_eq rfl) (hb hby d28_2) (fun _ _ => ⟨rfl, e0, (by decide : 0 + 0 ≤ _), (by decide : 0 + 0 ≤ _)⟩)
 dsimp only [Pt.U, Pt.locs, Pt.cells, Pt.slots] at X102 l102 y102 z102 st102 hQ102
 subst l102 y102 z102
 obtain ⟨rfl, N102q, Kq102, P103, P104, P105, P106, P107, P108⟩ := hQ102
 have F109 := (E1.keep Kq102)
 have F110 := (Eb1.keep Kq102)
 have F111 := (own_sta_keep S_cs Kq102 (by intro x hx; rcases List.mem_cons.mp hx with rfl | hx; exact ⟨_, E1⟩; cases List.mem_singleton.mp hx; exact ⟨_, Eb1⟩))
 have Z112 : n0 ≤ T102.heap.size := (Nat.le_trans Z0 Kq102.1)
 have K113 : Keep h0 T102.heap [a1, vb] := (K101.trans Kq102 (by intro x hx; simp only [List.mem_cons, List.not_mem_nil, or_false] at hx; rcases hx with rfl | rfl; exact Or.inl (List.mem_of_getElem? (i := 0) rfl); exact Or.inl (List.mem_of_getElem? (i := 1) rfl)))
 have N102 := Fr.app N0 N102q
 refine Go.step (fun _ kt => st102.trans kt) ?_
 show gG T102 m 5 #[vR a1, vI (own_i cx)] [(.ref a1)]
 refine Go.step (fun _ kt => XS.pop X102.here hx rfl (hb hby d28_5) rfl rfl (XS.aloadN X102.here hx rfl (hb hby d28_6) rfl rfl kt)) ?_
 show gG T102 m 7 #[vR a1, vI (own_i cx)] [(.ref a1)]
 obtain ⟨fs, hr, hrun, hended, hW, hsame⟩ := X102.leave (v := some (.ref a1)) (fun h => by rw [Bd.returns] at h; cases h)
 refine ⟨_, _, retOut X102 hx Bd.returns rfl (Or.inr (Or.inr (Or.inr (Or.inr ⟨rfl, rfl, rfl⟩)))) (hb hby d28_7) hr, hrun, hended, _, _, rfl, ?_, ⟨_, rfl⟩, hW, hsame.mono (by decide) (by decide)⟩
 show Qrmap28n Z a1 cx zc tx vb kb cs h0 n0 _ T102.heap _
 refine ⟨?_, N102, K113, P103, P104, P105, P106, P107, P108⟩
 rfl
theorem ef_rmap28g (m : MethodId) (a1 : Addr) (cx : Nat) (tx : List Nat) (vb : Addr) (kb : ClassId) (cs : Int32) : entryFrame m #[(.ref a1), (.int (own_i cx))] 2 = mkF m 0 #[vR a1, vI (own_i cx)] [] := by first | (simp [entryFrame, mkF, argsToLocals, Value.category]; done) | rfl
def Qrmap28g (Z : State) (a1 : Addr) (cx : Nat) (tx : List Nat) (vb : Addr) (kb : ClassId) (cs : Int32) (h0 : Heap) (n0 : Nat) (v : Option Value) (h : Heap) (L : List Loc) : Prop := ∃ v2 : Addr, ∃ k2 : ClassId, v = some (.ref a1) ∧ Fr n0 L ∧ Keep h0 h [a1] ∧ Exa Z h a1 "java/lang/StringBuilder" ∧ Fld Z h a1 "java/lang/AbstractStringBuilder" "value" "[B" (.ref v2) ∧ Fld Z h a1 "java/lang/AbstractStringBuilder" "coder" "B" (.int 0) ∧ Fld Z h a1 "java/lang/AbstractStringBuilder" "count" "I" (.int (own_i (tx ++ [cx]).length)) ∧ Exa Z h v2 "[B" ∧ Arv Z h v2 k2 .byte (34 : Int32) (((tx ++ [cx]).map own_i).map Value.int) (.int 0) ∧ n0 ≤ v2 ∧ h0.size ≤ v2
set_option maxRecDepth 65536 in
set_option maxHeartbeats 40000000 in
theorem rmap28g (l : Launch) (Z : State) (a0 : Array Value) (hw : ∀ d ∈ tables_1, d.before a0 Z = true) (ws : List Jvm.Cond) (a1 : Addr) (cx : Nat) (tx : List Nat) (vb : Addr) (kb : ClassId) (cs : Int32) (h0 : Heap) (n0 : Nat) (Z0 : n0 ≤ h0.size) (E1 : Exa Z h0 a1 "java/lang/StringBuilder") (Fv1 : Fld Z h0 a1 "java/lang/AbstractStringBuilder" "value" "[B" (.ref vb)) (Fc1 : Fld Z h0 a1 "java/lang/AbstractStringBuilder" "coder" "B" (.int 0)) (Fn1 : Fld Z h0 a1 "java/lang/AbstractStringBuilder" "count" "I" (.int (own_i tx.length))) (Eb1 : Exa Z h0 vb "[B") (Vb1 : Arv Z h0 vb kb .byte (16 : Int32) ((tx.map own_i).map Value.int) (.int 0)) (S_cs : Sta Z h0 "java/lang/String" "COMPACT_STRINGS" "Z" (.int cs)) (g_a1 : n0 ≤ a1) (hcs : ¬ cs = 0) (hcx : cx < 128) (hb16 : tx.length = 16) :
    MetFree l Y19 (head1 (Jvm.Cond.code Y19 jdk_67_method_14_code 2 (some (.object "java/lang/StringBuilder")) :: ws) Rm10) (fun a U => a = #[(.ref a1), (.int (own_i cx))] ∧ Z.Warmed39 U.vm ∧ U.heap = h0) (fun _ _ _ _ _ => True) (fun _ U o U' => ∃ v L, o = .returned v ∧ Qrmap28g Z a1 cx tx vb kb cs h0 n0 v U'.heap L ∧ FrameEnd U o U' L Rm10.cells Rm10.slots) := by
 refine MetFree.of_bodySF (plainFor_of_name pn_2) hisR ?_
 intro p e s m args below meth c s₁ Bd hml0 hP hK
 obtain ⟨rfl, hZ, hh⟩ := hP
 have hx := Bd.exec
 have hby := Bd.bytes
 have hml : c.maxLocals = 2 := hml0
 have hown : s.vm.findClass "java/lang/StringBuilder" = some m.cls := findClass_of_methodNamed Bd.named
 have hnm := (name_of_methodNamed Bd.named Bd.method).1
 have X0 : Stand p l e Rm10 s m #[(.ref a1), (.int (own_i cx))] below meth c s₁ [] 0 0 := Stand.of_body Bd
 have e0 : s₁.heap = h0 := by rw [← hh, Bd.state]; rfl
 have N0 := Fr.nil n0
 show Go p.tables e below (fun o U' => ∃ v L, o = .returned v ∧ Qrmap28g Z a1 cx tx vb kb cs h0 n0 v U'.heap L ∧ FrameEnd s o U' L Rm10.cells Rm10.slots) _
 refine Go.step (fun t kt => castTop (ef_rmap28g m a1 cx tx vb kb cs) kt) ?_
 show gG s₁ m 0 #[vR a1, vI (own_i cx)] []
 have K101 : Keep h0 h0 [a1] := (Keep.refl h0 [a1])
 refine Go.step (fun _ kt => XS.aloadN X0.here hx rfl (hb hby d28_0) rfl rfl (XS.iloadN X0.here hx rfl (hb hby d28_1) rfl kt)) ?_
 obtain ⟨_, _, ⟨T102, L102, k102, n102⟩, -, X102, ⟨Lc102, hQ102, l102, y102, z102⟩, st102⟩ := superBack X0 hx hZ (y := Y18) hown (w156 hw) (own_same2 (y := Y18) (y' := Y11) (w157 hw) (w63 hw) rfl (by decide)) (w157 hw) (w40 hw) (by decide) (backOf (W := 0) (rmap29g l Z a0 hw [] a1 cx tx vb kb cs h0 n0 Z0 E1 Fv1 Fc1 Fn1 Eb1 Vb1 S_cs g_a1 hcs hcx hb16) hZ (w159 hw) (w21 hw) (by decide) (by decide)) e0 (Ins.self E1) (g := (mkF m 2 #[vR a1, vI (own_i cx)] [(.int (own_i cx)), (.ref a1)])) rfl hml.symm (w159 hw) (argsL := [(.int (own_i cx))]) (rest := []) (lenOf pd_8 rfl) rfl (Nat.le_of_eq rfl) (hb hby d28_2) (fun _ _ => ⟨rfl, e0, (by decide : 0 + 1 ≤ _), (by decide : 0 + 34 ≤ _)⟩)
 dsimp only [Pt.U, Pt.locs, Pt.cells, Pt.slots] at X102 l102 y102 z102 st102 hQ102
 subst l102 y102 z102
 obtain ⟨b102v2, b102k2, rfl, N102q, Kq102, P103, P104, P105, P106, P107, P108, g_b102v2, szq_b102v2⟩ := hQ102
 have ne_a1_b102v2 : a1 ≠ b102v2 := Nat.ne_of_lt (Nat.lt_of_lt_of_le E1.lt szq_b102v2)
 have ne_vb_b102v2 : vb ≠ b102v2 := Nat.ne_of_lt (Nat.lt_of_lt_of_le Eb1.lt szq_b102v2)
 have sz_b102v2 : h0.size ≤ b102v2 := Nat.le_trans K101.1 szq_b102v2
 have F109 := (E1.keep Kq102)
 have F110 := (Eb1.keep Kq102)
 have F111 := (Vb1.keep Kq102 (fun q => (Exa.ne Eb1 E1 (by decide)) (List.mem_singleton.mp q)))
 have F112 := (own_sta_keep S_cs Kq102 (by intro x hx; cases List.mem_singleton.mp hx; exact ⟨_, E1⟩))
 have Z113 : n0 ≤ T102.heap.size := (Nat.le_trans Z0 Kq102.1)
 have K114 : Keep h0 T102.heap [a1] := (K101.trans Kq102 (by intro x hx; cases List.mem_singleton.mp hx; exact (Or.inl (List.mem_of_getElem? (i := 0) rfl))))
 have N102 := Fr.app N0 N102q
 refine Go.step (fun _ kt => st102.trans kt) ?_
 show gG T102 m 5 #[vR a1, vI (own_i cx)] [(.ref a1)]
 refine Go.step (fun _ kt => XS.pop X102.here hx rfl (hb hby d28_5) rfl rfl (XS.aloadN X102.here hx rfl (hb hby d28_6) rfl rfl kt)) ?_
 show gG T102 m 7 #[vR a1, vI (own_i cx)] [(.ref a1)]
 obtain ⟨fs, hr, hrun, hended, hW, hsame⟩ := X102.leave (v := some (.ref a1)) (fun h => by rw [Bd.returns] at h; cases h)
 refine ⟨_, _, retOut X102 hx Bd.returns rfl (Or.inr (Or.inr (Or.inr (Or.inr ⟨rfl, rfl, rfl⟩)))) (hb hby d28_7) hr, hrun, hended, _, _, rfl, ?_, ⟨_, rfl⟩, hW, hsame.mono (by decide) (by decide)⟩
 show Qrmap28g Z a1 cx tx vb kb cs h0 n0 _ T102.heap _
 refine ⟨b102v2, b102k2, ?_, N102, K114, P103, P104, P105, P106, P107, P108, g_b102v2, sz_b102v2⟩
 rfl
theorem d15_0 : dC20 0 (.iload_n 1, 1) := by decide +kernel
theorem d15_1 : dC20 1 (.iload_n 0, 1) := by decide +kernel
theorem d15_2 : dC20 2 (.if_icmp .ge 35, 3) := by decide +kernel
theorem d15_37 : dC20 37 (.return_, 1) := by decide +kernel
theorem ef_rmcl (m : MethodId) (mx : Nat) : entryFrame m #[(.int 0), (.int (own_i mx))] 2 = mkF m 0 #[vI 0, vI (own_i mx)] [] := by first | (simp [entryFrame, mkF, argsToLocals, Value.category]; done) | rfl
def Qrmcl (Z : State) (mx : Nat) (h0 : Heap) (n0 : Nat) (v : Option Value) (h : Heap) (L : List Loc) : Prop := v = none ∧ Fr n0 L ∧ h = h0
set_option maxRecDepth 65536 in
set_option maxHeartbeats 40000000 in
theorem rmcl (l : Launch) (Z : State) (a0 : Array Value) (hw : ∀ d ∈ tables_1, d.before a0 Z = true) (ws : List Jvm.Cond) (mx : Nat) (h0 : Heap) (n0 : Nat) (Z0 : n0 ≤ h0.size) (hm1 : mx < 2147483648) :
    MetFree l Y20 (head1 (Jvm.Cond.code Y20 jdk_65_method_131_code 2 none :: ws) Rm0) (fun a U => a = #[(.int 0), (.int (own_i mx))] ∧ Z.Warmed39 U.vm ∧ U.heap = h0) (fun _ _ _ _ _ => True) (fun _ U o U' => ∃ v L, o = .returned v ∧ Qrmcl Z mx h0 n0 v U'.heap L ∧ FrameEnd U o U' L Rm0.cells Rm0.slots) := by
 refine MetFree.of_bodySF (plainFor_of_name pn_5) hisR ?_
 intro p e s m args below meth c s₁ Bd hml0 hP hK
 obtain ⟨rfl, hZ, hh⟩ := hP
 have hx := Bd.exec
 have hby := Bd.bytes
 have hml : c.maxLocals = 2 := hml0
 have hown : s.vm.findClass "java/util/Arrays" = some m.cls := findClass_of_methodNamed Bd.named
 have hnm := (name_of_methodNamed Bd.named Bd.method).1
 have X0 : Stand p l e Rm0 s m #[(.int 0), (.int (own_i mx))] below meth c s₁ [] 0 0 := Stand.of_body Bd
 have e0 : s₁.heap = h0 := by rw [← hh, Bd.state]; rfl
 have N0 := Fr.nil n0
 show Go p.tables e below (fun o U' => ∃ v L, o = .returned v ∧ Qrmcl Z mx h0 n0 v U'.heap L ∧ FrameEnd s o U' L Rm0.cells Rm0.slots) _
 refine Go.step (fun t kt => castTop (ef_rmcl m mx) kt) ?_
 show gG s₁ m 0 #[vI 0, vI (own_i mx)] []
 refine Go.step (fun _ kt => XS.iloadN X0.here hx rfl (hb hby d15_0) rfl (XS.iloadN X0.here hx rfl (hb hby d15_1) rfl (XS.icmpYes X0.here hx rfl (pc0 := 2) (pc' := 37) rfl (hb hby d15_2) rfl (flt (own_ilF (a := mx) (b := 0) (by omega) (by omega) (by omega))).2.1 (by decide) (by decide) kt))) ?_
 show gG s₁ m 37 #[vI 0, vI (own_i mx)] []
 obtain ⟨fs, hr, hrun, hended, hW, hsame⟩ := X0.leave (v := none) (fun _ => rfl)
 refine ⟨_, _, X0.returnOut hx Bd.returns (hb hby d15_37) hr, hrun, hended, _, _, rfl, ?_, ⟨_, rfl⟩, hW, hsame.mono (by decide) (by decide)⟩
 show Qrmcl Z mx h0 n0 _ s₁.heap _
 rw [e0]
 refine ⟨?_, N0, rfl⟩
 rfl
theorem own_capN' {n : Nat} (h2 : n < 2147483648) : n ≤ (own_i n).toNatClampNeg := by rw [own_iN h2]; exact Nat.le_refl _
theorem pd_9 : parseMethodDescriptor "(II)V" = some ⟨[.int, .int], none⟩ := by decide +kernel
theorem d14_0 : dC21 0 (.iload_n 1, 1) := by decide +kernel
theorem d14_1 : dC21 1 (.iload_n 2, 1) := by decide +kernel
theorem d14_2 : dC21 2 (.invokestatic 343, 3) := by decide +kernel
theorem d14_5 : dC21 5 (.iload_n 2, 1) := by decide +kernel
theorem d14_6 : dC21 6 (.iload_n 1, 1) := by decide +kernel
theorem d14_7 : dC21 7 (.isub, 1) := by decide +kernel
theorem d14_8 : dC21 8 (.istore_n 3, 1) := by decide +kernel
theorem d14_9 : dC21 9 (.iload_n 3, 1) := by decide +kernel
theorem d14_10 : dC21 10 (.newarray .byte, 2) := by decide +kernel
theorem d14_12 : dC21 12 (.astore 4, 2) := by decide +kernel
theorem d14_14 : dC21 14 (.aload_n 0, 1) := by decide +kernel
theorem d14_15 : dC21 15 (.iload_n 1, 1) := by decide +kernel
theorem d14_16 : dC21 16 (.aload 4, 2) := by decide +kernel
theorem d14_18 : dC21 18 (.iconst 0, 1) := by decide +kernel
theorem d14_19 : dC21 19 (.aload_n 0, 1) := by decide +kernel
theorem d14_20 : dC21 20 (.arraylength, 1) := by decide +kernel
theorem d14_21 : dC21 21 (.iload_n 1, 1) := by decide +kernel
theorem d14_22 : dC21 22 (.isub, 1) := by decide +kernel
theorem d14_23 : dC21 23 (.iload_n 3, 1) := by decide +kernel
theorem d14_24 : dC21 24 (.invokestatic 304, 3) := by decide +kernel
theorem d14_27 : dC21 27 (.invokestatic 150, 3) := by decide +kernel
theorem d14_30 : dC21 30 (.aload 4, 2) := by decide +kernel
theorem d14_32 : dC21 32 (.areturn, 1) := by decide +kernel
theorem ef_rmcrb (m : MethodId) (a1 : Addr) (tx : List Nat) (zc : Int32) (k1 : ClassId) : entryFrame m #[(.ref a1), (.int 0), (.int (own_i tx.length))] 5 = mkF m 0 #[vR a1, vI 0, vI (own_i tx.length), uS, uS] [] := by first | (simp [entryFrame, mkF, argsToLocals, Value.category]; done) | rfl
def Qrmcrb (Z : State) (a1 : Addr) (tx : List Nat) (zc : Int32) (k1 : ClassId) (h0 : Heap) (n0 : Nat) (v : Option Value) (h : Heap) (L : List Loc) : Prop := ∃ r : Addr, ∃ kr : ClassId, v = some (.ref r) ∧ Fr n0 L ∧ Keep h0 h [] ∧ Exa Z h r "[B" ∧ Arv Z h r kr .byte (own_i tx.length) ((tx.map own_i).map Value.int) (.int 0) ∧ n0 ≤ r ∧ h0.size ≤ r
set_option maxRecDepth 65536 in
set_option maxHeartbeats 40000000 in
theorem rmcrb (l : Launch) (Z : State) (a0 : Array Value) (hw : ∀ d ∈ tables_1, d.before a0 Z = true) (ws : List Jvm.Cond) (a1 : Addr) (tx : List Nat) (zc : Int32) (k1 : ClassId) (h0 : Heap) (n0 : Nat) (Z0 : n0 ≤ h0.size) (E1 : Exa Z h0 a1 "[B") (V1 : Arv Z h0 a1 k1 .byte zc ((tx.map own_i).map Value.int) (.int 0)) (hz : tx.length ≤ zc.toNatClampNeg ∧ tx.length ≤ 34 ∧ ¬ zc < 0) :
    MetFree l Y21 (head1 (Jvm.Cond.code Y21 jdk_65_method_133_code 5 (some (.array .byte)) :: ws) Rm6) (fun a U => a = #[(.ref a1), (.int 0), (.int (own_i tx.length))] ∧ Z.Warmed39 U.vm ∧ U.heap = h0) (fun _ _ _ _ _ => True) (fun _ U o U' => ∃ v L, o = .returned v ∧ Qrmcrb Z a1 tx zc k1 h0 n0 v U'.heap L ∧ FrameEnd U o U' L Rm6.cells Rm6.slots) := by
 refine MetFree.of_bodySF (plainFor_of_name pn_5) hisR ?_
 intro p e s m args below meth c s₁ Bd hml0 hP hK
 obtain ⟨rfl, hZ, hh⟩ := hP
 have hx := Bd.exec
 have hby := Bd.bytes
 have hml : c.maxLocals = 5 := hml0
 have hown : s.vm.findClass "java/util/Arrays" = some m.cls := findClass_of_methodNamed Bd.named
 have hnm := (name_of_methodNamed Bd.named Bd.method).1
 have X0 : Stand p l e Rm6 s m #[(.ref a1), (.int 0), (.int (own_i tx.length))] below meth c s₁ [] 0 0 := Stand.of_body Bd
 have e0 : s₁.heap = h0 := by rw [← hh, Bd.state]; rfl
 have N0 := Fr.nil n0
 show Go p.tables e below (fun o U' => ∃ v L, o = .returned v ∧ Qrmcrb Z a1 tx zc k1 h0 n0 v U'.heap L ∧ FrameEnd s o U' L Rm6.cells Rm6.slots) _
 refine Go.step (fun t kt => castTop (ef_rmcrb m a1 tx zc k1) kt) ?_
 show gG s₁ m 0 #[vR a1, vI 0, vI (own_i tx.length), uS, uS] []
 have K101 : Keep h0 h0 [] := (Keep.refl h0 [])
 refine Go.step (fun _ kt => XS.iloadN X0.here hx rfl (hb hby d14_0) rfl (XS.iloadN X0.here hx rfl (hb hby d14_1) rfl kt)) ?_
 obtain ⟨_, _, ⟨T103, L103, k103, n103⟩, -, X103, ⟨Lc103, hQ103, l103, y103, z103⟩, st103⟩ := Jvm.LawKit.callS X0 hx (y := Y20) hown (mvT hZ (w81 hw)) (mvT hZ (w82 hw)) (mvT hZ (w76 hw)) (mvT hZ (w83 hw)) (by decide) (backOf (W := 0) (rmcl l Z a0 hw []  tx.length h0 n0 Z0  (by omega)) hZ (w83 hw) (w76 hw) (by decide) (by decide)) (g := (mkF m 2 #[vR a1, vI 0, vI (own_i tx.length), uS, uS] [(.int (own_i tx.length)), (.int 0)])) rfl hml.symm (argsL := [(.int 0), (.int (own_i tx.length))]) (rest := []) (lenOf pd_9 rfl) rfl (Nat.le_of_eq rfl) (hb hby d14_2) (fun _ _ => ⟨rfl, e0, (by decide : 0 + 0 ≤ _), (by decide : 0 + 0 ≤ _)⟩)
 dsimp only [Pt.U, Pt.locs, Pt.cells, Pt.slots] at X103 l103 y103 z103 st103 hQ103
 subst l103 y103 z103
 obtain ⟨rfl, N103q, eh103⟩ := hQ103
 have N103 := Fr.app N0 N103q
 refine Go.step st103 ?_
 show gG T103 m 5 #[vR a1, vI 0, vI (own_i tx.length), uS, uS] []
 refine Go.step (fun _ kt => XS.iloadN X103.here hx rfl (hb hby d14_5) rfl (XS.iloadN X103.here hx rfl (hb hby d14_6) rfl (XS.isub X103.here hx rfl (hb hby d14_7) rfl kt))) ?_
 show gG T103 m 8 #[vR a1, vI 0, vI (own_i tx.length), uS, uS] [(.int ((own_i tx.length) - (0 : Int32)))]
 have q104 : ((own_i tx.length) - (0 : Int32)) = (own_i tx.length) := Int32.sub_zero _
 rw [q104]
 refine Go.step (fun _ kt => XS.istoreN X103.here hx rfl (hb hby d14_8) rfl (l' := #[vR a1, vI 0, vI (own_i tx.length), vI (own_i tx.length), uS]) rfl (XS.iloadN X103.here hx rfl (hb hby d14_9) rfl kt)) ?_
 obtain ⟨T105, h105, k105, X105, e105, E105, A105, Ex105, st105⟩ := newPE (aty := .byte) X103 hx hZ (w28 hw) eh103 (g := (mkF m 10 #[vR a1, vI 0, vI (own_i tx.length), vI (own_i tx.length), uS] [(.int (own_i tx.length))])) rfl (hb hby d14_10) rfl (own_nneg (by omega)) (cap := 34) (own_capN (by omega) (by omega)) (by decide) (by decide) (by decide) (ad := "[B") own_adB
 obtain ⟨b105, g105⟩ : ∃ z, z = h0.size := ⟨_, rfl⟩
 rw [← g105] at A105 Ex105 st105
 refine Go.step st105 ?_
 have ne_a1_b105 : a1 ≠ b105 := Nat.ne_of_lt (Nat.lt_of_lt_of_le E1.lt (Nat.le_of_eq g105.symm))
 have g_b105 : n0 ≤ b105 := Nat.le_trans Z0 (Nat.le_of_eq g105.symm)
 have sz_b105 : h0.size ≤ b105 := Nat.le_trans K101.1 (Nat.le_of_eq g105.symm)
 have F106 := (E1.ext E105)
 have F107 := (V1.ext E105)
 have Z108 : n0 ≤ h105.size := (Nat.le_trans Z0 E105.1)
 have K109 : Keep h0 h105 [] := (K101.ext E105)
 have V110 : Arv Z h105 b105 k105 .byte (own_i tx.length) ((([] : List Nat).map own_i).map Value.int) (.int 0) := Arv.new A105 (own_nneg (by omega))
 show gG T105 m 12 #[vR a1, vI 0, vI (own_i tx.length), vI (own_i tx.length), uS] [(.ref b105)]
 refine Go.step (fun _ kt => XS.astore X105.here hx rfl (hb hby d14_12) rfl rfl (l' := #[vR a1, vI 0, vI (own_i tx.length), vI (own_i tx.length), vR b105]) rfl (XS.aloadN X105.here hx rfl (hb hby d14_14) rfl rfl (XS.iloadN X105.here hx rfl (hb hby d14_15) rfl (XS.aload X105.here hx rfl (hb hby d14_16) rfl rfl (XS.iconst X105.here hx rfl (hb hby d14_18) (XS.aloadN X105.here hx rfl (hb hby d14_19) rfl rfl kt)))))) ?_
 show gG T105 m 20 #[vR a1, vI 0, vI (own_i tx.length), vI (own_i tx.length), vR b105] [(.ref a1), (.int 0), (.ref b105), (.int 0), (.ref a1)]
 obtain ⟨cl111, Ar111, qa111, Sa111, Na111, Ha111, Ga111⟩ := (id F107)
 refine Go.step (X105.arraylength hx (by rw [e105]; exact Ar111.1) (State.isArrayOf_alike hZ.alike Ar111.2.1) (g := (mkF m 20 #[vR a1, vI 0, vI (own_i tx.length), vI (own_i tx.length), vR b105] [(.ref a1), (.int 0), (.ref b105), (.int 0), (.ref a1)])) rfl rfl (hb hby d14_20)) ?_
 rw [len_of Sa111 Na111]
 show gG T105 m 21 #[vR a1, vI 0, vI (own_i tx.length), vI (own_i tx.length), vR b105] [(.int zc), (.int 0), (.ref b105), (.int 0), (.ref a1)]
 refine Go.step (fun _ kt => XS.iloadN X105.here hx rfl (hb hby d14_21) rfl (XS.isub X105.here hx rfl (hb hby d14_22) rfl kt)) ?_
 show gG T105 m 23 #[vR a1, vI 0, vI (own_i tx.length), vI (own_i tx.length), vR b105] [(.int (zc - (0 : Int32))), (.int 0), (.ref b105), (.int 0), (.ref a1)]
 have q112 : (zc - (0 : Int32)) = zc := Int32.sub_zero _
 rw [q112]
 refine Go.step (fun _ kt => XS.iloadN X105.here hx rfl (hb hby d14_23) rfl kt) ?_
 obtain ⟨_, _, ⟨T114, L114, k114, n114⟩, -, X114, ⟨Lc114, hQ114, l114, y114, z114⟩, st114⟩ := Jvm.LawKit.callS X105 hx (y := Y0) hown (mvT hZ (w84 hw)) (mvT hZ (w85 hw)) (mvT hZ (w86 hw)) (mvT hZ (w87 hw)) (by decide) (backOf (W := 4) (rmmin l Z a0 hw [] zc (own_i tx.length)  h105 n0 Z108  ) hZ (w87 hw) (w86 hw) (by decide) (by decide)) (g := (mkF m 24 #[vR a1, vI 0, vI (own_i tx.length), vI (own_i tx.length), vR b105] [(.int (own_i tx.length)), (.int zc), (.int 0), (.ref b105), (.int 0), (.ref a1)])) rfl hml.symm (argsL := [(.int zc), (.int (own_i tx.length))]) (rest := [(.int 0), (.ref b105), (.int 0), (.ref a1)]) (lenOf pd_0 rfl) rfl (Nat.le_of_eq rfl) (hb hby d14_24) (fun _ _ => ⟨rfl, e105, (by decide : 1 + 0 ≤ _), (by decide : 34 + 0 ≤ _)⟩)
 dsimp only [Pt.U, Pt.locs, Pt.cells, Pt.slots] at X114 l114 y114 z114 st114 hQ114
 subst l114 y114 z114
 obtain ⟨rfl, N114q, eh114⟩ := hQ114
 have N114 := Fr.app N103 N114q
 refine Go.step st114 ?_
 show gG T114 m 27 #[vR a1, vI 0, vI (own_i tx.length), vI (own_i tx.length), vR b105] [(.int (own_min zc (own_i tx.length))), (.int 0), (.ref b105), (.int 0), (.ref a1)]
 have q115 : (own_min zc (own_i tx.length)) = (own_i tx.length) := own_minz hz.1 (by omega) hz.2.2
 rw [q115]
 obtain ⟨T116, h116, L116, X116, e116, N116, Kq116, V116, st116⟩ := cpA X114 hx hZ hown (w88 hw) (w91 hw) (w89 hw) (w90 hw) eh114 F107 (own_rep V110 tx.length) (Or.inl ⟨rfl, rfl⟩) (by decide) (by decide) (own_nneg (by omega)) (own_h4 hz.1 (by omega)) (own_h4 (own_capN' (by omega)) (by omega)) rfl (own_h6 _ (by omega)) N114 g_b105 (g := (mkF m 27 #[vR a1, vI 0, vI (own_i tx.length), vI (own_i tx.length), vR b105] [(.int (own_i tx.length)), (.int 0), (.ref b105), (.int 0), (.ref a1)])) rfl hml.symm rfl (hb hby d14_27) (by decide) (W := 0) (Nat.le_of_eq rfl) (by decide)
 refine Go.step st116 ?_
 have F117 := (F106.keep Kq116)
 have F118 := (F107.keep Kq116 (fun q => ne_a1_b105 (List.mem_singleton.mp q)))
 have F119 := (Ex105.keep Kq116)
 have Z120 : n0 ≤ h116.size := (Nat.le_trans Z108 Kq116.1)
 have K121 : Keep h0 h116 [] := (K109.trans Kq116 (by intro x hx; cases List.mem_singleton.mp hx; exact (Or.inr sz_b105)))
 have Vc122 : Arv Z h116 b105 k105 .byte (own_i tx.length) ((tx.map own_i).map Value.int) (.int 0) := own_cpl (N := tx.length) (by omega) V116
 show gG T116 m 30 #[vR a1, vI 0, vI (own_i tx.length), vI (own_i tx.length), vR b105] []
 refine Go.step (fun _ kt => XS.aload X116.here hx rfl (hb hby d14_30) rfl rfl kt) ?_
 show gG T116 m 32 #[vR a1, vI 0, vI (own_i tx.length), vI (own_i tx.length), vR b105] [(.ref b105)]
 obtain ⟨fs, hr, hrun, hended, hW, hsame⟩ := X116.leave (v := some (.ref b105)) (fun h => by rw [Bd.returns] at h; cases h)
 refine ⟨_, _, retOut X116 hx Bd.returns rfl (Or.inr (Or.inr (Or.inr (Or.inr ⟨rfl, rfl, rfl⟩)))) (hb hby d14_32) hr, hrun, hended, _, _, rfl, ?_, ⟨_, rfl⟩, hW, hsame.mono (by decide) (by decide)⟩
 show Qrmcrb Z a1 tx zc k1 h0 n0 _ T116.heap _
 rw [e116]
 refine ⟨b105, k105, ?_, N116, K121, F119, Vc122, g_b105, sz_b105⟩
 rfl
theorem pd_10 : parseMethodDescriptor "([BII)[B" = some ⟨[(.array .byte), .int, .int], some (.array .byte)⟩ := by decide +kernel
theorem d13_0 : dC22 0 (.iload_n 1, 1) := by decide +kernel
theorem d13_1 : dC22 1 (.ifCond .ne 9, 3) := by decide +kernel
theorem d13_4 : dC22 4 (.iload_n 2, 1) := by decide +kernel
theorem d13_5 : dC22 5 (.aload_n 0, 1) := by decide +kernel
theorem d13_6 : dC22 6 (.arraylength, 1) := by decide +kernel
theorem d13_7 : dC22 7 (.if_icmp .eq 10, 3) := by decide +kernel
theorem d13_10 : dC22 10 (.aload_n 0, 1) := by decide +kernel
theorem d13_11 : dC22 11 (.iload_n 1, 1) := by decide +kernel
theorem d13_12 : dC22 12 (.iload_n 2, 1) := by decide +kernel
theorem d13_13 : dC22 13 (.invokestatic 339, 3) := by decide +kernel
theorem d13_16 : dC22 16 (.areturn, 1) := by decide +kernel
theorem d13_17 : dC22 17 (.aload_n 0, 1) := by decide +kernel
theorem d13_18 : dC22 18 (.invokevirtual 310, 3) := by decide +kernel
theorem d13_21 : dC22 21 (.checkcast 311, 3) := by decide +kernel
theorem d13_24 : dC22 24 (.areturn, 1) := by decide +kernel
theorem ef_rmcr (m : MethodId) (a1 : Addr) (tx : List Nat) (zc : Int32) (k1 : ClassId) : entryFrame m #[(.ref a1), (.int 0), (.int (own_i tx.length))] 3 = mkF m 0 #[vR a1, vI 0, vI (own_i tx.length)] [] := by first | (simp [entryFrame, mkF, argsToLocals, Value.category]; done) | rfl
def Qrmcr (Z : State) (a1 : Addr) (tx : List Nat) (zc : Int32) (k1 : ClassId) (h0 : Heap) (n0 : Nat) (v : Option Value) (h : Heap) (L : List Loc) : Prop := ∃ r : Addr, ∃ kr : ClassId, v = some (.ref r) ∧ Fr n0 L ∧ Keep h0 h [] ∧ Exa Z h r "[B" ∧ Arv Z h r kr .byte (own_i tx.length) ((tx.map own_i).map Value.int) (.int 0) ∧ n0 ≤ r ∧ h0.size ≤ r
set_option maxRecDepth 65536 in
set_option maxHeartbeats 40000000 in
theorem rmcr (l : Launch) (Z : State) (a0 : Array Value) (hw : ∀ d ∈ tables_1, d.before a0 Z = true) (ws : List Jvm.Cond) (a1 : Addr) (tx : List Nat) (zc : Int32) (k1 : ClassId) (h0 : Heap) (n0 : Nat) (Z0 : n0 ≤ h0.size) (E1 : Exa Z h0 a1 "[B") (V1 : Arv Z h0 a1 k1 .byte zc ((tx.map own_i).map Value.int) (.int 0)) (hz : tx.length ≤ zc.toNatClampNeg ∧ tx.length ≤ 34 ∧ ¬ zc < 0) :
    MetFree l Y22 (head1 (Jvm.Cond.code Y22 jdk_65_method_132_code 3 (some (.array .byte)) :: ws) Rm11) (fun a U => a = #[(.ref a1), (.int 0), (.int (own_i tx.length))] ∧ Z.Warmed39 U.vm ∧ U.heap = h0) (fun _ _ _ _ _ => True) (fun _ U o U' => ∃ v L, o = .returned v ∧ Qrmcr Z a1 tx zc k1 h0 n0 v U'.heap L ∧ FrameEnd U o U' L Rm11.cells Rm11.slots) := by
 refine MetFree.of_bodySF (plainFor_of_name pn_5) hisR ?_
 intro p e s m args below meth c s₁ Bd hml0 hP hK
 obtain ⟨rfl, hZ, hh⟩ := hP
 have hx := Bd.exec
 have hby := Bd.bytes
 have hml : c.maxLocals = 3 := hml0
 have hown : s.vm.findClass "java/util/Arrays" = some m.cls := findClass_of_methodNamed Bd.named
 have hnm := (name_of_methodNamed Bd.named Bd.method).1
 have X0 : Stand p l e Rm11 s m #[(.ref a1), (.int 0), (.int (own_i tx.length))] below meth c s₁ [] 0 0 := Stand.of_body Bd
 have e0 : s₁.heap = h0 := by rw [← hh, Bd.state]; rfl
 have N0 := Fr.nil n0
 show Go p.tables e below (fun o U' => ∃ v L, o = .returned v ∧ Qrmcr Z a1 tx zc k1 h0 n0 v U'.heap L ∧ FrameEnd s o U' L Rm11.cells Rm11.slots) _
 refine Go.step (fun t kt => castTop (ef_rmcr m a1 tx zc k1) kt) ?_
 show gG s₁ m 0 #[vR a1, vI 0, vI (own_i tx.length)] []
 have K101 : Keep h0 h0 [] := (Keep.refl h0 [])
 refine Go.step (fun _ kt => XS.iloadN X0.here hx rfl (hb hby d13_0) rfl (XS.ifNo X0.here hx rfl (hb hby d13_1) rfl ((if0 _ _).trans (teq (by decide : (0 : Int32) = (0 : Int32))).2) (XS.iloadN X0.here hx rfl (hb hby d13_4) rfl (XS.aloadN X0.here hx rfl (hb hby d13_5) rfl rfl kt)))) ?_
 show gG s₁ m 6 #[vR a1, vI 0, vI (own_i tx.length)] [(.ref a1), (.int (own_i tx.length))]
 obtain ⟨cl102, Ar102, qa102, Sa102, Na102, Ha102, Ga102⟩ := (id V1)
 refine Go.step (X0.arraylength hx (by rw [e0]; exact Ar102.1) (State.isArrayOf_alike hZ.alike Ar102.2.1) (g := (mkF m 6 #[vR a1, vI 0, vI (own_i tx.length)] [(.ref a1), (.int (own_i tx.length))])) rfl rfl (hb hby d13_6)) ?_
 rw [len_of Sa102 Na102]
 show gG s₁ m 7 #[vR a1, vI 0, vI (own_i tx.length)] [(.int zc), (.int (own_i tx.length))]
 by_cases hc7_103 : (own_i tx.length) = zc
 ·have hcq := hc7_103
  refine Go.step (fun _ kt => XS.icmpYes X0.here hx rfl (pc0 := 7) (pc' := 17) rfl (hb hby d13_7) rfl (teq hc7_103).1 (by decide) (by decide) (XS.aloadN X0.here hx rfl (hb hby d13_17) rfl rfl kt)) ?_
  obtain ⟨T104, h104, X104, e104, E104, A104, Ex104, st104⟩ := cloneH X0 hx hZ hown (ad := "[B") (w211 hw) (w212 hw) (w144 hw) (w142 hw) (w213 hw) (w214 hw) e0 V1.arh E1 (g := (mkF m 18 #[vR a1, vI 0, vI (own_i tx.length)] [(.ref a1)])) rfl hml.symm rfl (hb hby d13_18) (by decide) (W := 0) (cap := 34) (Nat.le_of_eq rfl) (by decide) (by rw [← hcq]; exact own_capN (by omega) (by omega)) (by decide) (by decide)
  obtain ⟨b104, g104⟩ : ∃ z, z = h0.size := ⟨_, rfl⟩
  rw [← g104] at A104 Ex104 st104
  refine Go.step st104 ?_
  have ne_a1_b104 : a1 ≠ b104 := Nat.ne_of_lt (Nat.lt_of_lt_of_le E1.lt (Nat.le_of_eq g104.symm))
  have g_b104 : n0 ≤ b104 := Nat.le_trans Z0 (Nat.le_of_eq g104.symm)
  have sz_b104 : h0.size ≤ b104 := Nat.le_trans K101.1 (Nat.le_of_eq g104.symm)
  have F105 := (E1.ext E104)
  have F106 := (V1.ext E104)
  have Z107 : n0 ≤ h104.size := (Nat.le_trans Z0 E104.1)
  have K108 : Keep h0 h104 [] := (K101.ext E104)
  have V109 : Arv Z h104 b104 k1 .byte zc ((tx.map own_i).map Value.int) (.int 0) := A104
  obtain ⟨T110, X110, e110, st110⟩ := castY X104 hx hZ hown (w215 hw) e104 (Ins.self Ex104) (g := (mkF m 21 #[vR a1, vI 0, vI (own_i tx.length)] [(.ref b104)])) rfl rfl (hb hby d13_21)
  refine Go.step st110 ?_
  show gG T110 m 24 #[vR a1, vI 0, vI (own_i tx.length)] [(.ref b104)]
  have R111 : Arv Z h104 b104 k1 .byte (own_i tx.length) ((tx.map own_i).map Value.int) (.int 0) := by rw [hc7_103]; exact V109
  obtain ⟨fs, hr, hrun, hended, hW, hsame⟩ := X110.leave (v := some (.ref b104)) (fun h => by rw [Bd.returns] at h; cases h)
  refine ⟨_, _, retOut X110 hx Bd.returns rfl (Or.inr (Or.inr (Or.inr (Or.inr ⟨rfl, rfl, rfl⟩)))) (hb hby d13_24) hr, hrun, hended, _, _, rfl, ?_, ⟨_, rfl⟩, hW, hsame.mono (by decide) (by decide)⟩
  show Qrmcr Z a1 tx zc k1 h0 n0 _ T110.heap _
  rw [e110]
  refine ⟨b104, k1, ?_, N0, K108, Ex104, R111, g_b104, sz_b104⟩
  rfl
 ·refine Go.step (fun _ kt => XS.icmpNo X0.here hx rfl (hb hby d13_7) rfl (feq hc7_103).1 (XS.aloadN X0.here hx rfl (hb hby d13_10) rfl rfl (XS.iloadN X0.here hx rfl (hb hby d13_11) rfl (XS.iloadN X0.here hx rfl (hb hby d13_12) rfl kt)))) ?_
  obtain ⟨_, _, ⟨T113, L113, k113, n113⟩, -, X113, ⟨Lc113, hQ113, l113, y113, z113⟩, st113⟩ := Jvm.LawKit.callS X0 hx (y := Y21) hown (mvT hZ (w78 hw)) (mvT hZ (w79 hw)) (mvT hZ (w76 hw)) (mvT hZ (w80 hw)) (by decide) (backOf (W := 0) (rmcrb l Z a0 hw [] a1 tx zc k1 h0 n0 Z0 E1 V1 hz) hZ (w80 hw) (w76 hw) (by decide) (by decide)) (g := (mkF m 13 #[vR a1, vI 0, vI (own_i tx.length)] [(.int (own_i tx.length)), (.int 0), (.ref a1)])) rfl hml.symm (argsL := [(.ref a1), (.int 0), (.int (own_i tx.length))]) (rest := []) (lenOf pd_10 rfl) rfl (Nat.le_of_eq rfl) (hb hby d13_13) (fun _ _ => ⟨rfl, e0, (by decide : 0 + 1 ≤ _), (by decide : 0 + 34 ≤ _)⟩)
  dsimp only [Pt.U, Pt.locs, Pt.cells, Pt.slots] at X113 l113 y113 z113 st113 hQ113
  subst l113 y113 z113
  obtain ⟨b113r, b113kr, rfl, N113q, Kq113, P114, P115, g_b113r, szq_b113r⟩ := hQ113
  have ne_a1_b113r : a1 ≠ b113r := Nat.ne_of_lt (Nat.lt_of_lt_of_le E1.lt szq_b113r)
  have sz_b113r : h0.size ≤ b113r := Nat.le_trans K101.1 szq_b113r
  have F116 := (E1.keep Kq113)
  have F117 := (V1.keep Kq113 (by simp))
  have Z118 : n0 ≤ T113.heap.size := (Nat.le_trans Z0 Kq113.1)
  have K119 : Keep h0 T113.heap [] := (K101.trans Kq113 (by intro x hx; cases hx))
  have N113 := Fr.app N0 N113q
  refine Go.step st113 ?_
  show gG T113 m 16 #[vR a1, vI 0, vI (own_i tx.length)] [(.ref b113r)]
  obtain ⟨fs, hr, hrun, hended, hW, hsame⟩ := X113.leave (v := some (.ref b113r)) (fun h => by rw [Bd.returns] at h; cases h)
  refine ⟨_, _, retOut X113 hx Bd.returns rfl (Or.inr (Or.inr (Or.inr (Or.inr ⟨rfl, rfl, rfl⟩)))) (hb hby d13_16) hr, hrun, hended, _, _, rfl, ?_, ⟨_, rfl⟩, hW, hsame.mono (by decide) (by decide)⟩
  show Qrmcr Z a1 tx zc k1 h0 n0 _ T113.heap _
  refine ⟨b113r, b113kr, ?_, N113, K119, P114, P115, g_b113r, sz_b113r⟩
  rfl
theorem pd_11 : parseMethodDescriptor "()[B" = some ⟨[], some (.array .byte)⟩ := by decide +kernel
theorem pn_6 : plainName "java/lang/String" = true := by first | (simp [plainName, overriddenIn]; done) | decide +kernel
theorem d10_0 : dC23 0 (.aload_n 0, 1) := by decide +kernel
theorem d10_1 : dC23 1 (.invokespecial 1, 3) := by decide +kernel
theorem d10_4 : dC23 4 (.aload_n 1, 1) := by decide +kernel
theorem d10_5 : dC23 5 (.invokevirtual 552, 3) := by decide +kernel
theorem d10_8 : dC23 8 (.astore_n 3, 1) := by decide +kernel
theorem d10_9 : dC23 9 (.aload_n 1, 1) := by decide +kernel
theorem d10_10 : dC23 10 (.invokevirtual 549, 3) := by decide +kernel
theorem d10_13 : dC23 13 (.istore 4, 2) := by decide +kernel
theorem d10_15 : dC23 15 (.aload_n 1, 1) := by decide +kernel
theorem d10_16 : dC23 16 (.invokevirtual 1047, 3) := by decide +kernel
theorem d10_19 : dC23 19 (.ifCond .eq 22, 3) := by decide +kernel
theorem d10_22 : dC23 22 (.aload_n 0, 1) := by decide +kernel
theorem d10_23 : dC23 23 (.iconst 0, 1) := by decide +kernel
theorem d10_24 : dC23 24 (.putfield 15, 3) := by decide +kernel
theorem d10_27 : dC23 27 (.aload_n 0, 1) := by decide +kernel
theorem d10_28 : dC23 28 (.aload_n 3, 1) := by decide +kernel
theorem d10_29 : dC23 29 (.iconst 0, 1) := by decide +kernel
theorem d10_30 : dC23 30 (.iload 4, 2) := by decide +kernel
theorem d10_32 : dC23 32 (.invokestatic 54, 3) := by decide +kernel
theorem d10_35 : dC23 35 (.putfield 9, 3) := by decide +kernel
theorem d10_38 : dC23 38 (.goto 59, 3) := by decide +kernel
theorem d10_97 : dC23 97 (.return_, 1) := by decide +kernel
theorem ef_rmsi10 (m : MethodId) (a1 : Addr) (a2 : Addr) (zc : Int32) (tx : List Nat) (vb : Addr) (kb : ClassId) (cs : Int32) : entryFrame m #[(.ref a1), (.ref a2), .null] 5 = mkF m 0 #[vR a1, vR a2, .val .null, uS, uS] [] := by first | (simp [entryFrame, mkF, argsToLocals, Value.category]; done) | rfl
def Qrmsi10 (Z : State) (a1 : Addr) (a2 : Addr) (zc : Int32) (tx : List Nat) (vb : Addr) (kb : ClassId) (cs : Int32) (h0 : Heap) (n0 : Nat) (v : Option Value) (h : Heap) (L : List Loc) : Prop := ∃ b : Addr, ∃ kr : ClassId, v = none ∧ Fr n0 L ∧ Keep h0 h [a1] ∧ Exa Z h a1 "java/lang/String" ∧ Fld Z h a1 "java/lang/String" "value" "[B" (.ref b) ∧ Fld Z h a1 "java/lang/String" "coder" "B" (.int 0) ∧ Arv Z h b kr .byte (own_i tx.length) ((tx.map own_i).map Value.int) (.int 0) ∧ n0 ≤ b ∧ h0.size ≤ b
set_option maxRecDepth 65536 in
set_option maxHeartbeats 40000000 in
theorem rmsi10 (l : Launch) (Z : State) (a0 : Array Value) (hw : ∀ d ∈ tables_1, d.before a0 Z = true) (ws : List Jvm.Cond) (a1 : Addr) (a2 : Addr) (zc : Int32) (tx : List Nat) (vb : Addr) (kb : ClassId) (cs : Int32) (h0 : Heap) (n0 : Nat) (Z0 : n0 ≤ h0.size) (E0 : Exa Z h0 a1 "java/lang/String") (Fv0 : Fld Z h0 a1 "java/lang/String" "value" "[B" .null) (Fc0 : Fld Z h0 a1 "java/lang/String" "coder" "B" (.int 0)) (E1 : Exa Z h0 a2 "java/lang/StringBuilder") (Fv1 : Fld Z h0 a2 "java/lang/AbstractStringBuilder" "value" "[B" (.ref vb)) (Fc1 : Fld Z h0 a2 "java/lang/AbstractStringBuilder" "coder" "B" (.int 0)) (Fn1 : Fld Z h0 a2 "java/lang/AbstractStringBuilder" "count" "I" (.int (own_i tx.length))) (Eb1 : Exa Z h0 vb "[B") (Vb1 : Arv Z h0 vb kb .byte zc ((tx.map own_i).map Value.int) (.int 0)) (S_cs : Sta Z h0 "java/lang/String" "COMPACT_STRINGS" "Z" (.int cs)) (g_a1 : n0 ≤ a1) (hcs : ¬ cs = 0) (hz : tx.length ≤ zc.toNatClampNeg ∧ tx.length ≤ 34 ∧ ¬ zc < 0) :
    MetFree l Y23 (head1 (Jvm.Cond.code Y23 jdk_42_method_150_code 5 none :: ws) Rm12) (fun a U => a = #[(.ref a1), (.ref a2), .null] ∧ Z.Warmed39 U.vm ∧ U.heap = h0) (fun _ _ _ _ _ => True) (fun _ U o U' => ∃ v L, o = .returned v ∧ Qrmsi10 Z a1 a2 zc tx vb kb cs h0 n0 v U'.heap L ∧ FrameEnd U o U' L Rm12.cells Rm12.slots) := by
 refine MetFree.of_bodySF (plainFor_of_name pn_6) hisR ?_
 intro p e s m args below meth c s₁ Bd hml0 hP hK
 obtain ⟨rfl, hZ, hh⟩ := hP
 have hx := Bd.exec
 have hby := Bd.bytes
 have hml : c.maxLocals = 5 := hml0
 have hown : s.vm.findClass "java/lang/String" = some m.cls := findClass_of_methodNamed Bd.named
 have hnm := (name_of_methodNamed Bd.named Bd.method).1
 have X0 : Stand p l e Rm12 s m #[(.ref a1), (.ref a2), .null] below meth c s₁ [] 0 0 := Stand.of_body Bd
 have e0 : s₁.heap = h0 := by rw [← hh, Bd.state]; rfl
 have N0 := Fr.nil n0
 show Go p.tables e below (fun o U' => ∃ v L, o = .returned v ∧ Qrmsi10 Z a1 a2 zc tx vb kb cs h0 n0 v U'.heap L ∧ FrameEnd s o U' L Rm12.cells Rm12.slots) _
 refine Go.step (fun t kt => castTop (ef_rmsi10 m a1 a2 zc tx vb kb cs) kt) ?_
 show gG s₁ m 0 #[vR a1, vR a2, .val .null, uS, uS] []
 have K101 : Keep h0 h0 [a1] := (Keep.refl h0 [a1])
 refine Go.step (fun _ kt => XS.aloadN X0.here hx rfl (hb hby d10_0) rfl rfl kt) ?_
 obtain ⟨T102, X102, e102, st102⟩ := initO X0 hx hZ hown (w59 hw) (w24 hw) (w25 hw) e0 (g := (mkF m 1 #[vR a1, vR a2, .val .null, uS, uS] [(.ref a1)])) rfl hml.symm rfl (hb hby d10_1) (by decide) (W := 0) (Nat.le_of_eq rfl) (by decide)
 refine Go.step st102 ?_
 show gG T102 m 4 #[vR a1, vR a2, .val .null, uS, uS] []
 refine Go.step (fun _ kt => XS.aloadN X102.here hx rfl (hb hby d10_4) rfl rfl kt) ?_
 show gG T102 m 5 #[vR a1, vR a2, .val .null, uS, uS] [(.ref a2)]
 obtain ⟨cq103, kq103, q103a, q103b, q103c⟩ := isOf hZ e102 E1
 obtain ⟨_, _, ⟨T103, L103, k103, n103⟩, -, X103, ⟨Lc103, hQ103, l103, y103, z103⟩, st103⟩ := X102.virtualBack hx (y := Y11) (z := Y11) hown (mvT hZ (w60 hw)) (mvT hZ (w61 hw)) (notFace_of_selects (args := #[]) (mvT hZ (w63 hw))) (mvT hZ (w63 hw)) (mvT hZ (w62 hw)) (by decide) (backOf (W := 0) (rmgv l Z a0 hw [] a2 vb h0 n0 Z0 E1 Fv1 ) hZ (w64 hw) (w21 hw) (by decide) (by decide)) q103a q103c (g := (mkF m 5 #[vR a1, vR a2, .val .null, uS, uS] [(.ref a2)])) rfl hml.symm (Steps.refl _) (argsL := []) (rest := []) (lenOf pd_11 rfl) rfl (Nat.le_of_eq rfl) (hb hby d10_5) (fun _ _ => ⟨rfl, e102, (by decide : 0 + 0 ≤ _), (by decide : 0 + 0 ≤ _)⟩)
 dsimp only [Pt.U, Pt.locs, Pt.cells, Pt.slots] at X103 l103 y103 z103 st103 hQ103
 subst l103 y103 z103
 obtain ⟨rfl, N103q, eh103⟩ := hQ103
 have N103 := Fr.app N0 N103q
 refine Go.step (fun _ kt => st103.trans kt) ?_
 show gG T103 m 8 #[vR a1, vR a2, .val .null, uS, uS] [(.ref vb)]
 refine Go.step (fun _ kt => XS.astoreN X103.here hx rfl (hb hby d10_8) rfl rfl (l' := #[vR a1, vR a2, .val .null, vR vb, uS]) rfl (XS.aloadN X103.here hx rfl (hb hby d10_9) rfl rfl kt)) ?_
 show gG T103 m 10 #[vR a1, vR a2, .val .null, vR vb, uS] [(.ref a2)]
 obtain ⟨cq104, kq104, q104a, q104b, q104c⟩ := isOf hZ eh103 E1
 obtain ⟨_, _, ⟨T104, L104, k104, n104⟩, -, X104, ⟨Lc104, hQ104, l104, y104, z104⟩, st104⟩ := X103.virtualBack hx (y := Y9) (z := Y10) hown (mvT hZ (w65 hw)) (mvT hZ (w41 hw)) (own_nf (y' := Y11) (mvT hZ (w63 hw)) rfl (args := #[])) (mvT hZ (w66 hw)) (mvT hZ (w35 hw)) (by decide) (backOf (W := 0) (rmlen6 l Z a0 hw [] a2 (own_i tx.length) h0 n0 Z0 E1 Fn1 ) hZ (w37 hw) (w13 hw) (by decide) (by decide)) q104a q104c (g := (mkF m 10 #[vR a1, vR a2, .val .null, vR vb, uS] [(.ref a2)])) rfl hml.symm (Steps.refl _) (argsL := []) (rest := []) (lenOf pd_2 rfl) rfl (Nat.le_of_eq rfl) (hb hby d10_10) (fun _ _ => ⟨rfl, eh103, (by decide : 0 + 0 ≤ _), (by decide : 0 + 0 ≤ _)⟩)
 dsimp only [Pt.U, Pt.locs, Pt.cells, Pt.slots] at X104 l104 y104 z104 st104 hQ104
 subst l104 y104 z104
 obtain ⟨rfl, N104q, eh104⟩ := hQ104
 have N104 := Fr.app N103 N104q
 refine Go.step (fun _ kt => st104.trans kt) ?_
 show gG T104 m 13 #[vR a1, vR a2, .val .null, vR vb, uS] [(.int (own_i tx.length))]
 refine Go.step (fun _ kt => XS.istore X104.here hx rfl (hb hby d10_13) rfl (l' := #[vR a1, vR a2, .val .null, vR vb, vI (own_i tx.length)]) rfl (XS.aloadN X104.here hx rfl (hb hby d10_15) rfl rfl kt)) ?_
 show gG T104 m 16 #[vR a1, vR a2, .val .null, vR vb, vI (own_i tx.length)] [(.ref a2)]
 obtain ⟨cq105, kq105, q105a, q105b, q105c⟩ := isOf hZ eh104 E1
 obtain ⟨_, _, ⟨T105, L105, k105, n105⟩, -, X105, ⟨Lc105, hQ105, l105, y105, z105⟩, st105⟩ := X104.virtualBack hx (y := Y8) (z := Y8) hown (mvT hZ (w67 hw)) (mvT hZ (w68 hw)) (notFace_of_selects (args := #[]) (mvT hZ (w70 hw))) (mvT hZ (w70 hw)) (mvT hZ (w69 hw)) (by decide) (backOf (W := 0) (rmlat l Z a0 hw [] a2 cs h0 n0 Z0 E1 Fc1 S_cs hcs) hZ (w71 hw) (w21 hw) (by decide) (by decide)) q105a q105c (g := (mkF m 16 #[vR a1, vR a2, .val .null, vR vb, vI (own_i tx.length)] [(.ref a2)])) rfl hml.symm (Steps.refl _) (argsL := []) (rest := []) (lenOf pd_6 rfl) rfl (Nat.le_of_eq rfl) (hb hby d10_16) (fun _ _ => ⟨rfl, eh104, (by decide : 0 + 0 ≤ _), (by decide : 0 + 0 ≤ _)⟩)
 dsimp only [Pt.U, Pt.locs, Pt.cells, Pt.slots] at X105 l105 y105 z105 st105 hQ105
 subst l105 y105 z105
 obtain ⟨rfl, N105q, eh105⟩ := hQ105
 have N105 := Fr.app N104 N105q
 refine Go.step (fun _ kt => st105.trans kt) ?_
 show gG T105 m 19 #[vR a1, vR a2, .val .null, vR vb, vI (own_i tx.length)] [(.int 1)]
 refine Go.step (fun _ kt => XS.ifNo X105.here hx rfl (hb hby d10_19) rfl ((if0 _ _).trans (feq (by decide : ¬ ((1 : Int32) = (0 : Int32)))).1) (XS.aloadN X105.here hx rfl (hb hby d10_22) rfl rfl (XS.iconst X105.here hx rfl (hb hby d10_23) kt))) ?_
 obtain ⟨T106, h106, X106, e106, W106, st106⟩ := putFN X105 hx hZ hown (w72 hw) Via.refl eh105 Fc0 E0 (Or.inr ⟨(w73 hw), rfl, hnm⟩) (w51 hw) (ty := .byte) (v' := (.int 0)) (by decide) rfl rfl (g := (mkF m 24 #[vR a1, vR a2, .val .null, vR vb, vI (own_i tx.length)] [(.int 0), (.ref a1)])) rfl rfl (hb hby d10_24)
 refine Go.step st106 ?_
 have N106 := Fr.snoc X106 N105 g_a1
 have F107 := (E0.wr W106)
 have F108 := (Fv0.other W106 (Or.inr (slot_ne (Or.inr (w93 hw)) (Or.inr (w73 hw)) (by decide) (t := (.array .byte)) (t' := .byte) (by decide) (by decide))))
 have F109 := (Fc0.same W106)
 have F110 := (E1.wr W106)
 have F111 := (Fv1.other W106 (Or.inl (Exa.ne E1 E0 (by decide))))
 have F112 := (Fc1.other W106 (Or.inl (Exa.ne E1 E0 (by decide))))
 have F113 := (Fn1.other W106 (Or.inl (Exa.ne E1 E0 (by decide))))
 have F114 := (Eb1.wr W106)
 have F115 := (Vb1.other W106 (Exa.ne Eb1 E0 (by decide)))
 have F116 := (S_cs.wr W106)
 have Z117 : n0 ≤ h106.size := (Nat.le_trans Z0 (Nat.le_of_eq W106.size.symm))
 have K118 : Keep h0 h106 [a1] := (K101.wr W106 (Or.inl (List.mem_of_getElem? (i := 0) rfl)))
 show gG T106 m 27 #[vR a1, vR a2, .val .null, vR vb, vI (own_i tx.length)] []
 refine Go.step (fun _ kt => XS.aloadN X106.here hx rfl (hb hby d10_27) rfl rfl (XS.aloadN X106.here hx rfl (hb hby d10_28) rfl rfl (XS.iconst X106.here hx rfl (hb hby d10_29) (XS.iload X106.here hx rfl (hb hby d10_30) rfl kt)))) ?_
 obtain ⟨_, _, ⟨T119, L119, k119, n119⟩, -, X119, ⟨Lc119, hQ119, l119, y119, z119⟩, st119⟩ := Jvm.LawKit.callS X106 hx (y := Y22) hown (mvT hZ (w74 hw)) (mvT hZ (w75 hw)) (mvT hZ (w76 hw)) (mvT hZ (w77 hw)) (by decide) (backOf (W := 1) (rmcr l Z a0 hw [] vb tx zc kb h106 n0 Z117 F114 F115 hz) hZ (w77 hw) (w76 hw) (by decide) (by decide)) (g := (mkF m 32 #[vR a1, vR a2, .val .null, vR vb, vI (own_i tx.length)] [(.int (own_i tx.length)), (.int 0), (.ref vb), (.ref a1)])) rfl hml.symm (argsL := [(.ref vb), (.int 0), (.int (own_i tx.length))]) (rest := [(.ref a1)]) (lenOf pd_10 rfl) rfl (Nat.le_of_eq rfl) (hb hby d10_32) (fun _ _ => ⟨rfl, e106, (by decide : 0 + 1 ≤ _), (by decide : 0 + 34 ≤ _)⟩)
 dsimp only [Pt.U, Pt.locs, Pt.cells, Pt.slots] at X119 l119 y119 z119 st119 hQ119
 subst l119 y119 z119
 obtain ⟨b119r, b119kr, rfl, N119q, Kq119, P120, P121, g_b119r, szq_b119r⟩ := hQ119
 have ne_a1_b119r : a1 ≠ b119r := Nat.ne_of_lt (Nat.lt_of_lt_of_le F107.lt szq_b119r)
 have ne_a2_b119r : a2 ≠ b119r := Nat.ne_of_lt (Nat.lt_of_lt_of_le F110.lt szq_b119r)
 have ne_vb_b119r : vb ≠ b119r := Nat.ne_of_lt (Nat.lt_of_lt_of_le F114.lt szq_b119r)
 have sz_b119r : h0.size ≤ b119r := Nat.le_trans K118.1 szq_b119r
 have F122 := (F107.keep Kq119)
 have F123 := (F108.keep Kq119 (by simp))
 have F124 := (F109.keep Kq119 (by simp))
 have F125 := (F110.keep Kq119)
 have F126 := (F111.keep Kq119 (by simp))
 have F127 := (F112.keep Kq119 (by simp))
 have F128 := (F113.keep Kq119 (by simp))
 have F129 := (F114.keep Kq119)
 have F130 := (F115.keep Kq119 (by simp))
 have F131 := (own_sta_keep F116 Kq119 (by intro x hx; cases hx))
 have Z132 : n0 ≤ T119.heap.size := (Nat.le_trans Z117 Kq119.1)
 have K133 : Keep h0 T119.heap [a1] := (K118.trans Kq119 (by intro x hx; cases hx))
 have N119 := Fr.app N106 N119q
 refine Go.step st119 ?_
 obtain ⟨T134, h134, X134, e134, W134, st134⟩ := putF X119 hx hZ hown (host := "") (Or.inl (w92 hw)) Via.refl rfl F123 F122 (Or.inr ⟨(w93 hw), rfl, hnm⟩) (w51 hw) (ty := (.array .byte)) (by decide) rfl rfl (g := (mkF m 35 #[vR a1, vR a2, .val .null, vR vb, vI (own_i tx.length)] [(.ref b119r), (.ref a1)])) rfl rfl (hb hby d10_35)
 refine Go.step st134 ?_
 have N134 := Fr.snoc X134 N119 g_a1
 have F135 := (F122.wr W134)
 have F136 := (F123.same W134)
 have F137 := (F124.other W134 (Or.inr (slot_ne (Or.inr (w73 hw)) (Or.inr (w93 hw)) (by decide) (t := .byte) (t' := (.array .byte)) (by decide) (by decide))))
 have F138 := (F125.wr W134)
 have F139 := (F126.other W134 (Or.inl (Exa.ne F125 F122 (by decide))))
 have F140 := (F127.other W134 (Or.inl (Exa.ne F125 F122 (by decide))))
 have F141 := (F128.other W134 (Or.inl (Exa.ne F125 F122 (by decide))))
 have F142 := (F129.wr W134)
 have F143 := (F130.other W134 (Exa.ne F129 F122 (by decide)))
 have F144 := (F131.wr W134)
 have F145 := (P120.wr W134)
 have F146 := (P121.other W134 (Ne.symm ne_a1_b119r))
 have Z147 : n0 ≤ h134.size := (Nat.le_trans Z132 (Nat.le_of_eq W134.size.symm))
 have K148 : Keep h0 h134 [a1] := (K133.wr W134 (Or.inl (List.mem_of_getElem? (i := 0) rfl)))
 show gG T134 m 38 #[vR a1, vR a2, .val .null, vR vb, vI (own_i tx.length)] []
 refine Go.step (fun _ kt => XS.goto X134.here hx rfl (pc0 := 38) (pc' := 97) rfl (hb hby d10_38) (by decide) (by decide) kt) ?_
 show gG T134 m 97 #[vR a1, vR a2, .val .null, vR vb, vI (own_i tx.length)] []
 obtain ⟨fs, hr, hrun, hended, hW, hsame⟩ := X134.leave (v := none) (fun _ => rfl)
 refine ⟨_, _, X134.returnOut hx Bd.returns (hb hby d10_97) hr, hrun, hended, _, _, rfl, ?_, ⟨_, rfl⟩, hW, hsame.mono (by decide) (by decide)⟩
 show Qrmsi10 Z a1 a2 zc tx vb kb cs h0 n0 _ T134.heap _
 rw [e134]
 refine ⟨b119r, b119kr, ?_, N134, K148, F135, F136, F137, F146, g_b119r, sz_b119r⟩
 rfl
theorem pd_12 : parseMethodDescriptor "(Ljava/lang/AbstractStringBuilder;Ljava/lang/Void;)V" = some ⟨[(.object "java/lang/AbstractStringBuilder"), (.object "java/lang/Void")], none⟩ := by decide +kernel
theorem d9_0 : dC24 0 (.aload_n 0, 1) := by decide +kernel
theorem d9_1 : dC24 1 (.aload_n 1, 1) := by decide +kernel
theorem d9_2 : dC24 2 (.aconst_null, 1) := by decide +kernel
theorem d9_3 : dC24 3 (.invokespecial 489, 3) := by decide +kernel
theorem d9_6 : dC24 6 (.return_, 1) := by decide +kernel
theorem ef_rmsi9 (m : MethodId) (a1 : Addr) (a2 : Addr) (zc : Int32) (tx : List Nat) (vb : Addr) (kb : ClassId) (cs : Int32) : entryFrame m #[(.ref a1), (.ref a2)] 2 = mkF m 0 #[vR a1, vR a2] [] := by first | (simp [entryFrame, mkF, argsToLocals, Value.category]; done) | rfl
def Qrmsi9 (Z : State) (a1 : Addr) (a2 : Addr) (zc : Int32) (tx : List Nat) (vb : Addr) (kb : ClassId) (cs : Int32) (h0 : Heap) (n0 : Nat) (v : Option Value) (h : Heap) (L : List Loc) : Prop := ∃ b : Addr, ∃ kr : ClassId, v = none ∧ Fr n0 L ∧ Keep h0 h [a1] ∧ Exa Z h a1 "java/lang/String" ∧ Fld Z h a1 "java/lang/String" "value" "[B" (.ref b) ∧ Fld Z h a1 "java/lang/String" "coder" "B" (.int 0) ∧ Arv Z h b kr .byte (own_i tx.length) ((tx.map own_i).map Value.int) (.int 0) ∧ n0 ≤ b ∧ h0.size ≤ b
set_option maxRecDepth 65536 in
set_option maxHeartbeats 40000000 in
theorem rmsi9 (l : Launch) (Z : State) (a0 : Array Value) (hw : ∀ d ∈ tables_1, d.before a0 Z = true) (ws : List Jvm.Cond) (a1 : Addr) (a2 : Addr) (zc : Int32) (tx : List Nat) (vb : Addr) (kb : ClassId) (cs : Int32) (h0 : Heap) (n0 : Nat) (Z0 : n0 ≤ h0.size) (E0 : Exa Z h0 a1 "java/lang/String") (Fv0 : Fld Z h0 a1 "java/lang/String" "value" "[B" .null) (Fc0 : Fld Z h0 a1 "java/lang/String" "coder" "B" (.int 0)) (E1 : Exa Z h0 a2 "java/lang/StringBuilder") (Fv1 : Fld Z h0 a2 "java/lang/AbstractStringBuilder" "value" "[B" (.ref vb)) (Fc1 : Fld Z h0 a2 "java/lang/AbstractStringBuilder" "coder" "B" (.int 0)) (Fn1 : Fld Z h0 a2 "java/lang/AbstractStringBuilder" "count" "I" (.int (own_i tx.length))) (Eb1 : Exa Z h0 vb "[B") (Vb1 : Arv Z h0 vb kb .byte zc ((tx.map own_i).map Value.int) (.int 0)) (S_cs : Sta Z h0 "java/lang/String" "COMPACT_STRINGS" "Z" (.int cs)) (g_a1 : n0 ≤ a1) (hcs : ¬ cs = 0) (hz : tx.length ≤ zc.toNatClampNeg ∧ tx.length ≤ 34 ∧ ¬ zc < 0) :
    MetFree l Y24 (head1 (Jvm.Cond.code Y24 jdk_42_method_53_code 2 none :: ws) Rm13) (fun a U => a = #[(.ref a1), (.ref a2)] ∧ Z.Warmed39 U.vm ∧ U.heap = h0) (fun _ _ _ _ _ => True) (fun _ U o U' => ∃ v L, o = .returned v ∧ Qrmsi9 Z a1 a2 zc tx vb kb cs h0 n0 v U'.heap L ∧ FrameEnd U o U' L Rm13.cells Rm13.slots) := by
 refine MetFree.of_bodySF (plainFor_of_name pn_6) hisR ?_
 intro p e s m args below meth c s₁ Bd hml0 hP hK
 obtain ⟨rfl, hZ, hh⟩ := hP
 have hx := Bd.exec
 have hby := Bd.bytes
 have hml : c.maxLocals = 2 := hml0
 have hown : s.vm.findClass "java/lang/String" = some m.cls := findClass_of_methodNamed Bd.named
 have hnm := (name_of_methodNamed Bd.named Bd.method).1
 have X0 : Stand p l e Rm13 s m #[(.ref a1), (.ref a2)] below meth c s₁ [] 0 0 := Stand.of_body Bd
 have e0 : s₁.heap = h0 := by rw [← hh, Bd.state]; rfl
 have N0 := Fr.nil n0
 show Go p.tables e below (fun o U' => ∃ v L, o = .returned v ∧ Qrmsi9 Z a1 a2 zc tx vb kb cs h0 n0 v U'.heap L ∧ FrameEnd s o U' L Rm13.cells Rm13.slots) _
 refine Go.step (fun t kt => castTop (ef_rmsi9 m a1 a2 zc tx vb kb cs) kt) ?_
 show gG s₁ m 0 #[vR a1, vR a2] []
 have K101 : Keep h0 h0 [a1] := (Keep.refl h0 [a1])
 refine Go.step (fun _ kt => XS.aloadN X0.here hx rfl (hb hby d9_0) rfl rfl (XS.aloadN X0.here hx rfl (hb hby d9_1) rfl rfl (XS.aconstNull X0.here hx rfl (hb hby d9_2) kt))) ?_
 obtain ⟨_, _, ⟨T102, L102, k102, n102⟩, -, X102, ⟨Lc102, hQ102, l102, y102, z102⟩, st102⟩ := X0.specialBack hx (y := Y23) rfl hown (mvT hZ (w56 hw)) (mvT hZ (w57 hw)) (mvT hZ (w58 hw)) (by decide) (backOf (W := 0) (rmsi10 l Z a0 hw [] a1 a2 zc tx vb kb cs h0 n0 Z0 E0 Fv0 Fc0 E1 Fv1 Fc1 Fn1 Eb1 Vb1 S_cs g_a1 hcs hz) hZ (w58 hw) (w27 hw) (by decide) (by decide)) (g := (mkF m 3 #[vR a1, vR a2] [.null, (.ref a2), (.ref a1)])) rfl hml.symm (Steps.refl _) (a := a1) (argsL := [(.ref a2), .null]) (rest := []) (lenOf pd_12 rfl) rfl (Nat.le_of_eq rfl) (hb hby d9_3) (fun _ _ => ⟨rfl, e0, (by decide : 0 + 1 ≤ _), (by decide : 0 + 34 ≤ _)⟩)
 dsimp only [Pt.U, Pt.locs, Pt.cells, Pt.slots] at X102 l102 y102 z102 st102 hQ102
 subst l102 y102 z102
 obtain ⟨b102b, b102kr, rfl, N102q, Kq102, P103, P104, P105, P106, g_b102b, szq_b102b⟩ := hQ102
 have ne_a1_b102b : a1 ≠ b102b := Nat.ne_of_lt (Nat.lt_of_lt_of_le E0.lt szq_b102b)
 have ne_a2_b102b : a2 ≠ b102b := Nat.ne_of_lt (Nat.lt_of_lt_of_le E1.lt szq_b102b)
 have ne_vb_b102b : vb ≠ b102b := Nat.ne_of_lt (Nat.lt_of_lt_of_le Eb1.lt szq_b102b)
 have sz_b102b : h0.size ≤ b102b := Nat.le_trans K101.1 szq_b102b
 have F107 := (E0.keep Kq102)
 have F108 := (E1.keep Kq102)
 have F109 := (Fv1.keep Kq102 (fun q => (Exa.ne E1 E0 (by decide)) (List.mem_singleton.mp q)))
 have F110 := (Fc1.keep Kq102 (fun q => (Exa.ne E1 E0 (by decide)) (List.mem_singleton.mp q)))
 have F111 := (Fn1.keep Kq102 (fun q => (Exa.ne E1 E0 (by decide)) (List.mem_singleton.mp q)))
 have F112 := (Eb1.keep Kq102)
 have F113 := (Vb1.keep Kq102 (fun q => (Exa.ne Eb1 E0 (by decide)) (List.mem_singleton.mp q)))
 have F114 := (own_sta_keep S_cs Kq102 (by intro x hx; cases List.mem_singleton.mp hx; exact ⟨_, E0⟩))
 have Z115 : n0 ≤ T102.heap.size := (Nat.le_trans Z0 Kq102.1)
 have K116 : Keep h0 T102.heap [a1] := (K101.trans Kq102 (by intro x hx; cases List.mem_singleton.mp hx; exact (Or.inl (List.mem_of_getElem? (i := 0) rfl))))
 have N102 := Fr.app N0 N102q
 refine Go.step (fun _ kt => st102.trans kt) ?_
 show gG T102 m 6 #[vR a1, vR a2] []
 obtain ⟨fs, hr, hrun, hended, hW, hsame⟩ := X102.leave (v := none) (fun _ => rfl)
 refine ⟨_, _, X102.returnOut hx Bd.returns (hb hby d9_6) hr, hrun, hended, _, _, rfl, ?_, ⟨_, rfl⟩, hW, hsame.mono (by decide) (by decide)⟩
 show Qrmsi9 Z a1 a2 zc tx vb kb cs h0 n0 _ T102.heap _
 refine ⟨b102b, b102kr, ?_, N102, K116, P103, P104, P105, P106, g_b102b, sz_b102b⟩
 rfl
theorem pd_13 : parseMethodDescriptor "(Ljava/lang/StringBuilder;)V" = some ⟨[(.object "java/lang/StringBuilder")], none⟩ := by decide +kernel
theorem d8_0 : dC25 0 (.new 18, 3) := by decide +kernel
theorem d8_3 : dC25 3 (.dup, 1) := by decide +kernel
theorem d8_4 : dC25 4 (.aload_n 0, 1) := by decide +kernel
theorem d8_5 : dC25 5 (.invokespecial 137, 3) := by decide +kernel
theorem d8_8 : dC25 8 (.areturn, 1) := by decide +kernel
theorem ef_rmts (m : MethodId) (a1 : Addr) (zc : Int32) (tx : List Nat) (vb : Addr) (kb : ClassId) (cs : Int32) : entryFrame m #[(.ref a1)] 1 = mkF m 0 #[vR a1] [] := by first | (simp [entryFrame, mkF, argsToLocals, Value.category]; done) | rfl
def Qrmts (Z : State) (a1 : Addr) (zc : Int32) (tx : List Nat) (vb : Addr) (kb : ClassId) (cs : Int32) (h0 : Heap) (n0 : Nat) (v : Option Value) (h : Heap) (L : List Loc) : Prop := ∃ r : Addr, ∃ b : Addr, ∃ kr : ClassId, v = some (.ref r) ∧ Fr n0 L ∧ Keep h0 h [] ∧ Exa Z h r "java/lang/String" ∧ Fld Z h r "java/lang/String" "value" "[B" (.ref b) ∧ Fld Z h r "java/lang/String" "coder" "B" (.int 0) ∧ Arv Z h b kr .byte (own_i tx.length) ((tx.map own_i).map Value.int) (.int 0) ∧ n0 ≤ r ∧ h0.size ≤ r ∧ n0 ≤ b ∧ h0.size ≤ b
set_option maxRecDepth 65536 in
set_option maxHeartbeats 40000000 in
theorem rmts (l : Launch) (Z : State) (a0 : Array Value) (hw : ∀ d ∈ tables_1, d.before a0 Z = true) (ws : List Jvm.Cond) (a1 : Addr) (zc : Int32) (tx : List Nat) (vb : Addr) (kb : ClassId) (cs : Int32) (h0 : Heap) (n0 : Nat) (Z0 : n0 ≤ h0.size) (E1 : Exa Z h0 a1 "java/lang/StringBuilder") (Fv1 : Fld Z h0 a1 "java/lang/AbstractStringBuilder" "value" "[B" (.ref vb)) (Fc1 : Fld Z h0 a1 "java/lang/AbstractStringBuilder" "coder" "B" (.int 0)) (Fn1 : Fld Z h0 a1 "java/lang/AbstractStringBuilder" "count" "I" (.int (own_i tx.length))) (Eb1 : Exa Z h0 vb "[B") (Vb1 : Arv Z h0 vb kb .byte zc ((tx.map own_i).map Value.int) (.int 0)) (S_cs : Sta Z h0 "java/lang/String" "COMPACT_STRINGS" "Z" (.int cs)) (hcs : ¬ cs = 0) (hz : tx.length ≤ zc.toNatClampNeg ∧ tx.length ≤ 34 ∧ ¬ zc < 0) :
    MetFree l Y25 (head1 (Jvm.Cond.code Y25 jdk_67_method_42_code 1 (some (.object "java/lang/String")) :: ws) Rm14) (fun a U => a = #[(.ref a1)] ∧ Z.Warmed39 U.vm ∧ U.heap = h0) (fun _ _ _ _ _ => True) (fun _ U o U' => ∃ v L, o = .returned v ∧ Qrmts Z a1 zc tx vb kb cs h0 n0 v U'.heap L ∧ FrameEnd U o U' L Rm14.cells Rm14.slots) := by
 refine MetFree.of_bodySF (plainFor_of_name pn_2) hisR ?_
 intro p e s m args below meth c s₁ Bd hml0 hP hK
 obtain ⟨rfl, hZ, hh⟩ := hP
 have hx := Bd.exec
 have hby := Bd.bytes
 have hml : c.maxLocals = 1 := hml0
 have hown : s.vm.findClass "java/lang/StringBuilder" = some m.cls := findClass_of_methodNamed Bd.named
 have hnm := (name_of_methodNamed Bd.named Bd.method).1
 have X0 : Stand p l e Rm14 s m #[(.ref a1)] below meth c s₁ [] 0 0 := Stand.of_body Bd
 have e0 : s₁.heap = h0 := by rw [← hh, Bd.state]; rfl
 have N0 := Fr.nil n0
 show Go p.tables e below (fun o U' => ∃ v L, o = .returned v ∧ Qrmts Z a1 zc tx vb kb cs h0 n0 v U'.heap L ∧ FrameEnd s o U' L Rm14.cells Rm14.slots) _
 refine Go.step (fun t kt => castTop (ef_rmts m a1 zc tx vb kb cs) kt) ?_
 show gG s₁ m 0 #[vR a1] []
 have K101 : Keep h0 h0 [] := (Keep.refl h0 [])
 obtain ⟨T102, h102, X102, e102, E102, A102, D102, -, st102⟩ := newO X0 hx hZ hown (w50 hw) (w51 hw) (w27 hw) e0 (g := (mkF m 0 #[vR a1] [])) rfl (hb hby d8_0) (by decide) (by decide)
 obtain ⟨b102, g102⟩ : ∃ z, z = h0.size := ⟨_, rfl⟩
 rw [← g102] at A102 D102 st102
 refine Go.step st102 ?_
 have ne_a1_b102 : a1 ≠ b102 := Nat.ne_of_lt (Nat.lt_of_lt_of_le E1.lt (Nat.le_of_eq g102.symm))
 have ne_vb_b102 : vb ≠ b102 := Nat.ne_of_lt (Nat.lt_of_lt_of_le Eb1.lt (Nat.le_of_eq g102.symm))
 have g_b102 : n0 ≤ b102 := Nat.le_trans Z0 (Nat.le_of_eq g102.symm)
 have sz_b102 : h0.size ≤ b102 := Nat.le_trans K101.1 (Nat.le_of_eq g102.symm)
 have F103 := (E1.ext E102)
 have F104 := (Fv1.ext E102)
 have F105 := (Fc1.ext E102)
 have F106 := (Fn1.ext E102)
 have F107 := (Eb1.ext E102)
 have F108 := (Vb1.ext E102)
 have F109 := (S_cs.ext E102)
 have Z110 : n0 ≤ h102.size := (Nat.le_trans Z0 E102.1)
 have K111 : Keep h0 h102 [] := (K101.ext E102)
 have F112 : Fld Z h102 b102 "java/lang/String" "coder" "B" (.int 0) := D102 (Or.inr (w73 hw)) (ty := .byte) (by decide)
 have F113 : Fld Z h102 b102 "java/lang/String" "value" "[B" .null := D102 (Or.inr (w93 hw)) (ty := (.array .byte)) (by decide)
 show gG T102 m 3 #[vR a1] [(.ref b102)]
 refine Go.step (fun _ kt => XS.dup X102.here hx rfl (hb hby d8_3) rfl rfl (XS.aloadN X102.here hx rfl (hb hby d8_4) rfl rfl kt)) ?_
 obtain ⟨_, _, ⟨T114, L114, k114, n114⟩, -, X114, ⟨Lc114, hQ114, l114, y114, z114⟩, st114⟩ := X102.specialBack hx (y := Y24) rfl hown (mvT hZ (w52 hw)) (mvT hZ (w53 hw)) (mvT hZ (w55 hw)) (by decide) (backOf (W := 1) (rmsi9 l Z a0 hw [] b102 a1 zc tx vb kb cs h102 n0 Z110 A102 F113 F112 F103 F104 F105 F106 F107 F108 F109 g_b102 hcs hz) hZ (w55 hw) (w27 hw) (by decide) (by decide)) (g := (mkF m 5 #[vR a1] [(.ref a1), (.ref b102), (.ref b102)])) rfl hml.symm (Steps.refl _) (a := b102) (argsL := [(.ref a1)]) (rest := [(.ref b102)]) (lenOf pd_13 rfl) rfl (Nat.le_of_eq rfl) (hb hby d8_5) (fun _ _ => ⟨rfl, e102, (by decide : 1 + 1 ≤ _), (by decide : 4 + 34 ≤ _)⟩)
 dsimp only [Pt.U, Pt.locs, Pt.cells, Pt.slots] at X114 l114 y114 z114 st114 hQ114
 subst l114 y114 z114
 obtain ⟨b114b, b114kr, rfl, N114q, Kq114, P115, P116, P117, P118, g_b114b, szq_b114b⟩ := hQ114
 have ne_a1_b114b : a1 ≠ b114b := Nat.ne_of_lt (Nat.lt_of_lt_of_le F103.lt szq_b114b)
 have ne_vb_b114b : vb ≠ b114b := Nat.ne_of_lt (Nat.lt_of_lt_of_le F107.lt szq_b114b)
 have ne_b102_b114b : b102 ≠ b114b := Nat.ne_of_lt (Nat.lt_of_lt_of_le A102.lt szq_b114b)
 have sz_b114b : h0.size ≤ b114b := Nat.le_trans K111.1 szq_b114b
 have F119 := (F103.keep Kq114)
 have F120 := (F104.keep Kq114 (fun q => ne_a1_b102 (List.mem_singleton.mp q)))
 have F121 := (F105.keep Kq114 (fun q => ne_a1_b102 (List.mem_singleton.mp q)))
 have F122 := (F106.keep Kq114 (fun q => ne_a1_b102 (List.mem_singleton.mp q)))
 have F123 := (F107.keep Kq114)
 have F124 := (F108.keep Kq114 (fun q => ne_vb_b102 (List.mem_singleton.mp q)))
 have F125 := (own_sta_keep F109 Kq114 (by intro x hx; cases List.mem_singleton.mp hx; exact ⟨_, A102⟩))
 have F126 := (A102.keep Kq114)
 have Z127 : n0 ≤ T114.heap.size := (Nat.le_trans Z110 Kq114.1)
 have K128 : Keep h0 T114.heap [] := (K111.trans Kq114 (by intro x hx; cases List.mem_singleton.mp hx; exact (Or.inr sz_b102)))
 have N114 := Fr.app N0 N114q
 refine Go.step (fun _ kt => st114.trans kt) ?_
 show gG T114 m 8 #[vR a1] [(.ref b102)]
 obtain ⟨fs, hr, hrun, hended, hW, hsame⟩ := X114.leave (v := some (.ref b102)) (fun h => by rw [Bd.returns] at h; cases h)
 refine ⟨_, _, retOut X114 hx Bd.returns rfl (Or.inr (Or.inr (Or.inr (Or.inr ⟨rfl, rfl, rfl⟩)))) (hb hby d8_8) hr, hrun, hended, _, _, rfl, ?_, ⟨_, rfl⟩, hW, hsame.mono (by decide) (by decide)⟩
 show Qrmts Z a1 zc tx vb kb cs h0 n0 _ T114.heap _
 refine ⟨b102, b114b, b114kr, ?_, N114, K128, P115, P116, P117, P118, g_b102, sz_b102, g_b114b, sz_b114b⟩
 rfl
theorem d20_0 : dC26 0 (.getstatic 38, 3) := by decide +kernel
theorem d20_3 : dC26 3 (.ifCond .eq 10, 3) := by decide +kernel
theorem d20_6 : dC26 6 (.aload_n 0, 1) := by decide +kernel
theorem d20_7 : dC26 7 (.getfield 15, 3) := by decide +kernel
theorem d20_10 : dC26 10 (.goto 4, 3) := by decide +kernel
theorem d20_14 : dC26 14 (.ireturn, 1) := by decide +kernel
theorem ef_rmco (m : MethodId) (a1 : Addr) (cs : Int32) : entryFrame m #[(.ref a1)] 1 = mkF m 0 #[vR a1] [] := by first | (simp [entryFrame, mkF, argsToLocals, Value.category]; done) | rfl
def Qrmco (Z : State) (a1 : Addr) (cs : Int32) (h0 : Heap) (n0 : Nat) (v : Option Value) (h : Heap) (L : List Loc) : Prop := v = some (.int 0) ∧ Fr n0 L ∧ h = h0
set_option maxRecDepth 65536 in
set_option maxHeartbeats 40000000 in
theorem rmco (l : Launch) (Z : State) (a0 : Array Value) (hw : ∀ d ∈ tables_1, d.before a0 Z = true) (ws : List Jvm.Cond) (a1 : Addr) (cs : Int32) (h0 : Heap) (n0 : Nat) (Z0 : n0 ≤ h0.size) (E1 : Exa Z h0 a1 "java/lang/String") (Fc : Fld Z h0 a1 "java/lang/String" "coder" "B" (.int 0)) (S_cs : Sta Z h0 "java/lang/String" "COMPACT_STRINGS" "Z" (.int cs)) (hcs : ¬ cs = 0) :
    MetFree l Y26 (head1 (Jvm.Cond.code Y26 jdk_42_method_152_code 1 (some .byte) :: ws) Rm0) (fun a U => a = #[(.ref a1)] ∧ Z.Warmed39 U.vm ∧ U.heap = h0) (fun _ _ _ _ _ => True) (fun _ U o U' => ∃ v L, o = .returned v ∧ Qrmco Z a1 cs h0 n0 v U'.heap L ∧ FrameEnd U o U' L Rm0.cells Rm0.slots) := by
 refine MetFree.of_bodySF (plainFor_of_name pn_6) hisR ?_
 intro p e s m args below meth c s₁ Bd hml0 hP hK
 obtain ⟨rfl, hZ, hh⟩ := hP
 have hx := Bd.exec
 have hby := Bd.bytes
 have hml : c.maxLocals = 1 := hml0
 have hown : s.vm.findClass "java/lang/String" = some m.cls := findClass_of_methodNamed Bd.named
 have hnm := (name_of_methodNamed Bd.named Bd.method).1
 have X0 : Stand p l e Rm0 s m #[(.ref a1)] below meth c s₁ [] 0 0 := Stand.of_body Bd
 have e0 : s₁.heap = h0 := by rw [← hh, Bd.state]; rfl
 have N0 := Fr.nil n0
 show Go p.tables e below (fun o U' => ∃ v L, o = .returned v ∧ Qrmco Z a1 cs h0 n0 v U'.heap L ∧ FrameEnd s o U' L Rm0.cells Rm0.slots) _
 refine Go.step (fun t kt => castTop (ef_rmco m a1 cs) kt) ?_
 obtain ⟨T101, X101, e101, st101⟩ := getS2 X0 hx hZ hown (host := "") (Or.inl (w112 hw)) Via.refl e0 S_cs (g := (mkF m 0 #[vR a1] [])) rfl (hb hby d20_0)
 refine Go.step st101 ?_
 show gG T101 m 3 #[vR a1] [(.int cs)]
 refine Go.step (fun _ kt => XS.ifNo X101.here hx rfl (hb hby d20_3) rfl ((if0 _ _).trans (feq hcs).1) (XS.aloadN X101.here hx rfl (hb hby d20_6) rfl rfl kt)) ?_
 obtain ⟨T102, X102, e102, st102⟩ := getF X101 hx hZ hown (host := "") (Or.inl (w72 hw)) Via.refl e101 Fc (g := (mkF m 7 #[vR a1] [(.ref a1)])) rfl rfl (hb hby d20_7)
 refine Go.step st102 ?_
 show gG T102 m 10 #[vR a1] [(.int 0)]
 refine Go.step (fun _ kt => XS.goto X102.here hx rfl (pc0 := 10) (pc' := 14) rfl (hb hby d20_10) (by decide) (by decide) kt) ?_
 show gG T102 m 14 #[vR a1] [(.int 0)]
 obtain ⟨fs, hr, hrun, hended, hW, hsame⟩ := X102.leave (v := some (.int 0)) (fun h => by rw [Bd.returns] at h; cases h)
 refine ⟨_, _, retN X102 hx (t := .byte) Bd.returns (by simp) (hb hby d20_14) hr, hrun, hended, _, _, rfl, ?_, ⟨_, rfl⟩, hW, hsame.mono (by decide) (by decide)⟩
 show Qrmco Z a1 cs h0 n0 _ T102.heap _
 rw [e102]
 refine ⟨?_, N0, rfl⟩
 rfl
theorem d22_0 : dC27 0 (.getstatic 38, 3) := by decide +kernel
theorem d22_3 : dC27 3 (.ifCond .eq 14, 3) := by decide +kernel
theorem d22_6 : dC27 6 (.aload_n 0, 1) := by decide +kernel
theorem d22_7 : dC27 7 (.getfield 15, 3) := by decide +kernel
theorem d22_10 : dC27 10 (.ifCond .ne 7, 3) := by decide +kernel
theorem d22_13 : dC27 13 (.iconst 1, 1) := by decide +kernel
theorem d22_14 : dC27 14 (.goto 4, 3) := by decide +kernel
theorem d22_18 : dC27 18 (.ireturn, 1) := by decide +kernel
theorem ef_rmil (m : MethodId) (a1 : Addr) (cs : Int32) : entryFrame m #[(.ref a1)] 1 = mkF m 0 #[vR a1] [] := by first | (simp [entryFrame, mkF, argsToLocals, Value.category]; done) | rfl
def Qrmil (Z : State) (a1 : Addr) (cs : Int32) (h0 : Heap) (n0 : Nat) (v : Option Value) (h : Heap) (L : List Loc) : Prop := v = some (.int 1) ∧ Fr n0 L ∧ h = h0
set_option maxRecDepth 65536 in
set_option maxHeartbeats 40000000 in
theorem rmil (l : Launch) (Z : State) (a0 : Array Value) (hw : ∀ d ∈ tables_1, d.before a0 Z = true) (ws : List Jvm.Cond) (a1 : Addr) (cs : Int32) (h0 : Heap) (n0 : Nat) (Z0 : n0 ≤ h0.size) (E1 : Exa Z h0 a1 "java/lang/String") (Fc : Fld Z h0 a1 "java/lang/String" "coder" "B" (.int 0)) (S_cs : Sta Z h0 "java/lang/String" "COMPACT_STRINGS" "Z" (.int cs)) (hcs : ¬ cs = 0) :
    MetFree l Y27 (head1 (Jvm.Cond.code Y27 jdk_42_method_154_code 1 (some .boolean) :: ws) Rm0) (fun a U => a = #[(.ref a1)] ∧ Z.Warmed39 U.vm ∧ U.heap = h0) (fun _ _ _ _ _ => True) (fun _ U o U' => ∃ v L, o = .returned v ∧ Qrmil Z a1 cs h0 n0 v U'.heap L ∧ FrameEnd U o U' L Rm0.cells Rm0.slots) := by
 refine MetFree.of_bodySF (plainFor_of_name pn_6) hisR ?_
 intro p e s m args below meth c s₁ Bd hml0 hP hK
 obtain ⟨rfl, hZ, hh⟩ := hP
 have hx := Bd.exec
 have hby := Bd.bytes
 have hml : c.maxLocals = 1 := hml0
 have hown : s.vm.findClass "java/lang/String" = some m.cls := findClass_of_methodNamed Bd.named
 have hnm := (name_of_methodNamed Bd.named Bd.method).1
 have X0 : Stand p l e Rm0 s m #[(.ref a1)] below meth c s₁ [] 0 0 := Stand.of_body Bd
 have e0 : s₁.heap = h0 := by rw [← hh, Bd.state]; rfl
 have N0 := Fr.nil n0
 show Go p.tables e below (fun o U' => ∃ v L, o = .returned v ∧ Qrmil Z a1 cs h0 n0 v U'.heap L ∧ FrameEnd s o U' L Rm0.cells Rm0.slots) _
 refine Go.step (fun t kt => castTop (ef_rmil m a1 cs) kt) ?_
 obtain ⟨T101, X101, e101, st101⟩ := getS2 X0 hx hZ hown (host := "") (Or.inl (w112 hw)) Via.refl e0 S_cs (g := (mkF m 0 #[vR a1] [])) rfl (hb hby d22_0)
 refine Go.step st101 ?_
 show gG T101 m 3 #[vR a1] [(.int cs)]
 refine Go.step (fun _ kt => XS.ifNo X101.here hx rfl (hb hby d22_3) rfl ((if0 _ _).trans (feq hcs).1) (XS.aloadN X101.here hx rfl (hb hby d22_6) rfl rfl kt)) ?_
 obtain ⟨T102, X102, e102, st102⟩ := getF X101 hx hZ hown (host := "") (Or.inl (w72 hw)) Via.refl e101 Fc (g := (mkF m 7 #[vR a1] [(.ref a1)])) rfl rfl (hb hby d22_7)
 refine Go.step st102 ?_
 show gG T102 m 10 #[vR a1] [(.int 0)]
 refine Go.step (fun _ kt => XS.ifNo X102.here hx rfl (hb hby d22_10) rfl ((if0 _ _).trans (teq (by decide : (0 : Int32) = (0 : Int32))).2) (XS.iconst X102.here hx rfl (hb hby d22_13) (XS.goto X102.here hx rfl (pc0 := 14) (pc' := 18) rfl (hb hby d22_14) (by decide) (by decide) kt))) ?_
 show gG T102 m 18 #[vR a1] [(.int 1)]
 obtain ⟨fs, hr, hrun, hended, hW, hsame⟩ := X102.leave (v := some (.int 1)) (fun h => by rw [Bd.returns] at h; cases h)
 refine ⟨_, _, retN X102 hx (t := .boolean) Bd.returns (by simp) (hb hby d22_18) hr, hrun, hended, _, _, rfl, ?_, ⟨_, rfl⟩, hW, hsame.mono (by decide) (by decide)⟩
 show Qrmil Z a1 cs h0 n0 _ T102.heap _
 rw [e102]
 refine ⟨?_, N0, rfl⟩
 rfl
theorem pd_14 : parseMethodDescriptor "()B" = some ⟨[], some .byte⟩ := by decide +kernel
theorem d19_0 : dC28 0 (.aload_n 0, 1) := by decide +kernel
theorem d19_1 : dC28 1 (.getfield 9, 3) := by decide +kernel
theorem d19_4 : dC28 4 (.arraylength, 1) := by decide +kernel
theorem d19_5 : dC28 5 (.aload_n 0, 1) := by decide +kernel
theorem d19_6 : dC28 6 (.invokevirtual 335, 3) := by decide +kernel
theorem d19_9 : dC28 9 (.ishr, 1) := by decide +kernel
theorem d19_10 : dC28 10 (.ireturn, 1) := by decide +kernel
theorem ef_rmsl (m : MethodId) (a1 : Addr) (tx : List Nat) (b1 : Addr) (k1 : ClassId) (cs : Int32) : entryFrame m #[(.ref a1)] 1 = mkF m 0 #[vR a1] [] := by first | (simp [entryFrame, mkF, argsToLocals, Value.category]; done) | rfl
def Qrmsl (Z : State) (a1 : Addr) (tx : List Nat) (b1 : Addr) (k1 : ClassId) (cs : Int32) (h0 : Heap) (n0 : Nat) (v : Option Value) (h : Heap) (L : List Loc) : Prop := v = some (.int (own_i tx.length)) ∧ Fr n0 L ∧ h = h0
set_option maxRecDepth 65536 in
set_option maxHeartbeats 40000000 in
theorem rmsl (l : Launch) (Z : State) (a0 : Array Value) (hw : ∀ d ∈ tables_1, d.before a0 Z = true) (ws : List Jvm.Cond) (a1 : Addr) (tx : List Nat) (b1 : Addr) (k1 : ClassId) (cs : Int32) (h0 : Heap) (n0 : Nat) (Z0 : n0 ≤ h0.size) (E1 : Exa Z h0 a1 "java/lang/String") (Fv1 : Fld Z h0 a1 "java/lang/String" "value" "[B" (.ref b1)) (Fc1 : Fld Z h0 a1 "java/lang/String" "coder" "B" (.int 0)) (Vb1 : Arv Z h0 b1 k1 .byte (own_i tx.length) ((tx.map own_i).map Value.int) (.int 0)) (S_cs : Sta Z h0 "java/lang/String" "COMPACT_STRINGS" "Z" (.int cs)) (hcs : ¬ cs = 0) :
    MetFree l Y28 (head1 (Jvm.Cond.code Y28 jdk_42_method_54_code 1 (some .int) :: ws) Rm15) (fun a U => a = #[(.ref a1)] ∧ Z.Warmed39 U.vm ∧ U.heap = h0) (fun _ _ _ _ _ => True) (fun _ U o U' => ∃ v L, o = .returned v ∧ Qrmsl Z a1 tx b1 k1 cs h0 n0 v U'.heap L ∧ FrameEnd U o U' L Rm15.cells Rm15.slots) := by
 refine MetFree.of_bodySF (plainFor_of_name pn_6) hisR ?_
 intro p e s m args below meth c s₁ Bd hml0 hP hK
 obtain ⟨rfl, hZ, hh⟩ := hP
 have hx := Bd.exec
 have hby := Bd.bytes
 have hml : c.maxLocals = 1 := hml0
 have hown : s.vm.findClass "java/lang/String" = some m.cls := findClass_of_methodNamed Bd.named
 have hnm := (name_of_methodNamed Bd.named Bd.method).1
 have X0 : Stand p l e Rm15 s m #[(.ref a1)] below meth c s₁ [] 0 0 := Stand.of_body Bd
 have e0 : s₁.heap = h0 := by rw [← hh, Bd.state]; rfl
 have N0 := Fr.nil n0
 show Go p.tables e below (fun o U' => ∃ v L, o = .returned v ∧ Qrmsl Z a1 tx b1 k1 cs h0 n0 v U'.heap L ∧ FrameEnd s o U' L Rm15.cells Rm15.slots) _
 refine Go.step (fun t kt => castTop (ef_rmsl m a1 tx b1 k1 cs) kt) ?_
 show gG s₁ m 0 #[vR a1] []
 refine Go.step (fun _ kt => XS.aloadN X0.here hx rfl (hb hby d19_0) rfl rfl kt) ?_
 obtain ⟨T101, X101, e101, st101⟩ := getF X0 hx hZ hown (host := "") (Or.inl (w92 hw)) Via.refl e0 Fv1 (g := (mkF m 1 #[vR a1] [(.ref a1)])) rfl rfl (hb hby d19_1)
 refine Go.step st101 ?_
 obtain ⟨cl102, Ar102, qa102, Sa102, Na102, Ha102, Ga102⟩ := (id Vb1)
 refine Go.step (X101.arraylength hx (by rw [e101]; exact Ar102.1) (State.isArrayOf_alike hZ.alike Ar102.2.1) (g := (mkF m 4 #[vR a1] [(.ref b1)])) rfl rfl (hb hby d19_4)) ?_
 rw [len_of Sa102 Na102]
 show gG T101 m 5 #[vR a1] [(.int (own_i tx.length))]
 refine Go.step (fun _ kt => XS.aloadN X101.here hx rfl (hb hby d19_5) rfl rfl kt) ?_
 show gG T101 m 6 #[vR a1] [(.ref a1), (.int (own_i tx.length))]
 obtain ⟨cq103, kq103, q103a, q103b, q103c⟩ := isOf hZ e101 E1
 obtain ⟨_, _, ⟨T103, L103, k103, n103⟩, -, X103, ⟨Lc103, hQ103, l103, y103, z103⟩, st103⟩ := X101.virtualBack hx (y := Y26) (z := Y26) hown (mvT hZ (w107 hw)) (mvT hZ (w108 hw)) (notFace_of_selects (args := #[]) (mvT hZ (w110 hw))) (mvT hZ (w110 hw)) (mvT hZ (w109 hw)) (by decide) (backOf (W := 1) (rmco l Z a0 hw [] a1 cs h0 n0 Z0 E1 Fc1 S_cs hcs) hZ (w111 hw) (w27 hw) (by decide) (by decide)) q103a q103c (g := (mkF m 6 #[vR a1] [(.ref a1), (.int (own_i tx.length))])) rfl hml.symm (Steps.refl _) (argsL := []) (rest := [(.int (own_i tx.length))]) (lenOf pd_14 rfl) rfl (Nat.le_of_eq rfl) (hb hby d19_6) (fun _ _ => ⟨rfl, e101, (by decide : 0 + 0 ≤ _), (by decide : 0 + 0 ≤ _)⟩)
 dsimp only [Pt.U, Pt.locs, Pt.cells, Pt.slots] at X103 l103 y103 z103 st103 hQ103
 subst l103 y103 z103
 obtain ⟨rfl, N103q, eh103⟩ := hQ103
 have N103 := Fr.app N0 N103q
 refine Go.step (fun _ kt => st103.trans kt) ?_
 show gG T103 m 9 #[vR a1] [(.int 0), (.int (own_i tx.length))]
 refine Go.step (fun _ kt => XS.ishr X103.here hx rfl (hb hby d19_9) rfl kt) ?_
 show gG T103 m 10 #[vR a1] [(.int ((own_i tx.length) >>> ((0 : Int32) &&& 31)))]
 have q104 : ((own_i tx.length) >>> ((0 : Int32) &&& 31)) = (own_i tx.length) := own_sh0 _
 rw [q104]
 obtain ⟨fs, hr, hrun, hended, hW, hsame⟩ := X103.leave (v := some (.int (own_i tx.length))) (fun h => by rw [Bd.returns] at h; cases h)
 refine ⟨_, _, retI X103 hx Bd.returns (hb hby d19_10) hr, hrun, hended, _, _, rfl, ?_, ⟨_, rfl⟩, hW, hsame.mono (by decide) (by decide)⟩
 show Qrmsl Z a1 tx b1 k1 cs h0 n0 _ T103.heap _
 rw [eh103]
 refine ⟨?_, N103, rfl⟩
 rfl
theorem pn_7 : plainName "jdk/internal/util/Preconditions" = true := by first | (simp [plainName, overriddenIn]; done) | decide +kernel
theorem d38_0 : dC29 0 (.iload_n 0, 1) := by decide +kernel
theorem d38_1 : dC29 1 (.ifCond .lt 8, 3) := by decide +kernel
theorem d38_4 : dC29 4 (.iload_n 0, 1) := by decide +kernel
theorem d38_5 : dC29 5 (.iload_n 1, 1) := by decide +kernel
theorem d38_6 : dC29 6 (.if_icmp .lt 10, 3) := by decide +kernel
theorem d38_16 : dC29 16 (.iload_n 0, 1) := by decide +kernel
theorem d38_17 : dC29 17 (.ireturn, 1) := by decide +kernel
theorem ef_rmcin (m : MethodId) (jx : Nat) (lx : Nat) : entryFrame m #[(.int (own_i jx)), (.int (own_i lx)), .null] 3 = mkF m 0 #[vI (own_i jx), vI (own_i lx), .val .null] [] := by first | (simp [entryFrame, mkF, argsToLocals, Value.category]; done) | rfl
def Qrmcin (Z : State) (jx : Nat) (lx : Nat) (h0 : Heap) (n0 : Nat) (v : Option Value) (h : Heap) (L : List Loc) : Prop := v = some (.int (own_i jx)) ∧ Fr n0 L ∧ h = h0
set_option maxRecDepth 65536 in
set_option maxHeartbeats 40000000 in
theorem rmcin (l : Launch) (Z : State) (a0 : Array Value) (hw : ∀ d ∈ tables_1, d.before a0 Z = true) (ws : List Jvm.Cond) (jx : Nat) (lx : Nat) (h0 : Heap) (n0 : Nat) (Z0 : n0 ≤ h0.size) (hj : jx < lx ∧ lx < 2147483648) :
    MetFree l Y29 (head1 (Jvm.Cond.code Y29 jdk_41_method_11_code 3 (some .int) :: ws) Rm0) (fun a U => a = #[(.int (own_i jx)), (.int (own_i lx)), .null] ∧ Z.Warmed39 U.vm ∧ U.heap = h0) (fun _ _ _ _ _ => True) (fun _ U o U' => ∃ v L, o = .returned v ∧ Qrmcin Z jx lx h0 n0 v U'.heap L ∧ FrameEnd U o U' L Rm0.cells Rm0.slots) := by
 refine MetFree.of_bodySF (plainFor_of_name pn_7) hisR ?_
 intro p e s m args below meth c s₁ Bd hml0 hP hK
 obtain ⟨rfl, hZ, hh⟩ := hP
 have hx := Bd.exec
 have hby := Bd.bytes
 have hml : c.maxLocals = 3 := hml0
 have hown : s.vm.findClass "jdk/internal/util/Preconditions" = some m.cls := findClass_of_methodNamed Bd.named
 have hnm := (name_of_methodNamed Bd.named Bd.method).1
 have X0 : Stand p l e Rm0 s m #[(.int (own_i jx)), (.int (own_i lx)), .null] below meth c s₁ [] 0 0 := Stand.of_body Bd
 have e0 : s₁.heap = h0 := by rw [← hh, Bd.state]; rfl
 have N0 := Fr.nil n0
 show Go p.tables e below (fun o U' => ∃ v L, o = .returned v ∧ Qrmcin Z jx lx h0 n0 v U'.heap L ∧ FrameEnd s o U' L Rm0.cells Rm0.slots) _
 refine Go.step (fun t kt => castTop (ef_rmcin m jx lx) kt) ?_
 show gG s₁ m 0 #[vI (own_i jx), vI (own_i lx), .val .null] []
 refine Go.step (fun _ kt => XS.iloadN X0.here hx rfl (hb hby d38_0) rfl (XS.ifNo X0.here hx rfl (hb hby d38_1) rfl ((if0 _ _).trans (flt (own_ilF (a := jx) (b := 0) (by omega) (by omega) (by omega))).1) (XS.iloadN X0.here hx rfl (hb hby d38_4) rfl (XS.iloadN X0.here hx rfl (hb hby d38_5) rfl (XS.icmpYes X0.here hx rfl (pc0 := 6) (pc' := 16) rfl (hb hby d38_6) rfl (tlt (own_ilT (a := jx) (b := lx) (by omega) (by omega) (by omega))).1 (by decide) (by decide) (XS.iloadN X0.here hx rfl (hb hby d38_16) rfl kt)))))) ?_
 show gG s₁ m 17 #[vI (own_i jx), vI (own_i lx), .val .null] [(.int (own_i jx))]
 obtain ⟨fs, hr, hrun, hended, hW, hsame⟩ := X0.leave (v := some (.int (own_i jx))) (fun h => by rw [Bd.returns] at h; cases h)
 refine ⟨_, _, retI X0 hx Bd.returns (hb hby d38_17) hr, hrun, hended, _, _, rfl, ?_, ⟨_, rfl⟩, hW, hsame.mono (by decide) (by decide)⟩
 show Qrmcin Z jx lx h0 n0 _ s₁.heap _
 rw [e0]
 refine ⟨?_, N0, rfl⟩
 rfl
theorem ef_rmcir (m : MethodId) (fx : Addr) (jx : Nat) (lx : Nat) : entryFrame m #[(.int (own_i jx)), (.int (own_i lx)), (.ref fx)] 3 = mkF m 0 #[vI (own_i jx), vI (own_i lx), vR fx] [] := by first | (simp [entryFrame, mkF, argsToLocals, Value.category]; done) | rfl
def Qrmcir (Z : State) (fx : Addr) (jx : Nat) (lx : Nat) (h0 : Heap) (n0 : Nat) (v : Option Value) (h : Heap) (L : List Loc) : Prop := v = some (.int (own_i jx)) ∧ Fr n0 L ∧ h = h0
set_option maxRecDepth 65536 in
set_option maxHeartbeats 40000000 in
theorem rmcir (l : Launch) (Z : State) (a0 : Array Value) (hw : ∀ d ∈ tables_1, d.before a0 Z = true) (ws : List Jvm.Cond) (fx : Addr) (jx : Nat) (lx : Nat) (h0 : Heap) (n0 : Nat) (Z0 : n0 ≤ h0.size) (hj : jx < lx ∧ lx < 2147483648) :
    MetFree l Y29 (head1 (Jvm.Cond.code Y29 jdk_41_method_11_code 3 (some .int) :: ws) Rm0) (fun a U => a = #[(.int (own_i jx)), (.int (own_i lx)), (.ref fx)] ∧ Z.Warmed39 U.vm ∧ U.heap = h0) (fun _ _ _ _ _ => True) (fun _ U o U' => ∃ v L, o = .returned v ∧ Qrmcir Z fx jx lx h0 n0 v U'.heap L ∧ FrameEnd U o U' L Rm0.cells Rm0.slots) := by
 refine MetFree.of_bodySF (plainFor_of_name pn_7) hisR ?_
 intro p e s m args below meth c s₁ Bd hml0 hP hK
 obtain ⟨rfl, hZ, hh⟩ := hP
 have hx := Bd.exec
 have hby := Bd.bytes
 have hml : c.maxLocals = 3 := hml0
 have hown : s.vm.findClass "jdk/internal/util/Preconditions" = some m.cls := findClass_of_methodNamed Bd.named
 have hnm := (name_of_methodNamed Bd.named Bd.method).1
 have X0 : Stand p l e Rm0 s m #[(.int (own_i jx)), (.int (own_i lx)), (.ref fx)] below meth c s₁ [] 0 0 := Stand.of_body Bd
 have e0 : s₁.heap = h0 := by rw [← hh, Bd.state]; rfl
 have N0 := Fr.nil n0
 show Go p.tables e below (fun o U' => ∃ v L, o = .returned v ∧ Qrmcir Z fx jx lx h0 n0 v U'.heap L ∧ FrameEnd s o U' L Rm0.cells Rm0.slots) _
 refine Go.step (fun t kt => castTop (ef_rmcir m fx jx lx) kt) ?_
 show gG s₁ m 0 #[vI (own_i jx), vI (own_i lx), vR fx] []
 refine Go.step (fun _ kt => XS.iloadN X0.here hx rfl (hb hby d38_0) rfl (XS.ifNo X0.here hx rfl (hb hby d38_1) rfl ((if0 _ _).trans (flt (own_ilF (a := jx) (b := 0) (by omega) (by omega) (by omega))).1) (XS.iloadN X0.here hx rfl (hb hby d38_4) rfl (XS.iloadN X0.here hx rfl (hb hby d38_5) rfl (XS.icmpYes X0.here hx rfl (pc0 := 6) (pc' := 16) rfl (hb hby d38_6) rfl (tlt (own_ilT (a := jx) (b := lx) (by omega) (by omega) (by omega))).1 (by decide) (by decide) (XS.iloadN X0.here hx rfl (hb hby d38_16) rfl kt)))))) ?_
 show gG s₁ m 17 #[vI (own_i jx), vI (own_i lx), vR fx] [(.int (own_i jx))]
 obtain ⟨fs, hr, hrun, hended, hW, hsame⟩ := X0.leave (v := some (.int (own_i jx))) (fun h => by rw [Bd.returns] at h; cases h)
 refine ⟨_, _, retI X0 hx Bd.returns (hb hby d38_17) hr, hrun, hended, _, _, rfl, ?_, ⟨_, rfl⟩, hW, hsame.mono (by decide) (by decide)⟩
 show Qrmcir Z fx jx lx h0 n0 _ s₁.heap _
 rw [e0]
 refine ⟨?_, N0, rfl⟩
 rfl
theorem pd_15 : parseMethodDescriptor "(IILjava/util/function/BiFunction;)I" = some ⟨[.int, .int, (.object "java/util/function/BiFunction")], some .int⟩ := by decide +kernel
theorem d37_0 : dC30 0 (.iload_n 0, 1) := by decide +kernel
theorem d37_1 : dC30 1 (.iload_n 1, 1) := by decide +kernel
theorem d37_2 : dC30 2 (.getstatic 1053, 3) := by decide +kernel
theorem d37_5 : dC30 5 (.invokestatic 1059, 3) := by decide +kernel
theorem d37_8 : dC30 8 (.pop, 1) := by decide +kernel
theorem d37_9 : dC30 9 (.return_, 1) := by decide +kernel
theorem ef_rmsc (m : MethodId) (jx : Nat) (lx : Nat) (fo : Value) : entryFrame m #[(.int (own_i jx)), (.int (own_i lx))] 2 = mkF m 0 #[vI (own_i jx), vI (own_i lx)] [] := by first | (simp [entryFrame, mkF, argsToLocals, Value.category]; done) | rfl
def Qrmsc (Z : State) (jx : Nat) (lx : Nat) (fo : Value) (h0 : Heap) (n0 : Nat) (v : Option Value) (h : Heap) (L : List Loc) : Prop := v = none ∧ Fr n0 L ∧ h = h0
set_option maxRecDepth 65536 in
set_option maxHeartbeats 40000000 in
theorem rmsc (l : Launch) (Z : State) (a0 : Array Value) (hw : ∀ d ∈ tables_1, d.before a0 Z = true) (ws : List Jvm.Cond) (jx : Nat) (lx : Nat) (fo : Value) (h0 : Heap) (n0 : Nat) (Z0 : n0 ≤ h0.size) (S_fo : Sta Z h0 "jdk/internal/util/Preconditions" "SIOOBE_FORMATTER" "Ljava/util/function/BiFunction;" fo) (hfo : fo = .null ∨ ∃ fx, fo = .ref fx) (hj : jx < lx ∧ lx < 2147483648) :
    MetFree l Y30 (head1 (Jvm.Cond.code Y30 jdk_42_method_155_code 2 none :: ws) Rm1) (fun a U => a = #[(.int (own_i jx)), (.int (own_i lx))] ∧ Z.Warmed39 U.vm ∧ U.heap = h0) (fun _ _ _ _ _ => True) (fun _ U o U' => ∃ v L, o = .returned v ∧ Qrmsc Z jx lx fo h0 n0 v U'.heap L ∧ FrameEnd U o U' L Rm1.cells Rm1.slots) := by
 refine MetFree.of_bodySF (plainFor_of_name pn_6) hisR ?_
 intro p e s m args below meth c s₁ Bd hml0 hP hK
 obtain ⟨rfl, hZ, hh⟩ := hP
 have hx := Bd.exec
 have hby := Bd.bytes
 have hml : c.maxLocals = 2 := hml0
 have hown : s.vm.findClass "java/lang/String" = some m.cls := findClass_of_methodNamed Bd.named
 have hnm := (name_of_methodNamed Bd.named Bd.method).1
 have X0 : Stand p l e Rm1 s m #[(.int (own_i jx)), (.int (own_i lx))] below meth c s₁ [] 0 0 := Stand.of_body Bd
 have e0 : s₁.heap = h0 := by rw [← hh, Bd.state]; rfl
 have N0 := Fr.nil n0
 show Go p.tables e below (fun o U' => ∃ v L, o = .returned v ∧ Qrmsc Z jx lx fo h0 n0 v U'.heap L ∧ FrameEnd s o U' L Rm1.cells Rm1.slots) _
 refine Go.step (fun t kt => castTop (ef_rmsc m jx lx fo) kt) ?_
 show gG s₁ m 0 #[vI (own_i jx), vI (own_i lx)] []
 refine Go.step (fun _ kt => XS.iloadN X0.here hx rfl (hb hby d37_0) rfl (XS.iloadN X0.here hx rfl (hb hby d37_1) rfl kt)) ?_
 show gG s₁ m 2 #[vI (own_i jx), vI (own_i lx)] [(.int (own_i lx)), (.int (own_i jx))]
 rcases hfo with hf1 | ⟨fx, hf1⟩
 ·rw [hf1] at S_fo
  obtain ⟨T101, X101, e101, st101⟩ := getS2 X0 hx hZ hown (host := "") (Or.inl (w197 hw)) Via.refl e0 S_fo (g := (mkF m 2 #[vI (own_i jx), vI (own_i lx)] [(.int (own_i lx)), (.int (own_i jx))])) rfl (hb hby d37_2)
  refine Go.step st101 ?_
  obtain ⟨_, _, ⟨T102, L102, k102, n102⟩, -, X102, ⟨Lc102, hQ102, l102, y102, z102⟩, st102⟩ := Jvm.LawKit.callS X101 hx (y := Y29) hown (mvT hZ (w199 hw)) (mvT hZ (w200 hw)) (mvT hZ (w198 hw)) (mvT hZ (w201 hw)) (by decide) (backOf (W := 0) (rmcin l Z a0 hw []  jx lx h0 n0 Z0  hj) hZ (w201 hw) (w198 hw) (by decide) (by decide)) (g := (mkF m 5 #[vI (own_i jx), vI (own_i lx)] [.null, (.int (own_i lx)), (.int (own_i jx))])) rfl hml.symm (argsL := [(.int (own_i jx)), (.int (own_i lx)), .null]) (rest := []) (lenOf pd_15 rfl) rfl (Nat.le_of_eq rfl) (hb hby d37_5) (fun _ _ => ⟨rfl, e101, (by decide : 0 + 0 ≤ _), (by decide : 0 + 0 ≤ _)⟩)
  dsimp only [Pt.U, Pt.locs, Pt.cells, Pt.slots] at X102 l102 y102 z102 st102 hQ102
  subst l102 y102 z102
  obtain ⟨rfl, N102q, eh102⟩ := hQ102
  have N102 := Fr.app N0 N102q
  refine Go.step st102 ?_
  show gG T102 m 8 #[vI (own_i jx), vI (own_i lx)] [(.int (own_i jx))]
  refine Go.step (fun _ kt => XS.pop X102.here hx rfl (hb hby d37_8) rfl rfl kt) ?_
  show gG T102 m 9 #[vI (own_i jx), vI (own_i lx)] []
  obtain ⟨fs, hr, hrun, hended, hW, hsame⟩ := X102.leave (v := none) (fun _ => rfl)
  refine ⟨_, _, X102.returnOut hx Bd.returns (hb hby d37_9) hr, hrun, hended, _, _, rfl, ?_, ⟨_, rfl⟩, hW, hsame.mono (by decide) (by decide)⟩
  show Qrmsc Z jx lx fo h0 n0 _ T102.heap _
  rw [eh102]
  refine ⟨?_, N102, rfl⟩
  rfl
 ·rw [hf1] at S_fo
  obtain ⟨T103, X103, e103, st103⟩ := getS2 X0 hx hZ hown (host := "") (Or.inl (w197 hw)) Via.refl e0 S_fo (g := (mkF m 2 #[vI (own_i jx), vI (own_i lx)] [(.int (own_i lx)), (.int (own_i jx))])) rfl (hb hby d37_2)
  refine Go.step st103 ?_
  obtain ⟨_, _, ⟨T104, L104, k104, n104⟩, -, X104, ⟨Lc104, hQ104, l104, y104, z104⟩, st104⟩ := Jvm.LawKit.callS X103 hx (y := Y29) hown (mvT hZ (w199 hw)) (mvT hZ (w200 hw)) (mvT hZ (w198 hw)) (mvT hZ (w201 hw)) (by decide) (backOf (W := 0) (rmcir l Z a0 hw [] fx jx lx h0 n0 Z0  hj) hZ (w201 hw) (w198 hw) (by decide) (by decide)) (g := (mkF m 5 #[vI (own_i jx), vI (own_i lx)] [(.ref fx), (.int (own_i lx)), (.int (own_i jx))])) rfl hml.symm (argsL := [(.int (own_i jx)), (.int (own_i lx)), (.ref fx)]) (rest := []) (lenOf pd_15 rfl) rfl (Nat.le_of_eq rfl) (hb hby d37_5) (fun _ _ => ⟨rfl, e103, (by decide : 0 + 0 ≤ _), (by decide : 0 + 0 ≤ _)⟩)
  dsimp only [Pt.U, Pt.locs, Pt.cells, Pt.slots] at X104 l104 y104 z104 st104 hQ104
  subst l104 y104 z104
  obtain ⟨rfl, N104q, eh104⟩ := hQ104
  have N104 := Fr.app N0 N104q
  refine Go.step st104 ?_
  show gG T104 m 8 #[vI (own_i jx), vI (own_i lx)] [(.int (own_i jx))]
  refine Go.step (fun _ kt => XS.pop X104.here hx rfl (hb hby d37_8) rfl rfl kt) ?_
  show gG T104 m 9 #[vI (own_i jx), vI (own_i lx)] []
  obtain ⟨fs, hr, hrun, hended, hW, hsame⟩ := X104.leave (v := none) (fun _ => rfl)
  refine ⟨_, _, X104.returnOut hx Bd.returns (hb hby d37_9) hr, hrun, hended, _, _, rfl, ?_, ⟨_, rfl⟩, hW, hsame.mono (by decide) (by decide)⟩
  show Qrmsc Z jx lx fo h0 n0 _ T104.heap _
  rw [eh104]
  refine ⟨?_, N104, rfl⟩
  rfl
theorem own_ltN {n i : Nat} (h : i < n) (h2 : n < 2147483648) : i < (own_i n).toNatClampNeg := by rw [own_iN h2]; exact h
theorem d36_0 : dC31 0 (.iload_n 1, 1) := by decide +kernel
theorem d36_1 : dC31 1 (.aload_n 0, 1) := by decide +kernel
theorem d36_2 : dC31 2 (.arraylength, 1) := by decide +kernel
theorem d36_3 : dC31 3 (.invokestatic 9, 3) := by decide +kernel
theorem d36_6 : dC31 6 (.aload_n 0, 1) := by decide +kernel
theorem d36_7 : dC31 7 (.iload_n 1, 1) := by decide +kernel
theorem d36_8 : dC31 8 (.baload, 1) := by decide +kernel
theorem d36_9 : dC31 9 (.sipush 255, 3) := by decide +kernel
theorem d36_12 : dC31 12 (.iand, 1) := by decide +kernel
theorem d36_13 : dC31 13 (.i2c, 1) := by decide +kernel
theorem d36_14 : dC31 14 (.ireturn, 1) := by decide +kernel
theorem ef_rmlc (m : MethodId) (a1 : Addr) (jx : Nat) (tx : List Nat) (k1 : ClassId) (fo : Value) : entryFrame m #[(.ref a1), (.int (own_i jx))] 2 = mkF m 0 #[vR a1, vI (own_i jx)] [] := by first | (simp [entryFrame, mkF, argsToLocals, Value.category]; done) | rfl
def Qrmlc (Z : State) (a1 : Addr) (jx : Nat) (tx : List Nat) (k1 : ClassId) (fo : Value) (h0 : Heap) (n0 : Nat) (v : Option Value) (h : Heap) (L : List Loc) : Prop := v = some (.int (own_i (tx.getD jx 0))) ∧ Fr n0 L ∧ h = h0
set_option maxRecDepth 65536 in
set_option maxHeartbeats 40000000 in
theorem rmlc (l : Launch) (Z : State) (a0 : Array Value) (hw : ∀ d ∈ tables_1, d.before a0 Z = true) (ws : List Jvm.Cond) (a1 : Addr) (jx : Nat) (tx : List Nat) (k1 : ClassId) (fo : Value) (h0 : Heap) (n0 : Nat) (Z0 : n0 ≤ h0.size) (V1 : Arv Z h0 a1 k1 .byte (own_i tx.length) ((tx.map own_i).map Value.int) (.int 0)) (S_fo : Sta Z h0 "jdk/internal/util/Preconditions" "SIOOBE_FORMATTER" "Ljava/util/function/BiFunction;" fo) (hfo : fo = .null ∨ ∃ fx, fo = .ref fx) (hj : jx < tx.length) (hl1 : tx.length ≤ 40) (ht : ∀ c ∈ tx, c < 128) :
    MetFree l Y31 (head1 (Jvm.Cond.code Y31 jdk_43_method_2_code 2 (some .char) :: ws) Rm9) (fun a U => a = #[(.ref a1), (.int (own_i jx))] ∧ Z.Warmed39 U.vm ∧ U.heap = h0) (fun _ _ _ _ _ => True) (fun _ U o U' => ∃ v L, o = .returned v ∧ Qrmlc Z a1 jx tx k1 fo h0 n0 v U'.heap L ∧ FrameEnd U o U' L Rm9.cells Rm9.slots) := by
 refine MetFree.of_bodySF (plainFor_of_name pn_3) hisR ?_
 intro p e s m args below meth c s₁ Bd hml0 hP hK
 obtain ⟨rfl, hZ, hh⟩ := hP
 have hx := Bd.exec
 have hby := Bd.bytes
 have hml : c.maxLocals = 2 := hml0
 have hown : s.vm.findClass "java/lang/StringLatin1" = some m.cls := findClass_of_methodNamed Bd.named
 have hnm := (name_of_methodNamed Bd.named Bd.method).1
 have X0 : Stand p l e Rm9 s m #[(.ref a1), (.int (own_i jx))] below meth c s₁ [] 0 0 := Stand.of_body Bd
 have e0 : s₁.heap = h0 := by rw [← hh, Bd.state]; rfl
 have N0 := Fr.nil n0
 show Go p.tables e below (fun o U' => ∃ v L, o = .returned v ∧ Qrmlc Z a1 jx tx k1 fo h0 n0 v U'.heap L ∧ FrameEnd s o U' L Rm9.cells Rm9.slots) _
 refine Go.step (fun t kt => castTop (ef_rmlc m a1 jx tx k1 fo) kt) ?_
 show gG s₁ m 0 #[vR a1, vI (own_i jx)] []
 refine Go.step (fun _ kt => XS.iloadN X0.here hx rfl (hb hby d36_0) rfl (XS.aloadN X0.here hx rfl (hb hby d36_1) rfl rfl kt)) ?_
 obtain ⟨cl101, Ar101, qa101, Sa101, Na101, Ha101, Ga101⟩ := (id V1)
 refine Go.step (X0.arraylength hx (by rw [e0]; exact Ar101.1) (State.isArrayOf_alike hZ.alike Ar101.2.1) (g := (mkF m 2 #[vR a1, vI (own_i jx)] [(.ref a1), (.int (own_i jx))])) rfl rfl (hb hby d36_2)) ?_
 rw [len_of Sa101 Na101]
 obtain ⟨_, _, ⟨T102, L102, k102, n102⟩, -, X102, ⟨Lc102, hQ102, l102, y102, z102⟩, st102⟩ := Jvm.LawKit.callS X0 hx (y := Y30) hown (mvT hZ (w194 hw)) (mvT hZ (w195 hw)) (mvT hZ (w27 hw)) (mvT hZ (w196 hw)) (by decide) (backOf (W := 0) (rmsc l Z a0 hw []  jx tx.length fo h0 n0 Z0 S_fo hfo ⟨hj, by omega⟩) hZ (w196 hw) (w27 hw) (by decide) (by decide)) (g := (mkF m 3 #[vR a1, vI (own_i jx)] [(.int (own_i tx.length)), (.int (own_i jx))])) rfl hml.symm (argsL := [(.int (own_i jx)), (.int (own_i tx.length))]) (rest := []) (lenOf pd_9 rfl) rfl (Nat.le_of_eq rfl) (hb hby d36_3) (fun _ _ => ⟨rfl, e0, (by decide : 0 + 0 ≤ _), (by decide : 0 + 0 ≤ _)⟩)
 dsimp only [Pt.U, Pt.locs, Pt.cells, Pt.slots] at X102 l102 y102 z102 st102 hQ102
 subst l102 y102 z102
 obtain ⟨rfl, N102q, eh102⟩ := hQ102
 have N102 := Fr.app N0 N102q
 refine Go.step st102 ?_
 show gG T102 m 6 #[vR a1, vI (own_i jx)] []
 refine Go.step (fun _ kt => XS.aloadN X102.here hx rfl (hb hby d36_6) rfl rfl (XS.iloadN X102.here hx rfl (hb hby d36_7) rfl kt)) ?_
 show gG T102 m 8 #[vR a1, vI (own_i jx)] [(.int (own_i jx)), (.ref a1)]
 have hgd := own_gd128 ht jx
 obtain ⟨cl103, Ar103, qa103, Sa103, Na103, Ha103, Ga103⟩ := (id V1)
 have hin103 : ¬ ((own_i jx) < 0 ∨ cl103.slots.size ≤ ((own_i jx)).toNatClampNeg) := own_inN Sa103 (own_ltN (by omega) (by omega)) (by omega)
 have hat103 : cl103.slots[((own_i jx)).toNatClampNeg]? = some (.int (own_i (tx.getD jx 0))) := at_of Ha103 hin103 (by rw [own_iN (by omega)]; exact own_at _ _)
 refine Go.step (X102.baloadBytes hx (j := (own_i jx)) (v := (.int (own_i (tx.getD jx 0)))) (by rw [eh102]; exact Ar103.1) (State.isArrayOf_alike hZ.alike Ar103.2.1) Ar103.2.2 hin103 hat103 (g := (mkF m 8 #[vR a1, vI (own_i jx)] [(.int (own_i jx)), (.ref a1)])) rfl rfl (hb hby d36_8)) ?_
 show gG T102 m 9 #[vR a1, vI (own_i jx)] [(.int (own_i (tx.getD jx 0)))]
 refine Go.step (fun _ kt => XS.sipush X102.here hx rfl (hb hby d36_9) (XS.iand X102.here hx rfl (hb hby d36_12) rfl kt)) ?_
 show gG T102 m 13 #[vR a1, vI (own_i jx)] [(.int ((own_i (tx.getD jx 0)) &&& (255 : Int32)))]
 have q104 : ((own_i (tx.getD jx 0)) &&& (255 : Int32)) = (own_i (tx.getD jx 0)) := own_m255 hgd
 rw [q104]
 refine Go.step (fun _ kt => XS.i2c X102.here hx rfl (hb hby d36_13) rfl kt) ?_
 show gG T102 m 14 #[vR a1, vI (own_i jx)] [(.int ((own_i (tx.getD jx 0)).toUInt32.toUInt16.toUInt32.toInt32))]
 have q105 : ((own_i (tx.getD jx 0)).toUInt32.toUInt16.toUInt32.toInt32) = (own_i (tx.getD jx 0)) := own_c16 (n := (tx.getD jx 0)) (by omega)
 rw [q105]
 obtain ⟨fs, hr, hrun, hended, hW, hsame⟩ := X102.leave (v := some (.int (nar .char (own_i (tx.getD jx 0))))) (fun h => by rw [Bd.returns] at h; cases h)
 refine ⟨_, _, retN X102 hx (t := .char) Bd.returns (by simp) (hb hby d36_14) hr, hrun, hended, _, _, rfl, ?_, ⟨_, rfl⟩, hW, hsame.mono (by decide) (by decide)⟩
 show Qrmlc Z a1 jx tx k1 fo h0 n0 _ T102.heap _
 rw [eh102]
 refine ⟨?_, N102, rfl⟩
 rw [own_nc (n := tx.getD jx 0) (by omega)]
theorem pd_16 : parseMethodDescriptor "([BI)C" = some ⟨[(.array .byte), .int], some .char⟩ := by decide +kernel
theorem d35_0 : dC32 0 (.aload_n 0, 1) := by decide +kernel
theorem d35_1 : dC32 1 (.invokevirtual 492, 3) := by decide +kernel
theorem d35_4 : dC32 4 (.ifCond .eq 12, 3) := by decide +kernel
theorem d35_7 : dC32 7 (.aload_n 0, 1) := by decide +kernel
theorem d35_8 : dC32 8 (.getfield 9, 3) := by decide +kernel
theorem d35_11 : dC32 11 (.iload_n 1, 1) := by decide +kernel
theorem d35_12 : dC32 12 (.invokestatic 495, 3) := by decide +kernel
theorem d35_15 : dC32 15 (.ireturn, 1) := by decide +kernel
theorem ef_rmca (m : MethodId) (a1 : Addr) (jx : Nat) (tx : List Nat) (b1 : Addr) (k1 : ClassId) (cs : Int32) (fo : Value) : entryFrame m #[(.ref a1), (.int (own_i jx))] 2 = mkF m 0 #[vR a1, vI (own_i jx)] [] := by first | (simp [entryFrame, mkF, argsToLocals, Value.category]; done) | rfl
def Qrmca (Z : State) (a1 : Addr) (jx : Nat) (tx : List Nat) (b1 : Addr) (k1 : ClassId) (cs : Int32) (fo : Value) (h0 : Heap) (n0 : Nat) (v : Option Value) (h : Heap) (L : List Loc) : Prop := v = some (.int (own_i (tx.getD jx 0))) ∧ Fr n0 L ∧ h = h0
set_option maxRecDepth 65536 in
set_option maxHeartbeats 40000000 in
theorem rmca (l : Launch) (Z : State) (a0 : Array Value) (hw : ∀ d ∈ tables_1, d.before a0 Z = true) (ws : List Jvm.Cond) (a1 : Addr) (jx : Nat) (tx : List Nat) (b1 : Addr) (k1 : ClassId) (cs : Int32) (fo : Value) (h0 : Heap) (n0 : Nat) (Z0 : n0 ≤ h0.size) (E1 : Exa Z h0 a1 "java/lang/String") (Fv1 : Fld Z h0 a1 "java/lang/String" "value" "[B" (.ref b1)) (Fc1 : Fld Z h0 a1 "java/lang/String" "coder" "B" (.int 0)) (Vb1 : Arv Z h0 b1 k1 .byte (own_i tx.length) ((tx.map own_i).map Value.int) (.int 0)) (S_cs : Sta Z h0 "java/lang/String" "COMPACT_STRINGS" "Z" (.int cs)) (S_fo : Sta Z h0 "jdk/internal/util/Preconditions" "SIOOBE_FORMATTER" "Ljava/util/function/BiFunction;" fo) (hcs : ¬ cs = 0) (hfo : fo = .null ∨ ∃ fx, fo = .ref fx) (hj : jx < tx.length) (hl1 : tx.length ≤ 40) (ht : ∀ c ∈ tx, c < 128) :
    MetFree l Y32 (head1 (Jvm.Cond.code Y32 jdk_42_method_56_code 2 (some .char) :: ws) Rm16) (fun a U => a = #[(.ref a1), (.int (own_i jx))] ∧ Z.Warmed39 U.vm ∧ U.heap = h0) (fun _ _ _ _ _ => True) (fun _ U o U' => ∃ v L, o = .returned v ∧ Qrmca Z a1 jx tx b1 k1 cs fo h0 n0 v U'.heap L ∧ FrameEnd U o U' L Rm16.cells Rm16.slots) := by
 refine MetFree.of_bodySF (plainFor_of_name pn_6) hisR ?_
 intro p e s m args below meth c s₁ Bd hml0 hP hK
 obtain ⟨rfl, hZ, hh⟩ := hP
 have hx := Bd.exec
 have hby := Bd.bytes
 have hml : c.maxLocals = 2 := hml0
 have hown : s.vm.findClass "java/lang/String" = some m.cls := findClass_of_methodNamed Bd.named
 have hnm := (name_of_methodNamed Bd.named Bd.method).1
 have X0 : Stand p l e Rm16 s m #[(.ref a1), (.int (own_i jx))] below meth c s₁ [] 0 0 := Stand.of_body Bd
 have e0 : s₁.heap = h0 := by rw [← hh, Bd.state]; rfl
 have N0 := Fr.nil n0
 show Go p.tables e below (fun o U' => ∃ v L, o = .returned v ∧ Qrmca Z a1 jx tx b1 k1 cs fo h0 n0 v U'.heap L ∧ FrameEnd s o U' L Rm16.cells Rm16.slots) _
 refine Go.step (fun t kt => castTop (ef_rmca m a1 jx tx b1 k1 cs fo) kt) ?_
 show gG s₁ m 0 #[vR a1, vI (own_i jx)] []
 refine Go.step (fun _ kt => XS.aloadN X0.here hx rfl (hb hby d35_0) rfl rfl kt) ?_
 show gG s₁ m 1 #[vR a1, vI (own_i jx)] [(.ref a1)]
 obtain ⟨cq101, kq101, q101a, q101b, q101c⟩ := isOf hZ e0 E1
 obtain ⟨_, _, ⟨T101, L101, k101, n101⟩, -, X101, ⟨Lc101, hQ101, l101, y101, z101⟩, st101⟩ := X0.virtualBack hx (y := Y27) (z := Y27) hown (mvT hZ (w118 hw)) (mvT hZ (w119 hw)) (notFace_of_selects (args := #[]) (mvT hZ (w121 hw))) (mvT hZ (w121 hw)) (mvT hZ (w120 hw)) (by decide) (backOf (W := 0) (rmil l Z a0 hw [] a1 cs h0 n0 Z0 E1 Fc1 S_cs hcs) hZ (w122 hw) (w27 hw) (by decide) (by decide)) q101a q101c (g := (mkF m 1 #[vR a1, vI (own_i jx)] [(.ref a1)])) rfl hml.symm (Steps.refl _) (argsL := []) (rest := []) (lenOf pd_6 rfl) rfl (Nat.le_of_eq rfl) (hb hby d35_1) (fun _ _ => ⟨rfl, e0, (by decide : 0 + 0 ≤ _), (by decide : 0 + 0 ≤ _)⟩)
 dsimp only [Pt.U, Pt.locs, Pt.cells, Pt.slots] at X101 l101 y101 z101 st101 hQ101
 subst l101 y101 z101
 obtain ⟨rfl, N101q, eh101⟩ := hQ101
 have N101 := Fr.app N0 N101q
 refine Go.step (fun _ kt => st101.trans kt) ?_
 show gG T101 m 4 #[vR a1, vI (own_i jx)] [(.int 1)]
 refine Go.step (fun _ kt => XS.ifNo X101.here hx rfl (hb hby d35_4) rfl ((if0 _ _).trans (feq (by decide : ¬ ((1 : Int32) = (0 : Int32)))).1) (XS.aloadN X101.here hx rfl (hb hby d35_7) rfl rfl kt)) ?_
 obtain ⟨T102, X102, e102, st102⟩ := getF X101 hx hZ hown (host := "") (Or.inl (w92 hw)) Via.refl eh101 Fv1 (g := (mkF m 8 #[vR a1, vI (own_i jx)] [(.ref a1)])) rfl rfl (hb hby d35_8)
 refine Go.step st102 ?_
 show gG T102 m 11 #[vR a1, vI (own_i jx)] [(.ref b1)]
 refine Go.step (fun _ kt => XS.iloadN X102.here hx rfl (hb hby d35_11) rfl kt) ?_
 obtain ⟨_, _, ⟨T103, L103, k103, n103⟩, -, X103, ⟨Lc103, hQ103, l103, y103, z103⟩, st103⟩ := Jvm.LawKit.callS X102 hx (y := Y31) hown (mvT hZ (w191 hw)) (mvT hZ (w192 hw)) (mvT hZ (w125 hw)) (mvT hZ (w193 hw)) (by decide) (backOf (W := 0) (rmlc l Z a0 hw [] b1 jx tx k1 fo h0 n0 Z0 Vb1 S_fo hfo hj hl1 ht) hZ (w193 hw) (w125 hw) (by decide) (by decide)) (g := (mkF m 12 #[vR a1, vI (own_i jx)] [(.int (own_i jx)), (.ref b1)])) rfl hml.symm (argsL := [(.ref b1), (.int (own_i jx))]) (rest := []) (lenOf pd_16 rfl) rfl (Nat.le_of_eq rfl) (hb hby d35_12) (fun _ _ => ⟨rfl, e102, (by decide : 0 + 0 ≤ _), (by decide : 0 + 0 ≤ _)⟩)
 dsimp only [Pt.U, Pt.locs, Pt.cells, Pt.slots] at X103 l103 y103 z103 st103 hQ103
 subst l103 y103 z103
 obtain ⟨rfl, N103q, eh103⟩ := hQ103
 have N103 := Fr.app N101 N103q
 refine Go.step st103 ?_
 show gG T103 m 15 #[vR a1, vI (own_i jx)] [(.int (own_i (tx.getD jx 0)))]
 obtain ⟨fs, hr, hrun, hended, hW, hsame⟩ := X103.leave (v := some (.int (nar .char (own_i (tx.getD jx 0))))) (fun h => by rw [Bd.returns] at h; cases h)
 refine ⟨_, _, retN X103 hx (t := .char) Bd.returns (by simp) (hb hby d35_15) hr, hrun, hended, _, _, rfl, ?_, ⟨_, rfl⟩, hW, hsame.mono (by decide) (by decide)⟩
 show Qrmca Z a1 jx tx b1 k1 cs fo h0 n0 _ T103.heap _
 rw [eh103]
 refine ⟨?_, N103, rfl⟩
 rw [own_nc (n := tx.getD jx 0) (Nat.lt_trans (own_gd128 ht jx) (by decide))]
theorem pd_17 : parseMethodDescriptor "(I)Z" = some ⟨[.int], some .boolean⟩ := by decide +kernel
theorem d23_0 : dC33 0 (.iload_n 1, 1) := by decide +kernel
theorem d23_1 : dC33 1 (.invokestatic 88, 3) := by decide +kernel
theorem d23_4 : dC33 4 (.ifCond .ne 5, 3) := by decide +kernel
theorem d23_9 : dC33 9 (.iload_n 2, 1) := by decide +kernel
theorem d23_10 : dC33 10 (.aload_n 0, 1) := by decide +kernel
theorem d23_11 : dC33 11 (.arraylength, 1) := by decide +kernel
theorem d23_12 : dC33 12 (.iconst 1, 1) := by decide +kernel
theorem d23_13 : dC33 13 (.isub, 1) := by decide +kernel
theorem d23_14 : dC33 14 (.invokestatic 38, 3) := by decide +kernel
theorem d23_17 : dC33 17 (.istore_n 3, 1) := by decide +kernel
theorem d23_18 : dC33 18 (.iload_n 3, 1) := by decide +kernel
theorem d23_19 : dC33 19 (.ifCond .lt 19, 3) := by decide +kernel
theorem d23_22 : dC33 22 (.aload_n 0, 1) := by decide +kernel
theorem d23_23 : dC33 23 (.iload_n 3, 1) := by decide +kernel
theorem d23_24 : dC33 24 (.baload, 1) := by decide +kernel
theorem d23_25 : dC33 25 (.iload_n 1, 1) := by decide +kernel
theorem d23_26 : dC33 26 (.i2b, 1) := by decide +kernel
theorem d23_27 : dC33 27 (.if_icmp .ne 5, 3) := by decide +kernel
theorem d23_30 : dC33 30 (.iload_n 3, 1) := by decide +kernel
theorem d23_31 : dC33 31 (.ireturn, 1) := by decide +kernel
theorem d23_32 : dC33 32 (.iinc 3 (-1), 3) := by decide +kernel
theorem d23_35 : dC33 35 (.goto (-17), 3) := by decide +kernel
theorem d23_38 : dC33 38 (.iconst (-1), 1) := by decide +kernel
theorem d23_39 : dC33 39 (.ireturn, 1) := by decide +kernel
theorem ef_rmli (m : MethodId) (a1 : Addr) (tx : List Nat) (k1 : ClassId) : entryFrame m #[(.ref a1), (.int 45), (.int ((own_i tx.length) - (1 : Int32)))] 4 = mkF m 0 #[vR a1, vI 45, vI ((own_i tx.length) - (1 : Int32)), uS] [] := by first | (simp [entryFrame, mkF, argsToLocals, Value.category]; done) | rfl
def Qrmli (Z : State) (a1 : Addr) (tx : List Nat) (k1 : ClassId) (h0 : Heap) (n0 : Nat) (v : Option Value) (h : Heap) (L : List Loc) : Prop := v = some (.int (own_lg tx tx.length)) ∧ Fr n0 L ∧ h = h0
set_option maxRecDepth 65536 in
set_option maxHeartbeats 40000000 in
theorem rmli (l : Launch) (Z : State) (a0 : Array Value) (hw : ∀ d ∈ tables_1, d.before a0 Z = true) (ws : List Jvm.Cond) (a1 : Addr) (tx : List Nat) (k1 : ClassId) (h0 : Heap) (n0 : Nat) (Z0 : n0 ≤ h0.size) (V1 : Arv Z h0 a1 k1 .byte (own_i tx.length) ((tx.map own_i).map Value.int) (.int 0)) (hl1 : tx.length ≤ 40) (ht : ∀ c ∈ tx, c < 128) :
    MetFree l Y33 (head1 (Jvm.Cond.code Y33 jdk_43_method_27_code 4 (some .int) :: ws) Rm15) (fun a U => a = #[(.ref a1), (.int 45), (.int ((own_i tx.length) - (1 : Int32)))] ∧ Z.Warmed39 U.vm ∧ U.heap = h0) (fun _ _ _ _ _ => True) (fun _ U o U' => ∃ v L, o = .returned v ∧ Qrmli Z a1 tx k1 h0 n0 v U'.heap L ∧ FrameEnd U o U' L Rm15.cells Rm15.slots) := by
 refine MetFree.of_bodySF (plainFor_of_name pn_3) hisR ?_
 intro p e s m args below meth c s₁ Bd hml0 hP hK
 obtain ⟨rfl, hZ, hh⟩ := hP
 have hx := Bd.exec
 have hby := Bd.bytes
 have hml : c.maxLocals = 4 := hml0
 have hown : s.vm.findClass "java/lang/StringLatin1" = some m.cls := findClass_of_methodNamed Bd.named
 have hnm := (name_of_methodNamed Bd.named Bd.method).1
 have X0 : Stand p l e Rm15 s m #[(.ref a1), (.int 45), (.int ((own_i tx.length) - (1 : Int32)))] below meth c s₁ [] 0 0 := Stand.of_body Bd
 have e0 : s₁.heap = h0 := by rw [← hh, Bd.state]; rfl
 have N0 := Fr.nil n0
 show Go p.tables e below (fun o U' => ∃ v L, o = .returned v ∧ Qrmli Z a1 tx k1 h0 n0 v U'.heap L ∧ FrameEnd s o U' L Rm15.cells Rm15.slots) _
 refine Go.step (fun t kt => castTop (ef_rmli m a1 tx k1) kt) ?_
 show gG s₁ m 0 #[vR a1, vI 45, vI ((own_i tx.length) - (1 : Int32)), uS] []
 refine Go.step (fun _ kt => XS.iloadN X0.here hx rfl (hb hby d23_0) rfl kt) ?_
 obtain ⟨_, _, ⟨T101, L101, k101, n101⟩, -, X101, ⟨Lc101, hQ101, l101, y101, z101⟩, st101⟩ := Jvm.LawKit.callS X0 hx (y := Y13) hown (mvT hZ (w127 hw)) (mvT hZ (w128 hw)) (mvT hZ (w125 hw)) (mvT hZ (w129 hw)) (by decide) (backOf (W := 0) (rmcani l Z a0 hw []   h0 n0 Z0  ) hZ (w129 hw) (w125 hw) (by decide) (by decide)) (g := (mkF m 1 #[vR a1, vI 45, vI ((own_i tx.length) - (1 : Int32)), uS] [(.int 45)])) rfl hml.symm (argsL := [(.int 45)]) (rest := []) (lenOf pd_17 rfl) rfl (Nat.le_of_eq rfl) (hb hby d23_1) (fun _ _ => ⟨rfl, e0, (by decide : 0 + 0 ≤ _), (by decide : 0 + 0 ≤ _)⟩)
 dsimp only [Pt.U, Pt.locs, Pt.cells, Pt.slots] at X101 l101 y101 z101 st101 hQ101
 subst l101 y101 z101
 obtain ⟨rfl, N101q, eh101⟩ := hQ101
 have N101 := Fr.app N0 N101q
 refine Go.step st101 ?_
 show gG T101 m 4 #[vR a1, vI 45, vI ((own_i tx.length) - (1 : Int32)), uS] [(.int 1)]
 refine Go.step (fun _ kt => XS.ifYes X101.here hx rfl (pc0 := 4) (pc' := 9) rfl (hb hby d23_4) rfl ((if0 _ _).trans (feq (by decide : ¬ ((1 : Int32) = (0 : Int32)))).2) (by decide) (by decide) (XS.iloadN X101.here hx rfl (hb hby d23_9) rfl (XS.aloadN X101.here hx rfl (hb hby d23_10) rfl rfl kt))) ?_
 show gG T101 m 11 #[vR a1, vI 45, vI ((own_i tx.length) - (1 : Int32)), uS] [(.ref a1), (.int ((own_i tx.length) - (1 : Int32)))]
 obtain ⟨cl102, Ar102, qa102, Sa102, Na102, Ha102, Ga102⟩ := (id V1)
 refine Go.step (X101.arraylength hx (by rw [eh101]; exact Ar102.1) (State.isArrayOf_alike hZ.alike Ar102.2.1) (g := (mkF m 11 #[vR a1, vI 45, vI ((own_i tx.length) - (1 : Int32)), uS] [(.ref a1), (.int ((own_i tx.length) - (1 : Int32)))])) rfl rfl (hb hby d23_11)) ?_
 rw [len_of Sa102 Na102]
 show gG T101 m 12 #[vR a1, vI 45, vI ((own_i tx.length) - (1 : Int32)), uS] [(.int (own_i tx.length)), (.int ((own_i tx.length) - (1 : Int32)))]
 refine Go.step (fun _ kt => XS.iconst X101.here hx rfl (hb hby d23_12) (XS.isub X101.here hx rfl (hb hby d23_13) rfl kt)) ?_
 obtain ⟨_, _, ⟨T103, L103, k103, n103⟩, -, X103, ⟨Lc103, hQ103, l103, y103, z103⟩, st103⟩ := Jvm.LawKit.callS X101 hx (y := Y0) hown (mvT hZ (w130 hw)) (mvT hZ (w85 hw)) (mvT hZ (w86 hw)) (mvT hZ (w87 hw)) (by decide) (backOf (W := 0) (rmmin l Z a0 hw [] ((own_i tx.length) - (1 : Int32)) ((own_i tx.length) - (1 : Int32))  h0 n0 Z0  ) hZ (w87 hw) (w86 hw) (by decide) (by decide)) (g := (mkF m 14 #[vR a1, vI 45, vI ((own_i tx.length) - (1 : Int32)), uS] [(.int ((own_i tx.length) - (1 : Int32))), (.int ((own_i tx.length) - (1 : Int32)))])) rfl hml.symm (argsL := [(.int ((own_i tx.length) - (1 : Int32))), (.int ((own_i tx.length) - (1 : Int32)))]) (rest := []) (lenOf pd_0 rfl) rfl (Nat.le_of_eq rfl) (hb hby d23_14) (fun _ _ => ⟨rfl, eh101, (by decide : 0 + 0 ≤ _), (by decide : 0 + 0 ≤ _)⟩)
 dsimp only [Pt.U, Pt.locs, Pt.cells, Pt.slots] at X103 l103 y103 z103 st103 hQ103
 subst l103 y103 z103
 obtain ⟨rfl, N103q, eh103⟩ := hQ103
 have N103 := Fr.app N101 N103q
 refine Go.step st103 ?_
 show gG T103 m 17 #[vR a1, vI 45, vI ((own_i tx.length) - (1 : Int32)), uS] [(.int (own_min ((own_i tx.length) - (1 : Int32)) ((own_i tx.length) - (1 : Int32))))]
 have q104 : (own_min ((own_i tx.length) - (1 : Int32)) ((own_i tx.length) - (1 : Int32))) = ((own_i tx.length) - (1 : Int32)) := own_minxx _
 rw [q104]
 refine Go.step (fun _ kt => XS.istoreN X103.here hx rfl (hb hby d23_17) rfl (l' := #[vR a1, vI 45, vI ((own_i tx.length) - (1 : Int32)), vI ((own_i tx.length) - (1 : Int32))]) rfl kt) ?_
 show gG T103 m 18 #[vR a1, vI 45, vI ((own_i tx.length) - (1 : Int32)), vI ((own_i tx.length) - (1 : Int32))] []
 have J18 : ∀ (jx : Nat) (hL : own_lg tx tx.length = own_lg tx jx) (hj : jx ≤ tx.length), Go p.tables e below (fun o U' => ∃ v L, o = .returned v ∧ Qrmli Z a1 tx k1 h0 n0 v U'.heap L ∧ FrameEnd s o U' L Rm15.cells Rm15.slots) (T103.setTop (mkF m 18 #[vR a1, vI 45, vI ((own_i tx.length) - (1 : Int32)), vI ((own_i jx) - (1 : Int32))] [])) := by
  intro jx
  induction jx with
  | zero =>
   intro hL hj
   show gG T103 m 18 #[vR a1, vI 45, vI ((own_i tx.length) - (1 : Int32)), vI ((own_i 0) - (1 : Int32))] []
   refine Go.step (fun _ kt => XS.iloadN X103.here hx rfl (hb hby d23_18) rfl (XS.ifYes X103.here hx rfl (pc0 := 19) (pc' := 38) rfl (hb hby d23_19) rfl ((if0 _ _).trans (tlt (by decide)).1) (by decide) (by decide) (XS.iconst X103.here hx rfl (hb hby d23_38) kt))) ?_
   show gG T103 m 39 #[vR a1, vI 45, vI ((own_i tx.length) - (1 : Int32)), vI ((own_i 0) - (1 : Int32))] [(.int (-1 : Int32))]
   obtain ⟨fs, hr, hrun, hended, hW, hsame⟩ := X103.leave (v := some (.int (-1 : Int32))) (fun h => by rw [Bd.returns] at h; cases h)
   refine ⟨_, _, retI X103 hx Bd.returns (hb hby d23_39) hr, hrun, hended, _, _, rfl, ?_, ⟨_, rfl⟩, hW, hsame.mono (by decide) (by decide)⟩
   show Qrmli Z a1 tx k1 h0 n0 _ T103.heap _
   rw [eh103]
   refine ⟨?_, N103, rfl⟩
   rw [hL]
   rfl
  | succ jx ih18 =>
   intro hL hj
   show gG T103 m 18 #[vR a1, vI 45, vI ((own_i tx.length) - (1 : Int32)), vI ((own_i (jx + 1)) - (1 : Int32))] []
   refine Go.step (fun _ kt => XS.iloadN X103.here hx rfl (hb hby d23_18) rfl kt) ?_
   show gG T103 m 19 #[vR a1, vI 45, vI ((own_i tx.length) - (1 : Int32)), vI ((own_i (jx + 1)) - (1 : Int32))] [(.int ((own_i (jx + 1)) - (1 : Int32)))]
   have q105 : ((own_i (jx + 1)) - (1 : Int32)) = (own_i jx) := own_p1 _
   rw [q105]
   refine Go.step (fun _ kt => XS.ifNo X103.here hx rfl (hb hby d23_19) rfl ((if0 _ _).trans (flt (own_ilF (a := jx) (b := 0) (by omega) (by omega) (by omega))).1) (XS.aloadN X103.here hx rfl (hb hby d23_22) rfl rfl (XS.iloadN X103.here hx rfl (hb hby d23_23) rfl kt))) ?_
   show gG T103 m 24 #[vR a1, vI 45, vI ((own_i tx.length) - (1 : Int32)), vI (own_i jx)] [(.int (own_i jx)), (.ref a1)]
   obtain ⟨cl106, Ar106, qa106, Sa106, Na106, Ha106, Ga106⟩ := (id V1)
   have hin106 : ¬ ((own_i jx) < 0 ∨ cl106.slots.size ≤ ((own_i jx)).toNatClampNeg) := own_inN Sa106 (own_ltN (by omega) (by omega)) (by omega)
   have hat106 : cl106.slots[((own_i jx)).toNatClampNeg]? = some (.int (own_i (tx.getD jx 0))) := at_of Ha106 hin106 (by rw [own_iN (by omega)]; exact own_at _ _)
   refine Go.step (X103.baloadBytes hx (j := (own_i jx)) (v := (.int (own_i (tx.getD jx 0)))) (by rw [eh103]; exact Ar106.1) (State.isArrayOf_alike hZ.alike Ar106.2.1) Ar106.2.2 hin106 hat106 (g := (mkF m 24 #[vR a1, vI 45, vI ((own_i tx.length) - (1 : Int32)), vI (own_i jx)] [(.int (own_i jx)), (.ref a1)])) rfl rfl (hb hby d23_24)) ?_
   show gG T103 m 25 #[vR a1, vI 45, vI ((own_i tx.length) - (1 : Int32)), vI (own_i jx)] [(.int (own_i (tx.getD jx 0)))]
   have hgd := own_gd128 ht jx
   refine Go.step (fun _ kt => XS.iloadN X103.here hx rfl (hb hby d23_25) rfl (XS.i2b X103.here hx rfl (hb hby d23_26) rfl kt)) ?_
   show gG T103 m 27 #[vR a1, vI 45, vI ((own_i tx.length) - (1 : Int32)), vI (own_i jx)] [(.int ((45 : Int32).toInt8.toInt32)), (.int (own_i (tx.getD jx 0)))]
   have q107 : ((45 : Int32).toInt8.toInt32) = (45 : Int32) := by decide
   rw [q107]
   by_cases hc27_108 : (own_i (tx.getD jx 0)) = (45 : Int32)
   ·have hN27 : (tx.getD jx 0) = 45 := own_iet (a := (tx.getD jx 0)) (b := 45) (by omega) (by omega) hc27_108
    refine Go.step (fun _ kt => XS.icmpNo X103.here hx rfl (hb hby d23_27) rfl (teq hc27_108).2 (XS.iloadN X103.here hx rfl (hb hby d23_30) rfl kt)) ?_
    show gG T103 m 31 #[vR a1, vI 45, vI ((own_i tx.length) - (1 : Int32)), vI (own_i jx)] [(.int (own_i jx))]
    obtain ⟨fs, hr, hrun, hended, hW, hsame⟩ := X103.leave (v := some (.int (own_i jx))) (fun h => by rw [Bd.returns] at h; cases h)
    refine ⟨_, _, retI X103 hx Bd.returns (hb hby d23_31) hr, hrun, hended, _, _, rfl, ?_, ⟨_, rfl⟩, hW, hsame.mono (by decide) (by decide)⟩
    show Qrmli Z a1 tx k1 h0 n0 _ T103.heap _
    rw [eh103]
    refine ⟨?_, N103, rfl⟩
    rw [hL, own_lg, if_pos hN27]
   ·have hN27 : ¬ ((tx.getD jx 0) = 45) := own_ief (a := (tx.getD jx 0)) (b := 45) (by omega) (by omega) hc27_108
    refine Go.step (fun _ kt => XS.icmpYes X103.here hx rfl (pc0 := 27) (pc' := 32) rfl (hb hby d23_27) rfl (feq hc27_108).2 (by decide) (by decide) (XS.iinc X103.here hx rfl (hb hby d23_32) rfl (l' := #[vR a1, vI 45, vI ((own_i tx.length) - (1 : Int32)), vI ((own_i jx) + (-1 : Int32))]) rfl kt)) ?_
    show gG T103 m 35 #[vR a1, vI 45, vI ((own_i tx.length) - (1 : Int32)), vI ((own_i jx) + (-1 : Int32))] []
    have q109 : ((own_i jx) + (-1 : Int32)) = ((own_i jx) - (1 : Int32)) := own_m1 _
    rw [q109]
    refine Go.step (fun _ kt => XS.goto X103.here hx rfl (pc0 := 35) (pc' := 18) rfl (hb hby d23_35) (by decide) (by decide) kt) ?_
    show gG T103 m 18 #[vR a1, vI 45, vI ((own_i tx.length) - (1 : Int32)), vI ((own_i jx) - (1 : Int32))] []
    exact ih18 (by rw [hL, own_lg, if_neg hN27]) (by omega)
 exact J18 tx.length rfl (Nat.le_refl _)
theorem pd_18 : parseMethodDescriptor "([BII)I" = some ⟨[(.array .byte), .int, .int], some .int⟩ := by decide +kernel
theorem d21_0 : dC34 0 (.aload_n 0, 1) := by decide +kernel
theorem d21_1 : dC34 1 (.invokevirtual 492, 3) := by decide +kernel
theorem d21_4 : dC34 4 (.ifCond .eq 15, 3) := by decide +kernel
theorem d21_7 : dC34 7 (.aload_n 0, 1) := by decide +kernel
theorem d21_8 : dC34 8 (.getfield 9, 3) := by decide +kernel
theorem d21_11 : dC34 11 (.iload_n 1, 1) := by decide +kernel
theorem d21_12 : dC34 12 (.iload_n 2, 1) := by decide +kernel
theorem d21_13 : dC34 13 (.invokestatic 644, 3) := by decide +kernel
theorem d21_16 : dC34 16 (.goto 12, 3) := by decide +kernel
theorem d21_28 : dC34 28 (.ireturn, 1) := by decide +kernel
theorem ef_rmlx21 (m : MethodId) (a1 : Addr) (tx : List Nat) (b1 : Addr) (k1 : ClassId) (cs : Int32) : entryFrame m #[(.ref a1), (.int 45), (.int ((own_i tx.length) - (1 : Int32)))] 3 = mkF m 0 #[vR a1, vI 45, vI ((own_i tx.length) - (1 : Int32))] [] := by first | (simp [entryFrame, mkF, argsToLocals, Value.category]; done) | rfl
def Qrmlx21 (Z : State) (a1 : Addr) (tx : List Nat) (b1 : Addr) (k1 : ClassId) (cs : Int32) (h0 : Heap) (n0 : Nat) (v : Option Value) (h : Heap) (L : List Loc) : Prop := v = some (.int (own_lg tx tx.length)) ∧ Fr n0 L ∧ h = h0
set_option maxRecDepth 65536 in
set_option maxHeartbeats 40000000 in
theorem rmlx21 (l : Launch) (Z : State) (a0 : Array Value) (hw : ∀ d ∈ tables_1, d.before a0 Z = true) (ws : List Jvm.Cond) (a1 : Addr) (tx : List Nat) (b1 : Addr) (k1 : ClassId) (cs : Int32) (h0 : Heap) (n0 : Nat) (Z0 : n0 ≤ h0.size) (E1 : Exa Z h0 a1 "java/lang/String") (Fv1 : Fld Z h0 a1 "java/lang/String" "value" "[B" (.ref b1)) (Fc1 : Fld Z h0 a1 "java/lang/String" "coder" "B" (.int 0)) (Vb1 : Arv Z h0 b1 k1 .byte (own_i tx.length) ((tx.map own_i).map Value.int) (.int 0)) (S_cs : Sta Z h0 "java/lang/String" "COMPACT_STRINGS" "Z" (.int cs)) (hcs : ¬ cs = 0) (hl1 : tx.length ≤ 40) (ht : ∀ c ∈ tx, c < 128) :
    MetFree l Y34 (head1 (Jvm.Cond.code Y34 jdk_42_method_83_code 3 (some .int) :: ws) Rm17) (fun a U => a = #[(.ref a1), (.int 45), (.int ((own_i tx.length) - (1 : Int32)))] ∧ Z.Warmed39 U.vm ∧ U.heap = h0) (fun _ _ _ _ _ => True) (fun _ U o U' => ∃ v L, o = .returned v ∧ Qrmlx21 Z a1 tx b1 k1 cs h0 n0 v U'.heap L ∧ FrameEnd U o U' L Rm17.cells Rm17.slots) := by
 refine MetFree.of_bodySF (plainFor_of_name pn_6) hisR ?_
 intro p e s m args below meth c s₁ Bd hml0 hP hK
 obtain ⟨rfl, hZ, hh⟩ := hP
 have hx := Bd.exec
 have hby := Bd.bytes
 have hml : c.maxLocals = 3 := hml0
 have hown : s.vm.findClass "java/lang/String" = some m.cls := findClass_of_methodNamed Bd.named
 have hnm := (name_of_methodNamed Bd.named Bd.method).1
 have X0 : Stand p l e Rm17 s m #[(.ref a1), (.int 45), (.int ((own_i tx.length) - (1 : Int32)))] below meth c s₁ [] 0 0 := Stand.of_body Bd
 have e0 : s₁.heap = h0 := by rw [← hh, Bd.state]; rfl
 have N0 := Fr.nil n0
 show Go p.tables e below (fun o U' => ∃ v L, o = .returned v ∧ Qrmlx21 Z a1 tx b1 k1 cs h0 n0 v U'.heap L ∧ FrameEnd s o U' L Rm17.cells Rm17.slots) _
 refine Go.step (fun t kt => castTop (ef_rmlx21 m a1 tx b1 k1 cs) kt) ?_
 show gG s₁ m 0 #[vR a1, vI 45, vI ((own_i tx.length) - (1 : Int32))] []
 refine Go.step (fun _ kt => XS.aloadN X0.here hx rfl (hb hby d21_0) rfl rfl kt) ?_
 show gG s₁ m 1 #[vR a1, vI 45, vI ((own_i tx.length) - (1 : Int32))] [(.ref a1)]
 obtain ⟨cq101, kq101, q101a, q101b, q101c⟩ := isOf hZ e0 E1
 obtain ⟨_, _, ⟨T101, L101, k101, n101⟩, -, X101, ⟨Lc101, hQ101, l101, y101, z101⟩, st101⟩ := X0.virtualBack hx (y := Y27) (z := Y27) hown (mvT hZ (w118 hw)) (mvT hZ (w119 hw)) (notFace_of_selects (args := #[]) (mvT hZ (w121 hw))) (mvT hZ (w121 hw)) (mvT hZ (w120 hw)) (by decide) (backOf (W := 0) (rmil l Z a0 hw [] a1 cs h0 n0 Z0 E1 Fc1 S_cs hcs) hZ (w122 hw) (w27 hw) (by decide) (by decide)) q101a q101c (g := (mkF m 1 #[vR a1, vI 45, vI ((own_i tx.length) - (1 : Int32))] [(.ref a1)])) rfl hml.symm (Steps.refl _) (argsL := []) (rest := []) (lenOf pd_6 rfl) rfl (Nat.le_of_eq rfl) (hb hby d21_1) (fun _ _ => ⟨rfl, e0, (by decide : 0 + 0 ≤ _), (by decide : 0 + 0 ≤ _)⟩)
 dsimp only [Pt.U, Pt.locs, Pt.cells, Pt.slots] at X101 l101 y101 z101 st101 hQ101
 subst l101 y101 z101
 obtain ⟨rfl, N101q, eh101⟩ := hQ101
 have N101 := Fr.app N0 N101q
 refine Go.step (fun _ kt => st101.trans kt) ?_
 show gG T101 m 4 #[vR a1, vI 45, vI ((own_i tx.length) - (1 : Int32))] [(.int 1)]
 refine Go.step (fun _ kt => XS.ifNo X101.here hx rfl (hb hby d21_4) rfl ((if0 _ _).trans (feq (by decide : ¬ ((1 : Int32) = (0 : Int32)))).1) (XS.aloadN X101.here hx rfl (hb hby d21_7) rfl rfl kt)) ?_
 obtain ⟨T102, X102, e102, st102⟩ := getF X101 hx hZ hown (host := "") (Or.inl (w92 hw)) Via.refl eh101 Fv1 (g := (mkF m 8 #[vR a1, vI 45, vI ((own_i tx.length) - (1 : Int32))] [(.ref a1)])) rfl rfl (hb hby d21_8)
 refine Go.step st102 ?_
 show gG T102 m 11 #[vR a1, vI 45, vI ((own_i tx.length) - (1 : Int32))] [(.ref b1)]
 refine Go.step (fun _ kt => XS.iloadN X102.here hx rfl (hb hby d21_11) rfl (XS.iloadN X102.here hx rfl (hb hby d21_12) rfl kt)) ?_
 obtain ⟨_, _, ⟨T103, L103, k103, n103⟩, -, X103, ⟨Lc103, hQ103, l103, y103, z103⟩, st103⟩ := Jvm.LawKit.callS X102 hx (y := Y33) hown (mvT hZ (w123 hw)) (mvT hZ (w124 hw)) (mvT hZ (w125 hw)) (mvT hZ (w126 hw)) (by decide) (backOf (W := 0) (rmli l Z a0 hw [] b1 tx k1 h0 n0 Z0 Vb1 hl1 ht) hZ (w126 hw) (w125 hw) (by decide) (by decide)) (g := (mkF m 13 #[vR a1, vI 45, vI ((own_i tx.length) - (1 : Int32))] [(.int ((own_i tx.length) - (1 : Int32))), (.int 45), (.ref b1)])) rfl hml.symm (argsL := [(.ref b1), (.int 45), (.int ((own_i tx.length) - (1 : Int32)))]) (rest := []) (lenOf pd_18 rfl) rfl (Nat.le_of_eq rfl) (hb hby d21_13) (fun _ _ => ⟨rfl, e102, (by decide : 0 + 0 ≤ _), (by decide : 0 + 0 ≤ _)⟩)
 dsimp only [Pt.U, Pt.locs, Pt.cells, Pt.slots] at X103 l103 y103 z103 st103 hQ103
 subst l103 y103 z103
 obtain ⟨rfl, N103q, eh103⟩ := hQ103
 have N103 := Fr.app N101 N103q
 refine Go.step st103 ?_
 show gG T103 m 16 #[vR a1, vI 45, vI ((own_i tx.length) - (1 : Int32))] [(.int (own_lg tx tx.length))]
 refine Go.step (fun _ kt => XS.goto X103.here hx rfl (pc0 := 16) (pc' := 28) rfl (hb hby d21_16) (by decide) (by decide) kt) ?_
 show gG T103 m 28 #[vR a1, vI 45, vI ((own_i tx.length) - (1 : Int32))] [(.int (own_lg tx tx.length))]
 obtain ⟨fs, hr, hrun, hended, hW, hsame⟩ := X103.leave (v := some (.int (own_lg tx tx.length))) (fun h => by rw [Bd.returns] at h; cases h)
 refine ⟨_, _, retI X103 hx Bd.returns (hb hby d21_28) hr, hrun, hended, _, _, rfl, ?_, ⟨_, rfl⟩, hW, hsame.mono (by decide) (by decide)⟩
 show Qrmlx21 Z a1 tx b1 k1 cs h0 n0 _ T103.heap _
 rw [eh103]
 refine ⟨?_, N103, rfl⟩
 rfl
theorem d18_0 : dC35 0 (.aload_n 0, 1) := by decide +kernel
theorem d18_1 : dC35 1 (.iload_n 1, 1) := by decide +kernel
theorem d18_2 : dC35 2 (.aload_n 0, 1) := by decide +kernel
theorem d18_3 : dC35 3 (.invokevirtual 505, 3) := by decide +kernel
theorem d18_6 : dC35 6 (.iconst 1, 1) := by decide +kernel
theorem d18_7 : dC35 7 (.isub, 1) := by decide +kernel
theorem d18_8 : dC35 8 (.invokevirtual 641, 3) := by decide +kernel
theorem d18_11 : dC35 11 (.ireturn, 1) := by decide +kernel
theorem ef_rmlx18 (m : MethodId) (a1 : Addr) (tx : List Nat) (b1 : Addr) (k1 : ClassId) (cs : Int32) : entryFrame m #[(.ref a1), (.int 45)] 2 = mkF m 0 #[vR a1, vI 45] [] := by first | (simp [entryFrame, mkF, argsToLocals, Value.category]; done) | rfl
def Qrmlx18 (Z : State) (a1 : Addr) (tx : List Nat) (b1 : Addr) (k1 : ClassId) (cs : Int32) (h0 : Heap) (n0 : Nat) (v : Option Value) (h : Heap) (L : List Loc) : Prop := v = some (.int (own_lg tx tx.length)) ∧ Fr n0 L ∧ h = h0
set_option maxRecDepth 65536 in
set_option maxHeartbeats 40000000 in
theorem rmlx18 (l : Launch) (Z : State) (a0 : Array Value) (hw : ∀ d ∈ tables_1, d.before a0 Z = true) (ws : List Jvm.Cond) (a1 : Addr) (tx : List Nat) (b1 : Addr) (k1 : ClassId) (cs : Int32) (h0 : Heap) (n0 : Nat) (Z0 : n0 ≤ h0.size) (E1 : Exa Z h0 a1 "java/lang/String") (Fv1 : Fld Z h0 a1 "java/lang/String" "value" "[B" (.ref b1)) (Fc1 : Fld Z h0 a1 "java/lang/String" "coder" "B" (.int 0)) (Vb1 : Arv Z h0 b1 k1 .byte (own_i tx.length) ((tx.map own_i).map Value.int) (.int 0)) (S_cs : Sta Z h0 "java/lang/String" "COMPACT_STRINGS" "Z" (.int cs)) (hcs : ¬ cs = 0) (hl1 : tx.length ≤ 40) (ht : ∀ c ∈ tx, c < 128) :
    MetFree l Y35 (head1 (Jvm.Cond.code Y35 jdk_42_method_82_code 2 (some .int) :: ws) Rm18) (fun a U => a = #[(.ref a1), (.int 45)] ∧ Z.Warmed39 U.vm ∧ U.heap = h0) (fun _ _ _ _ _ => True) (fun _ U o U' => ∃ v L, o = .returned v ∧ Qrmlx18 Z a1 tx b1 k1 cs h0 n0 v U'.heap L ∧ FrameEnd U o U' L Rm18.cells Rm18.slots) := by
 refine MetFree.of_bodySF (plainFor_of_name pn_6) hisR ?_
 intro p e s m args below meth c s₁ Bd hml0 hP hK
 obtain ⟨rfl, hZ, hh⟩ := hP
 have hx := Bd.exec
 have hby := Bd.bytes
 have hml : c.maxLocals = 2 := hml0
 have hown : s.vm.findClass "java/lang/String" = some m.cls := findClass_of_methodNamed Bd.named
 have hnm := (name_of_methodNamed Bd.named Bd.method).1
 have X0 : Stand p l e Rm18 s m #[(.ref a1), (.int 45)] below meth c s₁ [] 0 0 := Stand.of_body Bd
 have e0 : s₁.heap = h0 := by rw [← hh, Bd.state]; rfl
 have N0 := Fr.nil n0
 show Go p.tables e below (fun o U' => ∃ v L, o = .returned v ∧ Qrmlx18 Z a1 tx b1 k1 cs h0 n0 v U'.heap L ∧ FrameEnd s o U' L Rm18.cells Rm18.slots) _
 refine Go.step (fun t kt => castTop (ef_rmlx18 m a1 tx b1 k1 cs) kt) ?_
 show gG s₁ m 0 #[vR a1, vI 45] []
 refine Go.step (fun _ kt => XS.aloadN X0.here hx rfl (hb hby d18_0) rfl rfl (XS.iloadN X0.here hx rfl (hb hby d18_1) rfl (XS.aloadN X0.here hx rfl (hb hby d18_2) rfl rfl kt))) ?_
 show gG s₁ m 3 #[vR a1, vI 45] [(.ref a1), (.int 45), (.ref a1)]
 obtain ⟨cq101, kq101, q101a, q101b, q101c⟩ := isOf hZ e0 E1
 obtain ⟨_, _, ⟨T101, L101, k101, n101⟩, -, X101, ⟨Lc101, hQ101, l101, y101, z101⟩, st101⟩ := X0.virtualBack hx (y := Y28) (z := Y28) hown (mvT hZ (w102 hw)) (mvT hZ (w103 hw)) (notFace_of_selects (args := #[]) (mvT hZ (w105 hw))) (mvT hZ (w105 hw)) (mvT hZ (w104 hw)) (by decide) (backOf (W := 2) (rmsl l Z a0 hw [] a1 tx b1 k1 cs h0 n0 Z0 E1 Fv1 Fc1 Vb1 S_cs hcs) hZ (w106 hw) (w27 hw) (by decide) (by decide)) q101a q101c (g := (mkF m 3 #[vR a1, vI 45] [(.ref a1), (.int 45), (.ref a1)])) rfl hml.symm (Steps.refl _) (argsL := []) (rest := [(.int 45), (.ref a1)]) (lenOf pd_2 rfl) rfl (Nat.le_of_eq rfl) (hb hby d18_3) (fun _ _ => ⟨rfl, e0, (by decide : 0 + 0 ≤ _), (by decide : 0 + 0 ≤ _)⟩)
 dsimp only [Pt.U, Pt.locs, Pt.cells, Pt.slots] at X101 l101 y101 z101 st101 hQ101
 subst l101 y101 z101
 obtain ⟨rfl, N101q, eh101⟩ := hQ101
 have N101 := Fr.app N0 N101q
 refine Go.step (fun _ kt => st101.trans kt) ?_
 show gG T101 m 6 #[vR a1, vI 45] [(.int (own_i tx.length)), (.int 45), (.ref a1)]
 refine Go.step (fun _ kt => XS.iconst X101.here hx rfl (hb hby d18_6) (XS.isub X101.here hx rfl (hb hby d18_7) rfl kt)) ?_
 show gG T101 m 8 #[vR a1, vI 45] [(.int ((own_i tx.length) - (1 : Int32))), (.int 45), (.ref a1)]
 obtain ⟨cq102, kq102, q102a, q102b, q102c⟩ := isOf hZ eh101 E1
 obtain ⟨_, _, ⟨T102, L102, k102, n102⟩, -, X102, ⟨Lc102, hQ102, l102, y102, z102⟩, st102⟩ := X101.virtualBack hx (y := Y34) (z := Y34) hown (mvT hZ (w113 hw)) (mvT hZ (w114 hw)) (notFace_of_selects (args := #[]) (mvT hZ (w116 hw))) (mvT hZ (w116 hw)) (mvT hZ (w115 hw)) (by decide) (backOf (W := 0) (rmlx21 l Z a0 hw [] a1 tx b1 k1 cs h0 n0 Z0 E1 Fv1 Fc1 Vb1 S_cs hcs hl1 ht) hZ (w117 hw) (w27 hw) (by decide) (by decide)) q102a q102c (g := (mkF m 8 #[vR a1, vI 45] [(.int ((own_i tx.length) - (1 : Int32))), (.int 45), (.ref a1)])) rfl hml.symm (Steps.refl _) (argsL := [(.int 45), (.int ((own_i tx.length) - (1 : Int32)))]) (rest := []) (lenOf pd_0 rfl) rfl (Nat.le_of_eq rfl) (hb hby d18_8) (fun _ _ => ⟨rfl, eh101, (by decide : 0 + 0 ≤ _), (by decide : 0 + 0 ≤ _)⟩)
 dsimp only [Pt.U, Pt.locs, Pt.cells, Pt.slots] at X102 l102 y102 z102 st102 hQ102
 subst l102 y102 z102
 obtain ⟨rfl, N102q, eh102⟩ := hQ102
 have N102 := Fr.app N101 N102q
 refine Go.step (fun _ kt => st102.trans kt) ?_
 show gG T102 m 11 #[vR a1, vI 45] [(.int (own_lg tx tx.length))]
 obtain ⟨fs, hr, hrun, hended, hW, hsame⟩ := X102.leave (v := some (.int (own_lg tx tx.length))) (fun h => by rw [Bd.returns] at h; cases h)
 refine ⟨_, _, retI X102 hx Bd.returns (hb hby d18_11) hr, hrun, hended, _, _, rfl, ?_, ⟨_, rfl⟩, hW, hsame.mono (by decide) (by decide)⟩
 show Qrmlx18 Z a1 tx b1 k1 cs h0 n0 _ T102.heap _
 rw [eh102]
 refine ⟨?_, N102, rfl⟩
 rfl
theorem d26_0 : dC36 0 (.iload_n 1, 1) := by decide +kernel
theorem d26_1 : dC36 1 (.aload_n 0, 1) := by decide +kernel
theorem d26_2 : dC36 2 (.arraylength, 1) := by decide +kernel
theorem d26_3 : dC36 3 (.if_icmp .ne 11, 3) := by decide +kernel
theorem d26_6 : dC36 6 (.aload_n 0, 1) := by decide +kernel
theorem d26_7 : dC36 7 (.invokevirtual 316, 3) := by decide +kernel
theorem d26_10 : dC36 10 (.checkcast 317, 3) := by decide +kernel
theorem d26_13 : dC36 13 (.areturn, 1) := by decide +kernel
theorem d26_14 : dC36 14 (.iload_n 1, 1) := by decide +kernel
theorem d26_15 : dC36 15 (.newarray .int, 2) := by decide +kernel
theorem d26_17 : dC36 17 (.astore_n 2, 1) := by decide +kernel
theorem d26_18 : dC36 18 (.aload_n 0, 1) := by decide +kernel
theorem d26_19 : dC36 19 (.iconst 0, 1) := by decide +kernel
theorem d26_20 : dC36 20 (.aload_n 2, 1) := by decide +kernel
theorem d26_21 : dC36 21 (.iconst 0, 1) := by decide +kernel
theorem d26_22 : dC36 22 (.aload_n 0, 1) := by decide +kernel
theorem d26_23 : dC36 23 (.arraylength, 1) := by decide +kernel
theorem d26_24 : dC36 24 (.iload_n 1, 1) := by decide +kernel
theorem d26_25 : dC36 25 (.invokestatic 304, 3) := by decide +kernel
theorem d26_28 : dC36 28 (.invokestatic 150, 3) := by decide +kernel
theorem d26_31 : dC36 31 (.aload_n 2, 1) := by decide +kernel
theorem d26_32 : dC36 32 (.areturn, 1) := by decide +kernel
theorem ef_rmcoi (m : MethodId) (a1 : Addr) (tx : List Nat) (nx : Nat) (k1 : ClassId) : entryFrame m #[(.ref a1), (.int (own_i tx.length))] 3 = mkF m 0 #[vR a1, vI (own_i tx.length), uS] [] := by first | (simp [entryFrame, mkF, argsToLocals, Value.category]; done) | rfl
def Qrmcoi (Z : State) (a1 : Addr) (tx : List Nat) (nx : Nat) (k1 : ClassId) (h0 : Heap) (n0 : Nat) (v : Option Value) (h : Heap) (L : List Loc) : Prop := ∃ r : Addr, ∃ kr : ClassId, v = some (.ref r) ∧ Fr n0 L ∧ Keep h0 h [] ∧ Arv Z h r kr .int (own_i tx.length) ((tx.map own_i).map Value.int) (.int 0) ∧ n0 ≤ r ∧ h0.size ≤ r
set_option maxRecDepth 65536 in
set_option maxHeartbeats 40000000 in
theorem rmcoi (l : Launch) (Z : State) (a0 : Array Value) (hw : ∀ d ∈ tables_1, d.before a0 Z = true) (ws : List Jvm.Cond) (a1 : Addr) (tx : List Nat) (nx : Nat) (k1 : ClassId) (h0 : Heap) (n0 : Nat) (Z0 : n0 ≤ h0.size) (E1 : Exa Z h0 a1 "[I") (V1 : Arv Z h0 a1 k1 .int (own_i nx) ((tx.map own_i).map Value.int) (.int 0)) (hz2 : tx.length ≤ nx ∧ nx ≤ 34) :
    MetFree l Y36 (head1 (Jvm.Cond.code Y36 jdk_65_method_123_code 3 (some (.array .int)) :: ws) Rm6) (fun a U => a = #[(.ref a1), (.int (own_i tx.length))] ∧ Z.Warmed39 U.vm ∧ U.heap = h0) (fun _ _ _ _ _ => True) (fun _ U o U' => ∃ v L, o = .returned v ∧ Qrmcoi Z a1 tx nx k1 h0 n0 v U'.heap L ∧ FrameEnd U o U' L Rm6.cells Rm6.slots) := by
 refine MetFree.of_bodySF (plainFor_of_name pn_5) hisR ?_
 intro p e s m args below meth c s₁ Bd hml0 hP hK
 obtain ⟨rfl, hZ, hh⟩ := hP
 have hx := Bd.exec
 have hby := Bd.bytes
 have hml : c.maxLocals = 3 := hml0
 have hown : s.vm.findClass "java/util/Arrays" = some m.cls := findClass_of_methodNamed Bd.named
 have hnm := (name_of_methodNamed Bd.named Bd.method).1
 have X0 : Stand p l e Rm6 s m #[(.ref a1), (.int (own_i tx.length))] below meth c s₁ [] 0 0 := Stand.of_body Bd
 have e0 : s₁.heap = h0 := by rw [← hh, Bd.state]; rfl
 have N0 := Fr.nil n0
 show Go p.tables e below (fun o U' => ∃ v L, o = .returned v ∧ Qrmcoi Z a1 tx nx k1 h0 n0 v U'.heap L ∧ FrameEnd s o U' L Rm6.cells Rm6.slots) _
 refine Go.step (fun t kt => castTop (ef_rmcoi m a1 tx nx k1) kt) ?_
 show gG s₁ m 0 #[vR a1, vI (own_i tx.length), uS] []
 have K101 : Keep h0 h0 [] := (Keep.refl h0 [])
 refine Go.step (fun _ kt => XS.iloadN X0.here hx rfl (hb hby d26_0) rfl (XS.aloadN X0.here hx rfl (hb hby d26_1) rfl rfl kt)) ?_
 obtain ⟨cl102, Ar102, qa102, Sa102, Na102, Ha102, Ga102⟩ := (id V1)
 refine Go.step (X0.arraylength hx (by rw [e0]; exact Ar102.1) (State.isArrayOf_alike hZ.alike Ar102.2.1) (g := (mkF m 2 #[vR a1, vI (own_i tx.length), uS] [(.ref a1), (.int (own_i tx.length))])) rfl rfl (hb hby d26_2)) ?_
 rw [len_of Sa102 Na102]
 show gG s₁ m 3 #[vR a1, vI (own_i tx.length), uS] [(.int (own_i nx)), (.int (own_i tx.length))]
 by_cases hc3_103 : (own_i tx.length) = (own_i nx)
 ·have hN3 : tx.length = nx := own_iet (a := tx.length) (b := nx) (by omega) (by omega) hc3_103
  refine Go.step (fun _ kt => XS.icmpNo X0.here hx rfl (hb hby d26_3) rfl (teq hc3_103).2 (XS.aloadN X0.here hx rfl (hb hby d26_6) rfl rfl kt)) ?_
  obtain ⟨T104, h104, X104, e104, E104, A104, Ex104, st104⟩ := cloneH X0 hx hZ hown (ad := "[I") (w139 hw) (w140 hw) (w144 hw) (w142 hw) (w143 hw) (w145 hw) e0 V1.arh E1 (g := (mkF m 7 #[vR a1, vI (own_i tx.length), uS] [(.ref a1)])) rfl hml.symm rfl (hb hby d26_7) (by decide) (W := 0) (cap := 34) (Nat.le_of_eq rfl) (by decide) (own_capN (by omega) (by omega)) (by decide) (by decide)
  obtain ⟨b104, g104⟩ : ∃ z, z = h0.size := ⟨_, rfl⟩
  rw [← g104] at A104 Ex104 st104
  refine Go.step st104 ?_
  have ne_a1_b104 : a1 ≠ b104 := Nat.ne_of_lt (Nat.lt_of_lt_of_le E1.lt (Nat.le_of_eq g104.symm))
  have g_b104 : n0 ≤ b104 := Nat.le_trans Z0 (Nat.le_of_eq g104.symm)
  have sz_b104 : h0.size ≤ b104 := Nat.le_trans K101.1 (Nat.le_of_eq g104.symm)
  have F105 := (E1.ext E104)
  have F106 := (V1.ext E104)
  have Z107 : n0 ≤ h104.size := (Nat.le_trans Z0 E104.1)
  have K108 : Keep h0 h104 [] := (K101.ext E104)
  have V109 : Arv Z h104 b104 k1 .int (own_i nx) ((tx.map own_i).map Value.int) (.int 0) := A104
  obtain ⟨T110, X110, e110, st110⟩ := castY X104 hx hZ hown (w146 hw) e104 (Ins.self Ex104) (g := (mkF m 10 #[vR a1, vI (own_i tx.length), uS] [(.ref b104)])) rfl rfl (hb hby d26_10)
  refine Go.step st110 ?_
  show gG T110 m 13 #[vR a1, vI (own_i tx.length), uS] [(.ref b104)]
  have R111 : Arv Z h104 b104 k1 .int (own_i tx.length) ((tx.map own_i).map Value.int) (.int 0) := by rw [hN3]; exact V109
  obtain ⟨fs, hr, hrun, hended, hW, hsame⟩ := X110.leave (v := some (.ref b104)) (fun h => by rw [Bd.returns] at h; cases h)
  refine ⟨_, _, retOut X110 hx Bd.returns rfl (Or.inr (Or.inr (Or.inr (Or.inr ⟨rfl, rfl, rfl⟩)))) (hb hby d26_13) hr, hrun, hended, _, _, rfl, ?_, ⟨_, rfl⟩, hW, hsame.mono (by decide) (by decide)⟩
  show Qrmcoi Z a1 tx nx k1 h0 n0 _ T110.heap _
  rw [e110]
  refine ⟨b104, k1, ?_, N0, K108, R111, g_b104, sz_b104⟩
  rfl
 ·have hN3 : ¬ (tx.length = nx) := own_ief (a := tx.length) (b := nx) (by omega) (by omega) hc3_103
  refine Go.step (fun _ kt => XS.icmpYes X0.here hx rfl (pc0 := 3) (pc' := 14) rfl (hb hby d26_3) rfl (feq hc3_103).2 (by decide) (by decide) (XS.iloadN X0.here hx rfl (hb hby d26_14) rfl kt)) ?_
  obtain ⟨T112, h112, k112, X112, e112, E112, A112, Ex112, st112⟩ := newPE (aty := .int) X0 hx hZ (w1 hw) e0 (g := (mkF m 15 #[vR a1, vI (own_i tx.length), uS] [(.int (own_i tx.length))])) rfl (hb hby d26_15) rfl (own_nneg (by omega)) (cap := 34) (own_capN (by omega) (by omega)) (by decide) (by decide) (by decide) (ad := "[I") own_adI
  obtain ⟨b112, g112⟩ : ∃ z, z = h0.size := ⟨_, rfl⟩
  rw [← g112] at A112 Ex112 st112
  refine Go.step st112 ?_
  have ne_a1_b112 : a1 ≠ b112 := Nat.ne_of_lt (Nat.lt_of_lt_of_le E1.lt (Nat.le_of_eq g112.symm))
  have g_b112 : n0 ≤ b112 := Nat.le_trans Z0 (Nat.le_of_eq g112.symm)
  have sz_b112 : h0.size ≤ b112 := Nat.le_trans K101.1 (Nat.le_of_eq g112.symm)
  have F113 := (E1.ext E112)
  have F114 := (V1.ext E112)
  have Z115 : n0 ≤ h112.size := (Nat.le_trans Z0 E112.1)
  have K116 : Keep h0 h112 [] := (K101.ext E112)
  have V117 : Arv Z h112 b112 k112 .int (own_i tx.length) ((([] : List Nat).map own_i).map Value.int) (.int 0) := Arv.new A112 (own_nneg (by omega))
  show gG T112 m 17 #[vR a1, vI (own_i tx.length), uS] [(.ref b112)]
  refine Go.step (fun _ kt => XS.astoreN X112.here hx rfl (hb hby d26_17) rfl rfl (l' := #[vR a1, vI (own_i tx.length), vR b112]) rfl (XS.aloadN X112.here hx rfl (hb hby d26_18) rfl rfl (XS.iconst X112.here hx rfl (hb hby d26_19) (XS.aloadN X112.here hx rfl (hb hby d26_20) rfl rfl (XS.iconst X112.here hx rfl (hb hby d26_21) (XS.aloadN X112.here hx rfl (hb hby d26_22) rfl rfl kt)))))) ?_
  show gG T112 m 23 #[vR a1, vI (own_i tx.length), vR b112] [(.ref a1), (.int 0), (.ref b112), (.int 0), (.ref a1)]
  obtain ⟨cl118, Ar118, qa118, Sa118, Na118, Ha118, Ga118⟩ := (id F114)
  refine Go.step (X112.arraylength hx (by rw [e112]; exact Ar118.1) (State.isArrayOf_alike hZ.alike Ar118.2.1) (g := (mkF m 23 #[vR a1, vI (own_i tx.length), vR b112] [(.ref a1), (.int 0), (.ref b112), (.int 0), (.ref a1)])) rfl rfl (hb hby d26_23)) ?_
  rw [len_of Sa118 Na118]
  show gG T112 m 24 #[vR a1, vI (own_i tx.length), vR b112] [(.int (own_i nx)), (.int 0), (.ref b112), (.int 0), (.ref a1)]
  refine Go.step (fun _ kt => XS.iloadN X112.here hx rfl (hb hby d26_24) rfl kt) ?_
  obtain ⟨_, _, ⟨T120, L120, k120, n120⟩, -, X120, ⟨Lc120, hQ120, l120, y120, z120⟩, st120⟩ := Jvm.LawKit.callS X112 hx (y := Y0) hown (mvT hZ (w84 hw)) (mvT hZ (w85 hw)) (mvT hZ (w86 hw)) (mvT hZ (w87 hw)) (by decide) (backOf (W := 4) (rmmin l Z a0 hw [] (own_i nx) (own_i tx.length)  h112 n0 Z115  ) hZ (w87 hw) (w86 hw) (by decide) (by decide)) (g := (mkF m 25 #[vR a1, vI (own_i tx.length), vR b112] [(.int (own_i tx.length)), (.int (own_i nx)), (.int 0), (.ref b112), (.int 0), (.ref a1)])) rfl hml.symm (argsL := [(.int (own_i nx)), (.int (own_i tx.length))]) (rest := [(.int 0), (.ref b112), (.int 0), (.ref a1)]) (lenOf pd_0 rfl) rfl (Nat.le_of_eq rfl) (hb hby d26_25) (fun _ _ => ⟨rfl, e112, (by decide : 1 + 0 ≤ _), (by decide : 34 + 0 ≤ _)⟩)
  dsimp only [Pt.U, Pt.locs, Pt.cells, Pt.slots] at X120 l120 y120 z120 st120 hQ120
  subst l120 y120 z120
  obtain ⟨rfl, N120q, eh120⟩ := hQ120
  have N120 := Fr.app N0 N120q
  refine Go.step st120 ?_
  show gG T120 m 28 #[vR a1, vI (own_i tx.length), vR b112] [(.int (own_min (own_i nx) (own_i tx.length))), (.int 0), (.ref b112), (.int 0), (.ref a1)]
  have q121 : (own_min (own_i nx) (own_i tx.length)) = (own_i tx.length) := (own_mini (by omega) (by omega)).trans (congrArg own_i (Nat.min_eq_right (by omega)))
  rw [q121]
  obtain ⟨T122, h122, L122, X122, e122, N122, Kq122, V122, st122⟩ := cpA X120 hx hZ hown (w88 hw) (w91 hw) (w89 hw) (w90 hw) eh120 F114 (own_rep V117 tx.length) (Or.inl ⟨rfl, rfl⟩) (by decide) (by decide) (own_nneg (by omega)) (own_h4 (by rw [own_iN (by omega)]; omega) (by omega)) (own_h4 (own_capN' (by omega)) (by omega)) rfl (own_h6 _ (by omega)) N120 g_b112 (g := (mkF m 28 #[vR a1, vI (own_i tx.length), vR b112] [(.int (own_i tx.length)), (.int 0), (.ref b112), (.int 0), (.ref a1)])) rfl hml.symm rfl (hb hby d26_28) (by decide) (W := 0) (Nat.le_of_eq rfl) (by decide)
  refine Go.step st122 ?_
  have F123 := (F113.keep Kq122)
  have F124 := (F114.keep Kq122 (fun q => ne_a1_b112 (List.mem_singleton.mp q)))
  have F125 := (Ex112.keep Kq122)
  have Z126 : n0 ≤ h122.size := (Nat.le_trans Z115 Kq122.1)
  have K127 : Keep h0 h122 [] := (K116.trans Kq122 (by intro x hx; cases List.mem_singleton.mp hx; exact (Or.inr sz_b112)))
  have Vc128 : Arv Z h122 b112 k112 .int (own_i tx.length) ((tx.map own_i).map Value.int) (.int 0) := own_cpl (N := tx.length) (by omega) V122
  show gG T122 m 31 #[vR a1, vI (own_i tx.length), vR b112] []
  refine Go.step (fun _ kt => XS.aloadN X122.here hx rfl (hb hby d26_31) rfl rfl kt) ?_
  show gG T122 m 32 #[vR a1, vI (own_i tx.length), vR b112] [(.ref b112)]
  obtain ⟨fs, hr, hrun, hended, hW, hsame⟩ := X122.leave (v := some (.ref b112)) (fun h => by rw [Bd.returns] at h; cases h)
  refine ⟨_, _, retOut X122 hx Bd.returns rfl (Or.inr (Or.inr (Or.inr (Or.inr ⟨rfl, rfl, rfl⟩)))) (hb hby d26_32) hr, hrun, hended, _, _, rfl, ?_, ⟨_, rfl⟩, hW, hsame.mono (by decide) (by decide)⟩
  show Qrmcoi Z a1 tx nx k1 h0 n0 _ T122.heap _
  rw [e122]
  refine ⟨b112, k112, ?_, N122, K127, Vc128, g_b112, sz_b112⟩
  rfl
theorem own_atE {cl pre suf : List Nat} {cx ix : Nat} (hsp : cl = pre ++ cx :: suf) (hix : ix = pre.length) : ((cl.map own_i).map Value.int).getD ix (.int 0) = .int (own_i cx) := by rw [own_at]; subst hsp hix; rw [own_getE]
theorem pd_19 : parseMethodDescriptor "()V" = some ⟨[], none⟩ := by decide +kernel
theorem pd_20 : parseMethodDescriptor "(J)C" = some ⟨[.long], some .char⟩ := by decide +kernel
theorem pd_21 : parseMethodDescriptor "(C)Ljava/lang/StringBuilder;" = some ⟨[.char], some (.object "java/lang/StringBuilder")⟩ := by decide +kernel
theorem pd_22 : parseMethodDescriptor "(JIZ)I" = some ⟨[.long, .int, .boolean], some .int⟩ := by decide +kernel
theorem pd_23 : parseMethodDescriptor "()Ljava/lang/String;" = some ⟨[], some (.object "java/lang/String")⟩ := by decide +kernel
theorem d2_0 : dC37 0 (.new 62, 3) := by decide +kernel
theorem d2_3 : dC37 3 (.dup, 1) := by decide +kernel
theorem d2_4 : dC37 4 (.invokespecial 64, 3) := by decide +kernel
theorem d2_7 : dC37 7 (.astore_n 1, 1) := by decide +kernel
theorem d2_8 : dC37 8 (.aload_n 0, 1) := by decide +kernel
theorem d2_9 : dC37 9 (.astore_n 2, 1) := by decide +kernel
theorem d2_10 : dC37 10 (.aload_n 2, 1) := by decide +kernel
theorem d2_11 : dC37 11 (.arraylength, 1) := by decide +kernel
theorem d2_12 : dC37 12 (.istore_n 3, 1) := by decide +kernel
theorem d2_13 : dC37 13 (.iconst 0, 1) := by decide +kernel
theorem d2_14 : dC37 14 (.istore 4, 2) := by decide +kernel
theorem d2_16 : dC37 16 (.iload 4, 2) := by decide +kernel
theorem d2_18 : dC37 18 (.iload_n 3, 1) := by decide +kernel
theorem d2_19 : dC37 19 (.if_icmp .ge 31, 3) := by decide +kernel
theorem d2_22 : dC37 22 (.aload_n 2, 1) := by decide +kernel
theorem d2_23 : dC37 23 (.iload 4, 2) := by decide +kernel
theorem d2_25 : dC37 25 (.iaload, 1) := by decide +kernel
theorem d2_26 : dC37 26 (.istore 5, 2) := by decide +kernel
theorem d2_28 : dC37 28 (.iload 5, 2) := by decide +kernel
theorem d2_30 : dC37 30 (.sipush 128, 3) := by decide +kernel
theorem d2_33 : dC37 33 (.if_icmp .ge 11, 3) := by decide +kernel
theorem d2_36 : dC37 36 (.aload_n 1, 1) := by decide +kernel
theorem d2_37 : dC37 37 (.iload 5, 2) := by decide +kernel
theorem d2_39 : dC37 39 (.i2c, 1) := by decide +kernel
theorem d2_40 : dC37 40 (.invokevirtual 65, 3) := by decide +kernel
theorem d2_43 : dC37 43 (.pop, 1) := by decide +kernel
theorem d2_44 : dC37 44 (.iinc 4 1, 3) := by decide +kernel
theorem d2_47 : dC37 47 (.goto (-31), 3) := by decide +kernel
theorem d2_50 : dC37 50 (.aload_n 1, 1) := by decide +kernel
theorem d2_51 : dC37 51 (.invokevirtual 69, 3) := by decide +kernel
theorem d2_54 : dC37 54 (.istore_n 2, 1) := by decide +kernel
theorem d2_55 : dC37 55 (.iload_n 2, 1) := by decide +kernel
theorem d2_56 : dC37 56 (.ifCond .le 10, 3) := by decide +kernel
theorem d2_59 : dC37 59 (.aload_n 1, 1) := by decide +kernel
theorem d2_60 : dC37 60 (.bipush 45, 2) := by decide +kernel
theorem d2_62 : dC37 62 (.invokevirtual 65, 3) := by decide +kernel
theorem d2_65 : dC37 65 (.pop, 1) := by decide +kernel
theorem d2_66 : dC37 66 (.sipush 128, 3) := by decide +kernel
theorem d2_69 : dC37 69 (.istore_n 3, 1) := by decide +kernel
theorem d2_70 : dC37 70 (.lconst 0, 1) := by decide +kernel
theorem d2_71 : dC37 71 (.lstore 4, 2) := by decide +kernel
theorem d2_73 : dC37 73 (.bipush 72, 2) := by decide +kernel
theorem d2_75 : dC37 75 (.istore 6, 2) := by decide +kernel
theorem d2_77 : dC37 77 (.iload_n 2, 1) := by decide +kernel
theorem d2_78 : dC37 78 (.istore 7, 2) := by decide +kernel
theorem d2_80 : dC37 80 (.iload 7, 2) := by decide +kernel
theorem d2_82 : dC37 82 (.aload_n 0, 1) := by decide +kernel
theorem d2_83 : dC37 83 (.arraylength, 1) := by decide +kernel
theorem d2_84 : dC37 84 (.if_icmp .ge 254, 3) := by decide +kernel
theorem d2_87 : dC37 87 (.ldc 70, 2) := by decide +kernel
theorem d2_89 : dC37 89 (.istore 8, 2) := by decide +kernel
theorem d2_91 : dC37 91 (.aload_n 0, 1) := by decide +kernel
theorem d2_92 : dC37 92 (.astore 9, 2) := by decide +kernel
theorem d2_94 : dC37 94 (.aload 9, 2) := by decide +kernel
theorem d2_96 : dC37 96 (.arraylength, 1) := by decide +kernel
theorem d2_97 : dC37 97 (.istore 10, 2) := by decide +kernel
theorem d2_99 : dC37 99 (.iconst 0, 1) := by decide +kernel
theorem d2_100 : dC37 100 (.istore 11, 2) := by decide +kernel
theorem d2_102 : dC37 102 (.iload 11, 2) := by decide +kernel
theorem d2_104 : dC37 104 (.iload 10, 2) := by decide +kernel
theorem d2_106 : dC37 106 (.if_icmp .ge 36, 3) := by decide +kernel
theorem d2_109 : dC37 109 (.aload 9, 2) := by decide +kernel
theorem d2_111 : dC37 111 (.iload 11, 2) := by decide +kernel
theorem d2_113 : dC37 113 (.iaload, 1) := by decide +kernel
theorem d2_114 : dC37 114 (.istore 12, 2) := by decide +kernel
theorem d2_116 : dC37 116 (.iload 12, 2) := by decide +kernel
theorem d2_118 : dC37 118 (.iload_n 3, 1) := by decide +kernel
theorem d2_119 : dC37 119 (.if_icmp .lt 13, 3) := by decide +kernel
theorem d2_122 : dC37 122 (.iload 8, 2) := by decide +kernel
theorem d2_124 : dC37 124 (.iload 12, 2) := by decide +kernel
theorem d2_126 : dC37 126 (.invokestatic 71, 3) := by decide +kernel
theorem d2_129 : dC37 129 (.goto 5, 3) := by decide +kernel
theorem d2_132 : dC37 132 (.iload 8, 2) := by decide +kernel
theorem d2_134 : dC37 134 (.istore 8, 2) := by decide +kernel
theorem d2_136 : dC37 136 (.iinc 11 1, 3) := by decide +kernel
theorem d2_139 : dC37 139 (.goto (-37), 3) := by decide +kernel
theorem d2_142 : dC37 142 (.lload 4, 2) := by decide +kernel
theorem d2_144 : dC37 144 (.iload 8, 2) := by decide +kernel
theorem d2_146 : dC37 146 (.iload_n 3, 1) := by decide +kernel
theorem d2_147 : dC37 147 (.isub, 1) := by decide +kernel
theorem d2_148 : dC37 148 (.i2l, 1) := by decide +kernel
theorem d2_149 : dC37 149 (.iload 7, 2) := by decide +kernel
theorem d2_151 : dC37 151 (.iconst 1, 1) := by decide +kernel
theorem d2_152 : dC37 152 (.iadd, 1) := by decide +kernel
theorem d2_153 : dC37 153 (.i2l, 1) := by decide +kernel
theorem d2_154 : dC37 154 (.lmul, 1) := by decide +kernel
theorem d2_155 : dC37 155 (.ladd, 1) := by decide +kernel
theorem d2_156 : dC37 156 (.lstore 4, 2) := by decide +kernel
theorem d2_158 : dC37 158 (.iload 8, 2) := by decide +kernel
theorem d2_160 : dC37 160 (.istore_n 3, 1) := by decide +kernel
theorem d2_161 : dC37 161 (.aload_n 0, 1) := by decide +kernel
theorem d2_162 : dC37 162 (.astore 9, 2) := by decide +kernel
theorem d2_164 : dC37 164 (.aload 9, 2) := by decide +kernel
theorem d2_166 : dC37 166 (.arraylength, 1) := by decide +kernel
theorem d2_167 : dC37 167 (.istore 10, 2) := by decide +kernel
theorem d2_169 : dC37 169 (.iconst 0, 1) := by decide +kernel
theorem d2_170 : dC37 170 (.istore 11, 2) := by decide +kernel
theorem d2_172 : dC37 172 (.iload 11, 2) := by decide +kernel
theorem d2_174 : dC37 174 (.iload 10, 2) := by decide +kernel
theorem d2_176 : dC37 176 (.if_icmp .ge 150, 3) := by decide +kernel
theorem d2_179 : dC37 179 (.aload 9, 2) := by decide +kernel
theorem d2_181 : dC37 181 (.iload 11, 2) := by decide +kernel
theorem d2_183 : dC37 183 (.iaload, 1) := by decide +kernel
theorem d2_184 : dC37 184 (.istore 12, 2) := by decide +kernel
theorem d2_186 : dC37 186 (.iload 12, 2) := by decide +kernel
theorem d2_188 : dC37 188 (.iload_n 3, 1) := by decide +kernel
theorem d2_189 : dC37 189 (.if_icmp .ge 12, 3) := by decide +kernel
theorem d2_192 : dC37 192 (.lload 4, 2) := by decide +kernel
theorem d2_194 : dC37 194 (.lconst 1, 1) := by decide +kernel
theorem d2_195 : dC37 195 (.ladd, 1) := by decide +kernel
theorem d2_196 : dC37 196 (.lstore 4, 2) := by decide +kernel
theorem d2_198 : dC37 198 (.goto 122, 3) := by decide +kernel
theorem d2_201 : dC37 201 (.iload 12, 2) := by decide +kernel
theorem d2_203 : dC37 203 (.iload_n 3, 1) := by decide +kernel
theorem d2_204 : dC37 204 (.if_icmp .ne 116, 3) := by decide +kernel
theorem d2_207 : dC37 207 (.lload 4, 2) := by decide +kernel
theorem d2_209 : dC37 209 (.lstore 13, 2) := by decide +kernel
theorem d2_211 : dC37 211 (.bipush 36, 2) := by decide +kernel
theorem d2_213 : dC37 213 (.istore 15, 2) := by decide +kernel
theorem d2_215 : dC37 215 (.iload 15, 2) := by decide +kernel
theorem d2_217 : dC37 217 (.iload 6, 2) := by decide +kernel
theorem d2_219 : dC37 219 (.invokestatic 39, 3) := by decide +kernel
theorem d2_222 : dC37 222 (.istore 16, 2) := by decide +kernel
theorem d2_224 : dC37 224 (.lload 13, 2) := by decide +kernel
theorem d2_226 : dC37 226 (.iload 16, 2) := by decide +kernel
theorem d2_228 : dC37 228 (.i2l, 1) := by decide +kernel
theorem d2_229 : dC37 229 (.lcmp, 1) := by decide +kernel
theorem d2_230 : dC37 230 (.ifCond .ge 6, 3) := by decide +kernel
theorem d2_233 : dC37 233 (.goto 49, 3) := by decide +kernel
theorem d2_236 : dC37 236 (.aload_n 1, 1) := by decide +kernel
theorem d2_237 : dC37 237 (.iload 16, 2) := by decide +kernel
theorem d2_239 : dC37 239 (.i2l, 1) := by decide +kernel
theorem d2_240 : dC37 240 (.lload 13, 2) := by decide +kernel
theorem d2_242 : dC37 242 (.iload 16, 2) := by decide +kernel
theorem d2_244 : dC37 244 (.i2l, 1) := by decide +kernel
theorem d2_245 : dC37 245 (.lsub, 1) := by decide +kernel
theorem d2_246 : dC37 246 (.bipush 36, 2) := by decide +kernel
theorem d2_248 : dC37 248 (.iload 16, 2) := by decide +kernel
theorem d2_250 : dC37 250 (.isub, 1) := by decide +kernel
theorem d2_251 : dC37 251 (.i2l, 1) := by decide +kernel
theorem d2_252 : dC37 252 (.lrem, 1) := by decide +kernel
theorem d2_253 : dC37 253 (.ladd, 1) := by decide +kernel
theorem d2_254 : dC37 254 (.invokestatic 74, 3) := by decide +kernel
theorem d2_257 : dC37 257 (.invokevirtual 65, 3) := by decide +kernel
theorem d2_260 : dC37 260 (.pop, 1) := by decide +kernel
theorem d2_261 : dC37 261 (.lload 13, 2) := by decide +kernel
theorem d2_263 : dC37 263 (.iload 16, 2) := by decide +kernel
theorem d2_265 : dC37 265 (.i2l, 1) := by decide +kernel
theorem d2_266 : dC37 266 (.lsub, 1) := by decide +kernel
theorem d2_267 : dC37 267 (.bipush 36, 2) := by decide +kernel
theorem d2_269 : dC37 269 (.iload 16, 2) := by decide +kernel
theorem d2_271 : dC37 271 (.isub, 1) := by decide +kernel
theorem d2_272 : dC37 272 (.i2l, 1) := by decide +kernel
theorem d2_273 : dC37 273 (.ldiv, 1) := by decide +kernel
theorem d2_274 : dC37 274 (.lstore 13, 2) := by decide +kernel
theorem d2_276 : dC37 276 (.iinc 15 36, 3) := by decide +kernel
theorem d2_279 : dC37 279 (.goto (-64), 3) := by decide +kernel
theorem d2_282 : dC37 282 (.aload_n 1, 1) := by decide +kernel
theorem d2_283 : dC37 283 (.lload 13, 2) := by decide +kernel
theorem d2_285 : dC37 285 (.invokestatic 74, 3) := by decide +kernel
theorem d2_288 : dC37 288 (.invokevirtual 65, 3) := by decide +kernel
theorem d2_291 : dC37 291 (.pop, 1) := by decide +kernel
theorem d2_292 : dC37 292 (.lload 4, 2) := by decide +kernel
theorem d2_294 : dC37 294 (.iload 7, 2) := by decide +kernel
theorem d2_296 : dC37 296 (.iconst 1, 1) := by decide +kernel
theorem d2_297 : dC37 297 (.iadd, 1) := by decide +kernel
theorem d2_298 : dC37 298 (.iload 7, 2) := by decide +kernel
theorem d2_300 : dC37 300 (.iload_n 2, 1) := by decide +kernel
theorem d2_301 : dC37 301 (.if_icmp .ne 7, 3) := by decide +kernel
theorem d2_304 : dC37 304 (.iconst 1, 1) := by decide +kernel
theorem d2_305 : dC37 305 (.goto 4, 3) := by decide +kernel
theorem d2_308 : dC37 308 (.iconst 0, 1) := by decide +kernel
theorem d2_309 : dC37 309 (.invokestatic 42, 3) := by decide +kernel
theorem d2_312 : dC37 312 (.istore 6, 2) := by decide +kernel
theorem d2_314 : dC37 314 (.lconst 0, 1) := by decide +kernel
theorem d2_315 : dC37 315 (.lstore 4, 2) := by decide +kernel
theorem d2_317 : dC37 317 (.iinc 7 1, 3) := by decide +kernel
theorem d2_320 : dC37 320 (.iinc 11 1, 3) := by decide +kernel
theorem d2_323 : dC37 323 (.goto (-151), 3) := by decide +kernel
theorem d2_326 : dC37 326 (.lload 4, 2) := by decide +kernel
theorem d2_328 : dC37 328 (.lconst 1, 1) := by decide +kernel
theorem d2_329 : dC37 329 (.ladd, 1) := by decide +kernel
theorem d2_330 : dC37 330 (.lstore 4, 2) := by decide +kernel
theorem d2_332 : dC37 332 (.iinc 3 1, 3) := by decide +kernel
theorem d2_335 : dC37 335 (.goto (-255), 3) := by decide +kernel
theorem d2_338 : dC37 338 (.aload_n 1, 1) := by decide +kernel
theorem d2_339 : dC37 339 (.invokevirtual 78, 3) := by decide +kernel
theorem d2_342 : dC37 342 (.areturn, 1) := by decide +kernel
theorem ef_rmenc (m : MethodId) (a1 : Addr) (cl : List Nat) (ka : ClassId) (cs : Int32) : entryFrame m #[(.ref a1)] 17 = mkF m 0 #[vR a1, uS, uS, uS, uS, uS, uS, uS, uS, uS, uS, uS, uS, uS, uS, uS, uS] [] := by first | (simp [entryFrame, mkF, argsToLocals, Value.category]; done) | rfl
def Qrmenc (Z : State) (a1 : Addr) (cl : List Nat) (ka : ClassId) (cs : Int32) (h0 : Heap) (n0 : Nat) (v : Option Value) (h : Heap) (L : List Loc) : Prop := ∃ r : Addr, ∃ b : Addr, ∃ kr : ClassId, v = some (.ref r) ∧ Fr n0 L ∧ Keep h0 h [] ∧ Exa Z h r "java/lang/String" ∧ Fld Z h r "java/lang/String" "value" "[B" (.ref b) ∧ Fld Z h r "java/lang/String" "coder" "B" (.int 0) ∧ Arv Z h b kr .byte (own_i (own_txt cl).length) (((own_txt cl).map own_i).map Value.int) (.int 0) ∧ n0 ≤ r ∧ h0.size ≤ r ∧ n0 ≤ b ∧ h0.size ≤ b
set_option maxRecDepth 65536 in
set_option maxHeartbeats 40000000 in
theorem rmenc (l : Launch) (Z : State) (a0 : Array Value) (hw : ∀ d ∈ tables_1, d.before a0 Z = true) (ws : List Jvm.Cond) (a1 : Addr) (cl : List Nat) (ka : ClassId) (cs : Int32) (h0 : Heap) (n0 : Nat) (Z0 : n0 ≤ h0.size) (V1 : Arv Z h0 a1 ka .int (own_i cl.length) ((cl.map own_i).map Value.int) (.int 0)) (S_cs : Sta Z h0 "java/lang/String" "COMPACT_STRINGS" "Z" (.int cs)) (hcs : ¬ cs = 0) (hl4 : cl.length ≤ 4) (hcl : ∀ c ∈ cl, c ≤ 1114111) :
    MetFree l Y37 (head1 (Jvm.Cond.code Y37 prog_12_method_3_code 17 (some (.object "java/lang/String")) :: ws) Rm19) (fun a U => a = #[(.ref a1)] ∧ Z.Warmed39 U.vm ∧ U.heap = h0) (fun _ _ _ _ _ => True) (fun _ U o U' => ∃ v L, o = .returned v ∧ Qrmenc Z a1 cl ka cs h0 n0 v U'.heap L ∧ FrameEnd U o U' L Rm19.cells Rm19.slots) := by
 refine MetFree.of_bodySF (plainFor_of_name pn_0) hisR ?_
 intro p e s m args below meth c s₁ Bd hml0 hP hK
 obtain ⟨rfl, hZ, hh⟩ := hP
 have hx := Bd.exec
 have hby := Bd.bytes
 have hml : c.maxLocals = 17 := hml0
 have hown : s.vm.findClass "com/example/kenning/kenning/Punycode" = some m.cls := findClass_of_methodNamed Bd.named
 have hnm := (name_of_methodNamed Bd.named Bd.method).1
 have X0 : Stand p l e Rm19 s m #[(.ref a1)] below meth c s₁ [] 0 0 := Stand.of_body Bd
 have e0 : s₁.heap = h0 := by rw [← hh, Bd.state]; rfl
 have N0 := Fr.nil n0
 show Go p.tables e below (fun o U' => ∃ v L, o = .returned v ∧ Qrmenc Z a1 cl ka cs h0 n0 v U'.heap L ∧ FrameEnd s o U' L Rm19.cells Rm19.slots) _
 refine Go.step (fun t kt => castTop (ef_rmenc m a1 cl ka cs) kt) ?_
 show gG s₁ m 0 #[vR a1, uS, uS, uS, uS, uS, uS, uS, uS, uS, uS, uS, uS, uS, uS, uS, uS] []
 have K101 : Keep h0 h0 [] := (Keep.refl h0 [])
 have hlen := own_ds_len hcl hl4
 obtain ⟨T102, h102, X102, e102, E102, A102, D102, -, st102⟩ := newO X0 hx hZ hown (w11 hw) (w12 hw) (w13 hw) e0 (g := (mkF m 0 #[vR a1, uS, uS, uS, uS, uS, uS, uS, uS, uS, uS, uS, uS, uS, uS, uS, uS] [])) rfl (hb hby d2_0) (by decide) (by decide)
 obtain ⟨b102, g102⟩ : ∃ z, z = h0.size := ⟨_, rfl⟩
 rw [← g102] at A102 D102 st102
 refine Go.step st102 ?_
 have ne_a1_b102 : a1 ≠ b102 := Nat.ne_of_lt (Nat.lt_of_lt_of_le V1.lt (Nat.le_of_eq g102.symm))
 have g_b102 : n0 ≤ b102 := Nat.le_trans Z0 (Nat.le_of_eq g102.symm)
 have sz_b102 : h0.size ≤ b102 := Nat.le_trans K101.1 (Nat.le_of_eq g102.symm)
 have F103 := (V1.ext E102)
 have F104 := (S_cs.ext E102)
 have Z105 : n0 ≤ h102.size := (Nat.le_trans Z0 E102.1)
 have K106 : Keep h0 h102 [] := (K101.ext E102)
 have F107 : Fld Z h102 b102 "java/lang/AbstractStringBuilder" "value" "[B" .null := D102 (Or.inl (w30 hw)) (ty := (.array .byte)) (by decide)
 have F108 : Fld Z h102 b102 "java/lang/AbstractStringBuilder" "coder" "B" (.int 0) := D102 (Or.inl (w32 hw)) (ty := .byte) (by decide)
 have F109 : Fld Z h102 b102 "java/lang/AbstractStringBuilder" "count" "I" (.int 0) := D102 (Or.inl (w44 hw)) (ty := .int) (by decide)
 show gG T102 m 3 #[vR a1, uS, uS, uS, uS, uS, uS, uS, uS, uS, uS, uS, uS, uS, uS, uS, uS] [(.ref b102)]
 refine Go.step (fun _ kt => XS.dup X102.here hx rfl (hb hby d2_3) rfl rfl kt) ?_
 obtain ⟨_, _, ⟨T110, L110, k110, n110⟩, -, X110, ⟨Lc110, hQ110, l110, y110, z110⟩, st110⟩ := X102.specialBack hx (y := Y7) rfl hown (mvT hZ (w14 hw)) (mvT hZ (w15 hw)) (mvT hZ (w16 hw)) (by decide) (backOf (W := 1) (rmin3 l Z a0 hw [] b102 cs h102 n0 Z105 A102 F107 F108 F109 F104 g_b102 hcs) hZ (w16 hw) (w13 hw) (by decide) (by decide)) (g := (mkF m 4 #[vR a1, uS, uS, uS, uS, uS, uS, uS, uS, uS, uS, uS, uS, uS, uS, uS, uS] [(.ref b102), (.ref b102)])) rfl hml.symm (Steps.refl _) (a := b102) (argsL := []) (rest := [(.ref b102)]) (lenOf pd_19 rfl) rfl (Nat.le_of_eq rfl) (hb hby d2_4) (fun _ _ => ⟨rfl, e102, (by decide : 1 + 1 ≤ _), (by decide : 4 + 16 ≤ _)⟩)
 dsimp only [Pt.U, Pt.locs, Pt.cells, Pt.slots] at X110 l110 y110 z110 st110 hQ110
 subst l110 y110 z110
 obtain ⟨b110vb, b110kb, rfl, N110q, Kq110, P111, P112, P113, P114, P115, P116, g_b110vb, szq_b110vb⟩ := hQ110
 have ne_a1_b110vb : a1 ≠ b110vb := Nat.ne_of_lt (Nat.lt_of_lt_of_le F103.lt szq_b110vb)
 have ne_b102_b110vb : b102 ≠ b110vb := Nat.ne_of_lt (Nat.lt_of_lt_of_le A102.lt szq_b110vb)
 have sz_b110vb : h0.size ≤ b110vb := Nat.le_trans K106.1 szq_b110vb
 have F117 := (F103.keep Kq110 (fun q => ne_a1_b102 (List.mem_singleton.mp q)))
 have F118 := (own_sta_keep F104 Kq110 (by intro x hx; cases List.mem_singleton.mp hx; exact ⟨_, A102⟩))
 have F119 := (A102.keep Kq110)
 have Z120 : n0 ≤ T110.heap.size := (Nat.le_trans Z105 Kq110.1)
 have K121 : Keep h0 T110.heap [] := (K106.trans Kq110 (by intro x hx; cases List.mem_singleton.mp hx; exact (Or.inr sz_b102)))
 have N110 := Fr.app N0 N110q
 refine Go.step (fun _ kt => st110.trans kt) ?_
 show gG T110 m 7 #[vR a1, uS, uS, uS, uS, uS, uS, uS, uS, uS, uS, uS, uS, uS, uS, uS, uS] [(.ref b102)]
 refine Go.step (fun _ kt => XS.astoreN X110.here hx rfl (hb hby d2_7) rfl rfl (l' := #[vR a1, vR b102, uS, uS, uS, uS, uS, uS, uS, uS, uS, uS, uS, uS, uS, uS, uS]) rfl (XS.aloadN X110.here hx rfl (hb hby d2_8) rfl rfl (XS.astoreN X110.here hx rfl (hb hby d2_9) rfl rfl (l' := #[vR a1, vR b102, vR a1, uS, uS, uS, uS, uS, uS, uS, uS, uS, uS, uS, uS, uS, uS]) rfl (XS.aloadN X110.here hx rfl (hb hby d2_10) rfl rfl kt)))) ?_
 show gG T110 m 11 #[vR a1, vR b102, vR a1, uS, uS, uS, uS, uS, uS, uS, uS, uS, uS, uS, uS, uS, uS] [(.ref a1)]
 obtain ⟨cl122, Ar122, qa122, Sa122, Na122, Ha122, Ga122⟩ := (id F117)
 refine Go.step (X110.arraylength hx Ar122.1 (State.isArrayOf_alike hZ.alike Ar122.2.1) (g := (mkF m 11 #[vR a1, vR b102, vR a1, uS, uS, uS, uS, uS, uS, uS, uS, uS, uS, uS, uS, uS, uS] [(.ref a1)])) rfl rfl (hb hby d2_11)) ?_
 rw [len_of Sa122 Na122]
 show gG T110 m 12 #[vR a1, vR b102, vR a1, uS, uS, uS, uS, uS, uS, uS, uS, uS, uS, uS, uS, uS, uS] [(.int (own_i cl.length))]
 refine Go.step (fun _ kt => XS.istoreN X110.here hx rfl (hb hby d2_12) rfl (l' := #[vR a1, vR b102, vR a1, vI (own_i cl.length), uS, uS, uS, uS, uS, uS, uS, uS, uS, uS, uS, uS, uS]) rfl (XS.iconst X110.here hx rfl (hb hby d2_13) (XS.istore X110.here hx rfl (hb hby d2_14) rfl (l' := #[vR a1, vR b102, vR a1, vI (own_i cl.length), vI 0, uS, uS, uS, uS, uS, uS, uS, uS, uS, uS, uS, uS]) rfl kt))) ?_
 show gG T110 m 16 #[vR a1, vR b102, vR a1, vI (own_i cl.length), vI 0, uS, uS, uS, uS, uS, uS, uS, uS, uS, uS, uS, uS] []
 have q123 : (0 : Int32) = (own_i 0) := rfl
 rw [q123]
 have G16g124 : ∀ (suf : List Nat) (pre : List Nat) (ix : Nat) (s5 : Slot) (hsp : cl = pre ++ suf) (hix : ix = pre.length) (h_s5 : s5 = .unset ∨ ∃ y, s5 = vI y) (Tg124 : State) (Hg124 : Heap) (Lg124 : List Loc) (Xg124 : Stand p l e Rm19 s m #[(.ref a1)] below meth c Tg124 Lg124 2 20) (eg124 : Tg124.heap = Hg124) (Ng124 : Fr n0 Lg124) (Zg124 : n0 ≤ Hg124.size) (Kg124 : Keep h0 Hg124 []) (Fg124_0 : Exa Z Hg124 b102 "java/lang/StringBuilder") (Fg124_1 : Fld Z Hg124 b102 "java/lang/AbstractStringBuilder" "value" "[B" (.ref b110vb)) (Fg124_2 : Fld Z Hg124 b102 "java/lang/AbstractStringBuilder" "coder" "B" (.int 0)) (Fg124_3 : Fld Z Hg124 b102 "java/lang/AbstractStringBuilder" "count" "I" (.int (own_i (own_bas pre).length))) (Fg124_4 : Exa Z Hg124 b110vb "[B") (Fg124_5 : Arv Z Hg124 b110vb b110kb .byte (16 : Int32) (((own_bas pre).map own_i).map Value.int) (.int 0)) (Fg124_6 : Arv Z Hg124 a1 ka .int (own_i cl.length) ((cl.map own_i).map Value.int) (.int 0)) (Fg124_7 : Sta Z Hg124 "java/lang/String" "COMPACT_STRINGS" "Z" (.int cs)), Go p.tables e below (fun o U' => ∃ v L, o = .returned v ∧ Qrmenc Z a1 cl ka cs h0 n0 v U'.heap L ∧ FrameEnd s o U' L Rm19.cells Rm19.slots) (Tg124.setTop (mkF m 16 #[vR a1, vR b102, vR a1, vI (own_i cl.length), vI (own_i ix), s5, uS, uS, uS, uS, uS, uS, uS, uS, uS, uS, uS] [])) := by
  intro suf
  induction suf with
  | nil =>
   intro pre ix s5 hsp hix h_s5 Tg124 Hg124 Lg124 Xg124 eg124 Ng124 Zg124 Kg124 Fg124_0 Fg124_1 Fg124_2 Fg124_3 Fg124_4 Fg124_5 Fg124_6 Fg124_7
   show gG Tg124 m 16 #[vR a1, vR b102, vR a1, vI (own_i cl.length), vI (own_i ix), s5, uS, uS, uS, uS, uS, uS, uS, uS, uS, uS, uS] []
   have hn1 : cl.length = ix := by rw [hix, hsp, List.append_nil]
   have hpc : pre = cl := by rw [hsp, List.append_nil]
   refine Go.step (fun _ kt => XS.iload Xg124.here hx rfl (hb hby d2_16) rfl (XS.iloadN Xg124.here hx rfl (hb hby d2_18) rfl (XS.icmpYes Xg124.here hx rfl (pc0 := 19) (pc' := 50) rfl (hb hby d2_19) rfl (flt (own_ilF (a := ix) (b := cl.length) (by omega) (by omega) (by omega))).2.1 (by decide) (by decide) kt))) ?_
   show gG Tg124 m 50 #[vR a1, vR b102, vR a1, vI (own_i cl.length), vI (own_i ix), s5, uS, uS, uS, uS, uS, uS, uS, uS, uS, uS, uS] []
   have R125 : Fld Z Hg124 b102 "java/lang/AbstractStringBuilder" "count" "I" (.int (own_i (own_bas cl).length)) := by rw [← hpc]; exact Fg124_3
   have R126 : Arv Z Hg124 b110vb b110kb .byte (16 : Int32) (((own_bas cl).map own_i).map Value.int) (.int 0) := by rw [← hpc]; exact Fg124_5
   refine Go.step (fun _ kt => XS.aloadN Xg124.here hx rfl (hb hby d2_50) rfl rfl kt) ?_
   show gG Tg124 m 51 #[vR a1, vR b102, vR a1, vI (own_i cl.length), vI (own_i ix), s5, uS, uS, uS, uS, uS, uS, uS, uS, uS, uS, uS] [(.ref b102)]
   obtain ⟨cq127, kq127, q127a, q127b, q127c⟩ := isOf hZ eg124 Fg124_0
   obtain ⟨_, _, ⟨T127, L127, k127, n127⟩, -, X127, ⟨Lc127, hQ127, l127, y127, z127⟩, st127⟩ := Xg124.virtualBack hx (y := Y10) (z := Y10) hown (mvT hZ (w33 hw)) (mvT hZ (w34 hw)) (notFace_of_selects (args := #[]) (mvT hZ (w36 hw))) (mvT hZ (w36 hw)) (mvT hZ (w35 hw)) (by decide) (backOf (W := 0) (rmlen6 l Z a0 hw [] b102 (own_i (own_bas cl).length) Hg124 n0 Zg124 Fg124_0 R125 ) hZ (w37 hw) (w13 hw) (by decide) (by decide)) q127a q127c (g := (mkF m 51 #[vR a1, vR b102, vR a1, vI (own_i cl.length), vI (own_i ix), s5, uS, uS, uS, uS, uS, uS, uS, uS, uS, uS, uS] [(.ref b102)])) rfl hml.symm (Steps.refl _) (argsL := []) (rest := []) (lenOf pd_2 rfl) rfl (Nat.le_of_eq rfl) (hb hby d2_51) (fun _ _ => ⟨rfl, eg124, (by decide : 2 + 0 ≤ _), (by decide : 20 + 0 ≤ _)⟩)
   dsimp only [Pt.U, Pt.locs, Pt.cells, Pt.slots] at X127 l127 y127 z127 st127 hQ127
   subst l127 y127 z127
   obtain ⟨rfl, N127q, eh127⟩ := hQ127
   have N127 := Fr.app Ng124 N127q
   refine Go.step (fun _ kt => st127.trans kt) ?_
   show gG T127 m 54 #[vR a1, vR b102, vR a1, vI (own_i cl.length), vI (own_i ix), s5, uS, uS, uS, uS, uS, uS, uS, uS, uS, uS, uS] [(.int (own_i (own_bas cl).length))]
   refine Go.step (fun _ kt => XS.istoreN X127.here hx rfl (hb hby d2_54) rfl (l' := #[vR a1, vR b102, vI (own_i (own_bas cl).length), vI (own_i cl.length), vI (own_i ix), s5, uS, uS, uS, uS, uS, uS, uS, uS, uS, uS, uS]) rfl kt) ?_
   show gG T127 m 55 #[vR a1, vR b102, vI (own_i (own_bas cl).length), vI (own_i cl.length), vI (own_i ix), s5, uS, uS, uS, uS, uS, uS, uS, uS, uS, uS, uS] []
   have G66g128 : ∀  (Tg128 : State) (Hg128 : Heap) (Lg128 : List Loc) (Xg128 : Stand p l e Rm19 s m #[(.ref a1)] below meth c Tg128 Lg128 2 20) (eg128 : Tg128.heap = Hg128) (Ng128 : Fr n0 Lg128) (Zg128 : n0 ≤ Hg128.size) (Kg128 : Keep h0 Hg128 []) (Fg128_0 : Exa Z Hg128 b102 "java/lang/StringBuilder") (Fg128_1 : Fld Z Hg128 b102 "java/lang/AbstractStringBuilder" "value" "[B" (.ref b110vb)) (Fg128_2 : Fld Z Hg128 b102 "java/lang/AbstractStringBuilder" "coder" "B" (.int 0)) (Fg128_3 : Fld Z Hg128 b102 "java/lang/AbstractStringBuilder" "count" "I" (.int (own_i (own_B cl).length))) (Fg128_4 : Exa Z Hg128 b110vb "[B") (Fg128_5 : Arv Z Hg128 b110vb b110kb .byte (16 : Int32) (((own_B cl).map own_i).map Value.int) (.int 0)) (Fg128_6 : Arv Z Hg128 a1 ka .int (own_i cl.length) ((cl.map own_i).map Value.int) (.int 0)) (Fg128_7 : Sta Z Hg128 "java/lang/String" "COMPACT_STRINGS" "Z" (.int cs)), Go p.tables e below (fun o U' => ∃ v L, o = .returned v ∧ Qrmenc Z a1 cl ka cs h0 n0 v U'.heap L ∧ FrameEnd s o U' L Rm19.cells Rm19.slots) (Tg128.setTop (mkF m 66 #[vR a1, vR b102, vI (own_i (own_bas cl).length), vI (own_i cl.length), vI (own_i ix), s5, uS, uS, uS, uS, uS, uS, uS, uS, uS, uS, uS] [])) := by
    intro  Tg128 Hg128 Lg128 Xg128 eg128 Ng128 Zg128 Kg128 Fg128_0 Fg128_1 Fg128_2 Fg128_3 Fg128_4 Fg128_5 Fg128_6 Fg128_7
    show gG Tg128 m 66 #[vR a1, vR b102, vI (own_i (own_bas cl).length), vI (own_i cl.length), vI (own_i ix), s5, uS, uS, uS, uS, uS, uS, uS, uS, uS, uS, uS] []
    refine Go.step (fun _ kt => XS.sipush Xg128.here hx rfl (hb hby d2_66) (XS.istoreN Xg128.here hx rfl (hb hby d2_69) rfl (l' := #[vR a1, vR b102, vI (own_i (own_bas cl).length), vI 128, vI (own_i ix), s5, uS, uS, uS, uS, uS, uS, uS, uS, uS, uS, uS]) rfl (XS.lconst Xg128.here hx rfl (hb hby d2_70) (XS.lstore Xg128.here hx rfl (hb hby d2_71) rfl (l' := #[vR a1, vR b102, vI (own_i (own_bas cl).length), vI 128, .val (.long (0 : Int64)), .second, uS, uS, uS, uS, uS, uS, uS, uS, uS, uS, uS]) (by rcases h_s5 with rfl | ⟨_, rfl⟩ <;> rfl) (XS.bipush Xg128.here hx rfl (hb hby d2_73) (XS.istore Xg128.here hx rfl (hb hby d2_75) rfl (l' := #[vR a1, vR b102, vI (own_i (own_bas cl).length), vI 128, .val (.long (0 : Int64)), .second, vI 72, uS, uS, uS, uS, uS, uS, uS, uS, uS, uS]) rfl (XS.iloadN Xg128.here hx rfl (hb hby d2_77) rfl (XS.istore Xg128.here hx rfl (hb hby d2_78) rfl (l' := #[vR a1, vR b102, vI (own_i (own_bas cl).length), vI 128, .val (.long (0 : Int64)), .second, vI 72, vI (own_i (own_bas cl).length), uS, uS, uS, uS, uS, uS, uS, uS, uS]) rfl kt)))))))) ?_
    show gG Tg128 m 80 #[vR a1, vR b102, vI (own_i (own_bas cl).length), vI 128, .val (.long (0 : Int64)), .second, vI 72, vI (own_i (own_bas cl).length), uS, uS, uS, uS, uS, uS, uS, uS, uS] []
    have q129 : (128 : Int32) = (own_i 128) := rfl
    rw [q129]
    have q130 : (0 : Int64) = (own_j 0) := rfl
    rw [q130]
    have q131 : (72 : Int32) = (own_i 72) := rfl
    rw [q131]
    have R132 : Fld Z Hg128 b102 "java/lang/AbstractStringBuilder" "count" "I" (.int (own_i ((own_B cl) ++ (([] : List Nat).map own_dch)).length)) := by rw [List.map_nil, List.append_nil]; exact Fg128_3
    have R133 : Arv Z Hg128 b110vb b110kb .byte (16 : Int32) ((((own_B cl) ++ (([] : List Nat).map own_dch)).map own_i).map Value.int) (.int 0) := by rw [List.map_nil, List.append_nil]; exact Fg128_5
    have G80g134 : ∀ (fu : Nat) (un : Nat) (ud : Nat) (ub : Nat) (uh : Nat) (uo : List Nat) (vv : Addr) (kv : ClassId) (zc : Int32) (kc : Nat) (ks : Nat) (s8 : Slot) (s9 : Slot) (s10 : Slot) (s11 : Slot) (s12 : Slot) (s13 : Slot) (s14 : Slot) (s15 : Slot) (s16 : Slot) (hE : own_ds cl = own_outer cl (own_bas cl).length fu un ud ub uh uo) (hh : uh = (cl.filter (fun x => decide (x < un))).length) (hd5 : ud ≤ 5 * un) (hun : un ≤ 1114112) (hub : ub ≤ 1000000000) (hfu : cl.length < uh + fu) (hcap : (own_B cl).length + uo.length ≤ zc.toNatClampNeg) (hM : (zc = 16 ∧ kc = 2 ∧ ks = 20) ∨ (zc = 34 ∧ kc = 3 ∧ ks = 54)) (hkc : kc ≤ 3) (hks : ks ≤ 54) (g_vv : n0 ≤ vv) (sz_vv : h0.size ≤ vv) (ne_a1_vv : a1 ≠ vv) (h_s8 : s8 = .unset ∨ ∃ y, s8 = vI y) (h_s9 : s9 = .unset ∨ ∃ y, s9 = vR y) (h_s10 : s10 = .unset ∨ ∃ y, s10 = vI y) (h_s11 : s11 = .unset ∨ ∃ y, s11 = vI y) (h_s12 : s12 = .unset ∨ ∃ y, s12 = vI y) (h_s13 : (s13 = .unset ∧ s14 = .unset) ∨ ∃ y, s13 = .val (.long y) ∧ s14 = .second) (h_s15 : s15 = .unset ∨ ∃ y, s15 = vI y) (h_s16 : s16 = .unset ∨ ∃ y, s16 = vI y) (Tg134 : State) (Hg134 : Heap) (Lg134 : List Loc) (Xg134 : Stand p l e Rm19 s m #[(.ref a1)] below meth c Tg134 Lg134 kc ks) (eg134 : Tg134.heap = Hg134) (Ng134 : Fr n0 Lg134) (Zg134 : n0 ≤ Hg134.size) (Kg134 : Keep h0 Hg134 []) (Fg134_0 : Exa Z Hg134 b102 "java/lang/StringBuilder") (Fg134_1 : Fld Z Hg134 b102 "java/lang/AbstractStringBuilder" "value" "[B" (.ref vv)) (Fg134_2 : Fld Z Hg134 b102 "java/lang/AbstractStringBuilder" "coder" "B" (.int 0)) (Fg134_3 : Fld Z Hg134 b102 "java/lang/AbstractStringBuilder" "count" "I" (.int (own_i ((own_B cl) ++ (uo.map own_dch)).length))) (Fg134_4 : Exa Z Hg134 vv "[B") (Fg134_5 : Arv Z Hg134 vv kv .byte zc ((((own_B cl) ++ (uo.map own_dch)).map own_i).map Value.int) (.int 0)) (Fg134_6 : Arv Z Hg134 a1 ka .int (own_i cl.length) ((cl.map own_i).map Value.int) (.int 0)) (Fg134_7 : Sta Z Hg134 "java/lang/String" "COMPACT_STRINGS" "Z" (.int cs)), Go p.tables e below (fun o U' => ∃ v L, o = .returned v ∧ Qrmenc Z a1 cl ka cs h0 n0 v U'.heap L ∧ FrameEnd s o U' L Rm19.cells Rm19.slots) (Tg134.setTop (mkF m 80 #[vR a1, vR b102, vI (own_i (own_bas cl).length), vI (own_i un), .val (.long (own_j ud)), .second, vI (own_i ub), vI (own_i uh), s8, s9, s10, s11, s12, s13, s14, s15, s16] [])) := by
     intro fu
     induction fu with
     | zero =>
      intro un ud ub uh uo vv kv zc kc ks s8 s9 s10 s11 s12 s13 s14 s15 s16 hE hh hd5 hun hub hfu hcap hM hkc hks g_vv sz_vv ne_a1_vv h_s8 h_s9 h_s10 h_s11 h_s12 h_s13 h_s15 h_s16 Tg134 Hg134 Lg134 Xg134 eg134 Ng134 Zg134 Kg134 Fg134_0 Fg134_1 Fg134_2 Fg134_3 Fg134_4 Fg134_5 Fg134_6 Fg134_7
      have hflt := List.length_filter_le (fun x => decide (x < un)) cl
      exact absurd hfu (by omega)
     | succ fu ih80 =>
      intro un ud ub uh uo vv kv zc kc ks s8 s9 s10 s11 s12 s13 s14 s15 s16 hE hh hd5 hun hub hfu hcap hM hkc hks g_vv sz_vv ne_a1_vv h_s8 h_s9 h_s10 h_s11 h_s12 h_s13 h_s15 h_s16 Tg134 Hg134 Lg134 Xg134 eg134 Ng134 Zg134 Kg134 Fg134_0 Fg134_1 Fg134_2 Fg134_3 Fg134_4 Fg134_5 Fg134_6 Fg134_7
      show gG Tg134 m 80 #[vR a1, vR b102, vI (own_i (own_bas cl).length), vI (own_i un), .val (.long (own_j ud)), .second, vI (own_i ub), vI (own_i uh), s8, s9, s10, s11, s12, s13, s14, s15, s16] []
      have hflt := List.length_filter_le (fun x => decide (x < un)) cl
      refine Go.step (fun _ kt => XS.iload Xg134.here hx rfl (hb hby d2_80) rfl (XS.aloadN Xg134.here hx rfl (hb hby d2_82) rfl rfl kt)) ?_
      obtain ⟨cl135, Ar135, qa135, Sa135, Na135, Ha135, Ga135⟩ := (id Fg134_6)
      refine Go.step (Xg134.arraylength hx (by rw [eg134]; exact Ar135.1) (State.isArrayOf_alike hZ.alike Ar135.2.1) (g := (mkF m 83 #[vR a1, vR b102, vI (own_i (own_bas cl).length), vI (own_i un), .val (.long (own_j ud)), .second, vI (own_i ub), vI (own_i uh), s8, s9, s10, s11, s12, s13, s14, s15, s16] [(.ref a1), (.int (own_i uh))])) rfl rfl (hb hby d2_83)) ?_
      rw [len_of Sa135 Na135]
      show gG Tg134 m 84 #[vR a1, vR b102, vI (own_i (own_bas cl).length), vI (own_i un), .val (.long (own_j ud)), .second, vI (own_i ub), vI (own_i uh), s8, s9, s10, s11, s12, s13, s14, s15, s16] [(.int (own_i cl.length)), (.int (own_i uh))]
      by_cases hc84_136 : (own_i uh) < (own_i cl.length)
      ·have hN84 : uh < cl.length := own_ilt (a := uh) (b := cl.length) (by omega) (by omega) hc84_136
       refine Go.step (fun _ kt => XS.icmpNo Xg134.here hx rfl (hb hby d2_84) rfl (tlt hc84_136).2.1 kt) ?_
       refine Go.step (Xg134.ldcInt hx hown (mvT hZ (w169 hw)) (g := (mkF m 87 #[vR a1, vR b102, vI (own_i (own_bas cl).length), vI (own_i un), .val (.long (own_j ud)), .second, vI (own_i ub), vI (own_i uh), s8, s9, s10, s11, s12, s13, s14, s15, s16] [])) rfl (hb hby d2_87)) ?_
       show gG Tg134 m 89 #[vR a1, vR b102, vI (own_i (own_bas cl).length), vI (own_i un), .val (.long (own_j ud)), .second, vI (own_i ub), vI (own_i uh), s8, s9, s10, s11, s12, s13, s14, s15, s16] [(.int 2147483647)]
       refine Go.step (fun _ kt => XS.istore Xg134.here hx rfl (hb hby d2_89) rfl (l' := #[vR a1, vR b102, vI (own_i (own_bas cl).length), vI (own_i un), .val (.long (own_j ud)), .second, vI (own_i ub), vI (own_i uh), vI 2147483647, s9, s10, s11, s12, s13, s14, s15, s16]) (by rcases h_s8 with rfl | ⟨_, rfl⟩ <;> rfl) (XS.aloadN Xg134.here hx rfl (hb hby d2_91) rfl rfl (XS.astore Xg134.here hx rfl (hb hby d2_92) rfl rfl (l' := #[vR a1, vR b102, vI (own_i (own_bas cl).length), vI (own_i un), .val (.long (own_j ud)), .second, vI (own_i ub), vI (own_i uh), vI 2147483647, vR a1, s10, s11, s12, s13, s14, s15, s16]) (by rcases h_s9 with rfl | ⟨_, rfl⟩ <;> rfl) (XS.aload Xg134.here hx rfl (hb hby d2_94) rfl rfl kt)))) ?_
       show gG Tg134 m 96 #[vR a1, vR b102, vI (own_i (own_bas cl).length), vI (own_i un), .val (.long (own_j ud)), .second, vI (own_i ub), vI (own_i uh), vI 2147483647, vR a1, s10, s11, s12, s13, s14, s15, s16] [(.ref a1)]
       obtain ⟨cl137, Ar137, qa137, Sa137, Na137, Ha137, Ga137⟩ := (id Fg134_6)
       refine Go.step (Xg134.arraylength hx (by rw [eg134]; exact Ar137.1) (State.isArrayOf_alike hZ.alike Ar137.2.1) (g := (mkF m 96 #[vR a1, vR b102, vI (own_i (own_bas cl).length), vI (own_i un), .val (.long (own_j ud)), .second, vI (own_i ub), vI (own_i uh), vI 2147483647, vR a1, s10, s11, s12, s13, s14, s15, s16] [(.ref a1)])) rfl rfl (hb hby d2_96)) ?_
       rw [len_of Sa137 Na137]
       show gG Tg134 m 97 #[vR a1, vR b102, vI (own_i (own_bas cl).length), vI (own_i un), .val (.long (own_j ud)), .second, vI (own_i ub), vI (own_i uh), vI 2147483647, vR a1, s10, s11, s12, s13, s14, s15, s16] [(.int (own_i cl.length))]
       refine Go.step (fun _ kt => XS.istore Xg134.here hx rfl (hb hby d2_97) rfl (l' := #[vR a1, vR b102, vI (own_i (own_bas cl).length), vI (own_i un), .val (.long (own_j ud)), .second, vI (own_i ub), vI (own_i uh), vI 2147483647, vR a1, vI (own_i cl.length), s11, s12, s13, s14, s15, s16]) (by rcases h_s10 with rfl | ⟨_, rfl⟩ <;> rfl) (XS.iconst Xg134.here hx rfl (hb hby d2_99) (XS.istore Xg134.here hx rfl (hb hby d2_100) rfl (l' := #[vR a1, vR b102, vI (own_i (own_bas cl).length), vI (own_i un), .val (.long (own_j ud)), .second, vI (own_i ub), vI (own_i uh), vI 2147483647, vR a1, vI (own_i cl.length), vI 0, s12, s13, s14, s15, s16]) (by rcases h_s11 with rfl | ⟨_, rfl⟩ <;> rfl) kt))) ?_
       show gG Tg134 m 102 #[vR a1, vR b102, vI (own_i (own_bas cl).length), vI (own_i un), .val (.long (own_j ud)), .second, vI (own_i ub), vI (own_i uh), vI 2147483647, vR a1, vI (own_i cl.length), vI 0, s12, s13, s14, s15, s16] []
       have q138 : (0 : Int32) = (own_i 0) := rfl
       rw [q138]
       have q139 : (2147483647 : Int32) = (own_i 2147483647) := rfl
       rw [q139]
       have G102g140 : ∀ (suf : List Nat) (pre : List Nat) (ix : Nat) (ux : Nat) (s12 : Slot) (hsp : cl = pre ++ suf) (hix : ix = pre.length) (hX : own_nxt un suf ux = own_nxt un cl 2147483647) (hux : ux ≤ 2147483647) (h_s12 : s12 = .unset ∨ ∃ y, s12 = vI y) (Tg140 : State) (Hg140 : Heap) (Lg140 : List Loc) (Xg140 : Stand p l e Rm19 s m #[(.ref a1)] below meth c Tg140 Lg140 kc ks) (eg140 : Tg140.heap = Hg140) (Ng140 : Fr n0 Lg140) (Zg140 : n0 ≤ Hg140.size) (Kg140 : Keep h0 Hg140 []) (Fg140_0 : Exa Z Hg140 b102 "java/lang/StringBuilder") (Fg140_1 : Fld Z Hg140 b102 "java/lang/AbstractStringBuilder" "value" "[B" (.ref vv)) (Fg140_2 : Fld Z Hg140 b102 "java/lang/AbstractStringBuilder" "coder" "B" (.int 0)) (Fg140_3 : Fld Z Hg140 b102 "java/lang/AbstractStringBuilder" "count" "I" (.int (own_i ((own_B cl) ++ (uo.map own_dch)).length))) (Fg140_4 : Exa Z Hg140 vv "[B") (Fg140_5 : Arv Z Hg140 vv kv .byte zc ((((own_B cl) ++ (uo.map own_dch)).map own_i).map Value.int) (.int 0)) (Fg140_6 : Arv Z Hg140 a1 ka .int (own_i cl.length) ((cl.map own_i).map Value.int) (.int 0)) (Fg140_7 : Sta Z Hg140 "java/lang/String" "COMPACT_STRINGS" "Z" (.int cs)), Go p.tables e below (fun o U' => ∃ v L, o = .returned v ∧ Qrmenc Z a1 cl ka cs h0 n0 v U'.heap L ∧ FrameEnd s o U' L Rm19.cells Rm19.slots) (Tg140.setTop (mkF m 102 #[vR a1, vR b102, vI (own_i (own_bas cl).length), vI (own_i un), .val (.long (own_j ud)), .second, vI (own_i ub), vI (own_i uh), vI (own_i ux), vR a1, vI (own_i cl.length), vI (own_i ix), s12, s13, s14, s15, s16] [])) := by
        intro suf
        induction suf with
        | nil =>
         intro pre ix ux s12 hsp hix hX hux h_s12 Tg140 Hg140 Lg140 Xg140 eg140 Ng140 Zg140 Kg140 Fg140_0 Fg140_1 Fg140_2 Fg140_3 Fg140_4 Fg140_5 Fg140_6 Fg140_7
         show gG Tg140 m 102 #[vR a1, vR b102, vI (own_i (own_bas cl).length), vI (own_i un), .val (.long (own_j ud)), .second, vI (own_i ub), vI (own_i uh), vI (own_i ux), vR a1, vI (own_i cl.length), vI (own_i ix), s12, s13, s14, s15, s16] []
         have hn1 : cl.length = ix := by rw [hix, hsp, List.append_nil]
         have hm : own_nxt un cl 2147483647 = ux := hX.symm
         have ht0 := own_turn hcl hh hN84
         rw [hm] at ht0
         obtain ⟨t1, t2, t3, t4⟩ := ht0
         have hmul : (ux - un) * (uh + 1) ≤ (ux - un) * 4 := Nat.mul_le_mul_left _ (by omega)
         have hE0 : own_ds cl = own_rest cl (own_bas cl).length fu ux cl (ud + (ux - un) * (uh + 1)) ub uh uo := by rw [hE, own_outerT hN84, hm]
         refine Go.step (fun _ kt => XS.iload Xg140.here hx rfl (hb hby d2_102) rfl (XS.iload Xg140.here hx rfl (hb hby d2_104) rfl (XS.icmpYes Xg140.here hx rfl (pc0 := 106) (pc' := 142) rfl (hb hby d2_106) rfl (flt (own_ilF (a := ix) (b := cl.length) (by omega) (by omega) (by omega))).2.1 (by decide) (by decide) (XS.lload Xg140.here hx rfl (hb hby d2_142) rfl (XS.iload Xg140.here hx rfl (hb hby d2_144) rfl (XS.iloadN Xg140.here hx rfl (hb hby d2_146) rfl (XS.isub Xg140.here hx rfl (hb hby d2_147) rfl kt))))))) ?_
         show gG Tg140 m 148 #[vR a1, vR b102, vI (own_i (own_bas cl).length), vI (own_i un), .val (.long (own_j ud)), .second, vI (own_i ub), vI (own_i uh), vI (own_i ux), vR a1, vI (own_i cl.length), vI (own_i ix), s12, s13, s14, s15, s16] [(.int ((own_i ux) - (own_i un))), (.long (own_j ud))]
         have q141 : ((own_i ux) - (own_i un)) = (own_i (ux - un)) := own_is (a := ux) (b := un) (by omega)
         rw [q141]
         refine Go.step (fun _ kt => XS.i2l Xg140.here hx rfl (hb hby d2_148) rfl kt) ?_
         show gG Tg140 m 149 #[vR a1, vR b102, vI (own_i (own_bas cl).length), vI (own_i un), .val (.long (own_j ud)), .second, vI (own_i ub), vI (own_i uh), vI (own_i ux), vR a1, vI (own_i cl.length), vI (own_i ix), s12, s13, s14, s15, s16] [(.long ((own_i (ux - un)).toInt64)), (.long (own_j ud))]
         have q142 : ((own_i (ux - un)).toInt64) = (own_j (ux - un)) := own_ij (a := (ux - un)) (by omega)
         rw [q142]
         refine Go.step (fun _ kt => XS.iload Xg140.here hx rfl (hb hby d2_149) rfl (XS.iconst Xg140.here hx rfl (hb hby d2_151) (XS.iadd Xg140.here hx rfl (hb hby d2_152) rfl kt))) ?_
         show gG Tg140 m 153 #[vR a1, vR b102, vI (own_i (own_bas cl).length), vI (own_i un), .val (.long (own_j ud)), .second, vI (own_i ub), vI (own_i uh), vI (own_i ux), vR a1, vI (own_i cl.length), vI (own_i ix), s12, s13, s14, s15, s16] [(.int ((own_i uh) + (1 : Int32))), (.long (own_j (ux - un))), (.long (own_j ud))]
         have q143 : ((own_i uh) + (1 : Int32)) = (own_i (uh + 1)) := own_ia uh 1
         rw [q143]
         refine Go.step (fun _ kt => XS.i2l Xg140.here hx rfl (hb hby d2_153) rfl kt) ?_
         show gG Tg140 m 154 #[vR a1, vR b102, vI (own_i (own_bas cl).length), vI (own_i un), .val (.long (own_j ud)), .second, vI (own_i ub), vI (own_i uh), vI (own_i ux), vR a1, vI (own_i cl.length), vI (own_i ix), s12, s13, s14, s15, s16] [(.long ((own_i (uh + 1)).toInt64)), (.long (own_j (ux - un))), (.long (own_j ud))]
         have q144 : ((own_i (uh + 1)).toInt64) = (own_j (uh + 1)) := own_ij (a := (uh + 1)) (by omega)
         rw [q144]
         refine Go.step (fun _ kt => XS.lmul Xg140.here hx rfl (hb hby d2_154) rfl kt) ?_
         show gG Tg140 m 155 #[vR a1, vR b102, vI (own_i (own_bas cl).length), vI (own_i un), .val (.long (own_j ud)), .second, vI (own_i ub), vI (own_i uh), vI (own_i ux), vR a1, vI (own_i cl.length), vI (own_i ix), s12, s13, s14, s15, s16] [(.long ((own_j (ux - un)) * (own_j (uh + 1)))), (.long (own_j ud))]
         have q145 : ((own_j (ux - un)) * (own_j (uh + 1))) = (own_j ((ux - un) * (uh + 1))) := own_jm (ux - un) (uh + 1)
         rw [q145]
         refine Go.step (fun _ kt => XS.ladd Xg140.here hx rfl (hb hby d2_155) rfl kt) ?_
         show gG Tg140 m 156 #[vR a1, vR b102, vI (own_i (own_bas cl).length), vI (own_i un), .val (.long (own_j ud)), .second, vI (own_i ub), vI (own_i uh), vI (own_i ux), vR a1, vI (own_i cl.length), vI (own_i ix), s12, s13, s14, s15, s16] [(.long ((own_j ud) + (own_j ((ux - un) * (uh + 1)))))]
         have q146 : ((own_j ud) + (own_j ((ux - un) * (uh + 1)))) = (own_j (ud + ((ux - un) * (uh + 1)))) := own_ja ud ((ux - un) * (uh + 1))
         rw [q146]
         refine Go.step (fun _ kt => XS.lstore Xg140.here hx rfl (hb hby d2_156) rfl (l' := #[vR a1, vR b102, vI (own_i (own_bas cl).length), vI (own_i un), .val (.long (own_j (ud + ((ux - un) * (uh + 1))))), .second, vI (own_i ub), vI (own_i uh), vI (own_i ux), vR a1, vI (own_i cl.length), vI (own_i ix), s12, s13, s14, s15, s16]) rfl (XS.iload Xg140.here hx rfl (hb hby d2_158) rfl (XS.istoreN Xg140.here hx rfl (hb hby d2_160) rfl (l' := #[vR a1, vR b102, vI (own_i (own_bas cl).length), vI (own_i ux), .val (.long (own_j (ud + ((ux - un) * (uh + 1))))), .second, vI (own_i ub), vI (own_i uh), vI (own_i ux), vR a1, vI (own_i cl.length), vI (own_i ix), s12, s13, s14, s15, s16]) rfl (XS.aloadN Xg140.here hx rfl (hb hby d2_161) rfl rfl (XS.astore Xg140.here hx rfl (hb hby d2_162) rfl rfl (l' := #[vR a1, vR b102, vI (own_i (own_bas cl).length), vI (own_i ux), .val (.long (own_j (ud + ((ux - un) * (uh + 1))))), .second, vI (own_i ub), vI (own_i uh), vI (own_i ux), vR a1, vI (own_i cl.length), vI (own_i ix), s12, s13, s14, s15, s16]) rfl (XS.aload Xg140.here hx rfl (hb hby d2_164) rfl rfl kt)))))) ?_
         show gG Tg140 m 166 #[vR a1, vR b102, vI (own_i (own_bas cl).length), vI (own_i ux), .val (.long (own_j (ud + ((ux - un) * (uh + 1))))), .second, vI (own_i ub), vI (own_i uh), vI (own_i ux), vR a1, vI (own_i cl.length), vI (own_i ix), s12, s13, s14, s15, s16] [(.ref a1)]
         obtain ⟨cl147, Ar147, qa147, Sa147, Na147, Ha147, Ga147⟩ := (id Fg140_6)
         refine Go.step (Xg140.arraylength hx (by rw [eg140]; exact Ar147.1) (State.isArrayOf_alike hZ.alike Ar147.2.1) (g := (mkF m 166 #[vR a1, vR b102, vI (own_i (own_bas cl).length), vI (own_i ux), .val (.long (own_j (ud + ((ux - un) * (uh + 1))))), .second, vI (own_i ub), vI (own_i uh), vI (own_i ux), vR a1, vI (own_i cl.length), vI (own_i ix), s12, s13, s14, s15, s16] [(.ref a1)])) rfl rfl (hb hby d2_166)) ?_
         rw [len_of Sa147 Na147]
         show gG Tg140 m 167 #[vR a1, vR b102, vI (own_i (own_bas cl).length), vI (own_i ux), .val (.long (own_j (ud + ((ux - un) * (uh + 1))))), .second, vI (own_i ub), vI (own_i uh), vI (own_i ux), vR a1, vI (own_i cl.length), vI (own_i ix), s12, s13, s14, s15, s16] [(.int (own_i cl.length))]
         refine Go.step (fun _ kt => XS.istore Xg140.here hx rfl (hb hby d2_167) rfl (l' := #[vR a1, vR b102, vI (own_i (own_bas cl).length), vI (own_i ux), .val (.long (own_j (ud + ((ux - un) * (uh + 1))))), .second, vI (own_i ub), vI (own_i uh), vI (own_i ux), vR a1, vI (own_i cl.length), vI (own_i ix), s12, s13, s14, s15, s16]) rfl (XS.iconst Xg140.here hx rfl (hb hby d2_169) (XS.istore Xg140.here hx rfl (hb hby d2_170) rfl (l' := #[vR a1, vR b102, vI (own_i (own_bas cl).length), vI (own_i ux), .val (.long (own_j (ud + ((ux - un) * (uh + 1))))), .second, vI (own_i ub), vI (own_i uh), vI (own_i ux), vR a1, vI (own_i cl.length), vI 0, s12, s13, s14, s15, s16]) rfl kt))) ?_
         show gG Tg140 m 172 #[vR a1, vR b102, vI (own_i (own_bas cl).length), vI (own_i ux), .val (.long (own_j (ud + ((ux - un) * (uh + 1))))), .second, vI (own_i ub), vI (own_i uh), vI (own_i ux), vR a1, vI (own_i cl.length), vI 0, s12, s13, s14, s15, s16] []
         have q148 : (0 : Int32) = (own_i 0) := rfl
         rw [q148]
         have G172g149 : ∀ (suf : List Nat) (pre : List Nat) (ix : Nat) (xd : Nat) (xb : Nat) (xh : Nat) (xo : List Nat) (vv : Addr) (kv : ClassId) (zc : Int32) (kc : Nat) (ks : Nat) (s12 : Slot) (s13 : Slot) (s14 : Slot) (s15 : Slot) (s16 : Slot) (hsp : cl = pre ++ suf) (hix : ix = pre.length) (hE2 : own_ds cl = own_rest cl (own_bas cl).length fu ux suf xd xb xh xo) (hh2 : xh + (suf.filter (fun x => decide (x = ux))).length = (cl.filter (fun x => decide (x < ux + 1))).length) (hd2 : xd ≤ 5 * ux + ix) (hb2 : xb ≤ 1000000000) (hcap : (own_B cl).length + xo.length ≤ zc.toNatClampNeg) (hM : (zc = 16 ∧ kc = 2 ∧ ks = 20) ∨ (zc = 34 ∧ kc = 3 ∧ ks = 54)) (hkc : kc ≤ 3) (hks : ks ≤ 54) (g_vv : n0 ≤ vv) (sz_vv : h0.size ≤ vv) (ne_a1_vv : a1 ≠ vv) (h_s12 : s12 = .unset ∨ ∃ y, s12 = vI y) (h_s13 : (s13 = .unset ∧ s14 = .unset) ∨ ∃ y, s13 = .val (.long y) ∧ s14 = .second) (h_s15 : s15 = .unset ∨ ∃ y, s15 = vI y) (h_s16 : s16 = .unset ∨ ∃ y, s16 = vI y) (Tg149 : State) (Hg149 : Heap) (Lg149 : List Loc) (Xg149 : Stand p l e Rm19 s m #[(.ref a1)] below meth c Tg149 Lg149 kc ks) (eg149 : Tg149.heap = Hg149) (Ng149 : Fr n0 Lg149) (Zg149 : n0 ≤ Hg149.size) (Kg149 : Keep h0 Hg149 []) (Fg149_0 : Exa Z Hg149 b102 "java/lang/StringBuilder") (Fg149_1 : Fld Z Hg149 b102 "java/lang/AbstractStringBuilder" "value" "[B" (.ref vv)) (Fg149_2 : Fld Z Hg149 b102 "java/lang/AbstractStringBuilder" "coder" "B" (.int 0)) (Fg149_3 : Fld Z Hg149 b102 "java/lang/AbstractStringBuilder" "count" "I" (.int (own_i ((own_B cl) ++ (xo.map own_dch)).length))) (Fg149_4 : Exa Z Hg149 vv "[B") (Fg149_5 : Arv Z Hg149 vv kv .byte zc ((((own_B cl) ++ (xo.map own_dch)).map own_i).map Value.int) (.int 0)) (Fg149_6 : Arv Z Hg149 a1 ka .int (own_i cl.length) ((cl.map own_i).map Value.int) (.int 0)) (Fg149_7 : Sta Z Hg149 "java/lang/String" "COMPACT_STRINGS" "Z" (.int cs)), Go p.tables e below (fun o U' => ∃ v L, o = .returned v ∧ Qrmenc Z a1 cl ka cs h0 n0 v U'.heap L ∧ FrameEnd s o U' L Rm19.cells Rm19.slots) (Tg149.setTop (mkF m 172 #[vR a1, vR b102, vI (own_i (own_bas cl).length), vI (own_i ux), .val (.long (own_j xd)), .second, vI (own_i xb), vI (own_i xh), vI (own_i ux), vR a1, vI (own_i cl.length), vI (own_i ix), s12, s13, s14, s15, s16] [])) := by
          intro suf
          induction suf with
          | nil =>
           intro pre ix xd xb xh xo vv kv zc kc ks s12 s13 s14 s15 s16 hsp hix hE2 hh2 hd2 hb2 hcap hM hkc hks g_vv sz_vv ne_a1_vv h_s12 h_s13 h_s15 h_s16 Tg149 Hg149 Lg149 Xg149 eg149 Ng149 Zg149 Kg149 Fg149_0 Fg149_1 Fg149_2 Fg149_3 Fg149_4 Fg149_5 Fg149_6 Fg149_7
           show gG Tg149 m 172 #[vR a1, vR b102, vI (own_i (own_bas cl).length), vI (own_i ux), .val (.long (own_j xd)), .second, vI (own_i xb), vI (own_i xh), vI (own_i ux), vR a1, vI (own_i cl.length), vI (own_i ix), s12, s13, s14, s15, s16] []
           have hn1 : cl.length = ix := by rw [hix, hsp, List.append_nil]
           have hfl2 := List.length_filter_le (fun x => decide (x < ux + 1)) cl
           simp only [List.filter_nil, List.length_nil, Nat.add_zero] at hh2
           refine Go.step (fun _ kt => XS.iload Xg149.here hx rfl (hb hby d2_172) rfl (XS.iload Xg149.here hx rfl (hb hby d2_174) rfl (XS.icmpYes Xg149.here hx rfl (pc0 := 176) (pc' := 326) rfl (hb hby d2_176) rfl (flt (own_ilF (a := ix) (b := cl.length) (by omega) (by omega) (by omega))).2.1 (by decide) (by decide) (XS.lload Xg149.here hx rfl (hb hby d2_326) rfl (XS.lconst Xg149.here hx rfl (hb hby d2_328) (XS.ladd Xg149.here hx rfl (hb hby d2_329) rfl kt)))))) ?_
           show gG Tg149 m 330 #[vR a1, vR b102, vI (own_i (own_bas cl).length), vI (own_i ux), .val (.long (own_j xd)), .second, vI (own_i xb), vI (own_i xh), vI (own_i ux), vR a1, vI (own_i cl.length), vI (own_i ix), s12, s13, s14, s15, s16] [(.long ((own_j xd) + (1 : Int64)))]
           have q150 : ((own_j xd) + (1 : Int64)) = (own_j (xd + 1)) := own_ja xd 1
           rw [q150]
           refine Go.step (fun _ kt => XS.lstore Xg149.here hx rfl (hb hby d2_330) rfl (l' := #[vR a1, vR b102, vI (own_i (own_bas cl).length), vI (own_i ux), .val (.long (own_j (xd + 1))), .second, vI (own_i xb), vI (own_i xh), vI (own_i ux), vR a1, vI (own_i cl.length), vI (own_i ix), s12, s13, s14, s15, s16]) rfl (XS.iinc Xg149.here hx rfl (hb hby d2_332) rfl (l' := #[vR a1, vR b102, vI (own_i (own_bas cl).length), vI ((own_i ux) + (1 : Int32)), .val (.long (own_j (xd + 1))), .second, vI (own_i xb), vI (own_i xh), vI (own_i ux), vR a1, vI (own_i cl.length), vI (own_i ix), s12, s13, s14, s15, s16]) rfl kt)) ?_
           show gG Tg149 m 335 #[vR a1, vR b102, vI (own_i (own_bas cl).length), vI ((own_i ux) + (1 : Int32)), .val (.long (own_j (xd + 1))), .second, vI (own_i xb), vI (own_i xh), vI (own_i ux), vR a1, vI (own_i cl.length), vI (own_i ix), s12, s13, s14, s15, s16] []
           have q151 : ((own_i ux) + (1 : Int32)) = (own_i (ux + 1)) := own_ia ux 1
           rw [q151]
           refine Go.step (fun _ kt => XS.goto Xg149.here hx rfl (pc0 := 335) (pc' := 80) rfl (hb hby d2_335) (by decide) (by decide) kt) ?_
           show gG Tg149 m 80 #[vR a1, vR b102, vI (own_i (own_bas cl).length), vI (own_i (ux + 1)), .val (.long (own_j (xd + 1))), .second, vI (own_i xb), vI (own_i xh), vI (own_i ux), vR a1, vI (own_i cl.length), vI (own_i ix), s12, s13, s14, s15, s16] []
           exact ih80 (ux + 1) (xd + 1) xb xh xo vv kv zc kc ks _ _ _ _ _ _ _ _ _ hE2 hh2 (by omega) (by omega) hb2 (by omega) hcap hM hkc hks g_vv sz_vv ne_a1_vv (Or.inr ⟨_, rfl⟩) (Or.inr ⟨_, rfl⟩) (Or.inr ⟨_, rfl⟩) (Or.inr ⟨_, rfl⟩) h_s12 h_s13 h_s15 h_s16 _ _ _ Xg149 eg149 Ng149 Zg149 Kg149 Fg149_0 Fg149_1 Fg149_2 Fg149_3 Fg149_4 Fg149_5 Fg149_6 Fg149_7
          | cons cx suf ih172 =>
           intro pre ix xd xb xh xo vv kv zc kc ks s12 s13 s14 s15 s16 hsp hix hE2 hh2 hd2 hb2 hcap hM hkc hks g_vv sz_vv ne_a1_vv h_s12 h_s13 h_s15 h_s16 Tg149 Hg149 Lg149 Xg149 eg149 Ng149 Zg149 Kg149 Fg149_0 Fg149_1 Fg149_2 Fg149_3 Fg149_4 Fg149_5 Fg149_6 Fg149_7
           show gG Tg149 m 172 #[vR a1, vR b102, vI (own_i (own_bas cl).length), vI (own_i ux), .val (.long (own_j xd)), .second, vI (own_i xb), vI (own_i xh), vI (own_i ux), vR a1, vI (own_i cl.length), vI (own_i ix), s12, s13, s14, s15, s16] []
           have hn1 : ix < cl.length := by rw [hix, hsp, List.length_append, List.length_cons]; omega
           have hcb : cx ≤ 1114111 := hcl cx (by rw [hsp]; simp)
           have hfl2 := List.length_filter_le (fun x => decide (x < ux + 1)) cl
           refine Go.step (fun _ kt => XS.iload Xg149.here hx rfl (hb hby d2_172) rfl (XS.iload Xg149.here hx rfl (hb hby d2_174) rfl (XS.icmpNo Xg149.here hx rfl (hb hby d2_176) rfl (tlt (own_ilT (a := ix) (b := cl.length) (by omega) (by omega) (by omega))).2.1 (XS.aload Xg149.here hx rfl (hb hby d2_179) rfl rfl (XS.iload Xg149.here hx rfl (hb hby d2_181) rfl kt))))) ?_
           show gG Tg149 m 183 #[vR a1, vR b102, vI (own_i (own_bas cl).length), vI (own_i ux), .val (.long (own_j xd)), .second, vI (own_i xb), vI (own_i xh), vI (own_i ux), vR a1, vI (own_i cl.length), vI (own_i ix), s12, s13, s14, s15, s16] [(.int (own_i ix)), (.ref a1)]
           obtain ⟨cl152, Ar152, qa152, Sa152, Na152, Ha152, Ga152⟩ := (id Fg149_6)
           have hin152 : ¬ ((own_i ix) < 0 ∨ cl152.slots.size ≤ ((own_i ix)).toNatClampNeg) := own_inN Sa152 (own_ltN (by omega) (by omega)) (by omega)
           have hat152 : cl152.slots[((own_i ix)).toNatClampNeg]? = some (.int (own_i cx)) := at_of Ha152 hin152 (by rw [own_iN (by omega)]; exact own_atE hsp hix)
           refine Go.step (Xg149.iaload hx (j := (own_i ix)) (v := (.int (own_i cx))) (by rw [eg149]; exact Ar152.1) (State.isArrayOf_alike hZ.alike Ar152.2.1) Ar152.2.2 hin152 hat152 (g := (mkF m 183 #[vR a1, vR b102, vI (own_i (own_bas cl).length), vI (own_i ux), .val (.long (own_j xd)), .second, vI (own_i xb), vI (own_i xh), vI (own_i ux), vR a1, vI (own_i cl.length), vI (own_i ix), s12, s13, s14, s15, s16] [(.int (own_i ix)), (.ref a1)])) rfl rfl (hb hby d2_183)) ?_
           show gG Tg149 m 184 #[vR a1, vR b102, vI (own_i (own_bas cl).length), vI (own_i ux), .val (.long (own_j xd)), .second, vI (own_i xb), vI (own_i xh), vI (own_i ux), vR a1, vI (own_i cl.length), vI (own_i ix), s12, s13, s14, s15, s16] [(.int (own_i cx))]
           refine Go.step (fun _ kt => XS.istore Xg149.here hx rfl (hb hby d2_184) rfl (l' := #[vR a1, vR b102, vI (own_i (own_bas cl).length), vI (own_i ux), .val (.long (own_j xd)), .second, vI (own_i xb), vI (own_i xh), vI (own_i ux), vR a1, vI (own_i cl.length), vI (own_i ix), vI (own_i cx), s13, s14, s15, s16]) (by rcases h_s12 with rfl | ⟨_, rfl⟩ <;> rfl) (XS.iload Xg149.here hx rfl (hb hby d2_186) rfl (XS.iloadN Xg149.here hx rfl (hb hby d2_188) rfl kt))) ?_
           show gG Tg149 m 189 #[vR a1, vR b102, vI (own_i (own_bas cl).length), vI (own_i ux), .val (.long (own_j xd)), .second, vI (own_i xb), vI (own_i xh), vI (own_i ux), vR a1, vI (own_i cl.length), vI (own_i ix), vI (own_i cx), s13, s14, s15, s16] [(.int (own_i ux)), (.int (own_i cx))]
           by_cases hc189_153 : (own_i cx) < (own_i ux)
           ·have hN189 : cx < ux := own_ilt (a := cx) (b := ux) (by omega) (by omega) hc189_153
            refine Go.step (fun _ kt => XS.icmpNo Xg149.here hx rfl (hb hby d2_189) rfl (tlt hc189_153).2.1 (XS.lload Xg149.here hx rfl (hb hby d2_192) rfl (XS.lconst Xg149.here hx rfl (hb hby d2_194) (XS.ladd Xg149.here hx rfl (hb hby d2_195) rfl kt)))) ?_
            show gG Tg149 m 196 #[vR a1, vR b102, vI (own_i (own_bas cl).length), vI (own_i ux), .val (.long (own_j xd)), .second, vI (own_i xb), vI (own_i xh), vI (own_i ux), vR a1, vI (own_i cl.length), vI (own_i ix), vI (own_i cx), s13, s14, s15, s16] [(.long ((own_j xd) + (1 : Int64)))]
            have q154 : ((own_j xd) + (1 : Int64)) = (own_j (xd + 1)) := own_ja xd 1
            rw [q154]
            refine Go.step (fun _ kt => XS.lstore Xg149.here hx rfl (hb hby d2_196) rfl (l' := #[vR a1, vR b102, vI (own_i (own_bas cl).length), vI (own_i ux), .val (.long (own_j (xd + 1))), .second, vI (own_i xb), vI (own_i xh), vI (own_i ux), vR a1, vI (own_i cl.length), vI (own_i ix), vI (own_i cx), s13, s14, s15, s16]) rfl (XS.goto Xg149.here hx rfl (pc0 := 198) (pc' := 320) rfl (hb hby d2_198) (by decide) (by decide) (XS.iinc Xg149.here hx rfl (hb hby d2_320) rfl (l' := #[vR a1, vR b102, vI (own_i (own_bas cl).length), vI (own_i ux), .val (.long (own_j (xd + 1))), .second, vI (own_i xb), vI (own_i xh), vI (own_i ux), vR a1, vI (own_i cl.length), vI ((own_i ix) + (1 : Int32)), vI (own_i cx), s13, s14, s15, s16]) rfl kt))) ?_
            show gG Tg149 m 323 #[vR a1, vR b102, vI (own_i (own_bas cl).length), vI (own_i ux), .val (.long (own_j (xd + 1))), .second, vI (own_i xb), vI (own_i xh), vI (own_i ux), vR a1, vI (own_i cl.length), vI ((own_i ix) + (1 : Int32)), vI (own_i cx), s13, s14, s15, s16] []
            have q155 : ((own_i ix) + (1 : Int32)) = (own_i (ix + 1)) := own_ia ix 1
            rw [q155]
            refine Go.step (fun _ kt => XS.goto Xg149.here hx rfl (pc0 := 323) (pc' := 172) rfl (hb hby d2_323) (by decide) (by decide) kt) ?_
            show gG Tg149 m 172 #[vR a1, vR b102, vI (own_i (own_bas cl).length), vI (own_i ux), .val (.long (own_j (xd + 1))), .second, vI (own_i xb), vI (own_i xh), vI (own_i ux), vR a1, vI (own_i cl.length), vI (own_i (ix + 1)), vI (own_i cx), s13, s14, s15, s16] []
            exact ih172 (pre ++ [cx]) (ix + 1) (xd + 1) xb xh xo vv kv zc kc ks _ _ _ _ _ (by rw [hsp]; simp) (by rw [hix]; simp) (by rw [hE2, own_rest_lt hN189]) (by rw [List.filter_cons_of_neg (by simp; omega)] at hh2; exact hh2) (by omega) hb2 hcap hM hkc hks g_vv sz_vv ne_a1_vv (Or.inr ⟨_, rfl⟩) h_s13 h_s15 h_s16 _ _ _ Xg149 eg149 Ng149 Zg149 Kg149 Fg149_0 Fg149_1 Fg149_2 Fg149_3 Fg149_4 Fg149_5 Fg149_6 Fg149_7
           ·have hN189 : ¬ (cx < ux) := own_ilf (a := cx) (b := ux) (by omega) (by omega) hc189_153
            refine Go.step (fun _ kt => XS.icmpYes Xg149.here hx rfl (pc0 := 189) (pc' := 201) rfl (hb hby d2_189) rfl (flt hc189_153).2.1 (by decide) (by decide) (XS.iload Xg149.here hx rfl (hb hby d2_201) rfl (XS.iloadN Xg149.here hx rfl (hb hby d2_203) rfl kt))) ?_
            show gG Tg149 m 204 #[vR a1, vR b102, vI (own_i (own_bas cl).length), vI (own_i ux), .val (.long (own_j xd)), .second, vI (own_i xb), vI (own_i xh), vI (own_i ux), vR a1, vI (own_i cl.length), vI (own_i ix), vI (own_i cx), s13, s14, s15, s16] [(.int (own_i ux)), (.int (own_i cx))]
            by_cases hc204_156 : (own_i cx) = (own_i ux)
            ·have hN204 : cx = ux := own_iet (a := cx) (b := ux) (by omega) (by omega) hc204_156
             refine Go.step (fun _ kt => XS.icmpNo Xg149.here hx rfl (hb hby d2_204) rfl (teq hc204_156).2 kt) ?_
             show gG Tg149 m 207 #[vR a1, vR b102, vI (own_i (own_bas cl).length), vI (own_i ux), .val (.long (own_j xd)), .second, vI (own_i xb), vI (own_i xh), vI (own_i ux), vR a1, vI (own_i cl.length), vI (own_i ix), vI (own_i cx), s13, s14, s15, s16] []
             have hLn : (xo ++ own_vint xd 36 xb).length ≤ (own_ds cl).length := by rw [hE2, own_rest_eq hN204]; exact own_rest_len
             have hh3 : (xh + 1) + (suf.filter (fun x => decide (x = ux))).length = (cl.filter (fun x => decide (x < ux + 1))).length := by rw [List.filter_cons_of_pos (by simpa using hN204)] at hh2; simp only [List.length_cons] at hh2; omega
             refine Go.step (fun _ kt => XS.lload Xg149.here hx rfl (hb hby d2_207) rfl (XS.lstore Xg149.here hx rfl (hb hby d2_209) rfl (l' := #[vR a1, vR b102, vI (own_i (own_bas cl).length), vI (own_i ux), .val (.long (own_j xd)), .second, vI (own_i xb), vI (own_i xh), vI (own_i ux), vR a1, vI (own_i cl.length), vI (own_i ix), vI (own_i cx), .val (.long (own_j xd)), .second, s15, s16]) (by rcases h_s13 with ⟨rfl, rfl⟩ | ⟨_, rfl, rfl⟩ <;> rfl) (XS.bipush Xg149.here hx rfl (hb hby d2_211) (XS.istore Xg149.here hx rfl (hb hby d2_213) rfl (l' := #[vR a1, vR b102, vI (own_i (own_bas cl).length), vI (own_i ux), .val (.long (own_j xd)), .second, vI (own_i xb), vI (own_i xh), vI (own_i ux), vR a1, vI (own_i cl.length), vI (own_i ix), vI (own_i cx), .val (.long (own_j xd)), .second, vI 36, s16]) (by rcases h_s15 with rfl | ⟨_, rfl⟩ <;> rfl) kt)))) ?_
             show gG Tg149 m 215 #[vR a1, vR b102, vI (own_i (own_bas cl).length), vI (own_i ux), .val (.long (own_j xd)), .second, vI (own_i xb), vI (own_i xh), vI (own_i ux), vR a1, vI (own_i cl.length), vI (own_i ix), vI (own_i cx), .val (.long (own_j xd)), .second, vI 36, s16] []
             have q157 : (36 : Int32) = (own_i 36) := rfl
             rw [q157]
             have G215g158 : ∀ (gu : Nat) (uq : Nat) (uk : Nat) (uw : List Nat) (vv : Addr) (kv : ClassId) (zc : Int32) (kc : Nat) (ks : Nat) (s16 : Slot) (hV : uw ++ own_vint uq uk xb = xo ++ own_vint xd 36 xb) (hq : uq < gu) (hq2 : uq ≤ xd) (hk2 : uk ≤ 36 + 36 * uw.length) (hcap : (own_B cl).length + uw.length ≤ zc.toNatClampNeg) (hM : (zc = 16 ∧ kc = 2 ∧ ks = 20) ∨ (zc = 34 ∧ kc = 3 ∧ ks = 54)) (hkc : kc ≤ 3) (hks : ks ≤ 54) (g_vv : n0 ≤ vv) (sz_vv : h0.size ≤ vv) (ne_a1_vv : a1 ≠ vv) (h_s16 : s16 = .unset ∨ ∃ y, s16 = vI y) (Tg158 : State) (Hg158 : Heap) (Lg158 : List Loc) (Xg158 : Stand p l e Rm19 s m #[(.ref a1)] below meth c Tg158 Lg158 kc ks) (eg158 : Tg158.heap = Hg158) (Ng158 : Fr n0 Lg158) (Zg158 : n0 ≤ Hg158.size) (Kg158 : Keep h0 Hg158 []) (Fg158_0 : Exa Z Hg158 b102 "java/lang/StringBuilder") (Fg158_1 : Fld Z Hg158 b102 "java/lang/AbstractStringBuilder" "value" "[B" (.ref vv)) (Fg158_2 : Fld Z Hg158 b102 "java/lang/AbstractStringBuilder" "coder" "B" (.int 0)) (Fg158_3 : Fld Z Hg158 b102 "java/lang/AbstractStringBuilder" "count" "I" (.int (own_i ((own_B cl) ++ (uw.map own_dch)).length))) (Fg158_4 : Exa Z Hg158 vv "[B") (Fg158_5 : Arv Z Hg158 vv kv .byte zc ((((own_B cl) ++ (uw.map own_dch)).map own_i).map Value.int) (.int 0)) (Fg158_6 : Arv Z Hg158 a1 ka .int (own_i cl.length) ((cl.map own_i).map Value.int) (.int 0)) (Fg158_7 : Sta Z Hg158 "java/lang/String" "COMPACT_STRINGS" "Z" (.int cs)), Go p.tables e below (fun o U' => ∃ v L, o = .returned v ∧ Qrmenc Z a1 cl ka cs h0 n0 v U'.heap L ∧ FrameEnd s o U' L Rm19.cells Rm19.slots) (Tg158.setTop (mkF m 215 #[vR a1, vR b102, vI (own_i (own_bas cl).length), vI (own_i ux), .val (.long (own_j xd)), .second, vI (own_i xb), vI (own_i xh), vI (own_i ux), vR a1, vI (own_i cl.length), vI (own_i ix), vI (own_i cx), .val (.long (own_j uq)), .second, vI (own_i uk), s16] [])) := by
              intro gu
              induction gu with
              | zero =>
               intro uq uk uw vv kv zc kc ks s16 hV hq hq2 hk2 hcap hM hkc hks g_vv sz_vv ne_a1_vv h_s16 Tg158 Hg158 Lg158 Xg158 eg158 Ng158 Zg158 Kg158 Fg158_0 Fg158_1 Fg158_2 Fg158_3 Fg158_4 Fg158_5 Fg158_6 Fg158_7
               exact absurd hq (Nat.not_lt_zero _)
              | succ gu ih215 =>
               intro uq uk uw vv kv zc kc ks s16 hV hq hq2 hk2 hcap hM hkc hks g_vv sz_vv ne_a1_vv h_s16 Tg158 Hg158 Lg158 Xg158 eg158 Ng158 Zg158 Kg158 Fg158_0 Fg158_1 Fg158_2 Fg158_3 Fg158_4 Fg158_5 Fg158_6 Fg158_7
               show gG Tg158 m 215 #[vR a1, vR b102, vI (own_i (own_bas cl).length), vI (own_i ux), .val (.long (own_j xd)), .second, vI (own_i xb), vI (own_i xh), vI (own_i ux), vR a1, vI (own_i cl.length), vI (own_i ix), vI (own_i cx), .val (.long (own_j uq)), .second, vI (own_i uk), s16] []
               have ht := own_thr_le uk xb
               have hVl : uw.length + (own_vint uq uk xb).length = (xo ++ own_vint xd 36 xb).length := by rw [← hV, List.length_append]
               have hVp := List.length_pos_iff.mpr (own_vint_ne uq uk xb)
               refine Go.step (fun _ kt => XS.iload Xg158.here hx rfl (hb hby d2_215) rfl (XS.iload Xg158.here hx rfl (hb hby d2_217) rfl kt)) ?_
               obtain ⟨_, _, ⟨T159, L159, k159, n159⟩, -, X159, ⟨Lc159, hQ159, l159, y159, z159⟩, st159⟩ := Jvm.LawKit.callS Xg158 hx (y := Y2) hown (mvT hZ (w171 hw)) (mvT hZ (w172 hw)) (mvT hZ (w9 hw)) (mvT hZ (w173 hw)) (by decide) (backOf (W := 0) (rmthr l Z a0 hw []  uk xb Hg158 n0 Zg158  (by omega) (by omega)) hZ (w173 hw) (w9 hw) (by decide) (by decide)) (g := (mkF m 219 #[vR a1, vR b102, vI (own_i (own_bas cl).length), vI (own_i ux), .val (.long (own_j xd)), .second, vI (own_i xb), vI (own_i xh), vI (own_i ux), vR a1, vI (own_i cl.length), vI (own_i ix), vI (own_i cx), .val (.long (own_j uq)), .second, vI (own_i uk), s16] [(.int (own_i xb)), (.int (own_i uk))])) rfl hml.symm (argsL := [(.int (own_i uk)), (.int (own_i xb))]) (rest := []) (lenOf pd_0 rfl) rfl (Nat.le_of_eq rfl) (hb hby d2_219) (fun _ _ => ⟨rfl, eg158, (Nat.le_trans hkc (by decide)), (Nat.le_trans hks (by decide))⟩)
               dsimp only [Pt.U, Pt.locs, Pt.cells, Pt.slots] at X159 l159 y159 z159 st159 hQ159
               subst l159 y159 z159
               obtain ⟨rfl, N159q, eh159⟩ := hQ159
               have N159 := Fr.app Ng158 N159q
               refine Go.step st159 ?_
               show gG T159 m 222 #[vR a1, vR b102, vI (own_i (own_bas cl).length), vI (own_i ux), .val (.long (own_j xd)), .second, vI (own_i xb), vI (own_i xh), vI (own_i ux), vR a1, vI (own_i cl.length), vI (own_i ix), vI (own_i cx), .val (.long (own_j uq)), .second, vI (own_i uk), s16] [(.int (own_i (own_thr uk xb)))]
               refine Go.step (fun _ kt => XS.istore X159.here hx rfl (hb hby d2_222) rfl (l' := #[vR a1, vR b102, vI (own_i (own_bas cl).length), vI (own_i ux), .val (.long (own_j xd)), .second, vI (own_i xb), vI (own_i xh), vI (own_i ux), vR a1, vI (own_i cl.length), vI (own_i ix), vI (own_i cx), .val (.long (own_j uq)), .second, vI (own_i uk), vI (own_i (own_thr uk xb))]) (by rcases h_s16 with rfl | ⟨_, rfl⟩ <;> rfl) (XS.lload X159.here hx rfl (hb hby d2_224) rfl (XS.iload X159.here hx rfl (hb hby d2_226) rfl (XS.i2l X159.here hx rfl (hb hby d2_228) rfl kt)))) ?_
               show gG T159 m 229 #[vR a1, vR b102, vI (own_i (own_bas cl).length), vI (own_i ux), .val (.long (own_j xd)), .second, vI (own_i xb), vI (own_i xh), vI (own_i ux), vR a1, vI (own_i cl.length), vI (own_i ix), vI (own_i cx), .val (.long (own_j uq)), .second, vI (own_i uk), vI (own_i (own_thr uk xb))] [(.long ((own_i (own_thr uk xb)).toInt64)), (.long (own_j uq))]
               have q160 : ((own_i (own_thr uk xb)).toInt64) = (own_j (own_thr uk xb)) := own_ij (a := (own_thr uk xb)) (by omega)
               rw [q160]
               refine Go.step (fun _ kt => XS.lcmp X159.here hx rfl (hb hby d2_229) rfl kt) ?_
               show gG T159 m 230 #[vR a1, vR b102, vI (own_i (own_bas cl).length), vI (own_i ux), .val (.long (own_j xd)), .second, vI (own_i xb), vI (own_i xh), vI (own_i ux), vR a1, vI (own_i cl.length), vI (own_i ix), vI (own_i cx), .val (.long (own_j uq)), .second, vI (own_i uk), vI (own_i (own_thr uk xb))] [(.int (lcmpW (own_j uq) (own_j (own_thr uk xb))))]
               by_cases hc230_161 : (lcmpW (own_j uq) (own_j (own_thr uk xb))) < (0 : Int32)
               ·have hN230 : uq < (own_thr uk xb) := own_llt (a := uq) (b := (own_thr uk xb)) (by omega) (by omega) hc230_161
                refine Go.step (fun _ kt => XS.ifNo X159.here hx rfl (hb hby d2_230) rfl ((if0 _ _).trans (tlt hc230_161).2.1) (XS.goto X159.here hx rfl (pc0 := 233) (pc' := 282) rfl (hb hby d2_233) (by decide) (by decide) (XS.aloadN X159.here hx rfl (hb hby d2_282) rfl rfl (XS.lload X159.here hx rfl (hb hby d2_283) rfl kt)))) ?_
                show gG T159 m 285 #[vR a1, vR b102, vI (own_i (own_bas cl).length), vI (own_i ux), .val (.long (own_j xd)), .second, vI (own_i xb), vI (own_i xh), vI (own_i ux), vR a1, vI (own_i cl.length), vI (own_i ix), vI (own_i cx), .val (.long (own_j uq)), .second, vI (own_i uk), vI (own_i (own_thr uk xb))] [(.long (own_j uq)), (.ref b102)]
                obtain ⟨_, _, ⟨T162, L162, k162, n162⟩, -, X162, ⟨Lc162, hQ162, l162, y162, z162⟩, st162⟩ := Jvm.LawKit.callS X159 hx (y := Y3) hown (mvT hZ (w174 hw)) (mvT hZ (w175 hw)) (mvT hZ (w9 hw)) (mvT hZ (w176 hw)) (by decide) (backOf (W := 1) (rmdch l Z a0 hw []  uq Hg158 n0 Zg158  (by omega)) hZ (w176 hw) (w9 hw) (by decide) (by decide)) (g := (mkF m 285 #[vR a1, vR b102, vI (own_i (own_bas cl).length), vI (own_i ux), .val (.long (own_j xd)), .second, vI (own_i xb), vI (own_i xh), vI (own_i ux), vR a1, vI (own_i cl.length), vI (own_i ix), vI (own_i cx), .val (.long (own_j uq)), .second, vI (own_i uk), vI (own_i (own_thr uk xb))] [(.long (own_j uq)), (.ref b102)])) rfl hml.symm (argsL := [(.long (own_j uq))]) (rest := [(.ref b102)]) (lenOf pd_20 rfl) rfl (Nat.le_of_eq rfl) (hb hby d2_285) (fun _ _ => ⟨rfl, eh159, (Nat.le_trans hkc (by decide)), (Nat.le_trans hks (by decide))⟩)
                dsimp only [Pt.U, Pt.locs, Pt.cells, Pt.slots] at X162 l162 y162 z162 st162 hQ162
                subst l162 y162 z162
                obtain ⟨rfl, N162q, eh162⟩ := hQ162
                have N162 := Fr.app N159 N162q
                refine Go.step st162 ?_
                show gG T162 m 288 #[vR a1, vR b102, vI (own_i (own_bas cl).length), vI (own_i ux), .val (.long (own_j xd)), .second, vI (own_i xb), vI (own_i xh), vI (own_i ux), vR a1, vI (own_i cl.length), vI (own_i ix), vI (own_i cx), .val (.long (own_j uq)), .second, vI (own_i uk), vI (own_i (own_thr uk xb))] [(.int (own_i (own_dch uq))), (.ref b102)]
                have hTx : (((own_B cl) ++ (uw.map own_dch))).length = (own_B cl).length + uw.length := by simp
                have hdl := (own_dch_lt (d := uq) (by omega)).1
                rcases hM with ⟨rfl, rfl, rfl⟩ | ⟨rfl, rfl, rfl⟩
                ·by_cases hg16 : (own_B cl).length + uw.length < 16
                 ·show gG T162 m 288 #[vR a1, vR b102, vI (own_i (own_bas cl).length), vI (own_i ux), .val (.long (own_j xd)), .second, vI (own_i xb), vI (own_i xh), vI (own_i ux), vR a1, vI (own_i cl.length), vI (own_i ix), vI (own_i cx), .val (.long (own_j uq)), .second, vI (own_i uk), vI (own_i (own_thr uk xb))] [(.int (own_i (own_dch uq))), (.ref b102)]
                  obtain ⟨cq163, kq163, q163a, q163b, q163c⟩ := isOf hZ eh162 Fg158_0
                  obtain ⟨_, _, ⟨T163, L163, k163, n163⟩, -, X163, ⟨Lc163, hQ163, l163, y163, z163⟩, st163⟩ := X162.virtualBack hx (y := Y19) (z := Y19) hown (mvT hZ (w151 hw)) (mvT hZ (w152 hw)) (notFace_of_selects (args := #[]) (mvT hZ (w154 hw))) (mvT hZ (w154 hw)) (mvT hZ (w153 hw)) (by decide) (backOf (W := 0) (rmap28n l Z a0 hw [] b102 (own_dch uq) (16 : Int32) ((own_B cl) ++ (uw.map own_dch)) vv kv cs Hg158 n0 Zg158 Fg158_0 Fg158_1 Fg158_2 Fg158_3 Fg158_4 Fg158_5 Fg158_7 g_b102 hcs hdl g_vv ⟨by rw [hTx]; exact Nat.lt_of_lt_of_le (show _ < 16 by omega) (by decide), by rw [hTx]; omega⟩) hZ (w155 hw) (w13 hw) (by decide) (by decide)) q163a q163c (g := (mkF m 288 #[vR a1, vR b102, vI (own_i (own_bas cl).length), vI (own_i ux), .val (.long (own_j xd)), .second, vI (own_i xb), vI (own_i xh), vI (own_i ux), vR a1, vI (own_i cl.length), vI (own_i ix), vI (own_i cx), .val (.long (own_j uq)), .second, vI (own_i uk), vI (own_i (own_thr uk xb))] [(.int (own_i (own_dch uq))), (.ref b102)])) rfl hml.symm (Steps.refl _) (argsL := [(.int (own_i (own_dch uq)))]) (rest := []) (lenOf pd_21 rfl) rfl (Nat.le_of_eq rfl) (hb hby d2_288) (fun _ _ => ⟨rfl, eh162, (by decide : 2 + 0 ≤ _), (by decide : 20 + 0 ≤ _)⟩)
                  dsimp only [Pt.U, Pt.locs, Pt.cells, Pt.slots] at X163 l163 y163 z163 st163 hQ163
                  subst l163 y163 z163
                  obtain ⟨rfl, N163q, Kq163, P164, P165, P166, P167, P168, P169⟩ := hQ163
                  have F170 := (Fg158_0.keep Kq163)
                  have F171 := (Fg158_4.keep Kq163)
                  have F172 := (Fg158_6.keep Kq163 (by simp only [List.mem_cons, List.not_mem_nil, or_false, not_or]; exact ⟨ne_a1_b102, ne_a1_vv⟩))
                  have F173 := (own_sta_keep Fg158_7 Kq163 (by intro x hx; rcases List.mem_cons.mp hx with rfl | hx; exact ⟨_, Fg158_0⟩; cases List.mem_singleton.mp hx; exact ⟨_, Fg158_4⟩))
                  have Z174 : n0 ≤ T163.heap.size := (Nat.le_trans Zg158 Kq163.1)
                  have K175 : Keep h0 T163.heap [] := (Kg158.trans Kq163 (by intro x hx; simp only [List.mem_cons, List.not_mem_nil, or_false] at hx; rcases hx with rfl | rfl; exact Or.inr sz_b102; exact Or.inr sz_vv))
                  have N163 := Fr.app N162 N163q
                  refine Go.step (fun _ kt => st163.trans kt) ?_
                  show gG T163 m 291 #[vR a1, vR b102, vI (own_i (own_bas cl).length), vI (own_i ux), .val (.long (own_j xd)), .second, vI (own_i xb), vI (own_i xh), vI (own_i ux), vR a1, vI (own_i cl.length), vI (own_i ix), vI (own_i cx), .val (.long (own_j uq)), .second, vI (own_i uk), vI (own_i (own_thr uk xb))] [(.ref b102)]
                  have hvl1 : (own_vint uq uk xb).length = 1 := by rw [own_vint_lt hN230]; rfl
                  have R176 : Fld Z T163.heap b102 "java/lang/AbstractStringBuilder" "count" "I" (.int (own_i ((own_B cl) ++ ((xo ++ own_vint xd 36 xb).map own_dch)).length)) := by rw [← hV, own_vint_lt hN230, ← own_txA]; exact P167
                  have R177 : Arv Z T163.heap vv kv .byte (16 : Int32) ((((own_B cl) ++ ((xo ++ own_vint xd 36 xb).map own_dch)).map own_i).map Value.int) (.int 0) := by rw [← hV, own_vint_lt hN230, ← own_txA]; exact P169
                  refine Go.step (fun _ kt => XS.pop X163.here hx rfl (hb hby d2_291) rfl rfl (XS.lload X163.here hx rfl (hb hby d2_292) rfl (XS.iload X163.here hx rfl (hb hby d2_294) rfl (XS.iconst X163.here hx rfl (hb hby d2_296) (XS.iadd X163.here hx rfl (hb hby d2_297) rfl kt))))) ?_
                  show gG T163 m 298 #[vR a1, vR b102, vI (own_i (own_bas cl).length), vI (own_i ux), .val (.long (own_j xd)), .second, vI (own_i xb), vI (own_i xh), vI (own_i ux), vR a1, vI (own_i cl.length), vI (own_i ix), vI (own_i cx), .val (.long (own_j uq)), .second, vI (own_i uk), vI (own_i (own_thr uk xb))] [(.int ((own_i xh) + (1 : Int32))), (.long (own_j xd))]
                  have q178 : ((own_i xh) + (1 : Int32)) = (own_i (xh + 1)) := own_ia xh 1
                  rw [q178]
                  refine Go.step (fun _ kt => XS.iload X163.here hx rfl (hb hby d2_298) rfl (XS.iloadN X163.here hx rfl (hb hby d2_300) rfl kt)) ?_
                  show gG T163 m 301 #[vR a1, vR b102, vI (own_i (own_bas cl).length), vI (own_i ux), .val (.long (own_j xd)), .second, vI (own_i xb), vI (own_i xh), vI (own_i ux), vR a1, vI (own_i cl.length), vI (own_i ix), vI (own_i cx), .val (.long (own_j uq)), .second, vI (own_i uk), vI (own_i (own_thr uk xb))] [(.int (own_i (own_bas cl).length)), (.int (own_i xh)), (.int (own_i (xh + 1))), (.long (own_j xd))]
                  by_cases hc301_179 : (own_i xh) = (own_i (own_bas cl).length)
                  ·have hN301 : xh = (own_bas cl).length := own_iet (a := xh) (b := (own_bas cl).length) (by omega) (by omega) hc301_179
                   refine Go.step (fun _ kt => XS.icmpNo X163.here hx rfl (hb hby d2_301) rfl (teq hc301_179).2 (XS.iconst X163.here hx rfl (hb hby d2_304) (XS.goto X163.here hx rfl (pc0 := 305) (pc' := 309) rfl (hb hby d2_305) (by decide) (by decide) kt))) ?_
                   show gG T163 m 309 #[vR a1, vR b102, vI (own_i (own_bas cl).length), vI (own_i ux), .val (.long (own_j xd)), .second, vI (own_i xb), vI (own_i xh), vI (own_i ux), vR a1, vI (own_i cl.length), vI (own_i ix), vI (own_i cx), .val (.long (own_j uq)), .second, vI (own_i uk), vI (own_i (own_thr uk xb))] [(.int 1), (.int (own_i (xh + 1))), (.long (own_j xd))]
                   have hbq : (xh == (own_bas cl).length) = true := by simp [hN301]
                   obtain ⟨_, _, ⟨T180, L180, k180, n180⟩, -, X180, ⟨Lc180, hQ180, l180, y180, z180⟩, st180⟩ := Jvm.LawKit.callS X163 hx (y := Y4) hown (mvT hZ (w179 hw)) (mvT hZ (w180 hw)) (mvT hZ (w9 hw)) (mvT hZ (w181 hw)) (by decide) (backOf (W := 0) (rmad l Z a0 hw [] (1 : Int32) xd (xh + 1) true T163.heap n0 Z174  (by omega) (by omega) rfl) hZ (w181 hw) (w9 hw) (by decide) (by decide)) (g := (mkF m 309 #[vR a1, vR b102, vI (own_i (own_bas cl).length), vI (own_i ux), .val (.long (own_j xd)), .second, vI (own_i xb), vI (own_i xh), vI (own_i ux), vR a1, vI (own_i cl.length), vI (own_i ix), vI (own_i cx), .val (.long (own_j uq)), .second, vI (own_i uk), vI (own_i (own_thr uk xb))] [(.int 1), (.int (own_i (xh + 1))), (.long (own_j xd))])) rfl hml.symm (argsL := [(.long (own_j xd)), (.int (own_i (xh + 1))), (.int 1)]) (rest := []) (lenOf pd_22 rfl) rfl (Nat.le_of_eq rfl) (hb hby d2_309) (fun _ _ => ⟨rfl, rfl, (by decide : 2 + 0 ≤ _), (by decide : 20 + 0 ≤ _)⟩)
                   dsimp only [Pt.U, Pt.locs, Pt.cells, Pt.slots] at X180 l180 y180 z180 st180 hQ180
                   subst l180 y180 z180
                   obtain ⟨rfl, N180q, eh180⟩ := hQ180
                   have N180 := Fr.app N163 N180q
                   refine Go.step st180 ?_
                   show gG T180 m 312 #[vR a1, vR b102, vI (own_i (own_bas cl).length), vI (own_i ux), .val (.long (own_j xd)), .second, vI (own_i xb), vI (own_i xh), vI (own_i ux), vR a1, vI (own_i cl.length), vI (own_i ix), vI (own_i cx), .val (.long (own_j uq)), .second, vI (own_i uk), vI (own_i (own_thr uk xb))] [(.int (own_i (own_adapt xd (xh + 1) true)))]
                   refine Go.step (fun _ kt => XS.istore X180.here hx rfl (hb hby d2_312) rfl (l' := #[vR a1, vR b102, vI (own_i (own_bas cl).length), vI (own_i ux), .val (.long (own_j xd)), .second, vI (own_i (own_adapt xd (xh + 1) true)), vI (own_i xh), vI (own_i ux), vR a1, vI (own_i cl.length), vI (own_i ix), vI (own_i cx), .val (.long (own_j uq)), .second, vI (own_i uk), vI (own_i (own_thr uk xb))]) rfl (XS.lconst X180.here hx rfl (hb hby d2_314) (XS.lstore X180.here hx rfl (hb hby d2_315) rfl (l' := #[vR a1, vR b102, vI (own_i (own_bas cl).length), vI (own_i ux), .val (.long (0 : Int64)), .second, vI (own_i (own_adapt xd (xh + 1) true)), vI (own_i xh), vI (own_i ux), vR a1, vI (own_i cl.length), vI (own_i ix), vI (own_i cx), .val (.long (own_j uq)), .second, vI (own_i uk), vI (own_i (own_thr uk xb))]) rfl kt))) ?_
                   show gG T180 m 317 #[vR a1, vR b102, vI (own_i (own_bas cl).length), vI (own_i ux), .val (.long (0 : Int64)), .second, vI (own_i (own_adapt xd (xh + 1) true)), vI (own_i xh), vI (own_i ux), vR a1, vI (own_i cl.length), vI (own_i ix), vI (own_i cx), .val (.long (own_j uq)), .second, vI (own_i uk), vI (own_i (own_thr uk xb))] []
                   have q181 : (0 : Int64) = (own_j 0) := rfl
                   rw [q181]
                   refine Go.step (fun _ kt => XS.iinc X180.here hx rfl (hb hby d2_317) rfl (l' := #[vR a1, vR b102, vI (own_i (own_bas cl).length), vI (own_i ux), .val (.long (own_j 0)), .second, vI (own_i (own_adapt xd (xh + 1) true)), vI ((own_i xh) + (1 : Int32)), vI (own_i ux), vR a1, vI (own_i cl.length), vI (own_i ix), vI (own_i cx), .val (.long (own_j uq)), .second, vI (own_i uk), vI (own_i (own_thr uk xb))]) rfl kt) ?_
                   show gG T180 m 320 #[vR a1, vR b102, vI (own_i (own_bas cl).length), vI (own_i ux), .val (.long (own_j 0)), .second, vI (own_i (own_adapt xd (xh + 1) true)), vI ((own_i xh) + (1 : Int32)), vI (own_i ux), vR a1, vI (own_i cl.length), vI (own_i ix), vI (own_i cx), .val (.long (own_j uq)), .second, vI (own_i uk), vI (own_i (own_thr uk xb))] []
                   have q182 : ((own_i xh) + (1 : Int32)) = (own_i (xh + 1)) := own_ia xh 1
                   rw [q182]
                   refine Go.step (fun _ kt => XS.iinc X180.here hx rfl (hb hby d2_320) rfl (l' := #[vR a1, vR b102, vI (own_i (own_bas cl).length), vI (own_i ux), .val (.long (own_j 0)), .second, vI (own_i (own_adapt xd (xh + 1) true)), vI (own_i (xh + 1)), vI (own_i ux), vR a1, vI (own_i cl.length), vI ((own_i ix) + (1 : Int32)), vI (own_i cx), .val (.long (own_j uq)), .second, vI (own_i uk), vI (own_i (own_thr uk xb))]) rfl kt) ?_
                   show gG T180 m 323 #[vR a1, vR b102, vI (own_i (own_bas cl).length), vI (own_i ux), .val (.long (own_j 0)), .second, vI (own_i (own_adapt xd (xh + 1) true)), vI (own_i (xh + 1)), vI (own_i ux), vR a1, vI (own_i cl.length), vI ((own_i ix) + (1 : Int32)), vI (own_i cx), .val (.long (own_j uq)), .second, vI (own_i uk), vI (own_i (own_thr uk xb))] []
                   have q183 : ((own_i ix) + (1 : Int32)) = (own_i (ix + 1)) := own_ia ix 1
                   rw [q183]
                   refine Go.step (fun _ kt => XS.goto X180.here hx rfl (pc0 := 323) (pc' := 172) rfl (hb hby d2_323) (by decide) (by decide) kt) ?_
                   show gG T180 m 172 #[vR a1, vR b102, vI (own_i (own_bas cl).length), vI (own_i ux), .val (.long (own_j 0)), .second, vI (own_i (own_adapt xd (xh + 1) true)), vI (own_i (xh + 1)), vI (own_i ux), vR a1, vI (own_i cl.length), vI (own_i (ix + 1)), vI (own_i cx), .val (.long (own_j uq)), .second, vI (own_i uk), vI (own_i (own_thr uk xb))] []
                   exact ih172 (pre ++ [cx]) (ix + 1) 0 (own_adapt xd (xh + 1) true) (xh + 1) (xo ++ own_vint xd 36 xb) vv kv (16 : Int32) 2 20 _ _ _ _ _ (by rw [hsp]; simp) (by rw [hix]; simp) (by rw [hE2, own_rest_eq hN204, hbq]) hh3 (by omega) (own_adapt_le true (by omega) (by omega)) (Nat.le_trans (show (own_B cl).length + (xo ++ own_vint xd 36 xb).length ≤ 16 by omega) (by decide)) (Or.inl ⟨rfl, rfl, rfl⟩) (by decide) (by decide) g_vv sz_vv ne_a1_vv (Or.inr ⟨_, rfl⟩) (Or.inr ⟨_, rfl, rfl⟩) (Or.inr ⟨_, rfl⟩) (Or.inr ⟨_, rfl⟩) _ _ _ (X180.more (by decide) (by decide)) eh180 N180 Z174 K175 P164 P165 P166 R176 P168 R177 F172 F173
                  ·have hN301 : ¬ (xh = (own_bas cl).length) := own_ief (a := xh) (b := (own_bas cl).length) (by omega) (by omega) hc301_179
                   refine Go.step (fun _ kt => XS.icmpYes X163.here hx rfl (pc0 := 301) (pc' := 308) rfl (hb hby d2_301) rfl (feq hc301_179).2 (by decide) (by decide) (XS.iconst X163.here hx rfl (hb hby d2_308) kt)) ?_
                   show gG T163 m 309 #[vR a1, vR b102, vI (own_i (own_bas cl).length), vI (own_i ux), .val (.long (own_j xd)), .second, vI (own_i xb), vI (own_i xh), vI (own_i ux), vR a1, vI (own_i cl.length), vI (own_i ix), vI (own_i cx), .val (.long (own_j uq)), .second, vI (own_i uk), vI (own_i (own_thr uk xb))] [(.int 0), (.int (own_i (xh + 1))), (.long (own_j xd))]
                   have hbq : (xh == (own_bas cl).length) = false := by simp [hN301]
                   obtain ⟨_, _, ⟨T184, L184, k184, n184⟩, -, X184, ⟨Lc184, hQ184, l184, y184, z184⟩, st184⟩ := Jvm.LawKit.callS X163 hx (y := Y4) hown (mvT hZ (w179 hw)) (mvT hZ (w180 hw)) (mvT hZ (w9 hw)) (mvT hZ (w181 hw)) (by decide) (backOf (W := 0) (rmad l Z a0 hw [] (0 : Int32) xd (xh + 1) false T163.heap n0 Z174  (by omega) (by omega) rfl) hZ (w181 hw) (w9 hw) (by decide) (by decide)) (g := (mkF m 309 #[vR a1, vR b102, vI (own_i (own_bas cl).length), vI (own_i ux), .val (.long (own_j xd)), .second, vI (own_i xb), vI (own_i xh), vI (own_i ux), vR a1, vI (own_i cl.length), vI (own_i ix), vI (own_i cx), .val (.long (own_j uq)), .second, vI (own_i uk), vI (own_i (own_thr uk xb))] [(.int 0), (.int (own_i (xh + 1))), (.long (own_j xd))])) rfl hml.symm (argsL := [(.long (own_j xd)), (.int (own_i (xh + 1))), (.int 0)]) (rest := []) (lenOf pd_22 rfl) rfl (Nat.le_of_eq rfl) (hb hby d2_309) (fun _ _ => ⟨rfl, rfl, (by decide : 2 + 0 ≤ _), (by decide : 20 + 0 ≤ _)⟩)
                   dsimp only [Pt.U, Pt.locs, Pt.cells, Pt.slots] at X184 l184 y184 z184 st184 hQ184
                   subst l184 y184 z184
                   obtain ⟨rfl, N184q, eh184⟩ := hQ184
                   have N184 := Fr.app N163 N184q
                   refine Go.step st184 ?_
                   show gG T184 m 312 #[vR a1, vR b102, vI (own_i (own_bas cl).length), vI (own_i ux), .val (.long (own_j xd)), .second, vI (own_i xb), vI (own_i xh), vI (own_i ux), vR a1, vI (own_i cl.length), vI (own_i ix), vI (own_i cx), .val (.long (own_j uq)), .second, vI (own_i uk), vI (own_i (own_thr uk xb))] [(.int (own_i (own_adapt xd (xh + 1) false)))]
                   refine Go.step (fun _ kt => XS.istore X184.here hx rfl (hb hby d2_312) rfl (l' := #[vR a1, vR b102, vI (own_i (own_bas cl).length), vI (own_i ux), .val (.long (own_j xd)), .second, vI (own_i (own_adapt xd (xh + 1) false)), vI (own_i xh), vI (own_i ux), vR a1, vI (own_i cl.length), vI (own_i ix), vI (own_i cx), .val (.long (own_j uq)), .second, vI (own_i uk), vI (own_i (own_thr uk xb))]) rfl (XS.lconst X184.here hx rfl (hb hby d2_314) (XS.lstore X184.here hx rfl (hb hby d2_315) rfl (l' := #[vR a1, vR b102, vI (own_i (own_bas cl).length), vI (own_i ux), .val (.long (0 : Int64)), .second, vI (own_i (own_adapt xd (xh + 1) false)), vI (own_i xh), vI (own_i ux), vR a1, vI (own_i cl.length), vI (own_i ix), vI (own_i cx), .val (.long (own_j uq)), .second, vI (own_i uk), vI (own_i (own_thr uk xb))]) rfl kt))) ?_
                   show gG T184 m 317 #[vR a1, vR b102, vI (own_i (own_bas cl).length), vI (own_i ux), .val (.long (0 : Int64)), .second, vI (own_i (own_adapt xd (xh + 1) false)), vI (own_i xh), vI (own_i ux), vR a1, vI (own_i cl.length), vI (own_i ix), vI (own_i cx), .val (.long (own_j uq)), .second, vI (own_i uk), vI (own_i (own_thr uk xb))] []
                   have q185 : (0 : Int64) = (own_j 0) := rfl
                   rw [q185]
                   refine Go.step (fun _ kt => XS.iinc X184.here hx rfl (hb hby d2_317) rfl (l' := #[vR a1, vR b102, vI (own_i (own_bas cl).length), vI (own_i ux), .val (.long (own_j 0)), .second, vI (own_i (own_adapt xd (xh + 1) false)), vI ((own_i xh) + (1 : Int32)), vI (own_i ux), vR a1, vI (own_i cl.length), vI (own_i ix), vI (own_i cx), .val (.long (own_j uq)), .second, vI (own_i uk), vI (own_i (own_thr uk xb))]) rfl kt) ?_
                   show gG T184 m 320 #[vR a1, vR b102, vI (own_i (own_bas cl).length), vI (own_i ux), .val (.long (own_j 0)), .second, vI (own_i (own_adapt xd (xh + 1) false)), vI ((own_i xh) + (1 : Int32)), vI (own_i ux), vR a1, vI (own_i cl.length), vI (own_i ix), vI (own_i cx), .val (.long (own_j uq)), .second, vI (own_i uk), vI (own_i (own_thr uk xb))] []
                   have q186 : ((own_i xh) + (1 : Int32)) = (own_i (xh + 1)) := own_ia xh 1
                   rw [q186]
                   refine Go.step (fun _ kt => XS.iinc X184.here hx rfl (hb hby d2_320) rfl (l' := #[vR a1, vR b102, vI (own_i (own_bas cl).length), vI (own_i ux), .val (.long (own_j 0)), .second, vI (own_i (own_adapt xd (xh + 1) false)), vI (own_i (xh + 1)), vI (own_i ux), vR a1, vI (own_i cl.length), vI ((own_i ix) + (1 : Int32)), vI (own_i cx), .val (.long (own_j uq)), .second, vI (own_i uk), vI (own_i (own_thr uk xb))]) rfl kt) ?_
                   show gG T184 m 323 #[vR a1, vR b102, vI (own_i (own_bas cl).length), vI (own_i ux), .val (.long (own_j 0)), .second, vI (own_i (own_adapt xd (xh + 1) false)), vI (own_i (xh + 1)), vI (own_i ux), vR a1, vI (own_i cl.length), vI ((own_i ix) + (1 : Int32)), vI (own_i cx), .val (.long (own_j uq)), .second, vI (own_i uk), vI (own_i (own_thr uk xb))] []
                   have q187 : ((own_i ix) + (1 : Int32)) = (own_i (ix + 1)) := own_ia ix 1
                   rw [q187]
                   refine Go.step (fun _ kt => XS.goto X184.here hx rfl (pc0 := 323) (pc' := 172) rfl (hb hby d2_323) (by decide) (by decide) kt) ?_
                   show gG T184 m 172 #[vR a1, vR b102, vI (own_i (own_bas cl).length), vI (own_i ux), .val (.long (own_j 0)), .second, vI (own_i (own_adapt xd (xh + 1) false)), vI (own_i (xh + 1)), vI (own_i ux), vR a1, vI (own_i cl.length), vI (own_i (ix + 1)), vI (own_i cx), .val (.long (own_j uq)), .second, vI (own_i uk), vI (own_i (own_thr uk xb))] []
                   exact ih172 (pre ++ [cx]) (ix + 1) 0 (own_adapt xd (xh + 1) false) (xh + 1) (xo ++ own_vint xd 36 xb) vv kv (16 : Int32) 2 20 _ _ _ _ _ (by rw [hsp]; simp) (by rw [hix]; simp) (by rw [hE2, own_rest_eq hN204, hbq]) hh3 (by omega) (own_adapt_le false (by omega) (by omega)) (Nat.le_trans (show (own_B cl).length + (xo ++ own_vint xd 36 xb).length ≤ 16 by omega) (by decide)) (Or.inl ⟨rfl, rfl, rfl⟩) (by decide) (by decide) g_vv sz_vv ne_a1_vv (Or.inr ⟨_, rfl⟩) (Or.inr ⟨_, rfl, rfl⟩) (Or.inr ⟨_, rfl⟩) (Or.inr ⟨_, rfl⟩) _ _ _ (X184.more (by decide) (by decide)) eh184 N184 Z174 K175 P164 P165 P166 R176 P168 R177 F172 F173
                 ·have hc16 : (own_B cl).length + uw.length = 16 := by have q : (16 : Int32).toNatClampNeg = 16 := (by decide); omega
                  show gG T162 m 288 #[vR a1, vR b102, vI (own_i (own_bas cl).length), vI (own_i ux), .val (.long (own_j xd)), .second, vI (own_i xb), vI (own_i xh), vI (own_i ux), vR a1, vI (own_i cl.length), vI (own_i ix), vI (own_i cx), .val (.long (own_j uq)), .second, vI (own_i uk), vI (own_i (own_thr uk xb))] [(.int (own_i (own_dch uq))), (.ref b102)]
                  obtain ⟨cq188, kq188, q188a, q188b, q188c⟩ := isOf hZ eh162 Fg158_0
                  obtain ⟨_, _, ⟨T188, L188, k188, n188⟩, -, X188, ⟨Lc188, hQ188, l188, y188, z188⟩, st188⟩ := X162.virtualBack hx (y := Y19) (z := Y19) hown (mvT hZ (w151 hw)) (mvT hZ (w152 hw)) (notFace_of_selects (args := #[]) (mvT hZ (w154 hw))) (mvT hZ (w154 hw)) (mvT hZ (w153 hw)) (by decide) (backOf (W := 0) (rmap28g l Z a0 hw [] b102 (own_dch uq) ((own_B cl) ++ (uw.map own_dch)) vv kv cs Hg158 n0 Zg158 Fg158_0 Fg158_1 Fg158_2 Fg158_3 Fg158_4 Fg158_5 Fg158_7 g_b102 hcs hdl (by rw [hTx]; exact hc16)) hZ (w155 hw) (w13 hw) (by decide) (by decide)) q188a q188c (g := (mkF m 288 #[vR a1, vR b102, vI (own_i (own_bas cl).length), vI (own_i ux), .val (.long (own_j xd)), .second, vI (own_i xb), vI (own_i xh), vI (own_i ux), vR a1, vI (own_i cl.length), vI (own_i ix), vI (own_i cx), .val (.long (own_j uq)), .second, vI (own_i uk), vI (own_i (own_thr uk xb))] [(.int (own_i (own_dch uq))), (.ref b102)])) rfl hml.symm (Steps.refl _) (argsL := [(.int (own_i (own_dch uq)))]) (rest := []) (lenOf pd_21 rfl) rfl (Nat.le_of_eq rfl) (hb hby d2_288) (fun _ _ => ⟨rfl, eh162, (by decide : 2 + 1 ≤ _), (by decide : 20 + 34 ≤ _)⟩)
                  dsimp only [Pt.U, Pt.locs, Pt.cells, Pt.slots] at X188 l188 y188 z188 st188 hQ188
                  subst l188 y188 z188
                  obtain ⟨b188v2, b188k2, rfl, N188q, Kq188, P189, P190, P191, P192, P193, P194, g_b188v2, szq_b188v2⟩ := hQ188
                  have ne_b102_b188v2 : b102 ≠ b188v2 := Nat.ne_of_lt (Nat.lt_of_lt_of_le Fg158_0.lt szq_b188v2)
                  have ne_vv_b188v2 : vv ≠ b188v2 := Nat.ne_of_lt (Nat.lt_of_lt_of_le Fg158_4.lt szq_b188v2)
                  have ne_a1_b188v2 : a1 ≠ b188v2 := Nat.ne_of_lt (Nat.lt_of_lt_of_le Fg158_6.lt szq_b188v2)
                  have sz_b188v2 : h0.size ≤ b188v2 := Nat.le_trans Kg158.1 szq_b188v2
                  have F195 := (Fg158_0.keep Kq188)
                  have F196 := (Fg158_4.keep Kq188)
                  have F197 := (Fg158_5.keep Kq188 (fun q => (Exa.ne Fg158_4 Fg158_0 (by decide)) (List.mem_singleton.mp q)))
                  have F198 := (Fg158_6.keep Kq188 (fun q => ne_a1_b102 (List.mem_singleton.mp q)))
                  have F199 := (own_sta_keep Fg158_7 Kq188 (by intro x hx; cases List.mem_singleton.mp hx; exact ⟨_, Fg158_0⟩))
                  have Z200 : n0 ≤ T188.heap.size := (Nat.le_trans Zg158 Kq188.1)
                  have K201 : Keep h0 T188.heap [] := (Kg158.trans Kq188 (by intro x hx; cases List.mem_singleton.mp hx; exact (Or.inr sz_b102)))
                  have N188 := Fr.app N162 N188q
                  refine Go.step (fun _ kt => st188.trans kt) ?_
                  show gG T188 m 291 #[vR a1, vR b102, vI (own_i (own_bas cl).length), vI (own_i ux), .val (.long (own_j xd)), .second, vI (own_i xb), vI (own_i xh), vI (own_i ux), vR a1, vI (own_i cl.length), vI (own_i ix), vI (own_i cx), .val (.long (own_j uq)), .second, vI (own_i uk), vI (own_i (own_thr uk xb))] [(.ref b102)]
                  have hvl1 : (own_vint uq uk xb).length = 1 := by rw [own_vint_lt hN230]; rfl
                  have R202 : Fld Z T188.heap b102 "java/lang/AbstractStringBuilder" "count" "I" (.int (own_i ((own_B cl) ++ ((xo ++ own_vint xd 36 xb).map own_dch)).length)) := by rw [← hV, own_vint_lt hN230, ← own_txA]; exact P192
                  have R203 : Arv Z T188.heap b188v2 b188k2 .byte (34 : Int32) ((((own_B cl) ++ ((xo ++ own_vint xd 36 xb).map own_dch)).map own_i).map Value.int) (.int 0) := by rw [← hV, own_vint_lt hN230, ← own_txA]; exact P194
                  refine Go.step (fun _ kt => XS.pop X188.here hx rfl (hb hby d2_291) rfl rfl (XS.lload X188.here hx rfl (hb hby d2_292) rfl (XS.iload X188.here hx rfl (hb hby d2_294) rfl (XS.iconst X188.here hx rfl (hb hby d2_296) (XS.iadd X188.here hx rfl (hb hby d2_297) rfl kt))))) ?_
                  show gG T188 m 298 #[vR a1, vR b102, vI (own_i (own_bas cl).length), vI (own_i ux), .val (.long (own_j xd)), .second, vI (own_i xb), vI (own_i xh), vI (own_i ux), vR a1, vI (own_i cl.length), vI (own_i ix), vI (own_i cx), .val (.long (own_j uq)), .second, vI (own_i uk), vI (own_i (own_thr uk xb))] [(.int ((own_i xh) + (1 : Int32))), (.long (own_j xd))]
                  have q204 : ((own_i xh) + (1 : Int32)) = (own_i (xh + 1)) := own_ia xh 1
                  rw [q204]
                  refine Go.step (fun _ kt => XS.iload X188.here hx rfl (hb hby d2_298) rfl (XS.iloadN X188.here hx rfl (hb hby d2_300) rfl kt)) ?_
                  show gG T188 m 301 #[vR a1, vR b102, vI (own_i (own_bas cl).length), vI (own_i ux), .val (.long (own_j xd)), .second, vI (own_i xb), vI (own_i xh), vI (own_i ux), vR a1, vI (own_i cl.length), vI (own_i ix), vI (own_i cx), .val (.long (own_j uq)), .second, vI (own_i uk), vI (own_i (own_thr uk xb))] [(.int (own_i (own_bas cl).length)), (.int (own_i xh)), (.int (own_i (xh + 1))), (.long (own_j xd))]
                  by_cases hc301_205 : (own_i xh) = (own_i (own_bas cl).length)
                  ·have hN301 : xh = (own_bas cl).length := own_iet (a := xh) (b := (own_bas cl).length) (by omega) (by omega) hc301_205
                   refine Go.step (fun _ kt => XS.icmpNo X188.here hx rfl (hb hby d2_301) rfl (teq hc301_205).2 (XS.iconst X188.here hx rfl (hb hby d2_304) (XS.goto X188.here hx rfl (pc0 := 305) (pc' := 309) rfl (hb hby d2_305) (by decide) (by decide) kt))) ?_
                   show gG T188 m 309 #[vR a1, vR b102, vI (own_i (own_bas cl).length), vI (own_i ux), .val (.long (own_j xd)), .second, vI (own_i xb), vI (own_i xh), vI (own_i ux), vR a1, vI (own_i cl.length), vI (own_i ix), vI (own_i cx), .val (.long (own_j uq)), .second, vI (own_i uk), vI (own_i (own_thr uk xb))] [(.int 1), (.int (own_i (xh + 1))), (.long (own_j xd))]
                   have hbq : (xh == (own_bas cl).length) = true := by simp [hN301]
                   obtain ⟨_, _, ⟨T206, L206, k206, n206⟩, -, X206, ⟨Lc206, hQ206, l206, y206, z206⟩, st206⟩ := Jvm.LawKit.callS X188 hx (y := Y4) hown (mvT hZ (w179 hw)) (mvT hZ (w180 hw)) (mvT hZ (w9 hw)) (mvT hZ (w181 hw)) (by decide) (backOf (W := 0) (rmad l Z a0 hw [] (1 : Int32) xd (xh + 1) true T188.heap n0 Z200  (by omega) (by omega) rfl) hZ (w181 hw) (w9 hw) (by decide) (by decide)) (g := (mkF m 309 #[vR a1, vR b102, vI (own_i (own_bas cl).length), vI (own_i ux), .val (.long (own_j xd)), .second, vI (own_i xb), vI (own_i xh), vI (own_i ux), vR a1, vI (own_i cl.length), vI (own_i ix), vI (own_i cx), .val (.long (own_j uq)), .second, vI (own_i uk), vI (own_i (own_thr uk xb))] [(.int 1), (.int (own_i (xh + 1))), (.long (own_j xd))])) rfl hml.symm (argsL := [(.long (own_j xd)), (.int (own_i (xh + 1))), (.int 1)]) (rest := []) (lenOf pd_22 rfl) rfl (Nat.le_of_eq rfl) (hb hby d2_309) (fun _ _ => ⟨rfl, rfl, (by decide : 3 + 0 ≤ _), (by decide : 54 + 0 ≤ _)⟩)
                   dsimp only [Pt.U, Pt.locs, Pt.cells, Pt.slots] at X206 l206 y206 z206 st206 hQ206
                   subst l206 y206 z206
                   obtain ⟨rfl, N206q, eh206⟩ := hQ206
                   have N206 := Fr.app N188 N206q
                   refine Go.step st206 ?_
                   show gG T206 m 312 #[vR a1, vR b102, vI (own_i (own_bas cl).length), vI (own_i ux), .val (.long (own_j xd)), .second, vI (own_i xb), vI (own_i xh), vI (own_i ux), vR a1, vI (own_i cl.length), vI (own_i ix), vI (own_i cx), .val (.long (own_j uq)), .second, vI (own_i uk), vI (own_i (own_thr uk xb))] [(.int (own_i (own_adapt xd (xh + 1) true)))]
                   refine Go.step (fun _ kt => XS.istore X206.here hx rfl (hb hby d2_312) rfl (l' := #[vR a1, vR b102, vI (own_i (own_bas cl).length), vI (own_i ux), .val (.long (own_j xd)), .second, vI (own_i (own_adapt xd (xh + 1) true)), vI (own_i xh), vI (own_i ux), vR a1, vI (own_i cl.length), vI (own_i ix), vI (own_i cx), .val (.long (own_j uq)), .second, vI (own_i uk), vI (own_i (own_thr uk xb))]) rfl (XS.lconst X206.here hx rfl (hb hby d2_314) (XS.lstore X206.here hx rfl (hb hby d2_315) rfl (l' := #[vR a1, vR b102, vI (own_i (own_bas cl).length), vI (own_i ux), .val (.long (0 : Int64)), .second, vI (own_i (own_adapt xd (xh + 1) true)), vI (own_i xh), vI (own_i ux), vR a1, vI (own_i cl.length), vI (own_i ix), vI (own_i cx), .val (.long (own_j uq)), .second, vI (own_i uk), vI (own_i (own_thr uk xb))]) rfl kt))) ?_
                   show gG T206 m 317 #[vR a1, vR b102, vI (own_i (own_bas cl).length), vI (own_i ux), .val (.long (0 : Int64)), .second, vI (own_i (own_adapt xd (xh + 1) true)), vI (own_i xh), vI (own_i ux), vR a1, vI (own_i cl.length), vI (own_i ix), vI (own_i cx), .val (.long (own_j uq)), .second, vI (own_i uk), vI (own_i (own_thr uk xb))] []
                   have q207 : (0 : Int64) = (own_j 0) := rfl
                   rw [q207]
                   refine Go.step (fun _ kt => XS.iinc X206.here hx rfl (hb hby d2_317) rfl (l' := #[vR a1, vR b102, vI (own_i (own_bas cl).length), vI (own_i ux), .val (.long (own_j 0)), .second, vI (own_i (own_adapt xd (xh + 1) true)), vI ((own_i xh) + (1 : Int32)), vI (own_i ux), vR a1, vI (own_i cl.length), vI (own_i ix), vI (own_i cx), .val (.long (own_j uq)), .second, vI (own_i uk), vI (own_i (own_thr uk xb))]) rfl kt) ?_
                   show gG T206 m 320 #[vR a1, vR b102, vI (own_i (own_bas cl).length), vI (own_i ux), .val (.long (own_j 0)), .second, vI (own_i (own_adapt xd (xh + 1) true)), vI ((own_i xh) + (1 : Int32)), vI (own_i ux), vR a1, vI (own_i cl.length), vI (own_i ix), vI (own_i cx), .val (.long (own_j uq)), .second, vI (own_i uk), vI (own_i (own_thr uk xb))] []
                   have q208 : ((own_i xh) + (1 : Int32)) = (own_i (xh + 1)) := own_ia xh 1
                   rw [q208]
                   refine Go.step (fun _ kt => XS.iinc X206.here hx rfl (hb hby d2_320) rfl (l' := #[vR a1, vR b102, vI (own_i (own_bas cl).length), vI (own_i ux), .val (.long (own_j 0)), .second, vI (own_i (own_adapt xd (xh + 1) true)), vI (own_i (xh + 1)), vI (own_i ux), vR a1, vI (own_i cl.length), vI ((own_i ix) + (1 : Int32)), vI (own_i cx), .val (.long (own_j uq)), .second, vI (own_i uk), vI (own_i (own_thr uk xb))]) rfl kt) ?_
                   show gG T206 m 323 #[vR a1, vR b102, vI (own_i (own_bas cl).length), vI (own_i ux), .val (.long (own_j 0)), .second, vI (own_i (own_adapt xd (xh + 1) true)), vI (own_i (xh + 1)), vI (own_i ux), vR a1, vI (own_i cl.length), vI ((own_i ix) + (1 : Int32)), vI (own_i cx), .val (.long (own_j uq)), .second, vI (own_i uk), vI (own_i (own_thr uk xb))] []
                   have q209 : ((own_i ix) + (1 : Int32)) = (own_i (ix + 1)) := own_ia ix 1
                   rw [q209]
                   refine Go.step (fun _ kt => XS.goto X206.here hx rfl (pc0 := 323) (pc' := 172) rfl (hb hby d2_323) (by decide) (by decide) kt) ?_
                   show gG T206 m 172 #[vR a1, vR b102, vI (own_i (own_bas cl).length), vI (own_i ux), .val (.long (own_j 0)), .second, vI (own_i (own_adapt xd (xh + 1) true)), vI (own_i (xh + 1)), vI (own_i ux), vR a1, vI (own_i cl.length), vI (own_i (ix + 1)), vI (own_i cx), .val (.long (own_j uq)), .second, vI (own_i uk), vI (own_i (own_thr uk xb))] []
                   exact ih172 (pre ++ [cx]) (ix + 1) 0 (own_adapt xd (xh + 1) true) (xh + 1) (xo ++ own_vint xd 36 xb) b188v2 b188k2 (34 : Int32) 3 54 _ _ _ _ _ (by rw [hsp]; simp) (by rw [hix]; simp) (by rw [hE2, own_rest_eq hN204, hbq]) hh3 (by omega) (own_adapt_le true (by omega) (by omega)) (Nat.le_trans (show (own_B cl).length + (xo ++ own_vint xd 36 xb).length ≤ 34 by omega) (by decide)) (Or.inr ⟨rfl, rfl, rfl⟩) (by decide) (by decide) g_b188v2 sz_b188v2 ne_a1_b188v2 (Or.inr ⟨_, rfl⟩) (Or.inr ⟨_, rfl, rfl⟩) (Or.inr ⟨_, rfl⟩) (Or.inr ⟨_, rfl⟩) _ _ _ (X206.more (by decide) (by decide)) eh206 N206 Z200 K201 P189 P190 P191 R202 P193 R203 F198 F199
                  ·have hN301 : ¬ (xh = (own_bas cl).length) := own_ief (a := xh) (b := (own_bas cl).length) (by omega) (by omega) hc301_205
                   refine Go.step (fun _ kt => XS.icmpYes X188.here hx rfl (pc0 := 301) (pc' := 308) rfl (hb hby d2_301) rfl (feq hc301_205).2 (by decide) (by decide) (XS.iconst X188.here hx rfl (hb hby d2_308) kt)) ?_
                   show gG T188 m 309 #[vR a1, vR b102, vI (own_i (own_bas cl).length), vI (own_i ux), .val (.long (own_j xd)), .second, vI (own_i xb), vI (own_i xh), vI (own_i ux), vR a1, vI (own_i cl.length), vI (own_i ix), vI (own_i cx), .val (.long (own_j uq)), .second, vI (own_i uk), vI (own_i (own_thr uk xb))] [(.int 0), (.int (own_i (xh + 1))), (.long (own_j xd))]
                   have hbq : (xh == (own_bas cl).length) = false := by simp [hN301]
                   obtain ⟨_, _, ⟨T210, L210, k210, n210⟩, -, X210, ⟨Lc210, hQ210, l210, y210, z210⟩, st210⟩ := Jvm.LawKit.callS X188 hx (y := Y4) hown (mvT hZ (w179 hw)) (mvT hZ (w180 hw)) (mvT hZ (w9 hw)) (mvT hZ (w181 hw)) (by decide) (backOf (W := 0) (rmad l Z a0 hw [] (0 : Int32) xd (xh + 1) false T188.heap n0 Z200  (by omega) (by omega) rfl) hZ (w181 hw) (w9 hw) (by decide) (by decide)) (g := (mkF m 309 #[vR a1, vR b102, vI (own_i (own_bas cl).length), vI (own_i ux), .val (.long (own_j xd)), .second, vI (own_i xb), vI (own_i xh), vI (own_i ux), vR a1, vI (own_i cl.length), vI (own_i ix), vI (own_i cx), .val (.long (own_j uq)), .second, vI (own_i uk), vI (own_i (own_thr uk xb))] [(.int 0), (.int (own_i (xh + 1))), (.long (own_j xd))])) rfl hml.symm (argsL := [(.long (own_j xd)), (.int (own_i (xh + 1))), (.int 0)]) (rest := []) (lenOf pd_22 rfl) rfl (Nat.le_of_eq rfl) (hb hby d2_309) (fun _ _ => ⟨rfl, rfl, (by decide : 3 + 0 ≤ _), (by decide : 54 + 0 ≤ _)⟩)
                   dsimp only [Pt.U, Pt.locs, Pt.cells, Pt.slots] at X210 l210 y210 z210 st210 hQ210
                   subst l210 y210 z210
                   obtain ⟨rfl, N210q, eh210⟩ := hQ210
                   have N210 := Fr.app N188 N210q
                   refine Go.step st210 ?_
                   show gG T210 m 312 #[vR a1, vR b102, vI (own_i (own_bas cl).length), vI (own_i ux), .val (.long (own_j xd)), .second, vI (own_i xb), vI (own_i xh), vI (own_i ux), vR a1, vI (own_i cl.length), vI (own_i ix), vI (own_i cx), .val (.long (own_j uq)), .second, vI (own_i uk), vI (own_i (own_thr uk xb))] [(.int (own_i (own_adapt xd (xh + 1) false)))]
                   refine Go.step (fun _ kt => XS.istore X210.here hx rfl (hb hby d2_312) rfl (l' := #[vR a1, vR b102, vI (own_i (own_bas cl).length), vI (own_i ux), .val (.long (own_j xd)), .second, vI (own_i (own_adapt xd (xh + 1) false)), vI (own_i xh), vI (own_i ux), vR a1, vI (own_i cl.length), vI (own_i ix), vI (own_i cx), .val (.long (own_j uq)), .second, vI (own_i uk), vI (own_i (own_thr uk xb))]) rfl (XS.lconst X210.here hx rfl (hb hby d2_314) (XS.lstore X210.here hx rfl (hb hby d2_315) rfl (l' := #[vR a1, vR b102, vI (own_i (own_bas cl).length), vI (own_i ux), .val (.long (0 : Int64)), .second, vI (own_i (own_adapt xd (xh + 1) false)), vI (own_i xh), vI (own_i ux), vR a1, vI (own_i cl.length), vI (own_i ix), vI (own_i cx), .val (.long (own_j uq)), .second, vI (own_i uk), vI (own_i (own_thr uk xb))]) rfl kt))) ?_
                   show gG T210 m 317 #[vR a1, vR b102, vI (own_i (own_bas cl).length), vI (own_i ux), .val (.long (0 : Int64)), .second, vI (own_i (own_adapt xd (xh + 1) false)), vI (own_i xh), vI (own_i ux), vR a1, vI (own_i cl.length), vI (own_i ix), vI (own_i cx), .val (.long (own_j uq)), .second, vI (own_i uk), vI (own_i (own_thr uk xb))] []
                   have q211 : (0 : Int64) = (own_j 0) := rfl
                   rw [q211]
                   refine Go.step (fun _ kt => XS.iinc X210.here hx rfl (hb hby d2_317) rfl (l' := #[vR a1, vR b102, vI (own_i (own_bas cl).length), vI (own_i ux), .val (.long (own_j 0)), .second, vI (own_i (own_adapt xd (xh + 1) false)), vI ((own_i xh) + (1 : Int32)), vI (own_i ux), vR a1, vI (own_i cl.length), vI (own_i ix), vI (own_i cx), .val (.long (own_j uq)), .second, vI (own_i uk), vI (own_i (own_thr uk xb))]) rfl kt) ?_
                   show gG T210 m 320 #[vR a1, vR b102, vI (own_i (own_bas cl).length), vI (own_i ux), .val (.long (own_j 0)), .second, vI (own_i (own_adapt xd (xh + 1) false)), vI ((own_i xh) + (1 : Int32)), vI (own_i ux), vR a1, vI (own_i cl.length), vI (own_i ix), vI (own_i cx), .val (.long (own_j uq)), .second, vI (own_i uk), vI (own_i (own_thr uk xb))] []
                   have q212 : ((own_i xh) + (1 : Int32)) = (own_i (xh + 1)) := own_ia xh 1
                   rw [q212]
                   refine Go.step (fun _ kt => XS.iinc X210.here hx rfl (hb hby d2_320) rfl (l' := #[vR a1, vR b102, vI (own_i (own_bas cl).length), vI (own_i ux), .val (.long (own_j 0)), .second, vI (own_i (own_adapt xd (xh + 1) false)), vI (own_i (xh + 1)), vI (own_i ux), vR a1, vI (own_i cl.length), vI ((own_i ix) + (1 : Int32)), vI (own_i cx), .val (.long (own_j uq)), .second, vI (own_i uk), vI (own_i (own_thr uk xb))]) rfl kt) ?_
                   show gG T210 m 323 #[vR a1, vR b102, vI (own_i (own_bas cl).length), vI (own_i ux), .val (.long (own_j 0)), .second, vI (own_i (own_adapt xd (xh + 1) false)), vI (own_i (xh + 1)), vI (own_i ux), vR a1, vI (own_i cl.length), vI ((own_i ix) + (1 : Int32)), vI (own_i cx), .val (.long (own_j uq)), .second, vI (own_i uk), vI (own_i (own_thr uk xb))] []
                   have q213 : ((own_i ix) + (1 : Int32)) = (own_i (ix + 1)) := own_ia ix 1
                   rw [q213]
                   refine Go.step (fun _ kt => XS.goto X210.here hx rfl (pc0 := 323) (pc' := 172) rfl (hb hby d2_323) (by decide) (by decide) kt) ?_
                   show gG T210 m 172 #[vR a1, vR b102, vI (own_i (own_bas cl).length), vI (own_i ux), .val (.long (own_j 0)), .second, vI (own_i (own_adapt xd (xh + 1) false)), vI (own_i (xh + 1)), vI (own_i ux), vR a1, vI (own_i cl.length), vI (own_i (ix + 1)), vI (own_i cx), .val (.long (own_j uq)), .second, vI (own_i uk), vI (own_i (own_thr uk xb))] []
                   exact ih172 (pre ++ [cx]) (ix + 1) 0 (own_adapt xd (xh + 1) false) (xh + 1) (xo ++ own_vint xd 36 xb) b188v2 b188k2 (34 : Int32) 3 54 _ _ _ _ _ (by rw [hsp]; simp) (by rw [hix]; simp) (by rw [hE2, own_rest_eq hN204, hbq]) hh3 (by omega) (own_adapt_le false (by omega) (by omega)) (Nat.le_trans (show (own_B cl).length + (xo ++ own_vint xd 36 xb).length ≤ 34 by omega) (by decide)) (Or.inr ⟨rfl, rfl, rfl⟩) (by decide) (by decide) g_b188v2 sz_b188v2 ne_a1_b188v2 (Or.inr ⟨_, rfl⟩) (Or.inr ⟨_, rfl, rfl⟩) (Or.inr ⟨_, rfl⟩) (Or.inr ⟨_, rfl⟩) _ _ _ (X210.more (by decide) (by decide)) eh210 N210 Z200 K201 P189 P190 P191 R202 P193 R203 F198 F199
                ·show gG T162 m 288 #[vR a1, vR b102, vI (own_i (own_bas cl).length), vI (own_i ux), .val (.long (own_j xd)), .second, vI (own_i xb), vI (own_i xh), vI (own_i ux), vR a1, vI (own_i cl.length), vI (own_i ix), vI (own_i cx), .val (.long (own_j uq)), .second, vI (own_i uk), vI (own_i (own_thr uk xb))] [(.int (own_i (own_dch uq))), (.ref b102)]
                 obtain ⟨cq214, kq214, q214a, q214b, q214c⟩ := isOf hZ eh162 Fg158_0
                 obtain ⟨_, _, ⟨T214, L214, k214, n214⟩, -, X214, ⟨Lc214, hQ214, l214, y214, z214⟩, st214⟩ := X162.virtualBack hx (y := Y19) (z := Y19) hown (mvT hZ (w151 hw)) (mvT hZ (w152 hw)) (notFace_of_selects (args := #[]) (mvT hZ (w154 hw))) (mvT hZ (w154 hw)) (mvT hZ (w153 hw)) (by decide) (backOf (W := 0) (rmap28n l Z a0 hw [] b102 (own_dch uq) (34 : Int32) ((own_B cl) ++ (uw.map own_dch)) vv kv cs Hg158 n0 Zg158 Fg158_0 Fg158_1 Fg158_2 Fg158_3 Fg158_4 Fg158_5 Fg158_7 g_b102 hcs hdl g_vv ⟨by rw [hTx]; exact Nat.lt_of_lt_of_le (show _ < 34 by omega) (by decide), by rw [hTx]; omega⟩) hZ (w155 hw) (w13 hw) (by decide) (by decide)) q214a q214c (g := (mkF m 288 #[vR a1, vR b102, vI (own_i (own_bas cl).length), vI (own_i ux), .val (.long (own_j xd)), .second, vI (own_i xb), vI (own_i xh), vI (own_i ux), vR a1, vI (own_i cl.length), vI (own_i ix), vI (own_i cx), .val (.long (own_j uq)), .second, vI (own_i uk), vI (own_i (own_thr uk xb))] [(.int (own_i (own_dch uq))), (.ref b102)])) rfl hml.symm (Steps.refl _) (argsL := [(.int (own_i (own_dch uq)))]) (rest := []) (lenOf pd_21 rfl) rfl (Nat.le_of_eq rfl) (hb hby d2_288) (fun _ _ => ⟨rfl, eh162, (by decide : 3 + 0 ≤ _), (by decide : 54 + 0 ≤ _)⟩)
                 dsimp only [Pt.U, Pt.locs, Pt.cells, Pt.slots] at X214 l214 y214 z214 st214 hQ214
                 subst l214 y214 z214
                 obtain ⟨rfl, N214q, Kq214, P215, P216, P217, P218, P219, P220⟩ := hQ214
                 have F221 := (Fg158_0.keep Kq214)
                 have F222 := (Fg158_4.keep Kq214)
                 have F223 := (Fg158_6.keep Kq214 (by simp only [List.mem_cons, List.not_mem_nil, or_false, not_or]; exact ⟨ne_a1_b102, ne_a1_vv⟩))
                 have F224 := (own_sta_keep Fg158_7 Kq214 (by intro x hx; rcases List.mem_cons.mp hx with rfl | hx; exact ⟨_, Fg158_0⟩; cases List.mem_singleton.mp hx; exact ⟨_, Fg158_4⟩))
                 have Z225 : n0 ≤ T214.heap.size := (Nat.le_trans Zg158 Kq214.1)
                 have K226 : Keep h0 T214.heap [] := (Kg158.trans Kq214 (by intro x hx; simp only [List.mem_cons, List.not_mem_nil, or_false] at hx; rcases hx with rfl | rfl; exact Or.inr sz_b102; exact Or.inr sz_vv))
                 have N214 := Fr.app N162 N214q
                 refine Go.step (fun _ kt => st214.trans kt) ?_
                 show gG T214 m 291 #[vR a1, vR b102, vI (own_i (own_bas cl).length), vI (own_i ux), .val (.long (own_j xd)), .second, vI (own_i xb), vI (own_i xh), vI (own_i ux), vR a1, vI (own_i cl.length), vI (own_i ix), vI (own_i cx), .val (.long (own_j uq)), .second, vI (own_i uk), vI (own_i (own_thr uk xb))] [(.ref b102)]
                 have hvl1 : (own_vint uq uk xb).length = 1 := by rw [own_vint_lt hN230]; rfl
                 have R227 : Fld Z T214.heap b102 "java/lang/AbstractStringBuilder" "count" "I" (.int (own_i ((own_B cl) ++ ((xo ++ own_vint xd 36 xb).map own_dch)).length)) := by rw [← hV, own_vint_lt hN230, ← own_txA]; exact P218
                 have R228 : Arv Z T214.heap vv kv .byte (34 : Int32) ((((own_B cl) ++ ((xo ++ own_vint xd 36 xb).map own_dch)).map own_i).map Value.int) (.int 0) := by rw [← hV, own_vint_lt hN230, ← own_txA]; exact P220
                 refine Go.step (fun _ kt => XS.pop X214.here hx rfl (hb hby d2_291) rfl rfl (XS.lload X214.here hx rfl (hb hby d2_292) rfl (XS.iload X214.here hx rfl (hb hby d2_294) rfl (XS.iconst X214.here hx rfl (hb hby d2_296) (XS.iadd X214.here hx rfl (hb hby d2_297) rfl kt))))) ?_
                 show gG T214 m 298 #[vR a1, vR b102, vI (own_i (own_bas cl).length), vI (own_i ux), .val (.long (own_j xd)), .second, vI (own_i xb), vI (own_i xh), vI (own_i ux), vR a1, vI (own_i cl.length), vI (own_i ix), vI (own_i cx), .val (.long (own_j uq)), .second, vI (own_i uk), vI (own_i (own_thr uk xb))] [(.int ((own_i xh) + (1 : Int32))), (.long (own_j xd))]
                 have q229 : ((own_i xh) + (1 : Int32)) = (own_i (xh + 1)) := own_ia xh 1
                 rw [q229]
                 refine Go.step (fun _ kt => XS.iload X214.here hx rfl (hb hby d2_298) rfl (XS.iloadN X214.here hx rfl (hb hby d2_300) rfl kt)) ?_
                 show gG T214 m 301 #[vR a1, vR b102, vI (own_i (own_bas cl).length), vI (own_i ux), .val (.long (own_j xd)), .second, vI (own_i xb), vI (own_i xh), vI (own_i ux), vR a1, vI (own_i cl.length), vI (own_i ix), vI (own_i cx), .val (.long (own_j uq)), .second, vI (own_i uk), vI (own_i (own_thr uk xb))] [(.int (own_i (own_bas cl).length)), (.int (own_i xh)), (.int (own_i (xh + 1))), (.long (own_j xd))]
                 by_cases hc301_230 : (own_i xh) = (own_i (own_bas cl).length)
                 ·have hN301 : xh = (own_bas cl).length := own_iet (a := xh) (b := (own_bas cl).length) (by omega) (by omega) hc301_230
                  refine Go.step (fun _ kt => XS.icmpNo X214.here hx rfl (hb hby d2_301) rfl (teq hc301_230).2 (XS.iconst X214.here hx rfl (hb hby d2_304) (XS.goto X214.here hx rfl (pc0 := 305) (pc' := 309) rfl (hb hby d2_305) (by decide) (by decide) kt))) ?_
                  show gG T214 m 309 #[vR a1, vR b102, vI (own_i (own_bas cl).length), vI (own_i ux), .val (.long (own_j xd)), .second, vI (own_i xb), vI (own_i xh), vI (own_i ux), vR a1, vI (own_i cl.length), vI (own_i ix), vI (own_i cx), .val (.long (own_j uq)), .second, vI (own_i uk), vI (own_i (own_thr uk xb))] [(.int 1), (.int (own_i (xh + 1))), (.long (own_j xd))]
                  have hbq : (xh == (own_bas cl).length) = true := by simp [hN301]
                  obtain ⟨_, _, ⟨T231, L231, k231, n231⟩, -, X231, ⟨Lc231, hQ231, l231, y231, z231⟩, st231⟩ := Jvm.LawKit.callS X214 hx (y := Y4) hown (mvT hZ (w179 hw)) (mvT hZ (w180 hw)) (mvT hZ (w9 hw)) (mvT hZ (w181 hw)) (by decide) (backOf (W := 0) (rmad l Z a0 hw [] (1 : Int32) xd (xh + 1) true T214.heap n0 Z225  (by omega) (by omega) rfl) hZ (w181 hw) (w9 hw) (by decide) (by decide)) (g := (mkF m 309 #[vR a1, vR b102, vI (own_i (own_bas cl).length), vI (own_i ux), .val (.long (own_j xd)), .second, vI (own_i xb), vI (own_i xh), vI (own_i ux), vR a1, vI (own_i cl.length), vI (own_i ix), vI (own_i cx), .val (.long (own_j uq)), .second, vI (own_i uk), vI (own_i (own_thr uk xb))] [(.int 1), (.int (own_i (xh + 1))), (.long (own_j xd))])) rfl hml.symm (argsL := [(.long (own_j xd)), (.int (own_i (xh + 1))), (.int 1)]) (rest := []) (lenOf pd_22 rfl) rfl (Nat.le_of_eq rfl) (hb hby d2_309) (fun _ _ => ⟨rfl, rfl, (by decide : 3 + 0 ≤ _), (by decide : 54 + 0 ≤ _)⟩)
                  dsimp only [Pt.U, Pt.locs, Pt.cells, Pt.slots] at X231 l231 y231 z231 st231 hQ231
                  subst l231 y231 z231
                  obtain ⟨rfl, N231q, eh231⟩ := hQ231
                  have N231 := Fr.app N214 N231q
                  refine Go.step st231 ?_
                  show gG T231 m 312 #[vR a1, vR b102, vI (own_i (own_bas cl).length), vI (own_i ux), .val (.long (own_j xd)), .second, vI (own_i xb), vI (own_i xh), vI (own_i ux), vR a1, vI (own_i cl.length), vI (own_i ix), vI (own_i cx), .val (.long (own_j uq)), .second, vI (own_i uk), vI (own_i (own_thr uk xb))] [(.int (own_i (own_adapt xd (xh + 1) true)))]
                  refine Go.step (fun _ kt => XS.istore X231.here hx rfl (hb hby d2_312) rfl (l' := #[vR a1, vR b102, vI (own_i (own_bas cl).length), vI (own_i ux), .val (.long (own_j xd)), .second, vI (own_i (own_adapt xd (xh + 1) true)), vI (own_i xh), vI (own_i ux), vR a1, vI (own_i cl.length), vI (own_i ix), vI (own_i cx), .val (.long (own_j uq)), .second, vI (own_i uk), vI (own_i (own_thr uk xb))]) rfl (XS.lconst X231.here hx rfl (hb hby d2_314) (XS.lstore X231.here hx rfl (hb hby d2_315) rfl (l' := #[vR a1, vR b102, vI (own_i (own_bas cl).length), vI (own_i ux), .val (.long (0 : Int64)), .second, vI (own_i (own_adapt xd (xh + 1) true)), vI (own_i xh), vI (own_i ux), vR a1, vI (own_i cl.length), vI (own_i ix), vI (own_i cx), .val (.long (own_j uq)), .second, vI (own_i uk), vI (own_i (own_thr uk xb))]) rfl kt))) ?_
                  show gG T231 m 317 #[vR a1, vR b102, vI (own_i (own_bas cl).length), vI (own_i ux), .val (.long (0 : Int64)), .second, vI (own_i (own_adapt xd (xh + 1) true)), vI (own_i xh), vI (own_i ux), vR a1, vI (own_i cl.length), vI (own_i ix), vI (own_i cx), .val (.long (own_j uq)), .second, vI (own_i uk), vI (own_i (own_thr uk xb))] []
                  have q232 : (0 : Int64) = (own_j 0) := rfl
                  rw [q232]
                  refine Go.step (fun _ kt => XS.iinc X231.here hx rfl (hb hby d2_317) rfl (l' := #[vR a1, vR b102, vI (own_i (own_bas cl).length), vI (own_i ux), .val (.long (own_j 0)), .second, vI (own_i (own_adapt xd (xh + 1) true)), vI ((own_i xh) + (1 : Int32)), vI (own_i ux), vR a1, vI (own_i cl.length), vI (own_i ix), vI (own_i cx), .val (.long (own_j uq)), .second, vI (own_i uk), vI (own_i (own_thr uk xb))]) rfl kt) ?_
                  show gG T231 m 320 #[vR a1, vR b102, vI (own_i (own_bas cl).length), vI (own_i ux), .val (.long (own_j 0)), .second, vI (own_i (own_adapt xd (xh + 1) true)), vI ((own_i xh) + (1 : Int32)), vI (own_i ux), vR a1, vI (own_i cl.length), vI (own_i ix), vI (own_i cx), .val (.long (own_j uq)), .second, vI (own_i uk), vI (own_i (own_thr uk xb))] []
                  have q233 : ((own_i xh) + (1 : Int32)) = (own_i (xh + 1)) := own_ia xh 1
                  rw [q233]
                  refine Go.step (fun _ kt => XS.iinc X231.here hx rfl (hb hby d2_320) rfl (l' := #[vR a1, vR b102, vI (own_i (own_bas cl).length), vI (own_i ux), .val (.long (own_j 0)), .second, vI (own_i (own_adapt xd (xh + 1) true)), vI (own_i (xh + 1)), vI (own_i ux), vR a1, vI (own_i cl.length), vI ((own_i ix) + (1 : Int32)), vI (own_i cx), .val (.long (own_j uq)), .second, vI (own_i uk), vI (own_i (own_thr uk xb))]) rfl kt) ?_
                  show gG T231 m 323 #[vR a1, vR b102, vI (own_i (own_bas cl).length), vI (own_i ux), .val (.long (own_j 0)), .second, vI (own_i (own_adapt xd (xh + 1) true)), vI (own_i (xh + 1)), vI (own_i ux), vR a1, vI (own_i cl.length), vI ((own_i ix) + (1 : Int32)), vI (own_i cx), .val (.long (own_j uq)), .second, vI (own_i uk), vI (own_i (own_thr uk xb))] []
                  have q234 : ((own_i ix) + (1 : Int32)) = (own_i (ix + 1)) := own_ia ix 1
                  rw [q234]
                  refine Go.step (fun _ kt => XS.goto X231.here hx rfl (pc0 := 323) (pc' := 172) rfl (hb hby d2_323) (by decide) (by decide) kt) ?_
                  show gG T231 m 172 #[vR a1, vR b102, vI (own_i (own_bas cl).length), vI (own_i ux), .val (.long (own_j 0)), .second, vI (own_i (own_adapt xd (xh + 1) true)), vI (own_i (xh + 1)), vI (own_i ux), vR a1, vI (own_i cl.length), vI (own_i (ix + 1)), vI (own_i cx), .val (.long (own_j uq)), .second, vI (own_i uk), vI (own_i (own_thr uk xb))] []
                  exact ih172 (pre ++ [cx]) (ix + 1) 0 (own_adapt xd (xh + 1) true) (xh + 1) (xo ++ own_vint xd 36 xb) vv kv (34 : Int32) 3 54 _ _ _ _ _ (by rw [hsp]; simp) (by rw [hix]; simp) (by rw [hE2, own_rest_eq hN204, hbq]) hh3 (by omega) (own_adapt_le true (by omega) (by omega)) (Nat.le_trans (show (own_B cl).length + (xo ++ own_vint xd 36 xb).length ≤ 34 by omega) (by decide)) (Or.inr ⟨rfl, rfl, rfl⟩) (by decide) (by decide) g_vv sz_vv ne_a1_vv (Or.inr ⟨_, rfl⟩) (Or.inr ⟨_, rfl, rfl⟩) (Or.inr ⟨_, rfl⟩) (Or.inr ⟨_, rfl⟩) _ _ _ (X231.more (by decide) (by decide)) eh231 N231 Z225 K226 P215 P216 P217 R227 P219 R228 F223 F224
                 ·have hN301 : ¬ (xh = (own_bas cl).length) := own_ief (a := xh) (b := (own_bas cl).length) (by omega) (by omega) hc301_230
                  refine Go.step (fun _ kt => XS.icmpYes X214.here hx rfl (pc0 := 301) (pc' := 308) rfl (hb hby d2_301) rfl (feq hc301_230).2 (by decide) (by decide) (XS.iconst X214.here hx rfl (hb hby d2_308) kt)) ?_
                  show gG T214 m 309 #[vR a1, vR b102, vI (own_i (own_bas cl).length), vI (own_i ux), .val (.long (own_j xd)), .second, vI (own_i xb), vI (own_i xh), vI (own_i ux), vR a1, vI (own_i cl.length), vI (own_i ix), vI (own_i cx), .val (.long (own_j uq)), .second, vI (own_i uk), vI (own_i (own_thr uk xb))] [(.int 0), (.int (own_i (xh + 1))), (.long (own_j xd))]
                  have hbq : (xh == (own_bas cl).length) = false := by simp [hN301]
                  obtain ⟨_, _, ⟨T235, L235, k235, n235⟩, -, X235, ⟨Lc235, hQ235, l235, y235, z235⟩, st235⟩ := Jvm.LawKit.callS X214 hx (y := Y4) hown (mvT hZ (w179 hw)) (mvT hZ (w180 hw)) (mvT hZ (w9 hw)) (mvT hZ (w181 hw)) (by decide) (backOf (W := 0) (rmad l Z a0 hw [] (0 : Int32) xd (xh + 1) false T214.heap n0 Z225  (by omega) (by omega) rfl) hZ (w181 hw) (w9 hw) (by decide) (by decide)) (g := (mkF m 309 #[vR a1, vR b102, vI (own_i (own_bas cl).length), vI (own_i ux), .val (.long (own_j xd)), .second, vI (own_i xb), vI (own_i xh), vI (own_i ux), vR a1, vI (own_i cl.length), vI (own_i ix), vI (own_i cx), .val (.long (own_j uq)), .second, vI (own_i uk), vI (own_i (own_thr uk xb))] [(.int 0), (.int (own_i (xh + 1))), (.long (own_j xd))])) rfl hml.symm (argsL := [(.long (own_j xd)), (.int (own_i (xh + 1))), (.int 0)]) (rest := []) (lenOf pd_22 rfl) rfl (Nat.le_of_eq rfl) (hb hby d2_309) (fun _ _ => ⟨rfl, rfl, (by decide : 3 + 0 ≤ _), (by decide : 54 + 0 ≤ _)⟩)
                  dsimp only [Pt.U, Pt.locs, Pt.cells, Pt.slots] at X235 l235 y235 z235 st235 hQ235
                  subst l235 y235 z235
                  obtain ⟨rfl, N235q, eh235⟩ := hQ235
                  have N235 := Fr.app N214 N235q
                  refine Go.step st235 ?_
                  show gG T235 m 312 #[vR a1, vR b102, vI (own_i (own_bas cl).length), vI (own_i ux), .val (.long (own_j xd)), .second, vI (own_i xb), vI (own_i xh), vI (own_i ux), vR a1, vI (own_i cl.length), vI (own_i ix), vI (own_i cx), .val (.long (own_j uq)), .second, vI (own_i uk), vI (own_i (own_thr uk xb))] [(.int (own_i (own_adapt xd (xh + 1) false)))]
                  refine Go.step (fun _ kt => XS.istore X235.here hx rfl (hb hby d2_312) rfl (l' := #[vR a1, vR b102, vI (own_i (own_bas cl).length), vI (own_i ux), .val (.long (own_j xd)), .second, vI (own_i (own_adapt xd (xh + 1) false)), vI (own_i xh), vI (own_i ux), vR a1, vI (own_i cl.length), vI (own_i ix), vI (own_i cx), .val (.long (own_j uq)), .second, vI (own_i uk), vI (own_i (own_thr uk xb))]) rfl (XS.lconst X235.here hx rfl (hb hby d2_314) (XS.lstore X235.here hx rfl (hb hby d2_315) rfl (l' := #[vR a1, vR b102, vI (own_i (own_bas cl).length), vI (own_i ux), .val (.long (0 : Int64)), .second, vI (own_i (own_adapt xd (xh + 1) false)), vI (own_i xh), vI (own_i ux), vR a1, vI (own_i cl.length), vI (own_i ix), vI (own_i cx), .val (.long (own_j uq)), .second, vI (own_i uk), vI (own_i (own_thr uk xb))]) rfl kt))) ?_
                  show gG T235 m 317 #[vR a1, vR b102, vI (own_i (own_bas cl).length), vI (own_i ux), .val (.long (0 : Int64)), .second, vI (own_i (own_adapt xd (xh + 1) false)), vI (own_i xh), vI (own_i ux), vR a1, vI (own_i cl.length), vI (own_i ix), vI (own_i cx), .val (.long (own_j uq)), .second, vI (own_i uk), vI (own_i (own_thr uk xb))] []
                  have q236 : (0 : Int64) = (own_j 0) := rfl
                  rw [q236]
                  refine Go.step (fun _ kt => XS.iinc X235.here hx rfl (hb hby d2_317) rfl (l' := #[vR a1, vR b102, vI (own_i (own_bas cl).length), vI (own_i ux), .val (.long (own_j 0)), .second, vI (own_i (own_adapt xd (xh + 1) false)), vI ((own_i xh) + (1 : Int32)), vI (own_i ux), vR a1, vI (own_i cl.length), vI (own_i ix), vI (own_i cx), .val (.long (own_j uq)), .second, vI (own_i uk), vI (own_i (own_thr uk xb))]) rfl kt) ?_
                  show gG T235 m 320 #[vR a1, vR b102, vI (own_i (own_bas cl).length), vI (own_i ux), .val (.long (own_j 0)), .second, vI (own_i (own_adapt xd (xh + 1) false)), vI ((own_i xh) + (1 : Int32)), vI (own_i ux), vR a1, vI (own_i cl.length), vI (own_i ix), vI (own_i cx), .val (.long (own_j uq)), .second, vI (own_i uk), vI (own_i (own_thr uk xb))] []
                  have q237 : ((own_i xh) + (1 : Int32)) = (own_i (xh + 1)) := own_ia xh 1
                  rw [q237]
                  refine Go.step (fun _ kt => XS.iinc X235.here hx rfl (hb hby d2_320) rfl (l' := #[vR a1, vR b102, vI (own_i (own_bas cl).length), vI (own_i ux), .val (.long (own_j 0)), .second, vI (own_i (own_adapt xd (xh + 1) false)), vI (own_i (xh + 1)), vI (own_i ux), vR a1, vI (own_i cl.length), vI ((own_i ix) + (1 : Int32)), vI (own_i cx), .val (.long (own_j uq)), .second, vI (own_i uk), vI (own_i (own_thr uk xb))]) rfl kt) ?_
                  show gG T235 m 323 #[vR a1, vR b102, vI (own_i (own_bas cl).length), vI (own_i ux), .val (.long (own_j 0)), .second, vI (own_i (own_adapt xd (xh + 1) false)), vI (own_i (xh + 1)), vI (own_i ux), vR a1, vI (own_i cl.length), vI ((own_i ix) + (1 : Int32)), vI (own_i cx), .val (.long (own_j uq)), .second, vI (own_i uk), vI (own_i (own_thr uk xb))] []
                  have q238 : ((own_i ix) + (1 : Int32)) = (own_i (ix + 1)) := own_ia ix 1
                  rw [q238]
                  refine Go.step (fun _ kt => XS.goto X235.here hx rfl (pc0 := 323) (pc' := 172) rfl (hb hby d2_323) (by decide) (by decide) kt) ?_
                  show gG T235 m 172 #[vR a1, vR b102, vI (own_i (own_bas cl).length), vI (own_i ux), .val (.long (own_j 0)), .second, vI (own_i (own_adapt xd (xh + 1) false)), vI (own_i (xh + 1)), vI (own_i ux), vR a1, vI (own_i cl.length), vI (own_i (ix + 1)), vI (own_i cx), .val (.long (own_j uq)), .second, vI (own_i uk), vI (own_i (own_thr uk xb))] []
                  exact ih172 (pre ++ [cx]) (ix + 1) 0 (own_adapt xd (xh + 1) false) (xh + 1) (xo ++ own_vint xd 36 xb) vv kv (34 : Int32) 3 54 _ _ _ _ _ (by rw [hsp]; simp) (by rw [hix]; simp) (by rw [hE2, own_rest_eq hN204, hbq]) hh3 (by omega) (own_adapt_le false (by omega) (by omega)) (Nat.le_trans (show (own_B cl).length + (xo ++ own_vint xd 36 xb).length ≤ 34 by omega) (by decide)) (Or.inr ⟨rfl, rfl, rfl⟩) (by decide) (by decide) g_vv sz_vv ne_a1_vv (Or.inr ⟨_, rfl⟩) (Or.inr ⟨_, rfl, rfl⟩) (Or.inr ⟨_, rfl⟩) (Or.inr ⟨_, rfl⟩) _ _ _ (X235.more (by decide) (by decide)) eh235 N235 Z225 K226 P215 P216 P217 R227 P219 R228 F223 F224
               ·have hN230 : ¬ (uq < (own_thr uk xb)) := own_llf (a := uq) (b := (own_thr uk xb)) (by omega) (by omega) hc230_161
                refine Go.step (fun _ kt => XS.ifYes X159.here hx rfl (pc0 := 230) (pc' := 236) rfl (hb hby d2_230) rfl ((if0 _ _).trans (flt hc230_161).2.1) (by decide) (by decide) (XS.aloadN X159.here hx rfl (hb hby d2_236) rfl rfl (XS.iload X159.here hx rfl (hb hby d2_237) rfl (XS.i2l X159.here hx rfl (hb hby d2_239) rfl kt)))) ?_
                show gG T159 m 240 #[vR a1, vR b102, vI (own_i (own_bas cl).length), vI (own_i ux), .val (.long (own_j xd)), .second, vI (own_i xb), vI (own_i xh), vI (own_i ux), vR a1, vI (own_i cl.length), vI (own_i ix), vI (own_i cx), .val (.long (own_j uq)), .second, vI (own_i uk), vI (own_i (own_thr uk xb))] [(.long ((own_i (own_thr uk xb)).toInt64)), (.ref b102)]
                have q239 : ((own_i (own_thr uk xb)).toInt64) = (own_j (own_thr uk xb)) := own_ij (a := (own_thr uk xb)) (by omega)
                rw [q239]
                refine Go.step (fun _ kt => XS.lload X159.here hx rfl (hb hby d2_240) rfl (XS.iload X159.here hx rfl (hb hby d2_242) rfl (XS.i2l X159.here hx rfl (hb hby d2_244) rfl kt))) ?_
                show gG T159 m 245 #[vR a1, vR b102, vI (own_i (own_bas cl).length), vI (own_i ux), .val (.long (own_j xd)), .second, vI (own_i xb), vI (own_i xh), vI (own_i ux), vR a1, vI (own_i cl.length), vI (own_i ix), vI (own_i cx), .val (.long (own_j uq)), .second, vI (own_i uk), vI (own_i (own_thr uk xb))] [(.long ((own_i (own_thr uk xb)).toInt64)), (.long (own_j uq)), (.long (own_j (own_thr uk xb))), (.ref b102)]
                have q240 : ((own_i (own_thr uk xb)).toInt64) = (own_j (own_thr uk xb)) := own_ij (a := (own_thr uk xb)) (by omega)
                rw [q240]
                refine Go.step (fun _ kt => XS.lsub X159.here hx rfl (hb hby d2_245) rfl kt) ?_
                show gG T159 m 246 #[vR a1, vR b102, vI (own_i (own_bas cl).length), vI (own_i ux), .val (.long (own_j xd)), .second, vI (own_i xb), vI (own_i xh), vI (own_i ux), vR a1, vI (own_i cl.length), vI (own_i ix), vI (own_i cx), .val (.long (own_j uq)), .second, vI (own_i uk), vI (own_i (own_thr uk xb))] [(.long ((own_j uq) - (own_j (own_thr uk xb)))), (.long (own_j (own_thr uk xb))), (.ref b102)]
                have q241 : ((own_j uq) - (own_j (own_thr uk xb))) = (own_j (uq - (own_thr uk xb))) := own_js (a := uq) (b := (own_thr uk xb)) (by omega)
                rw [q241]
                refine Go.step (fun _ kt => XS.bipush X159.here hx rfl (hb hby d2_246) (XS.iload X159.here hx rfl (hb hby d2_248) rfl (XS.isub X159.here hx rfl (hb hby d2_250) rfl kt))) ?_
                show gG T159 m 251 #[vR a1, vR b102, vI (own_i (own_bas cl).length), vI (own_i ux), .val (.long (own_j xd)), .second, vI (own_i xb), vI (own_i xh), vI (own_i ux), vR a1, vI (own_i cl.length), vI (own_i ix), vI (own_i cx), .val (.long (own_j uq)), .second, vI (own_i uk), vI (own_i (own_thr uk xb))] [(.int ((36 : Int32) - (own_i (own_thr uk xb)))), (.long (own_j (uq - (own_thr uk xb)))), (.long (own_j (own_thr uk xb))), (.ref b102)]
                have q242 : ((36 : Int32) - (own_i (own_thr uk xb))) = (own_i (36 - (own_thr uk xb))) := own_is (a := 36) (b := (own_thr uk xb)) (by omega)
                rw [q242]
                refine Go.step (fun _ kt => XS.i2l X159.here hx rfl (hb hby d2_251) rfl kt) ?_
                show gG T159 m 252 #[vR a1, vR b102, vI (own_i (own_bas cl).length), vI (own_i ux), .val (.long (own_j xd)), .second, vI (own_i xb), vI (own_i xh), vI (own_i ux), vR a1, vI (own_i cl.length), vI (own_i ix), vI (own_i cx), .val (.long (own_j uq)), .second, vI (own_i uk), vI (own_i (own_thr uk xb))] [(.long ((own_i (36 - (own_thr uk xb))).toInt64)), (.long (own_j (uq - (own_thr uk xb)))), (.long (own_j (own_thr uk xb))), (.ref b102)]
                have q243 : ((own_i (36 - (own_thr uk xb))).toInt64) = (own_j (36 - (own_thr uk xb))) := own_ij (a := (36 - (own_thr uk xb))) (by omega)
                rw [q243]
                refine Go.step (fun _ kt => XS.lrem X159.here hx rfl (hb hby d2_252) rfl (own_jnz (by omega) (by omega)) kt) ?_
                show gG T159 m 253 #[vR a1, vR b102, vI (own_i (own_bas cl).length), vI (own_i ux), .val (.long (own_j xd)), .second, vI (own_i xb), vI (own_i xh), vI (own_i ux), vR a1, vI (own_i cl.length), vI (own_i ix), vI (own_i cx), .val (.long (own_j uq)), .second, vI (own_i uk), vI (own_i (own_thr uk xb))] [(.long ((own_j (uq - (own_thr uk xb))) - ((own_j (uq - (own_thr uk xb))) / (own_j (36 - (own_thr uk xb)))) * (own_j (36 - (own_thr uk xb))))), (.long (own_j (own_thr uk xb))), (.ref b102)]
                have q244 : ((own_j (uq - (own_thr uk xb))) - ((own_j (uq - (own_thr uk xb))) / (own_j (36 - (own_thr uk xb)))) * (own_j (36 - (own_thr uk xb)))) = (own_j ((uq - (own_thr uk xb)) % (36 - (own_thr uk xb)))) := own_jr (a := (uq - (own_thr uk xb))) (b := (36 - (own_thr uk xb))) (by omega) (by omega)
                rw [q244]
                have hmod := Nat.mod_lt (uq - own_thr uk xb) (show 0 < 36 - own_thr uk xb by omega)
                refine Go.step (fun _ kt => XS.ladd X159.here hx rfl (hb hby d2_253) rfl kt) ?_
                show gG T159 m 254 #[vR a1, vR b102, vI (own_i (own_bas cl).length), vI (own_i ux), .val (.long (own_j xd)), .second, vI (own_i xb), vI (own_i xh), vI (own_i ux), vR a1, vI (own_i cl.length), vI (own_i ix), vI (own_i cx), .val (.long (own_j uq)), .second, vI (own_i uk), vI (own_i (own_thr uk xb))] [(.long ((own_j (own_thr uk xb)) + (own_j ((uq - (own_thr uk xb)) % (36 - (own_thr uk xb)))))), (.ref b102)]
                have q245 : ((own_j (own_thr uk xb)) + (own_j ((uq - (own_thr uk xb)) % (36 - (own_thr uk xb))))) = (own_j ((own_thr uk xb) + ((uq - (own_thr uk xb)) % (36 - (own_thr uk xb))))) := own_ja (own_thr uk xb) ((uq - (own_thr uk xb)) % (36 - (own_thr uk xb)))
                rw [q245]
                obtain ⟨_, _, ⟨T246, L246, k246, n246⟩, -, X246, ⟨Lc246, hQ246, l246, y246, z246⟩, st246⟩ := Jvm.LawKit.callS X159 hx (y := Y3) hown (mvT hZ (w174 hw)) (mvT hZ (w175 hw)) (mvT hZ (w9 hw)) (mvT hZ (w176 hw)) (by decide) (backOf (W := 1) (rmdch l Z a0 hw []  ((own_thr uk xb) + ((uq - (own_thr uk xb)) % (36 - (own_thr uk xb)))) Hg158 n0 Zg158  (by omega)) hZ (w176 hw) (w9 hw) (by decide) (by decide)) (g := (mkF m 254 #[vR a1, vR b102, vI (own_i (own_bas cl).length), vI (own_i ux), .val (.long (own_j xd)), .second, vI (own_i xb), vI (own_i xh), vI (own_i ux), vR a1, vI (own_i cl.length), vI (own_i ix), vI (own_i cx), .val (.long (own_j uq)), .second, vI (own_i uk), vI (own_i (own_thr uk xb))] [(.long (own_j ((own_thr uk xb) + ((uq - (own_thr uk xb)) % (36 - (own_thr uk xb)))))), (.ref b102)])) rfl hml.symm (argsL := [(.long (own_j ((own_thr uk xb) + ((uq - (own_thr uk xb)) % (36 - (own_thr uk xb))))))]) (rest := [(.ref b102)]) (lenOf pd_20 rfl) rfl (Nat.le_of_eq rfl) (hb hby d2_254) (fun _ _ => ⟨rfl, eh159, (Nat.le_trans hkc (by decide)), (Nat.le_trans hks (by decide))⟩)
                dsimp only [Pt.U, Pt.locs, Pt.cells, Pt.slots] at X246 l246 y246 z246 st246 hQ246
                subst l246 y246 z246
                obtain ⟨rfl, N246q, eh246⟩ := hQ246
                have N246 := Fr.app N159 N246q
                refine Go.step st246 ?_
                show gG T246 m 257 #[vR a1, vR b102, vI (own_i (own_bas cl).length), vI (own_i ux), .val (.long (own_j xd)), .second, vI (own_i xb), vI (own_i xh), vI (own_i ux), vR a1, vI (own_i cl.length), vI (own_i ix), vI (own_i cx), .val (.long (own_j uq)), .second, vI (own_i uk), vI (own_i (own_thr uk xb))] [(.int (own_i (own_dch ((own_thr uk xb) + ((uq - (own_thr uk xb)) % (36 - (own_thr uk xb))))))), (.ref b102)]
                have hTx : (((own_B cl) ++ (uw.map own_dch))).length = (own_B cl).length + uw.length := by simp
                have hdl := (own_dch_lt (d := ((own_thr uk xb) + ((uq - (own_thr uk xb)) % (36 - (own_thr uk xb))))) (by omega)).1
                rcases hM with ⟨rfl, rfl, rfl⟩ | ⟨rfl, rfl, rfl⟩
                ·by_cases hg16 : (own_B cl).length + uw.length < 16
                 ·show gG T246 m 257 #[vR a1, vR b102, vI (own_i (own_bas cl).length), vI (own_i ux), .val (.long (own_j xd)), .second, vI (own_i xb), vI (own_i xh), vI (own_i ux), vR a1, vI (own_i cl.length), vI (own_i ix), vI (own_i cx), .val (.long (own_j uq)), .second, vI (own_i uk), vI (own_i (own_thr uk xb))] [(.int (own_i (own_dch ((own_thr uk xb) + ((uq - (own_thr uk xb)) % (36 - (own_thr uk xb))))))), (.ref b102)]
                  obtain ⟨cq247, kq247, q247a, q247b, q247c⟩ := isOf hZ eh246 Fg158_0
                  obtain ⟨_, _, ⟨T247, L247, k247, n247⟩, -, X247, ⟨Lc247, hQ247, l247, y247, z247⟩, st247⟩ := X246.virtualBack hx (y := Y19) (z := Y19) hown (mvT hZ (w151 hw)) (mvT hZ (w152 hw)) (notFace_of_selects (args := #[]) (mvT hZ (w154 hw))) (mvT hZ (w154 hw)) (mvT hZ (w153 hw)) (by decide) (backOf (W := 0) (rmap28n l Z a0 hw [] b102 (own_dch ((own_thr uk xb) + ((uq - (own_thr uk xb)) % (36 - (own_thr uk xb))))) (16 : Int32) ((own_B cl) ++ (uw.map own_dch)) vv kv cs Hg158 n0 Zg158 Fg158_0 Fg158_1 Fg158_2 Fg158_3 Fg158_4 Fg158_5 Fg158_7 g_b102 hcs hdl g_vv ⟨by rw [hTx]; exact Nat.lt_of_lt_of_le (show _ < 16 by omega) (by decide), by rw [hTx]; omega⟩) hZ (w155 hw) (w13 hw) (by decide) (by decide)) q247a q247c (g := (mkF m 257 #[vR a1, vR b102, vI (own_i (own_bas cl).length), vI (own_i ux), .val (.long (own_j xd)), .second, vI (own_i xb), vI (own_i xh), vI (own_i ux), vR a1, vI (own_i cl.length), vI (own_i ix), vI (own_i cx), .val (.long (own_j uq)), .second, vI (own_i uk), vI (own_i (own_thr uk xb))] [(.int (own_i (own_dch ((own_thr uk xb) + ((uq - (own_thr uk xb)) % (36 - (own_thr uk xb))))))), (.ref b102)])) rfl hml.symm (Steps.refl _) (argsL := [(.int (own_i (own_dch ((own_thr uk xb) + ((uq - (own_thr uk xb)) % (36 - (own_thr uk xb)))))))]) (rest := []) (lenOf pd_21 rfl) rfl (Nat.le_of_eq rfl) (hb hby d2_257) (fun _ _ => ⟨rfl, eh246, (by decide : 2 + 0 ≤ _), (by decide : 20 + 0 ≤ _)⟩)
                  dsimp only [Pt.U, Pt.locs, Pt.cells, Pt.slots] at X247 l247 y247 z247 st247 hQ247
                  subst l247 y247 z247
                  obtain ⟨rfl, N247q, Kq247, P248, P249, P250, P251, P252, P253⟩ := hQ247
                  have F254 := (Fg158_0.keep Kq247)
                  have F255 := (Fg158_4.keep Kq247)
                  have F256 := (Fg158_6.keep Kq247 (by simp only [List.mem_cons, List.not_mem_nil, or_false, not_or]; exact ⟨ne_a1_b102, ne_a1_vv⟩))
                  have F257 := (own_sta_keep Fg158_7 Kq247 (by intro x hx; rcases List.mem_cons.mp hx with rfl | hx; exact ⟨_, Fg158_0⟩; cases List.mem_singleton.mp hx; exact ⟨_, Fg158_4⟩))
                  have Z258 : n0 ≤ T247.heap.size := (Nat.le_trans Zg158 Kq247.1)
                  have K259 : Keep h0 T247.heap [] := (Kg158.trans Kq247 (by intro x hx; simp only [List.mem_cons, List.not_mem_nil, or_false] at hx; rcases hx with rfl | rfl; exact Or.inr sz_b102; exact Or.inr sz_vv))
                  have N247 := Fr.app N246 N247q
                  refine Go.step (fun _ kt => st247.trans kt) ?_
                  show gG T247 m 260 #[vR a1, vR b102, vI (own_i (own_bas cl).length), vI (own_i ux), .val (.long (own_j xd)), .second, vI (own_i xb), vI (own_i xh), vI (own_i ux), vR a1, vI (own_i cl.length), vI (own_i ix), vI (own_i cx), .val (.long (own_j uq)), .second, vI (own_i uk), vI (own_i (own_thr uk xb))] [(.ref b102)]
                  have hwl : (uw ++ [((own_thr uk xb) + ((uq - (own_thr uk xb)) % (36 - (own_thr uk xb))))]).length = uw.length + 1 := by simp
                  have R260 : Fld Z T247.heap b102 "java/lang/AbstractStringBuilder" "count" "I" (.int (own_i ((own_B cl) ++ ((uw ++ [((own_thr uk xb) + ((uq - (own_thr uk xb)) % (36 - (own_thr uk xb))))]).map own_dch)).length)) := by rw [← own_txA]; exact P251
                  have R261 : Arv Z T247.heap vv kv .byte (16 : Int32) ((((own_B cl) ++ ((uw ++ [((own_thr uk xb) + ((uq - (own_thr uk xb)) % (36 - (own_thr uk xb))))]).map own_dch)).map own_i).map Value.int) (.int 0) := by rw [← own_txA]; exact P253
                  refine Go.step (fun _ kt => XS.pop X247.here hx rfl (hb hby d2_260) rfl rfl (XS.lload X247.here hx rfl (hb hby d2_261) rfl (XS.iload X247.here hx rfl (hb hby d2_263) rfl (XS.i2l X247.here hx rfl (hb hby d2_265) rfl kt)))) ?_
                  show gG T247 m 266 #[vR a1, vR b102, vI (own_i (own_bas cl).length), vI (own_i ux), .val (.long (own_j xd)), .second, vI (own_i xb), vI (own_i xh), vI (own_i ux), vR a1, vI (own_i cl.length), vI (own_i ix), vI (own_i cx), .val (.long (own_j uq)), .second, vI (own_i uk), vI (own_i (own_thr uk xb))] [(.long ((own_i (own_thr uk xb)).toInt64)), (.long (own_j uq))]
                  have q262 : ((own_i (own_thr uk xb)).toInt64) = (own_j (own_thr uk xb)) := own_ij (a := (own_thr uk xb)) (by omega)
                  rw [q262]
                  refine Go.step (fun _ kt => XS.lsub X247.here hx rfl (hb hby d2_266) rfl kt) ?_
                  show gG T247 m 267 #[vR a1, vR b102, vI (own_i (own_bas cl).length), vI (own_i ux), .val (.long (own_j xd)), .second, vI (own_i xb), vI (own_i xh), vI (own_i ux), vR a1, vI (own_i cl.length), vI (own_i ix), vI (own_i cx), .val (.long (own_j uq)), .second, vI (own_i uk), vI (own_i (own_thr uk xb))] [(.long ((own_j uq) - (own_j (own_thr uk xb))))]
                  have q263 : ((own_j uq) - (own_j (own_thr uk xb))) = (own_j (uq - (own_thr uk xb))) := own_js (a := uq) (b := (own_thr uk xb)) (by omega)
                  rw [q263]
                  refine Go.step (fun _ kt => XS.bipush X247.here hx rfl (hb hby d2_267) (XS.iload X247.here hx rfl (hb hby d2_269) rfl (XS.isub X247.here hx rfl (hb hby d2_271) rfl kt))) ?_
                  show gG T247 m 272 #[vR a1, vR b102, vI (own_i (own_bas cl).length), vI (own_i ux), .val (.long (own_j xd)), .second, vI (own_i xb), vI (own_i xh), vI (own_i ux), vR a1, vI (own_i cl.length), vI (own_i ix), vI (own_i cx), .val (.long (own_j uq)), .second, vI (own_i uk), vI (own_i (own_thr uk xb))] [(.int ((36 : Int32) - (own_i (own_thr uk xb)))), (.long (own_j (uq - (own_thr uk xb))))]
                  have q264 : ((36 : Int32) - (own_i (own_thr uk xb))) = (own_i (36 - (own_thr uk xb))) := own_is (a := 36) (b := (own_thr uk xb)) (by omega)
                  rw [q264]
                  refine Go.step (fun _ kt => XS.i2l X247.here hx rfl (hb hby d2_272) rfl kt) ?_
                  show gG T247 m 273 #[vR a1, vR b102, vI (own_i (own_bas cl).length), vI (own_i ux), .val (.long (own_j xd)), .second, vI (own_i xb), vI (own_i xh), vI (own_i ux), vR a1, vI (own_i cl.length), vI (own_i ix), vI (own_i cx), .val (.long (own_j uq)), .second, vI (own_i uk), vI (own_i (own_thr uk xb))] [(.long ((own_i (36 - (own_thr uk xb))).toInt64)), (.long (own_j (uq - (own_thr uk xb))))]
                  have q265 : ((own_i (36 - (own_thr uk xb))).toInt64) = (own_j (36 - (own_thr uk xb))) := own_ij (a := (36 - (own_thr uk xb))) (by omega)
                  rw [q265]
                  have hdv := Nat.div_le_self (uq - own_thr uk xb) (36 - own_thr uk xb)
                  refine Go.step (fun _ kt => XS.ldiv X247.here hx rfl (hb hby d2_273) rfl (own_jnz (by omega) (by omega)) kt) ?_
                  show gG T247 m 274 #[vR a1, vR b102, vI (own_i (own_bas cl).length), vI (own_i ux), .val (.long (own_j xd)), .second, vI (own_i xb), vI (own_i xh), vI (own_i ux), vR a1, vI (own_i cl.length), vI (own_i ix), vI (own_i cx), .val (.long (own_j uq)), .second, vI (own_i uk), vI (own_i (own_thr uk xb))] [(.long ((own_j (uq - (own_thr uk xb))) / (own_j (36 - (own_thr uk xb)))))]
                  have q266 : ((own_j (uq - (own_thr uk xb))) / (own_j (36 - (own_thr uk xb)))) = (own_j ((uq - (own_thr uk xb)) / (36 - (own_thr uk xb)))) := own_jd (a := (uq - (own_thr uk xb))) (b := (36 - (own_thr uk xb))) (by omega) (by omega)
                  rw [q266]
                  refine Go.step (fun _ kt => XS.lstore X247.here hx rfl (hb hby d2_274) rfl (l' := #[vR a1, vR b102, vI (own_i (own_bas cl).length), vI (own_i ux), .val (.long (own_j xd)), .second, vI (own_i xb), vI (own_i xh), vI (own_i ux), vR a1, vI (own_i cl.length), vI (own_i ix), vI (own_i cx), .val (.long (own_j ((uq - (own_thr uk xb)) / (36 - (own_thr uk xb))))), .second, vI (own_i uk), vI (own_i (own_thr uk xb))]) rfl (XS.iinc X247.here hx rfl (hb hby d2_276) rfl (l' := #[vR a1, vR b102, vI (own_i (own_bas cl).length), vI (own_i ux), .val (.long (own_j xd)), .second, vI (own_i xb), vI (own_i xh), vI (own_i ux), vR a1, vI (own_i cl.length), vI (own_i ix), vI (own_i cx), .val (.long (own_j ((uq - (own_thr uk xb)) / (36 - (own_thr uk xb))))), .second, vI ((own_i uk) + (36 : Int32)), vI (own_i (own_thr uk xb))]) rfl kt)) ?_
                  show gG T247 m 279 #[vR a1, vR b102, vI (own_i (own_bas cl).length), vI (own_i ux), .val (.long (own_j xd)), .second, vI (own_i xb), vI (own_i xh), vI (own_i ux), vR a1, vI (own_i cl.length), vI (own_i ix), vI (own_i cx), .val (.long (own_j ((uq - (own_thr uk xb)) / (36 - (own_thr uk xb))))), .second, vI ((own_i uk) + (36 : Int32)), vI (own_i (own_thr uk xb))] []
                  have q267 : ((own_i uk) + (36 : Int32)) = (own_i (uk + 36)) := own_ia uk 36
                  rw [q267]
                  refine Go.step (fun _ kt => XS.goto X247.here hx rfl (pc0 := 279) (pc' := 215) rfl (hb hby d2_279) (by decide) (by decide) kt) ?_
                  show gG T247 m 215 #[vR a1, vR b102, vI (own_i (own_bas cl).length), vI (own_i ux), .val (.long (own_j xd)), .second, vI (own_i xb), vI (own_i xh), vI (own_i ux), vR a1, vI (own_i cl.length), vI (own_i ix), vI (own_i cx), .val (.long (own_j ((uq - (own_thr uk xb)) / (36 - (own_thr uk xb))))), .second, vI (own_i (uk + 36)), vI (own_i (own_thr uk xb))] []
                  exact ih215 ((uq - (own_thr uk xb)) / (36 - (own_thr uk xb))) (uk + 36) (uw ++ [((own_thr uk xb) + ((uq - (own_thr uk xb)) % (36 - (own_thr uk xb))))]) vv kv (16 : Int32) 2 20 _ (by rw [← hV, own_vint_ge hN230]; simp) (by omega) (by omega) (by rw [hwl]; omega) (Nat.le_trans (show (own_B cl).length + (uw ++ [((own_thr uk xb) + ((uq - (own_thr uk xb)) % (36 - (own_thr uk xb))))]).length ≤ 16 by omega) (by decide)) (Or.inl ⟨rfl, rfl, rfl⟩) (by decide) (by decide) g_vv sz_vv ne_a1_vv (Or.inr ⟨_, rfl⟩) _ _ _ (X247.more (by decide) (by decide)) rfl N247 Z258 K259 P248 P249 P250 R260 P252 R261 F256 F257
                 ·have hc16 : (own_B cl).length + uw.length = 16 := by have q : (16 : Int32).toNatClampNeg = 16 := (by decide); omega
                  show gG T246 m 257 #[vR a1, vR b102, vI (own_i (own_bas cl).length), vI (own_i ux), .val (.long (own_j xd)), .second, vI (own_i xb), vI (own_i xh), vI (own_i ux), vR a1, vI (own_i cl.length), vI (own_i ix), vI (own_i cx), .val (.long (own_j uq)), .second, vI (own_i uk), vI (own_i (own_thr uk xb))] [(.int (own_i (own_dch ((own_thr uk xb) + ((uq - (own_thr uk xb)) % (36 - (own_thr uk xb))))))), (.ref b102)]
                  obtain ⟨cq268, kq268, q268a, q268b, q268c⟩ := isOf hZ eh246 Fg158_0
                  obtain ⟨_, _, ⟨T268, L268, k268, n268⟩, -, X268, ⟨Lc268, hQ268, l268, y268, z268⟩, st268⟩ := X246.virtualBack hx (y := Y19) (z := Y19) hown (mvT hZ (w151 hw)) (mvT hZ (w152 hw)) (notFace_of_selects (args := #[]) (mvT hZ (w154 hw))) (mvT hZ (w154 hw)) (mvT hZ (w153 hw)) (by decide) (backOf (W := 0) (rmap28g l Z a0 hw [] b102 (own_dch ((own_thr uk xb) + ((uq - (own_thr uk xb)) % (36 - (own_thr uk xb))))) ((own_B cl) ++ (uw.map own_dch)) vv kv cs Hg158 n0 Zg158 Fg158_0 Fg158_1 Fg158_2 Fg158_3 Fg158_4 Fg158_5 Fg158_7 g_b102 hcs hdl (by rw [hTx]; exact hc16)) hZ (w155 hw) (w13 hw) (by decide) (by decide)) q268a q268c (g := (mkF m 257 #[vR a1, vR b102, vI (own_i (own_bas cl).length), vI (own_i ux), .val (.long (own_j xd)), .second, vI (own_i xb), vI (own_i xh), vI (own_i ux), vR a1, vI (own_i cl.length), vI (own_i ix), vI (own_i cx), .val (.long (own_j uq)), .second, vI (own_i uk), vI (own_i (own_thr uk xb))] [(.int (own_i (own_dch ((own_thr uk xb) + ((uq - (own_thr uk xb)) % (36 - (own_thr uk xb))))))), (.ref b102)])) rfl hml.symm (Steps.refl _) (argsL := [(.int (own_i (own_dch ((own_thr uk xb) + ((uq - (own_thr uk xb)) % (36 - (own_thr uk xb)))))))]) (rest := []) (lenOf pd_21 rfl) rfl (Nat.le_of_eq rfl) (hb hby d2_257) (fun _ _ => ⟨rfl, eh246, (by decide : 2 + 1 ≤ _), (by decide : 20 + 34 ≤ _)⟩)
                  dsimp only [Pt.U, Pt.locs, Pt.cells, Pt.slots] at X268 l268 y268 z268 st268 hQ268
                  subst l268 y268 z268
                  obtain ⟨b268v2, b268k2, rfl, N268q, Kq268, P269, P270, P271, P272, P273, P274, g_b268v2, szq_b268v2⟩ := hQ268
                  have ne_b102_b268v2 : b102 ≠ b268v2 := Nat.ne_of_lt (Nat.lt_of_lt_of_le Fg158_0.lt szq_b268v2)
                  have ne_vv_b268v2 : vv ≠ b268v2 := Nat.ne_of_lt (Nat.lt_of_lt_of_le Fg158_4.lt szq_b268v2)
                  have ne_a1_b268v2 : a1 ≠ b268v2 := Nat.ne_of_lt (Nat.lt_of_lt_of_le Fg158_6.lt szq_b268v2)
                  have sz_b268v2 : h0.size ≤ b268v2 := Nat.le_trans Kg158.1 szq_b268v2
                  have F275 := (Fg158_0.keep Kq268)
                  have F276 := (Fg158_4.keep Kq268)
                  have F277 := (Fg158_5.keep Kq268 (fun q => (Exa.ne Fg158_4 Fg158_0 (by decide)) (List.mem_singleton.mp q)))
                  have F278 := (Fg158_6.keep Kq268 (fun q => ne_a1_b102 (List.mem_singleton.mp q)))
                  have F279 := (own_sta_keep Fg158_7 Kq268 (by intro x hx; cases List.mem_singleton.mp hx; exact ⟨_, Fg158_0⟩))
                  have Z280 : n0 ≤ T268.heap.size := (Nat.le_trans Zg158 Kq268.1)
                  have K281 : Keep h0 T268.heap [] := (Kg158.trans Kq268 (by intro x hx; cases List.mem_singleton.mp hx; exact (Or.inr sz_b102)))
                  have N268 := Fr.app N246 N268q
                  refine Go.step (fun _ kt => st268.trans kt) ?_
                  show gG T268 m 260 #[vR a1, vR b102, vI (own_i (own_bas cl).length), vI (own_i ux), .val (.long (own_j xd)), .second, vI (own_i xb), vI (own_i xh), vI (own_i ux), vR a1, vI (own_i cl.length), vI (own_i ix), vI (own_i cx), .val (.long (own_j uq)), .second, vI (own_i uk), vI (own_i (own_thr uk xb))] [(.ref b102)]
                  have hwl : (uw ++ [((own_thr uk xb) + ((uq - (own_thr uk xb)) % (36 - (own_thr uk xb))))]).length = uw.length + 1 := by simp
                  have R282 : Fld Z T268.heap b102 "java/lang/AbstractStringBuilder" "count" "I" (.int (own_i ((own_B cl) ++ ((uw ++ [((own_thr uk xb) + ((uq - (own_thr uk xb)) % (36 - (own_thr uk xb))))]).map own_dch)).length)) := by rw [← own_txA]; exact P272
                  have R283 : Arv Z T268.heap b268v2 b268k2 .byte (34 : Int32) ((((own_B cl) ++ ((uw ++ [((own_thr uk xb) + ((uq - (own_thr uk xb)) % (36 - (own_thr uk xb))))]).map own_dch)).map own_i).map Value.int) (.int 0) := by rw [← own_txA]; exact P274
                  refine Go.step (fun _ kt => XS.pop X268.here hx rfl (hb hby d2_260) rfl rfl (XS.lload X268.here hx rfl (hb hby d2_261) rfl (XS.iload X268.here hx rfl (hb hby d2_263) rfl (XS.i2l X268.here hx rfl (hb hby d2_265) rfl kt)))) ?_
                  show gG T268 m 266 #[vR a1, vR b102, vI (own_i (own_bas cl).length), vI (own_i ux), .val (.long (own_j xd)), .second, vI (own_i xb), vI (own_i xh), vI (own_i ux), vR a1, vI (own_i cl.length), vI (own_i ix), vI (own_i cx), .val (.long (own_j uq)), .second, vI (own_i uk), vI (own_i (own_thr uk xb))] [(.long ((own_i (own_thr uk xb)).toInt64)), (.long (own_j uq))]
                  have q284 : ((own_i (own_thr uk xb)).toInt64) = (own_j (own_thr uk xb)) := own_ij (a := (own_thr uk xb)) (by omega)
                  rw [q284]
                  refine Go.step (fun _ kt => XS.lsub X268.here hx rfl (hb hby d2_266) rfl kt) ?_
                  show gG T268 m 267 #[vR a1, vR b102, vI (own_i (own_bas cl).length), vI (own_i ux), .val (.long (own_j xd)), .second, vI (own_i xb), vI (own_i xh), vI (own_i ux), vR a1, vI (own_i cl.length), vI (own_i ix), vI (own_i cx), .val (.long (own_j uq)), .second, vI (own_i uk), vI (own_i (own_thr uk xb))] [(.long ((own_j uq) - (own_j (own_thr uk xb))))]
                  have q285 : ((own_j uq) - (own_j (own_thr uk xb))) = (own_j (uq - (own_thr uk xb))) := own_js (a := uq) (b := (own_thr uk xb)) (by omega)
                  rw [q285]
                  refine Go.step (fun _ kt => XS.bipush X268.here hx rfl (hb hby d2_267) (XS.iload X268.here hx rfl (hb hby d2_269) rfl (XS.isub X268.here hx rfl (hb hby d2_271) rfl kt))) ?_
                  show gG T268 m 272 #[vR a1, vR b102, vI (own_i (own_bas cl).length), vI (own_i ux), .val (.long (own_j xd)), .second, vI (own_i xb), vI (own_i xh), vI (own_i ux), vR a1, vI (own_i cl.length), vI (own_i ix), vI (own_i cx), .val (.long (own_j uq)), .second, vI (own_i uk), vI (own_i (own_thr uk xb))] [(.int ((36 : Int32) - (own_i (own_thr uk xb)))), (.long (own_j (uq - (own_thr uk xb))))]
                  have q286 : ((36 : Int32) - (own_i (own_thr uk xb))) = (own_i (36 - (own_thr uk xb))) := own_is (a := 36) (b := (own_thr uk xb)) (by omega)
                  rw [q286]
                  refine Go.step (fun _ kt => XS.i2l X268.here hx rfl (hb hby d2_272) rfl kt) ?_
                  show gG T268 m 273 #[vR a1, vR b102, vI (own_i (own_bas cl).length), vI (own_i ux), .val (.long (own_j xd)), .second, vI (own_i xb), vI (own_i xh), vI (own_i ux), vR a1, vI (own_i cl.length), vI (own_i ix), vI (own_i cx), .val (.long (own_j uq)), .second, vI (own_i uk), vI (own_i (own_thr uk xb))] [(.long ((own_i (36 - (own_thr uk xb))).toInt64)), (.long (own_j (uq - (own_thr uk xb))))]
                  have q287 : ((own_i (36 - (own_thr uk xb))).toInt64) = (own_j (36 - (own_thr uk xb))) := own_ij (a := (36 - (own_thr uk xb))) (by omega)
                  rw [q287]
                  have hdv := Nat.div_le_self (uq - own_thr uk xb) (36 - own_thr uk xb)
                  refine Go.step (fun _ kt => XS.ldiv X268.here hx rfl (hb hby d2_273) rfl (own_jnz (by omega) (by omega)) kt) ?_
                  show gG T268 m 274 #[vR a1, vR b102, vI (own_i (own_bas cl).length), vI (own_i ux), .val (.long (own_j xd)), .second, vI (own_i xb), vI (own_i xh), vI (own_i ux), vR a1, vI (own_i cl.length), vI (own_i ix), vI (own_i cx), .val (.long (own_j uq)), .second, vI (own_i uk), vI (own_i (own_thr uk xb))] [(.long ((own_j (uq - (own_thr uk xb))) / (own_j (36 - (own_thr uk xb)))))]
                  have q288 : ((own_j (uq - (own_thr uk xb))) / (own_j (36 - (own_thr uk xb)))) = (own_j ((uq - (own_thr uk xb)) / (36 - (own_thr uk xb)))) := own_jd (a := (uq - (own_thr uk xb))) (b := (36 - (own_thr uk xb))) (by omega) (by omega)
                  rw [q288]
                  refine Go.step (fun _ kt => XS.lstore X268.here hx rfl (hb hby d2_274) rfl (l' := #[vR a1, vR b102, vI (own_i (own_bas cl).length), vI (own_i ux), .val (.long (own_j xd)), .second, vI (own_i xb), vI (own_i xh), vI (own_i ux), vR a1, vI (own_i cl.length), vI (own_i ix), vI (own_i cx), .val (.long (own_j ((uq - (own_thr uk xb)) / (36 - (own_thr uk xb))))), .second, vI (own_i uk), vI (own_i (own_thr uk xb))]) rfl (XS.iinc X268.here hx rfl (hb hby d2_276) rfl (l' := #[vR a1, vR b102, vI (own_i (own_bas cl).length), vI (own_i ux), .val (.long (own_j xd)), .second, vI (own_i xb), vI (own_i xh), vI (own_i ux), vR a1, vI (own_i cl.length), vI (own_i ix), vI (own_i cx), .val (.long (own_j ((uq - (own_thr uk xb)) / (36 - (own_thr uk xb))))), .second, vI ((own_i uk) + (36 : Int32)), vI (own_i (own_thr uk xb))]) rfl kt)) ?_
                  show gG T268 m 279 #[vR a1, vR b102, vI (own_i (own_bas cl).length), vI (own_i ux), .val (.long (own_j xd)), .second, vI (own_i xb), vI (own_i xh), vI (own_i ux), vR a1, vI (own_i cl.length), vI (own_i ix), vI (own_i cx), .val (.long (own_j ((uq - (own_thr uk xb)) / (36 - (own_thr uk xb))))), .second, vI ((own_i uk) + (36 : Int32)), vI (own_i (own_thr uk xb))] []
                  have q289 : ((own_i uk) + (36 : Int32)) = (own_i (uk + 36)) := own_ia uk 36
                  rw [q289]
                  refine Go.step (fun _ kt => XS.goto X268.here hx rfl (pc0 := 279) (pc' := 215) rfl (hb hby d2_279) (by decide) (by decide) kt) ?_
                  show gG T268 m 215 #[vR a1, vR b102, vI (own_i (own_bas cl).length), vI (own_i ux), .val (.long (own_j xd)), .second, vI (own_i xb), vI (own_i xh), vI (own_i ux), vR a1, vI (own_i cl.length), vI (own_i ix), vI (own_i cx), .val (.long (own_j ((uq - (own_thr uk xb)) / (36 - (own_thr uk xb))))), .second, vI (own_i (uk + 36)), vI (own_i (own_thr uk xb))] []
                  exact ih215 ((uq - (own_thr uk xb)) / (36 - (own_thr uk xb))) (uk + 36) (uw ++ [((own_thr uk xb) + ((uq - (own_thr uk xb)) % (36 - (own_thr uk xb))))]) b268v2 b268k2 (34 : Int32) 3 54 _ (by rw [← hV, own_vint_ge hN230]; simp) (by omega) (by omega) (by rw [hwl]; omega) (Nat.le_trans (show (own_B cl).length + (uw ++ [((own_thr uk xb) + ((uq - (own_thr uk xb)) % (36 - (own_thr uk xb))))]).length ≤ 34 by omega) (by decide)) (Or.inr ⟨rfl, rfl, rfl⟩) (by decide) (by decide) g_b268v2 sz_b268v2 ne_a1_b268v2 (Or.inr ⟨_, rfl⟩) _ _ _ (X268.more (by decide) (by decide)) rfl N268 Z280 K281 P269 P270 P271 R282 P273 R283 F278 F279
                ·show gG T246 m 257 #[vR a1, vR b102, vI (own_i (own_bas cl).length), vI (own_i ux), .val (.long (own_j xd)), .second, vI (own_i xb), vI (own_i xh), vI (own_i ux), vR a1, vI (own_i cl.length), vI (own_i ix), vI (own_i cx), .val (.long (own_j uq)), .second, vI (own_i uk), vI (own_i (own_thr uk xb))] [(.int (own_i (own_dch ((own_thr uk xb) + ((uq - (own_thr uk xb)) % (36 - (own_thr uk xb))))))), (.ref b102)]
                 obtain ⟨cq290, kq290, q290a, q290b, q290c⟩ := isOf hZ eh246 Fg158_0
                 obtain ⟨_, _, ⟨T290, L290, k290, n290⟩, -, X290, ⟨Lc290, hQ290, l290, y290, z290⟩, st290⟩ := X246.virtualBack hx (y := Y19) (z := Y19) hown (mvT hZ (w151 hw)) (mvT hZ (w152 hw)) (notFace_of_selects (args := #[]) (mvT hZ (w154 hw))) (mvT hZ (w154 hw)) (mvT hZ (w153 hw)) (by decide) (backOf (W := 0) (rmap28n l Z a0 hw [] b102 (own_dch ((own_thr uk xb) + ((uq - (own_thr uk xb)) % (36 - (own_thr uk xb))))) (34 : Int32) ((own_B cl) ++ (uw.map own_dch)) vv kv cs Hg158 n0 Zg158 Fg158_0 Fg158_1 Fg158_2 Fg158_3 Fg158_4 Fg158_5 Fg158_7 g_b102 hcs hdl g_vv ⟨by rw [hTx]; exact Nat.lt_of_lt_of_le (show _ < 34 by omega) (by decide), by rw [hTx]; omega⟩) hZ (w155 hw) (w13 hw) (by decide) (by decide)) q290a q290c (g := (mkF m 257 #[vR a1, vR b102, vI (own_i (own_bas cl).length), vI (own_i ux), .val (.long (own_j xd)), .second, vI (own_i xb), vI (own_i xh), vI (own_i ux), vR a1, vI (own_i cl.length), vI (own_i ix), vI (own_i cx), .val (.long (own_j uq)), .second, vI (own_i uk), vI (own_i (own_thr uk xb))] [(.int (own_i (own_dch ((own_thr uk xb) + ((uq - (own_thr uk xb)) % (36 - (own_thr uk xb))))))), (.ref b102)])) rfl hml.symm (Steps.refl _) (argsL := [(.int (own_i (own_dch ((own_thr uk xb) + ((uq - (own_thr uk xb)) % (36 - (own_thr uk xb)))))))]) (rest := []) (lenOf pd_21 rfl) rfl (Nat.le_of_eq rfl) (hb hby d2_257) (fun _ _ => ⟨rfl, eh246, (by decide : 3 + 0 ≤ _), (by decide : 54 + 0 ≤ _)⟩)
                 dsimp only [Pt.U, Pt.locs, Pt.cells, Pt.slots] at X290 l290 y290 z290 st290 hQ290
                 subst l290 y290 z290
                 obtain ⟨rfl, N290q, Kq290, P291, P292, P293, P294, P295, P296⟩ := hQ290
                 have F297 := (Fg158_0.keep Kq290)
                 have F298 := (Fg158_4.keep Kq290)
                 have F299 := (Fg158_6.keep Kq290 (by simp only [List.mem_cons, List.not_mem_nil, or_false, not_or]; exact ⟨ne_a1_b102, ne_a1_vv⟩))
                 have F300 := (own_sta_keep Fg158_7 Kq290 (by intro x hx; rcases List.mem_cons.mp hx with rfl | hx; exact ⟨_, Fg158_0⟩; cases List.mem_singleton.mp hx; exact ⟨_, Fg158_4⟩))
                 have Z301 : n0 ≤ T290.heap.size := (Nat.le_trans Zg158 Kq290.1)
                 have K302 : Keep h0 T290.heap [] := (Kg158.trans Kq290 (by intro x hx; simp only [List.mem_cons, List.not_mem_nil, or_false] at hx; rcases hx with rfl | rfl; exact Or.inr sz_b102; exact Or.inr sz_vv))
                 have N290 := Fr.app N246 N290q
                 refine Go.step (fun _ kt => st290.trans kt) ?_
                 show gG T290 m 260 #[vR a1, vR b102, vI (own_i (own_bas cl).length), vI (own_i ux), .val (.long (own_j xd)), .second, vI (own_i xb), vI (own_i xh), vI (own_i ux), vR a1, vI (own_i cl.length), vI (own_i ix), vI (own_i cx), .val (.long (own_j uq)), .second, vI (own_i uk), vI (own_i (own_thr uk xb))] [(.ref b102)]
                 have hwl : (uw ++ [((own_thr uk xb) + ((uq - (own_thr uk xb)) % (36 - (own_thr uk xb))))]).length = uw.length + 1 := by simp
                 have R303 : Fld Z T290.heap b102 "java/lang/AbstractStringBuilder" "count" "I" (.int (own_i ((own_B cl) ++ ((uw ++ [((own_thr uk xb) + ((uq - (own_thr uk xb)) % (36 - (own_thr uk xb))))]).map own_dch)).length)) := by rw [← own_txA]; exact P294
                 have R304 : Arv Z T290.heap vv kv .byte (34 : Int32) ((((own_B cl) ++ ((uw ++ [((own_thr uk xb) + ((uq - (own_thr uk xb)) % (36 - (own_thr uk xb))))]).map own_dch)).map own_i).map Value.int) (.int 0) := by rw [← own_txA]; exact P296
                 refine Go.step (fun _ kt => XS.pop X290.here hx rfl (hb hby d2_260) rfl rfl (XS.lload X290.here hx rfl (hb hby d2_261) rfl (XS.iload X290.here hx rfl (hb hby d2_263) rfl (XS.i2l X290.here hx rfl (hb hby d2_265) rfl kt)))) ?_
                 show gG T290 m 266 #[vR a1, vR b102, vI (own_i (own_bas cl).length), vI (own_i ux), .val (.long (own_j xd)), .second, vI (own_i xb), vI (own_i xh), vI (own_i ux), vR a1, vI (own_i cl.length), vI (own_i ix), vI (own_i cx), .val (.long (own_j uq)), .second, vI (own_i uk), vI (own_i (own_thr uk xb))] [(.long ((own_i (own_thr uk xb)).toInt64)), (.long (own_j uq))]
                 have q305 : ((own_i (own_thr uk xb)).toInt64) = (own_j (own_thr uk xb)) := own_ij (a := (own_thr uk xb)) (by omega)
                 rw [q305]
                 refine Go.step (fun _ kt => XS.lsub X290.here hx rfl (hb hby d2_266) rfl kt) ?_
                 show gG T290 m 267 #[vR a1, vR b102, vI (own_i (own_bas cl).length), vI (own_i ux), .val (.long (own_j xd)), .second, vI (own_i xb), vI (own_i xh), vI (own_i ux), vR a1, vI (own_i cl.length), vI (own_i ix), vI (own_i cx), .val (.long (own_j uq)), .second, vI (own_i uk), vI (own_i (own_thr uk xb))] [(.long ((own_j uq) - (own_j (own_thr uk xb))))]
                 have q306 : ((own_j uq) - (own_j (own_thr uk xb))) = (own_j (uq - (own_thr uk xb))) := own_js (a := uq) (b := (own_thr uk xb)) (by omega)
                 rw [q306]
                 refine Go.step (fun _ kt => XS.bipush X290.here hx rfl (hb hby d2_267) (XS.iload X290.here hx rfl (hb hby d2_269) rfl (XS.isub X290.here hx rfl (hb hby d2_271) rfl kt))) ?_
                 show gG T290 m 272 #[vR a1, vR b102, vI (own_i (own_bas cl).length), vI (own_i ux), .val (.long (own_j xd)), .second, vI (own_i xb), vI (own_i xh), vI (own_i ux), vR a1, vI (own_i cl.length), vI (own_i ix), vI (own_i cx), .val (.long (own_j uq)), .second, vI (own_i uk), vI (own_i (own_thr uk xb))] [(.int ((36 : Int32) - (own_i (own_thr uk xb)))), (.long (own_j (uq - (own_thr uk xb))))]
                 have q307 : ((36 : Int32) - (own_i (own_thr uk xb))) = (own_i (36 - (own_thr uk xb))) := own_is (a := 36) (b := (own_thr uk xb)) (by omega)
                 rw [q307]
                 refine Go.step (fun _ kt => XS.i2l X290.here hx rfl (hb hby d2_272) rfl kt) ?_
                 show gG T290 m 273 #[vR a1, vR b102, vI (own_i (own_bas cl).length), vI (own_i ux), .val (.long (own_j xd)), .second, vI (own_i xb), vI (own_i xh), vI (own_i ux), vR a1, vI (own_i cl.length), vI (own_i ix), vI (own_i cx), .val (.long (own_j uq)), .second, vI (own_i uk), vI (own_i (own_thr uk xb))] [(.long ((own_i (36 - (own_thr uk xb))).toInt64)), (.long (own_j (uq - (own_thr uk xb))))]
                 have q308 : ((own_i (36 - (own_thr uk xb))).toInt64) = (own_j (36 - (own_thr uk xb))) := own_ij (a := (36 - (own_thr uk xb))) (by omega)
                 rw [q308]
                 have hdv := Nat.div_le_self (uq - own_thr uk xb) (36 - own_thr uk xb)
                 refine Go.step (fun _ kt => XS.ldiv X290.here hx rfl (hb hby d2_273) rfl (own_jnz (by omega) (by omega)) kt) ?_
                 show gG T290 m 274 #[vR a1, vR b102, vI (own_i (own_bas cl).length), vI (own_i ux), .val (.long (own_j xd)), .second, vI (own_i xb), vI (own_i xh), vI (own_i ux), vR a1, vI (own_i cl.length), vI (own_i ix), vI (own_i cx), .val (.long (own_j uq)), .second, vI (own_i uk), vI (own_i (own_thr uk xb))] [(.long ((own_j (uq - (own_thr uk xb))) / (own_j (36 - (own_thr uk xb)))))]
                 have q309 : ((own_j (uq - (own_thr uk xb))) / (own_j (36 - (own_thr uk xb)))) = (own_j ((uq - (own_thr uk xb)) / (36 - (own_thr uk xb)))) := own_jd (a := (uq - (own_thr uk xb))) (b := (36 - (own_thr uk xb))) (by omega) (by omega)
                 rw [q309]
                 refine Go.step (fun _ kt => XS.lstore X290.here hx rfl (hb hby d2_274) rfl (l' := #[vR a1, vR b102, vI (own_i (own_bas cl).length), vI (own_i ux), .val (.long (own_j xd)), .second, vI (own_i xb), vI (own_i xh), vI (own_i ux), vR a1, vI (own_i cl.length), vI (own_i ix), vI (own_i cx), .val (.long (own_j ((uq - (own_thr uk xb)) / (36 - (own_thr uk xb))))), .second, vI (own_i uk), vI (own_i (own_thr uk xb))]) rfl (XS.iinc X290.here hx rfl (hb hby d2_276) rfl (l' := #[vR a1, vR b102, vI (own_i (own_bas cl).length), vI (own_i ux), .val (.long (own_j xd)), .second, vI (own_i xb), vI (own_i xh), vI (own_i ux), vR a1, vI (own_i cl.length), vI (own_i ix), vI (own_i cx), .val (.long (own_j ((uq - (own_thr uk xb)) / (36 - (own_thr uk xb))))), .second, vI ((own_i uk) + (36 : Int32)), vI (own_i (own_thr uk xb))]) rfl kt)) ?_
                 show gG T290 m 279 #[vR a1, vR b102, vI (own_i (own_bas cl).length), vI (own_i ux), .val (.long (own_j xd)), .second, vI (own_i xb), vI (own_i xh), vI (own_i ux), vR a1, vI (own_i cl.length), vI (own_i ix), vI (own_i cx), .val (.long (own_j ((uq - (own_thr uk xb)) / (36 - (own_thr uk xb))))), .second, vI ((own_i uk) + (36 : Int32)), vI (own_i (own_thr uk xb))] []
                 have q310 : ((own_i uk) + (36 : Int32)) = (own_i (uk + 36)) := own_ia uk 36
                 rw [q310]
                 refine Go.step (fun _ kt => XS.goto X290.here hx rfl (pc0 := 279) (pc' := 215) rfl (hb hby d2_279) (by decide) (by decide) kt) ?_
                 show gG T290 m 215 #[vR a1, vR b102, vI (own_i (own_bas cl).length), vI (own_i ux), .val (.long (own_j xd)), .second, vI (own_i xb), vI (own_i xh), vI (own_i ux), vR a1, vI (own_i cl.length), vI (own_i ix), vI (own_i cx), .val (.long (own_j ((uq - (own_thr uk xb)) / (36 - (own_thr uk xb))))), .second, vI (own_i (uk + 36)), vI (own_i (own_thr uk xb))] []
                 exact ih215 ((uq - (own_thr uk xb)) / (36 - (own_thr uk xb))) (uk + 36) (uw ++ [((own_thr uk xb) + ((uq - (own_thr uk xb)) % (36 - (own_thr uk xb))))]) vv kv (34 : Int32) 3 54 _ (by rw [← hV, own_vint_ge hN230]; simp) (by omega) (by omega) (by rw [hwl]; omega) (Nat.le_trans (show (own_B cl).length + (uw ++ [((own_thr uk xb) + ((uq - (own_thr uk xb)) % (36 - (own_thr uk xb))))]).length ≤ 34 by omega) (by decide)) (Or.inr ⟨rfl, rfl, rfl⟩) (by decide) (by decide) g_vv sz_vv ne_a1_vv (Or.inr ⟨_, rfl⟩) _ _ _ (X290.more (by decide) (by decide)) rfl N290 Z301 K302 P291 P292 P293 R303 P295 R304 F299 F300
             exact G215g158 (xd + 1) xd 36 xo vv kv zc kc ks _ rfl (Nat.lt_succ_self _) (Nat.le_refl _) (by omega) hcap hM hkc hks g_vv sz_vv ne_a1_vv h_s16 _ _ _ Xg149 eg149 Ng149 Zg149 Kg149 Fg149_0 Fg149_1 Fg149_2 Fg149_3 Fg149_4 Fg149_5 Fg149_6 Fg149_7
            ·have hN204 : ¬ (cx = ux) := own_ief (a := cx) (b := ux) (by omega) (by omega) hc204_156
             refine Go.step (fun _ kt => XS.icmpYes Xg149.here hx rfl (pc0 := 204) (pc' := 320) rfl (hb hby d2_204) rfl (feq hc204_156).2 (by decide) (by decide) (XS.iinc Xg149.here hx rfl (hb hby d2_320) rfl (l' := #[vR a1, vR b102, vI (own_i (own_bas cl).length), vI (own_i ux), .val (.long (own_j xd)), .second, vI (own_i xb), vI (own_i xh), vI (own_i ux), vR a1, vI (own_i cl.length), vI ((own_i ix) + (1 : Int32)), vI (own_i cx), s13, s14, s15, s16]) rfl kt)) ?_
             show gG Tg149 m 323 #[vR a1, vR b102, vI (own_i (own_bas cl).length), vI (own_i ux), .val (.long (own_j xd)), .second, vI (own_i xb), vI (own_i xh), vI (own_i ux), vR a1, vI (own_i cl.length), vI ((own_i ix) + (1 : Int32)), vI (own_i cx), s13, s14, s15, s16] []
             have q311 : ((own_i ix) + (1 : Int32)) = (own_i (ix + 1)) := own_ia ix 1
             rw [q311]
             refine Go.step (fun _ kt => XS.goto Xg149.here hx rfl (pc0 := 323) (pc' := 172) rfl (hb hby d2_323) (by decide) (by decide) kt) ?_
             show gG Tg149 m 172 #[vR a1, vR b102, vI (own_i (own_bas cl).length), vI (own_i ux), .val (.long (own_j xd)), .second, vI (own_i xb), vI (own_i xh), vI (own_i ux), vR a1, vI (own_i cl.length), vI (own_i (ix + 1)), vI (own_i cx), s13, s14, s15, s16] []
             exact ih172 (pre ++ [cx]) (ix + 1) xd xb xh xo vv kv zc kc ks _ _ _ _ _ (by rw [hsp]; simp) (by rw [hix]; simp) (by rw [hE2, own_rest_gt hN189 hN204]) (by rw [List.filter_cons_of_neg (by simp; omega)] at hh2; exact hh2) (by omega) hb2 hcap hM hkc hks g_vv sz_vv ne_a1_vv (Or.inr ⟨_, rfl⟩) h_s13 h_s15 h_s16 _ _ _ Xg149 eg149 Ng149 Zg149 Kg149 Fg149_0 Fg149_1 Fg149_2 Fg149_3 Fg149_4 Fg149_5 Fg149_6 Fg149_7
         exact G172g149 cl ([] : List Nat) 0 (ud + ((ux - un) * (uh + 1))) ub uh uo vv kv zc kc ks _ _ _ _ _ rfl rfl hE0 t3 (by omega) hub hcap hM hkc hks g_vv sz_vv ne_a1_vv h_s12 h_s13 h_s15 h_s16 _ _ _ Xg140 eg140 Ng140 Zg140 Kg140 Fg140_0 Fg140_1 Fg140_2 Fg140_3 Fg140_4 Fg140_5 Fg140_6 Fg140_7
        | cons cx suf ih102 =>
         intro pre ix ux s12 hsp hix hX hux h_s12 Tg140 Hg140 Lg140 Xg140 eg140 Ng140 Zg140 Kg140 Fg140_0 Fg140_1 Fg140_2 Fg140_3 Fg140_4 Fg140_5 Fg140_6 Fg140_7
         show gG Tg140 m 102 #[vR a1, vR b102, vI (own_i (own_bas cl).length), vI (own_i un), .val (.long (own_j ud)), .second, vI (own_i ub), vI (own_i uh), vI (own_i ux), vR a1, vI (own_i cl.length), vI (own_i ix), s12, s13, s14, s15, s16] []
         have hn1 : ix < cl.length := by rw [hix, hsp, List.length_append, List.length_cons]; omega
         have hcb : cx ≤ 1114111 := hcl cx (by rw [hsp]; simp)
         refine Go.step (fun _ kt => XS.iload Xg140.here hx rfl (hb hby d2_102) rfl (XS.iload Xg140.here hx rfl (hb hby d2_104) rfl (XS.icmpNo Xg140.here hx rfl (hb hby d2_106) rfl (tlt (own_ilT (a := ix) (b := cl.length) (by omega) (by omega) (by omega))).2.1 (XS.aload Xg140.here hx rfl (hb hby d2_109) rfl rfl (XS.iload Xg140.here hx rfl (hb hby d2_111) rfl kt))))) ?_
         show gG Tg140 m 113 #[vR a1, vR b102, vI (own_i (own_bas cl).length), vI (own_i un), .val (.long (own_j ud)), .second, vI (own_i ub), vI (own_i uh), vI (own_i ux), vR a1, vI (own_i cl.length), vI (own_i ix), s12, s13, s14, s15, s16] [(.int (own_i ix)), (.ref a1)]
         obtain ⟨cl312, Ar312, qa312, Sa312, Na312, Ha312, Ga312⟩ := (id Fg140_6)
         have hin312 : ¬ ((own_i ix) < 0 ∨ cl312.slots.size ≤ ((own_i ix)).toNatClampNeg) := own_inN Sa312 (own_ltN (by omega) (by omega)) (by omega)
         have hat312 : cl312.slots[((own_i ix)).toNatClampNeg]? = some (.int (own_i cx)) := at_of Ha312 hin312 (by rw [own_iN (by omega)]; exact own_atE hsp hix)
         refine Go.step (Xg140.iaload hx (j := (own_i ix)) (v := (.int (own_i cx))) (by rw [eg140]; exact Ar312.1) (State.isArrayOf_alike hZ.alike Ar312.2.1) Ar312.2.2 hin312 hat312 (g := (mkF m 113 #[vR a1, vR b102, vI (own_i (own_bas cl).length), vI (own_i un), .val (.long (own_j ud)), .second, vI (own_i ub), vI (own_i uh), vI (own_i ux), vR a1, vI (own_i cl.length), vI (own_i ix), s12, s13, s14, s15, s16] [(.int (own_i ix)), (.ref a1)])) rfl rfl (hb hby d2_113)) ?_
         show gG Tg140 m 114 #[vR a1, vR b102, vI (own_i (own_bas cl).length), vI (own_i un), .val (.long (own_j ud)), .second, vI (own_i ub), vI (own_i uh), vI (own_i ux), vR a1, vI (own_i cl.length), vI (own_i ix), s12, s13, s14, s15, s16] [(.int (own_i cx))]
         refine Go.step (fun _ kt => XS.istore Xg140.here hx rfl (hb hby d2_114) rfl (l' := #[vR a1, vR b102, vI (own_i (own_bas cl).length), vI (own_i un), .val (.long (own_j ud)), .second, vI (own_i ub), vI (own_i uh), vI (own_i ux), vR a1, vI (own_i cl.length), vI (own_i ix), vI (own_i cx), s13, s14, s15, s16]) (by rcases h_s12 with rfl | ⟨_, rfl⟩ <;> rfl) (XS.iload Xg140.here hx rfl (hb hby d2_116) rfl (XS.iloadN Xg140.here hx rfl (hb hby d2_118) rfl kt))) ?_
         show gG Tg140 m 119 #[vR a1, vR b102, vI (own_i (own_bas cl).length), vI (own_i un), .val (.long (own_j ud)), .second, vI (own_i ub), vI (own_i uh), vI (own_i ux), vR a1, vI (own_i cl.length), vI (own_i ix), vI (own_i cx), s13, s14, s15, s16] [(.int (own_i un)), (.int (own_i cx))]
         by_cases hc119_313 : (own_i cx) < (own_i un)
         ·have hN119 : cx < un := own_ilt (a := cx) (b := un) (by omega) (by omega) hc119_313
          refine Go.step (fun _ kt => XS.icmpYes Xg140.here hx rfl (pc0 := 119) (pc' := 132) rfl (hb hby d2_119) rfl (tlt hc119_313).1 (by decide) (by decide) (XS.iload Xg140.here hx rfl (hb hby d2_132) rfl (XS.istore Xg140.here hx rfl (hb hby d2_134) rfl (l' := #[vR a1, vR b102, vI (own_i (own_bas cl).length), vI (own_i un), .val (.long (own_j ud)), .second, vI (own_i ub), vI (own_i uh), vI (own_i ux), vR a1, vI (own_i cl.length), vI (own_i ix), vI (own_i cx), s13, s14, s15, s16]) rfl (XS.iinc Xg140.here hx rfl (hb hby d2_136) rfl (l' := #[vR a1, vR b102, vI (own_i (own_bas cl).length), vI (own_i un), .val (.long (own_j ud)), .second, vI (own_i ub), vI (own_i uh), vI (own_i ux), vR a1, vI (own_i cl.length), vI ((own_i ix) + (1 : Int32)), vI (own_i cx), s13, s14, s15, s16]) rfl kt)))) ?_
          show gG Tg140 m 139 #[vR a1, vR b102, vI (own_i (own_bas cl).length), vI (own_i un), .val (.long (own_j ud)), .second, vI (own_i ub), vI (own_i uh), vI (own_i ux), vR a1, vI (own_i cl.length), vI ((own_i ix) + (1 : Int32)), vI (own_i cx), s13, s14, s15, s16] []
          have q314 : ((own_i ix) + (1 : Int32)) = (own_i (ix + 1)) := own_ia ix 1
          rw [q314]
          refine Go.step (fun _ kt => XS.goto Xg140.here hx rfl (pc0 := 139) (pc' := 102) rfl (hb hby d2_139) (by decide) (by decide) kt) ?_
          show gG Tg140 m 102 #[vR a1, vR b102, vI (own_i (own_bas cl).length), vI (own_i un), .val (.long (own_j ud)), .second, vI (own_i ub), vI (own_i uh), vI (own_i ux), vR a1, vI (own_i cl.length), vI (own_i (ix + 1)), vI (own_i cx), s13, s14, s15, s16] []
          exact ih102 (pre ++ [cx]) (ix + 1) ux _ (by rw [hsp]; simp) (by rw [hix]; simp) (by rw [← own_nxtF hN119]; exact hX) (by omega) (Or.inr ⟨_, rfl⟩) _ _ _ Xg140 eg140 Ng140 Zg140 Kg140 Fg140_0 Fg140_1 Fg140_2 Fg140_3 Fg140_4 Fg140_5 Fg140_6 Fg140_7
         ·have hN119 : ¬ (cx < un) := own_ilf (a := cx) (b := un) (by omega) (by omega) hc119_313
          refine Go.step (fun _ kt => XS.icmpNo Xg140.here hx rfl (hb hby d2_119) rfl (flt hc119_313).1 (XS.iload Xg140.here hx rfl (hb hby d2_122) rfl (XS.iload Xg140.here hx rfl (hb hby d2_124) rfl kt))) ?_
          obtain ⟨_, _, ⟨T315, L315, k315, n315⟩, -, X315, ⟨Lc315, hQ315, l315, y315, z315⟩, st315⟩ := Jvm.LawKit.callS Xg140 hx (y := Y0) hown (mvT hZ (w170 hw)) (mvT hZ (w85 hw)) (mvT hZ (w86 hw)) (mvT hZ (w87 hw)) (by decide) (backOf (W := 0) (rmmin l Z a0 hw [] (own_i ux) (own_i cx)  Hg140 n0 Zg140  ) hZ (w87 hw) (w86 hw) (by decide) (by decide)) (g := (mkF m 126 #[vR a1, vR b102, vI (own_i (own_bas cl).length), vI (own_i un), .val (.long (own_j ud)), .second, vI (own_i ub), vI (own_i uh), vI (own_i ux), vR a1, vI (own_i cl.length), vI (own_i ix), vI (own_i cx), s13, s14, s15, s16] [(.int (own_i cx)), (.int (own_i ux))])) rfl hml.symm (argsL := [(.int (own_i ux)), (.int (own_i cx))]) (rest := []) (lenOf pd_0 rfl) rfl (Nat.le_of_eq rfl) (hb hby d2_126) (fun _ _ => ⟨rfl, eg140, (Nat.le_trans hkc (by decide)), (Nat.le_trans hks (by decide))⟩)
          dsimp only [Pt.U, Pt.locs, Pt.cells, Pt.slots] at X315 l315 y315 z315 st315 hQ315
          subst l315 y315 z315
          obtain ⟨rfl, N315q, eh315⟩ := hQ315
          have N315 := Fr.app Ng140 N315q
          refine Go.step st315 ?_
          show gG T315 m 129 #[vR a1, vR b102, vI (own_i (own_bas cl).length), vI (own_i un), .val (.long (own_j ud)), .second, vI (own_i ub), vI (own_i uh), vI (own_i ux), vR a1, vI (own_i cl.length), vI (own_i ix), vI (own_i cx), s13, s14, s15, s16] [(.int (own_min (own_i ux) (own_i cx)))]
          have q316 : (own_min (own_i ux) (own_i cx)) = (own_i (min ux cx)) := own_mini (a := ux) (b := cx) (by omega) (by omega)
          rw [q316]
          refine Go.step (fun _ kt => XS.goto X315.here hx rfl (pc0 := 129) (pc' := 134) rfl (hb hby d2_129) (by decide) (by decide) (XS.istore X315.here hx rfl (hb hby d2_134) rfl (l' := #[vR a1, vR b102, vI (own_i (own_bas cl).length), vI (own_i un), .val (.long (own_j ud)), .second, vI (own_i ub), vI (own_i uh), vI (own_i (min ux cx)), vR a1, vI (own_i cl.length), vI (own_i ix), vI (own_i cx), s13, s14, s15, s16]) rfl (XS.iinc X315.here hx rfl (hb hby d2_136) rfl (l' := #[vR a1, vR b102, vI (own_i (own_bas cl).length), vI (own_i un), .val (.long (own_j ud)), .second, vI (own_i ub), vI (own_i uh), vI (own_i (min ux cx)), vR a1, vI (own_i cl.length), vI ((own_i ix) + (1 : Int32)), vI (own_i cx), s13, s14, s15, s16]) rfl kt))) ?_
          show gG T315 m 139 #[vR a1, vR b102, vI (own_i (own_bas cl).length), vI (own_i un), .val (.long (own_j ud)), .second, vI (own_i ub), vI (own_i uh), vI (own_i (min ux cx)), vR a1, vI (own_i cl.length), vI ((own_i ix) + (1 : Int32)), vI (own_i cx), s13, s14, s15, s16] []
          have q317 : ((own_i ix) + (1 : Int32)) = (own_i (ix + 1)) := own_ia ix 1
          rw [q317]
          refine Go.step (fun _ kt => XS.goto X315.here hx rfl (pc0 := 139) (pc' := 102) rfl (hb hby d2_139) (by decide) (by decide) kt) ?_
          show gG T315 m 102 #[vR a1, vR b102, vI (own_i (own_bas cl).length), vI (own_i un), .val (.long (own_j ud)), .second, vI (own_i ub), vI (own_i uh), vI (own_i (min ux cx)), vR a1, vI (own_i cl.length), vI (own_i (ix + 1)), vI (own_i cx), s13, s14, s15, s16] []
          exact ih102 (pre ++ [cx]) (ix + 1) (min ux cx) _ (by rw [hsp]; simp) (by rw [hix]; simp) (by rw [← own_nxtT hN119]; exact hX) (by omega) (Or.inr ⟨_, rfl⟩) _ _ _ X315 eh315 N315 Zg140 Kg140 Fg140_0 Fg140_1 Fg140_2 Fg140_3 Fg140_4 Fg140_5 Fg140_6 Fg140_7
       exact G102g140 cl ([] : List Nat) 0 2147483647 _ rfl rfl rfl (Nat.le_refl _) h_s12 _ _ _ Xg134 eg134 Ng134 Zg134 Kg134 Fg134_0 Fg134_1 Fg134_2 Fg134_3 Fg134_4 Fg134_5 Fg134_6 Fg134_7
      ·have hN84 : ¬ (uh < cl.length) := own_ilf (a := uh) (b := cl.length) (by omega) (by omega) hc84_136
       refine Go.step (fun _ kt => XS.icmpYes Xg134.here hx rfl (pc0 := 84) (pc' := 338) rfl (hb hby d2_84) rfl (flt hc84_136).2.1 (by decide) (by decide) kt) ?_
       show gG Tg134 m 338 #[vR a1, vR b102, vI (own_i (own_bas cl).length), vI (own_i un), .val (.long (own_j ud)), .second, vI (own_i ub), vI (own_i uh), s8, s9, s10, s11, s12, s13, s14, s15, s16] []
       have hF : own_ds cl = uo := by rw [hE, own_outerF hN84]
       have hTl : (own_txt cl).length = (own_B cl).length + uo.length := by unfold own_txt; rw [hF]; simp
       have R318 : Fld Z Hg134 b102 "java/lang/AbstractStringBuilder" "count" "I" (.int (own_i (own_txt cl).length)) := by unfold own_txt; rw [hF]; exact Fg134_3
       have R319 : Arv Z Hg134 vv kv .byte zc (((own_txt cl).map own_i).map Value.int) (.int 0) := by unfold own_txt; rw [hF]; exact Fg134_5
       rcases hM with ⟨rfl, rfl, rfl⟩ | ⟨rfl, rfl, rfl⟩
       ·show gG Tg134 m 338 #[vR a1, vR b102, vI (own_i (own_bas cl).length), vI (own_i un), .val (.long (own_j ud)), .second, vI (own_i ub), vI (own_i uh), s8, s9, s10, s11, s12, s13, s14, s15, s16] []
        refine Go.step (fun _ kt => XS.aloadN Xg134.here hx rfl (hb hby d2_338) rfl rfl kt) ?_
        show gG Tg134 m 339 #[vR a1, vR b102, vI (own_i (own_bas cl).length), vI (own_i un), .val (.long (own_j ud)), .second, vI (own_i ub), vI (own_i uh), s8, s9, s10, s11, s12, s13, s14, s15, s16] [(.ref b102)]
        obtain ⟨cq320, kq320, q320a, q320b, q320c⟩ := isOf hZ eg134 Fg134_0
        obtain ⟨_, _, ⟨T320, L320, k320, n320⟩, -, X320, ⟨Lc320, hQ320, l320, y320, z320⟩, st320⟩ := Xg134.virtualBack hx (y := Y25) (z := Y25) hown (mvT hZ (w45 hw)) (mvT hZ (w46 hw)) (notFace_of_selects (args := #[]) (mvT hZ (w48 hw))) (mvT hZ (w48 hw)) (mvT hZ (w47 hw)) (by decide) (backOf (W := 0) (rmts l Z a0 hw [] b102 (16 : Int32) (own_txt cl) vv kv cs Hg134 n0 Zg134 Fg134_0 Fg134_1 Fg134_2 R318 Fg134_4 R319 Fg134_7 hcs ⟨by rw [hTl]; exact hcap, by rw [hTl, ← hF]; omega, by decide⟩) hZ (w49 hw) (w13 hw) (by decide) (by decide)) q320a q320c (g := (mkF m 339 #[vR a1, vR b102, vI (own_i (own_bas cl).length), vI (own_i un), .val (.long (own_j ud)), .second, vI (own_i ub), vI (own_i uh), s8, s9, s10, s11, s12, s13, s14, s15, s16] [(.ref b102)])) rfl hml.symm (Steps.refl _) (argsL := []) (rest := []) (lenOf pd_23 rfl) rfl (Nat.le_of_eq rfl) (hb hby d2_339) (fun _ _ => ⟨rfl, eg134, (by decide : 2 + 2 ≤ _), (by decide : 20 + 38 ≤ _)⟩)
        dsimp only [Pt.U, Pt.locs, Pt.cells, Pt.slots] at X320 l320 y320 z320 st320 hQ320
        subst l320 y320 z320
        obtain ⟨b320r, b320b, b320kr, rfl, N320q, Kq320, P321, P322, P323, P324, g_b320r, szq_b320r, g_b320b, szq_b320b⟩ := hQ320
        have ne_b102_b320r : b102 ≠ b320r := Nat.ne_of_lt (Nat.lt_of_lt_of_le Fg134_0.lt szq_b320r)
        have ne_vv_b320r : vv ≠ b320r := Nat.ne_of_lt (Nat.lt_of_lt_of_le Fg134_4.lt szq_b320r)
        have ne_a1_b320r : a1 ≠ b320r := Nat.ne_of_lt (Nat.lt_of_lt_of_le Fg134_6.lt szq_b320r)
        have sz_b320r : h0.size ≤ b320r := Nat.le_trans Kg134.1 szq_b320r
        have ne_b102_b320b : b102 ≠ b320b := Nat.ne_of_lt (Nat.lt_of_lt_of_le Fg134_0.lt szq_b320b)
        have ne_vv_b320b : vv ≠ b320b := Nat.ne_of_lt (Nat.lt_of_lt_of_le Fg134_4.lt szq_b320b)
        have ne_a1_b320b : a1 ≠ b320b := Nat.ne_of_lt (Nat.lt_of_lt_of_le Fg134_6.lt szq_b320b)
        have sz_b320b : h0.size ≤ b320b := Nat.le_trans Kg134.1 szq_b320b
        have F325 := (Fg134_0.keep Kq320)
        have F326 := (Fg134_1.keep Kq320 (by simp))
        have F327 := (Fg134_2.keep Kq320 (by simp))
        have F328 := (R318.keep Kq320 (by simp))
        have F329 := (Fg134_4.keep Kq320)
        have F330 := (R319.keep Kq320 (by simp))
        have F331 := (Fg134_6.keep Kq320 (by simp))
        have F332 := (own_sta_keep Fg134_7 Kq320 (by intro x hx; cases hx))
        have Z333 : n0 ≤ T320.heap.size := (Nat.le_trans Zg134 Kq320.1)
        have K334 : Keep h0 T320.heap [] := (Kg134.trans Kq320 (by intro x hx; cases hx))
        have N320 := Fr.app Ng134 N320q
        refine Go.step (fun _ kt => st320.trans kt) ?_
        show gG T320 m 342 #[vR a1, vR b102, vI (own_i (own_bas cl).length), vI (own_i un), .val (.long (own_j ud)), .second, vI (own_i ub), vI (own_i uh), s8, s9, s10, s11, s12, s13, s14, s15, s16] [(.ref b320r)]
        obtain ⟨fs, hr, hrun, hended, hW, hsame⟩ := X320.leave (v := some (.ref b320r)) (fun h => by rw [Bd.returns] at h; cases h)
        refine ⟨_, _, retOut X320 hx Bd.returns rfl (Or.inr (Or.inr (Or.inr (Or.inr ⟨rfl, rfl, rfl⟩)))) (hb hby d2_342) hr, hrun, hended, _, _, rfl, ?_, ⟨_, rfl⟩, hW, hsame.mono (by decide) (by decide)⟩
        show Qrmenc Z a1 cl ka cs h0 n0 _ T320.heap _
        refine ⟨b320r, b320b, b320kr, ?_, N320, K334, P321, P322, P323, P324, g_b320r, sz_b320r, g_b320b, sz_b320b⟩
        rfl
       ·show gG Tg134 m 338 #[vR a1, vR b102, vI (own_i (own_bas cl).length), vI (own_i un), .val (.long (own_j ud)), .second, vI (own_i ub), vI (own_i uh), s8, s9, s10, s11, s12, s13, s14, s15, s16] []
        refine Go.step (fun _ kt => XS.aloadN Xg134.here hx rfl (hb hby d2_338) rfl rfl kt) ?_
        show gG Tg134 m 339 #[vR a1, vR b102, vI (own_i (own_bas cl).length), vI (own_i un), .val (.long (own_j ud)), .second, vI (own_i ub), vI (own_i uh), s8, s9, s10, s11, s12, s13, s14, s15, s16] [(.ref b102)]
        obtain ⟨cq335, kq335, q335a, q335b, q335c⟩ := isOf hZ eg134 Fg134_0
        obtain ⟨_, _, ⟨T335, L335, k335, n335⟩, -, X335, ⟨Lc335, hQ335, l335, y335, z335⟩, st335⟩ := Xg134.virtualBack hx (y := Y25) (z := Y25) hown (mvT hZ (w45 hw)) (mvT hZ (w46 hw)) (notFace_of_selects (args := #[]) (mvT hZ (w48 hw))) (mvT hZ (w48 hw)) (mvT hZ (w47 hw)) (by decide) (backOf (W := 0) (rmts l Z a0 hw [] b102 (34 : Int32) (own_txt cl) vv kv cs Hg134 n0 Zg134 Fg134_0 Fg134_1 Fg134_2 R318 Fg134_4 R319 Fg134_7 hcs ⟨by rw [hTl]; exact hcap, by rw [hTl, ← hF]; omega, by decide⟩) hZ (w49 hw) (w13 hw) (by decide) (by decide)) q335a q335c (g := (mkF m 339 #[vR a1, vR b102, vI (own_i (own_bas cl).length), vI (own_i un), .val (.long (own_j ud)), .second, vI (own_i ub), vI (own_i uh), s8, s9, s10, s11, s12, s13, s14, s15, s16] [(.ref b102)])) rfl hml.symm (Steps.refl _) (argsL := []) (rest := []) (lenOf pd_23 rfl) rfl (Nat.le_of_eq rfl) (hb hby d2_339) (fun _ _ => ⟨rfl, eg134, (by decide : 3 + 2 ≤ _), (by decide : 54 + 38 ≤ _)⟩)
        dsimp only [Pt.U, Pt.locs, Pt.cells, Pt.slots] at X335 l335 y335 z335 st335 hQ335
        subst l335 y335 z335
        obtain ⟨b335r, b335b, b335kr, rfl, N335q, Kq335, P336, P337, P338, P339, g_b335r, szq_b335r, g_b335b, szq_b335b⟩ := hQ335
        have ne_b102_b335r : b102 ≠ b335r := Nat.ne_of_lt (Nat.lt_of_lt_of_le Fg134_0.lt szq_b335r)
        have ne_vv_b335r : vv ≠ b335r := Nat.ne_of_lt (Nat.lt_of_lt_of_le Fg134_4.lt szq_b335r)
        have ne_a1_b335r : a1 ≠ b335r := Nat.ne_of_lt (Nat.lt_of_lt_of_le Fg134_6.lt szq_b335r)
        have sz_b335r : h0.size ≤ b335r := Nat.le_trans Kg134.1 szq_b335r
        have ne_b102_b335b : b102 ≠ b335b := Nat.ne_of_lt (Nat.lt_of_lt_of_le Fg134_0.lt szq_b335b)
        have ne_vv_b335b : vv ≠ b335b := Nat.ne_of_lt (Nat.lt_of_lt_of_le Fg134_4.lt szq_b335b)
        have ne_a1_b335b : a1 ≠ b335b := Nat.ne_of_lt (Nat.lt_of_lt_of_le Fg134_6.lt szq_b335b)
        have sz_b335b : h0.size ≤ b335b := Nat.le_trans Kg134.1 szq_b335b
        have F340 := (Fg134_0.keep Kq335)
        have F341 := (Fg134_1.keep Kq335 (by simp))
        have F342 := (Fg134_2.keep Kq335 (by simp))
        have F343 := (R318.keep Kq335 (by simp))
        have F344 := (Fg134_4.keep Kq335)
        have F345 := (R319.keep Kq335 (by simp))
        have F346 := (Fg134_6.keep Kq335 (by simp))
        have F347 := (own_sta_keep Fg134_7 Kq335 (by intro x hx; cases hx))
        have Z348 : n0 ≤ T335.heap.size := (Nat.le_trans Zg134 Kq335.1)
        have K349 : Keep h0 T335.heap [] := (Kg134.trans Kq335 (by intro x hx; cases hx))
        have N335 := Fr.app Ng134 N335q
        refine Go.step (fun _ kt => st335.trans kt) ?_
        show gG T335 m 342 #[vR a1, vR b102, vI (own_i (own_bas cl).length), vI (own_i un), .val (.long (own_j ud)), .second, vI (own_i ub), vI (own_i uh), s8, s9, s10, s11, s12, s13, s14, s15, s16] [(.ref b335r)]
        obtain ⟨fs, hr, hrun, hended, hW, hsame⟩ := X335.leave (v := some (.ref b335r)) (fun h => by rw [Bd.returns] at h; cases h)
        refine ⟨_, _, retOut X335 hx Bd.returns rfl (Or.inr (Or.inr (Or.inr (Or.inr ⟨rfl, rfl, rfl⟩)))) (hb hby d2_342) hr, hrun, hended, _, _, rfl, ?_, ⟨_, rfl⟩, hW, hsame.mono (by decide) (by decide)⟩
        show Qrmenc Z a1 cl ka cs h0 n0 _ T335.heap _
        refine ⟨b335r, b335b, b335kr, ?_, N335, K349, P336, P337, P338, P339, g_b335r, sz_b335r, g_b335b, sz_b335b⟩
        rfl
    exact G80g134 (cl.length + 1) 128 0 72 (own_bas cl).length ([] : List Nat) b110vb b110kb (16 : Int32) 2 20 _ _ _ _ _ _ _ _ _ rfl rfl (by omega) (by omega) (by omega) (by omega) (Nat.le_trans (show (own_B cl).length + ([] : List Nat).length ≤ 16 by simp only [List.length_nil]; omega) (by decide)) (Or.inl ⟨rfl, rfl, rfl⟩) (by decide) (by decide) g_b110vb sz_b110vb ne_a1_b110vb (Or.inl rfl) (Or.inl rfl) (Or.inl rfl) (Or.inl rfl) (Or.inl rfl) (Or.inl ⟨rfl, rfl⟩) (Or.inl rfl) (Or.inl rfl) _ _ _ (Xg128.more (by decide) (by decide)) eg128 Ng128 Zg128 Kg128 Fg128_0 Fg128_1 Fg128_2 R132 Fg128_4 R133 Fg128_6 Fg128_7
   refine Go.step (fun _ kt => XS.iloadN X127.here hx rfl (hb hby d2_55) rfl kt) ?_
   show gG T127 m 56 #[vR a1, vR b102, vI (own_i (own_bas cl).length), vI (own_i cl.length), vI (own_i ix), s5, uS, uS, uS, uS, uS, uS, uS, uS, uS, uS, uS] [(.int (own_i (own_bas cl).length))]
   by_cases hc56_350 : (0 : Int32) < (own_i (own_bas cl).length)
   ·have hN56 : 0 < (own_bas cl).length := own_ilt (a := 0) (b := (own_bas cl).length) (by omega) (by omega) hc56_350
    refine Go.step (fun _ kt => XS.ifNo X127.here hx rfl (hb hby d2_56) rfl ((if0 _ _).trans (tlt hc56_350).2.2.2) (XS.aloadN X127.here hx rfl (hb hby d2_59) rfl rfl (XS.bipush X127.here hx rfl (hb hby d2_60) kt))) ?_
    show gG T127 m 62 #[vR a1, vR b102, vI (own_i (own_bas cl).length), vI (own_i cl.length), vI (own_i ix), s5, uS, uS, uS, uS, uS, uS, uS, uS, uS, uS, uS] [(.int 45), (.ref b102)]
    obtain ⟨cq351, kq351, q351a, q351b, q351c⟩ := isOf hZ eh127 Fg124_0
    obtain ⟨_, _, ⟨T351, L351, k351, n351⟩, -, X351, ⟨Lc351, hQ351, l351, y351, z351⟩, st351⟩ := X127.virtualBack hx (y := Y19) (z := Y19) hown (mvT hZ (w151 hw)) (mvT hZ (w152 hw)) (notFace_of_selects (args := #[]) (mvT hZ (w154 hw))) (mvT hZ (w154 hw)) (mvT hZ (w153 hw)) (by decide) (backOf (W := 0) (rmap28n l Z a0 hw [] b102 45 (16 : Int32) (own_bas cl) b110vb b110kb cs Hg124 n0 Zg124 Fg124_0 Fg124_1 Fg124_2 R125 Fg124_4 R126 Fg124_7 g_b102 hcs (by decide) g_b110vb ⟨Nat.lt_of_lt_of_le (show (own_bas cl).length < 16 by omega) (by decide), by omega⟩) hZ (w155 hw) (w13 hw) (by decide) (by decide)) q351a q351c (g := (mkF m 62 #[vR a1, vR b102, vI (own_i (own_bas cl).length), vI (own_i cl.length), vI (own_i ix), s5, uS, uS, uS, uS, uS, uS, uS, uS, uS, uS, uS] [(.int 45), (.ref b102)])) rfl hml.symm (Steps.refl _) (argsL := [(.int 45)]) (rest := []) (lenOf pd_21 rfl) rfl (Nat.le_of_eq rfl) (hb hby d2_62) (fun _ _ => ⟨rfl, eh127, (by decide : 2 + 0 ≤ _), (by decide : 20 + 0 ≤ _)⟩)
    dsimp only [Pt.U, Pt.locs, Pt.cells, Pt.slots] at X351 l351 y351 z351 st351 hQ351
    subst l351 y351 z351
    obtain ⟨rfl, N351q, Kq351, P352, P353, P354, P355, P356, P357⟩ := hQ351
    have F358 := (Fg124_0.keep Kq351)
    have F359 := (Fg124_4.keep Kq351)
    have F360 := (Fg124_6.keep Kq351 (by simp only [List.mem_cons, List.not_mem_nil, or_false, not_or]; exact ⟨ne_a1_b102, ne_a1_b110vb⟩))
    have F361 := (own_sta_keep Fg124_7 Kq351 (by intro x hx; rcases List.mem_cons.mp hx with rfl | hx; exact ⟨_, Fg124_0⟩; cases List.mem_singleton.mp hx; exact ⟨_, Fg124_4⟩))
    have Z362 : n0 ≤ T351.heap.size := (Nat.le_trans Zg124 Kq351.1)
    have K363 : Keep h0 T351.heap [] := (Kg124.trans Kq351 (by intro x hx; simp only [List.mem_cons, List.not_mem_nil, or_false] at hx; rcases hx with rfl | rfl; exact Or.inr sz_b102; exact Or.inr sz_b110vb))
    have N351 := Fr.app N127 N351q
    refine Go.step (fun _ kt => st351.trans kt) ?_
    show gG T351 m 65 #[vR a1, vR b102, vI (own_i (own_bas cl).length), vI (own_i cl.length), vI (own_i ix), s5, uS, uS, uS, uS, uS, uS, uS, uS, uS, uS, uS] [(.ref b102)]
    refine Go.step (fun _ kt => XS.pop X351.here hx rfl (hb hby d2_65) rfl rfl kt) ?_
    show gG T351 m 66 #[vR a1, vR b102, vI (own_i (own_bas cl).length), vI (own_i cl.length), vI (own_i ix), s5, uS, uS, uS, uS, uS, uS, uS, uS, uS, uS, uS] []
    have R364 : Fld Z T351.heap b102 "java/lang/AbstractStringBuilder" "count" "I" (.int (own_i (own_B cl).length)) := by rw [← own_B_T hN56]; exact P355
    have R365 : Arv Z T351.heap b110vb b110kb .byte (16 : Int32) (((own_B cl).map own_i).map Value.int) (.int 0) := by rw [← own_B_T hN56]; exact P357
    exact G66g128  _ _ _ (X351.more (by decide) (by decide)) rfl N351 Z362 K363 P352 P353 P354 R364 P356 R365 F360 F361
   ·have hN56 : ¬ (0 < (own_bas cl).length) := own_ilf (a := 0) (b := (own_bas cl).length) (by omega) (by omega) hc56_350
    refine Go.step (fun _ kt => XS.ifYes X127.here hx rfl (pc0 := 56) (pc' := 66) rfl (hb hby d2_56) rfl ((if0 _ _).trans (flt hc56_350).2.2.2) (by decide) (by decide) kt) ?_
    show gG T127 m 66 #[vR a1, vR b102, vI (own_i (own_bas cl).length), vI (own_i cl.length), vI (own_i ix), s5, uS, uS, uS, uS, uS, uS, uS, uS, uS, uS, uS] []
    have R366 : Fld Z Hg124 b102 "java/lang/AbstractStringBuilder" "count" "I" (.int (own_i (own_B cl).length)) := by rw [← own_B_F hN56]; exact R125
    have R367 : Arv Z Hg124 b110vb b110kb .byte (16 : Int32) (((own_B cl).map own_i).map Value.int) (.int 0) := by rw [← own_B_F hN56]; exact R126
    exact G66g128  _ _ _ (X127.more (by decide) (by decide)) eh127 N127 Zg124 Kg124 Fg124_0 Fg124_1 Fg124_2 R366 Fg124_4 R367 Fg124_6 Fg124_7
  | cons cx suf ih16 =>
   intro pre ix s5 hsp hix h_s5 Tg124 Hg124 Lg124 Xg124 eg124 Ng124 Zg124 Kg124 Fg124_0 Fg124_1 Fg124_2 Fg124_3 Fg124_4 Fg124_5 Fg124_6 Fg124_7
   show gG Tg124 m 16 #[vR a1, vR b102, vR a1, vI (own_i cl.length), vI (own_i ix), s5, uS, uS, uS, uS, uS, uS, uS, uS, uS, uS, uS] []
   have hn1 : ix < cl.length := by rw [hix, hsp, List.length_append, List.length_cons]; omega
   have hcb : cx ≤ 1114111 := hcl cx (by rw [hsp]; simp)
   have hbp : (own_bas pre).length ≤ pre.length := List.length_filter_le _ _
   refine Go.step (fun _ kt => XS.iload Xg124.here hx rfl (hb hby d2_16) rfl (XS.iloadN Xg124.here hx rfl (hb hby d2_18) rfl (XS.icmpNo Xg124.here hx rfl (hb hby d2_19) rfl (tlt (own_ilT (a := ix) (b := cl.length) (by omega) (by omega) (by omega))).2.1 (XS.aloadN Xg124.here hx rfl (hb hby d2_22) rfl rfl (XS.iload Xg124.here hx rfl (hb hby d2_23) rfl kt))))) ?_
   show gG Tg124 m 25 #[vR a1, vR b102, vR a1, vI (own_i cl.length), vI (own_i ix), s5, uS, uS, uS, uS, uS, uS, uS, uS, uS, uS, uS] [(.int (own_i ix)), (.ref a1)]
   obtain ⟨cl368, Ar368, qa368, Sa368, Na368, Ha368, Ga368⟩ := (id Fg124_6)
   have hin368 : ¬ ((own_i ix) < 0 ∨ cl368.slots.size ≤ ((own_i ix)).toNatClampNeg) := own_inN Sa368 (own_ltN (by omega) (by omega)) (by omega)
   have hat368 : cl368.slots[((own_i ix)).toNatClampNeg]? = some (.int (own_i cx)) := at_of Ha368 hin368 (by rw [own_iN (by omega)]; exact own_atE hsp hix)
   refine Go.step (Xg124.iaload hx (j := (own_i ix)) (v := (.int (own_i cx))) (by rw [eg124]; exact Ar368.1) (State.isArrayOf_alike hZ.alike Ar368.2.1) Ar368.2.2 hin368 hat368 (g := (mkF m 25 #[vR a1, vR b102, vR a1, vI (own_i cl.length), vI (own_i ix), s5, uS, uS, uS, uS, uS, uS, uS, uS, uS, uS, uS] [(.int (own_i ix)), (.ref a1)])) rfl rfl (hb hby d2_25)) ?_
   show gG Tg124 m 26 #[vR a1, vR b102, vR a1, vI (own_i cl.length), vI (own_i ix), s5, uS, uS, uS, uS, uS, uS, uS, uS, uS, uS, uS] [(.int (own_i cx))]
   refine Go.step (fun _ kt => XS.istore Xg124.here hx rfl (hb hby d2_26) rfl (l' := #[vR a1, vR b102, vR a1, vI (own_i cl.length), vI (own_i ix), vI (own_i cx), uS, uS, uS, uS, uS, uS, uS, uS, uS, uS, uS]) (by rcases h_s5 with rfl | ⟨_, rfl⟩ <;> rfl) (XS.iload Xg124.here hx rfl (hb hby d2_28) rfl (XS.sipush Xg124.here hx rfl (hb hby d2_30) kt))) ?_
   show gG Tg124 m 33 #[vR a1, vR b102, vR a1, vI (own_i cl.length), vI (own_i ix), vI (own_i cx), uS, uS, uS, uS, uS, uS, uS, uS, uS, uS, uS] [(.int 128), (.int (own_i cx))]
   by_cases hc33_369 : (own_i cx) < (128 : Int32)
   ·have hN33 : cx < 128 := own_ilt (a := cx) (b := 128) (by omega) (by omega) hc33_369
    refine Go.step (fun _ kt => XS.icmpNo Xg124.here hx rfl (hb hby d2_33) rfl (tlt hc33_369).2.1 (XS.aloadN Xg124.here hx rfl (hb hby d2_36) rfl rfl (XS.iload Xg124.here hx rfl (hb hby d2_37) rfl (XS.i2c Xg124.here hx rfl (hb hby d2_39) rfl kt)))) ?_
    show gG Tg124 m 40 #[vR a1, vR b102, vR a1, vI (own_i cl.length), vI (own_i ix), vI (own_i cx), uS, uS, uS, uS, uS, uS, uS, uS, uS, uS, uS] [(.int ((own_i cx).toUInt32.toUInt16.toUInt32.toInt32)), (.ref b102)]
    have q370 : ((own_i cx).toUInt32.toUInt16.toUInt32.toInt32) = (own_i cx) := own_c16 (n := cx) (by omega)
    rw [q370]
    obtain ⟨cq371, kq371, q371a, q371b, q371c⟩ := isOf hZ eg124 Fg124_0
    obtain ⟨_, _, ⟨T371, L371, k371, n371⟩, -, X371, ⟨Lc371, hQ371, l371, y371, z371⟩, st371⟩ := Xg124.virtualBack hx (y := Y19) (z := Y19) hown (mvT hZ (w151 hw)) (mvT hZ (w152 hw)) (notFace_of_selects (args := #[]) (mvT hZ (w154 hw))) (mvT hZ (w154 hw)) (mvT hZ (w153 hw)) (by decide) (backOf (W := 0) (rmap28n l Z a0 hw [] b102 cx (16 : Int32) (own_bas pre) b110vb b110kb cs Hg124 n0 Zg124 Fg124_0 Fg124_1 Fg124_2 Fg124_3 Fg124_4 Fg124_5 Fg124_7 g_b102 hcs (by omega) g_b110vb ⟨Nat.lt_of_lt_of_le (show (own_bas pre).length < 16 by omega) (by decide), by omega⟩) hZ (w155 hw) (w13 hw) (by decide) (by decide)) q371a q371c (g := (mkF m 40 #[vR a1, vR b102, vR a1, vI (own_i cl.length), vI (own_i ix), vI (own_i cx), uS, uS, uS, uS, uS, uS, uS, uS, uS, uS, uS] [(.int (own_i cx)), (.ref b102)])) rfl hml.symm (Steps.refl _) (argsL := [(.int (own_i cx))]) (rest := []) (lenOf pd_21 rfl) rfl (Nat.le_of_eq rfl) (hb hby d2_40) (fun _ _ => ⟨rfl, eg124, (by decide : 2 + 0 ≤ _), (by decide : 20 + 0 ≤ _)⟩)
    dsimp only [Pt.U, Pt.locs, Pt.cells, Pt.slots] at X371 l371 y371 z371 st371 hQ371
    subst l371 y371 z371
    obtain ⟨rfl, N371q, Kq371, P372, P373, P374, P375, P376, P377⟩ := hQ371
    have F378 := (Fg124_0.keep Kq371)
    have F379 := (Fg124_4.keep Kq371)
    have F380 := (Fg124_6.keep Kq371 (by simp only [List.mem_cons, List.not_mem_nil, or_false, not_or]; exact ⟨ne_a1_b102, ne_a1_b110vb⟩))
    have F381 := (own_sta_keep Fg124_7 Kq371 (by intro x hx; rcases List.mem_cons.mp hx with rfl | hx; exact ⟨_, Fg124_0⟩; cases List.mem_singleton.mp hx; exact ⟨_, Fg124_4⟩))
    have Z382 : n0 ≤ T371.heap.size := (Nat.le_trans Zg124 Kq371.1)
    have K383 : Keep h0 T371.heap [] := (Kg124.trans Kq371 (by intro x hx; simp only [List.mem_cons, List.not_mem_nil, or_false] at hx; rcases hx with rfl | rfl; exact Or.inr sz_b102; exact Or.inr sz_b110vb))
    have N371 := Fr.app Ng124 N371q
    refine Go.step (fun _ kt => st371.trans kt) ?_
    show gG T371 m 43 #[vR a1, vR b102, vR a1, vI (own_i cl.length), vI (own_i ix), vI (own_i cx), uS, uS, uS, uS, uS, uS, uS, uS, uS, uS, uS] [(.ref b102)]
    refine Go.step (fun _ kt => XS.pop X371.here hx rfl (hb hby d2_43) rfl rfl kt) ?_
    show gG T371 m 44 #[vR a1, vR b102, vR a1, vI (own_i cl.length), vI (own_i ix), vI (own_i cx), uS, uS, uS, uS, uS, uS, uS, uS, uS, uS, uS] []
    have R384 : Fld Z T371.heap b102 "java/lang/AbstractStringBuilder" "count" "I" (.int (own_i (own_bas (pre ++ [cx])).length)) := by rw [← own_bas_T hN33]; exact P375
    have R385 : Arv Z T371.heap b110vb b110kb .byte (16 : Int32) (((own_bas (pre ++ [cx])).map own_i).map Value.int) (.int 0) := by rw [← own_bas_T hN33]; exact P377
    refine Go.step (fun _ kt => XS.iinc X371.here hx rfl (hb hby d2_44) rfl (l' := #[vR a1, vR b102, vR a1, vI (own_i cl.length), vI ((own_i ix) + (1 : Int32)), vI (own_i cx), uS, uS, uS, uS, uS, uS, uS, uS, uS, uS, uS]) rfl kt) ?_
    show gG T371 m 47 #[vR a1, vR b102, vR a1, vI (own_i cl.length), vI ((own_i ix) + (1 : Int32)), vI (own_i cx), uS, uS, uS, uS, uS, uS, uS, uS, uS, uS, uS] []
    have q386 : ((own_i ix) + (1 : Int32)) = (own_i (ix + 1)) := own_ia ix 1
    rw [q386]
    refine Go.step (fun _ kt => XS.goto X371.here hx rfl (pc0 := 47) (pc' := 16) rfl (hb hby d2_47) (by decide) (by decide) kt) ?_
    show gG T371 m 16 #[vR a1, vR b102, vR a1, vI (own_i cl.length), vI (own_i (ix + 1)), vI (own_i cx), uS, uS, uS, uS, uS, uS, uS, uS, uS, uS, uS] []
    exact ih16 (pre ++ [cx]) (ix + 1) _ (by rw [hsp]; simp) (by rw [hix]; simp) (Or.inr ⟨_, rfl⟩) _ _ _ (X371.more (by decide) (by decide)) rfl N371 Z382 K383 P372 P373 P374 R384 P376 R385 F380 F381
   ·have hN33 : ¬ (cx < 128) := own_ilf (a := cx) (b := 128) (by omega) (by omega) hc33_369
    refine Go.step (fun _ kt => XS.icmpYes Xg124.here hx rfl (pc0 := 33) (pc' := 44) rfl (hb hby d2_33) rfl (flt hc33_369).2.1 (by decide) (by decide) kt) ?_
    show gG Tg124 m 44 #[vR a1, vR b102, vR a1, vI (own_i cl.length), vI (own_i ix), vI (own_i cx), uS, uS, uS, uS, uS, uS, uS, uS, uS, uS, uS] []
    have R387 : Fld Z Hg124 b102 "java/lang/AbstractStringBuilder" "count" "I" (.int (own_i (own_bas (pre ++ [cx])).length)) := by rw [← own_bas_F hN33]; exact Fg124_3
    have R388 : Arv Z Hg124 b110vb b110kb .byte (16 : Int32) (((own_bas (pre ++ [cx])).map own_i).map Value.int) (.int 0) := by rw [← own_bas_F hN33]; exact Fg124_5
    refine Go.step (fun _ kt => XS.iinc Xg124.here hx rfl (hb hby d2_44) rfl (l' := #[vR a1, vR b102, vR a1, vI (own_i cl.length), vI ((own_i ix) + (1 : Int32)), vI (own_i cx), uS, uS, uS, uS, uS, uS, uS, uS, uS, uS, uS]) rfl kt) ?_
    show gG Tg124 m 47 #[vR a1, vR b102, vR a1, vI (own_i cl.length), vI ((own_i ix) + (1 : Int32)), vI (own_i cx), uS, uS, uS, uS, uS, uS, uS, uS, uS, uS, uS] []
    have q389 : ((own_i ix) + (1 : Int32)) = (own_i (ix + 1)) := own_ia ix 1
    rw [q389]
    refine Go.step (fun _ kt => XS.goto Xg124.here hx rfl (pc0 := 47) (pc' := 16) rfl (hb hby d2_47) (by decide) (by decide) kt) ?_
    show gG Tg124 m 16 #[vR a1, vR b102, vR a1, vI (own_i cl.length), vI (own_i (ix + 1)), vI (own_i cx), uS, uS, uS, uS, uS, uS, uS, uS, uS, uS, uS] []
    exact ih16 (pre ++ [cx]) (ix + 1) _ (by rw [hsp]; simp) (by rw [hix]; simp) (Or.inr ⟨_, rfl⟩) _ _ _ (Xg124.more (by decide) (by decide)) eg124 Ng124 Zg124 Kg124 Fg124_0 Fg124_1 Fg124_2 R387 Fg124_4 R388 Fg124_6 Fg124_7
 exact G16g124 cl ([] : List Nat) 0 _ rfl rfl (Or.inl rfl) _ _ _ (X110.more (by decide) (by decide)) rfl N110 Z120 K121 P111 P112 P113 P114 P115 P116 F117 F118
theorem pd_24 : parseMethodDescriptor "(I)C" = some ⟨[.int], some .char⟩ := by decide +kernel
theorem pd_25 : parseMethodDescriptor "(C)I" = some ⟨[.char], some .int⟩ := by decide +kernel
theorem pd_26 : parseMethodDescriptor "([II)[I" = some ⟨[(.array .int), .int], some (.array .int)⟩ := by decide +kernel
theorem d17_0 : dC38 0 (.aload_n 0, 1) := by decide +kernel
theorem d17_1 : dC38 1 (.bipush 45, 2) := by decide +kernel
theorem d17_3 : dC38 3 (.invokevirtual 9, 3) := by decide +kernel
theorem d17_6 : dC38 6 (.istore_n 1, 1) := by decide +kernel
theorem d17_7 : dC38 7 (.iload_n 1, 1) := by decide +kernel
theorem d17_8 : dC38 8 (.iconst 0, 1) := by decide +kernel
theorem d17_9 : dC38 9 (.invokestatic 15, 3) := by decide +kernel
theorem d17_12 : dC38 12 (.istore_n 2, 1) := by decide +kernel
theorem d17_13 : dC38 13 (.aload_n 0, 1) := by decide +kernel
theorem d17_14 : dC38 14 (.invokevirtual 21, 3) := by decide +kernel
theorem d17_17 : dC38 17 (.newarray .int, 2) := by decide +kernel
theorem d17_19 : dC38 19 (.astore_n 3, 1) := by decide +kernel
theorem d17_20 : dC38 20 (.iconst 0, 1) := by decide +kernel
theorem d17_21 : dC38 21 (.istore 4, 2) := by decide +kernel
theorem d17_23 : dC38 23 (.iconst 0, 1) := by decide +kernel
theorem d17_24 : dC38 24 (.istore 5, 2) := by decide +kernel
theorem d17_26 : dC38 26 (.iload 5, 2) := by decide +kernel
theorem d17_28 : dC38 28 (.iload_n 2, 1) := by decide +kernel
theorem d17_29 : dC38 29 (.if_icmp .ge 22, 3) := by decide +kernel
theorem d17_32 : dC38 32 (.aload_n 3, 1) := by decide +kernel
theorem d17_33 : dC38 33 (.iload 4, 2) := by decide +kernel
theorem d17_35 : dC38 35 (.iinc 4 1, 3) := by decide +kernel
theorem d17_38 : dC38 38 (.aload_n 0, 1) := by decide +kernel
theorem d17_39 : dC38 39 (.iload 5, 2) := by decide +kernel
theorem d17_41 : dC38 41 (.invokevirtual 25, 3) := by decide +kernel
theorem d17_44 : dC38 44 (.iastore, 1) := by decide +kernel
theorem d17_45 : dC38 45 (.iinc 5 1, 3) := by decide +kernel
theorem d17_48 : dC38 48 (.goto (-22), 3) := by decide +kernel
theorem d17_51 : dC38 51 (.iload_n 1, 1) := by decide +kernel
theorem d17_52 : dC38 52 (.ifCond .le 9, 3) := by decide +kernel
theorem d17_55 : dC38 55 (.iload_n 1, 1) := by decide +kernel
theorem d17_56 : dC38 56 (.iconst 1, 1) := by decide +kernel
theorem d17_57 : dC38 57 (.iadd, 1) := by decide +kernel
theorem d17_58 : dC38 58 (.goto 4, 3) := by decide +kernel
theorem d17_61 : dC38 61 (.iconst 0, 1) := by decide +kernel
theorem d17_62 : dC38 62 (.istore 5, 2) := by decide +kernel
theorem d17_64 : dC38 64 (.ldc2_w 29, 3) := by decide +kernel
theorem d17_67 : dC38 67 (.lstore 6, 2) := by decide +kernel
theorem d17_69 : dC38 69 (.lconst 0, 1) := by decide +kernel
theorem d17_70 : dC38 70 (.lstore 8, 2) := by decide +kernel
theorem d17_72 : dC38 72 (.bipush 72, 2) := by decide +kernel
theorem d17_74 : dC38 74 (.istore 10, 2) := by decide +kernel
theorem d17_76 : dC38 76 (.iload 5, 2) := by decide +kernel
theorem d17_78 : dC38 78 (.aload_n 0, 1) := by decide +kernel
theorem d17_79 : dC38 79 (.invokevirtual 21, 3) := by decide +kernel
theorem d17_82 : dC38 82 (.if_icmp .ge 205, 3) := by decide +kernel
theorem d17_85 : dC38 85 (.lload 8, 2) := by decide +kernel
theorem d17_87 : dC38 87 (.lstore 11, 2) := by decide +kernel
theorem d17_89 : dC38 89 (.lconst 1, 1) := by decide +kernel
theorem d17_90 : dC38 90 (.lstore 13, 2) := by decide +kernel
theorem d17_92 : dC38 92 (.bipush 36, 2) := by decide +kernel
theorem d17_94 : dC38 94 (.istore 15, 2) := by decide +kernel
theorem d17_96 : dC38 96 (.iload 5, 2) := by decide +kernel
theorem d17_98 : dC38 98 (.aload_n 0, 1) := by decide +kernel
theorem d17_99 : dC38 99 (.invokevirtual 21, 3) := by decide +kernel
theorem d17_102 : dC38 102 (.if_icmp .ge 18, 3) := by decide +kernel
theorem d17_105 : dC38 105 (.aload_n 0, 1) := by decide +kernel
theorem d17_106 : dC38 106 (.iload 5, 2) := by decide +kernel
theorem d17_108 : dC38 108 (.iinc 5 1, 3) := by decide +kernel
theorem d17_111 : dC38 111 (.invokevirtual 25, 3) := by decide +kernel
theorem d17_114 : dC38 114 (.invokestatic 31, 3) := by decide +kernel
theorem d17_117 : dC38 117 (.goto 4, 3) := by decide +kernel
theorem d17_121 : dC38 121 (.istore 16, 2) := by decide +kernel
theorem d17_123 : dC38 123 (.iload 16, 2) := by decide +kernel
theorem d17_125 : dC38 125 (.ifCond .ge 5, 3) := by decide +kernel
theorem d17_130 : dC38 130 (.lload 8, 2) := by decide +kernel
theorem d17_132 : dC38 132 (.iload 16, 2) := by decide +kernel
theorem d17_134 : dC38 134 (.i2l, 1) := by decide +kernel
theorem d17_135 : dC38 135 (.lload 13, 2) := by decide +kernel
theorem d17_137 : dC38 137 (.lmul, 1) := by decide +kernel
theorem d17_138 : dC38 138 (.ladd, 1) := by decide +kernel
theorem d17_139 : dC38 139 (.lstore 8, 2) := by decide +kernel
theorem d17_141 : dC38 141 (.lload 8, 2) := by decide +kernel
theorem d17_143 : dC38 143 (.ldc2_w 37, 3) := by decide +kernel
theorem d17_146 : dC38 146 (.lcmp, 1) := by decide +kernel
theorem d17_147 : dC38 147 (.ifCond .le 5, 3) := by decide +kernel
theorem d17_152 : dC38 152 (.iload 15, 2) := by decide +kernel
theorem d17_154 : dC38 154 (.iload 10, 2) := by decide +kernel
theorem d17_156 : dC38 156 (.invokestatic 39, 3) := by decide +kernel
theorem d17_159 : dC38 159 (.istore 17, 2) := by decide +kernel
theorem d17_161 : dC38 161 (.iload 16, 2) := by decide +kernel
theorem d17_163 : dC38 163 (.iload 17, 2) := by decide +kernel
theorem d17_165 : dC38 165 (.if_icmp .ge 6, 3) := by decide +kernel
theorem d17_168 : dC38 168 (.goto 20, 3) := by decide +kernel
theorem d17_171 : dC38 171 (.lload 13, 2) := by decide +kernel
theorem d17_173 : dC38 173 (.bipush 36, 2) := by decide +kernel
theorem d17_175 : dC38 175 (.iload 17, 2) := by decide +kernel
theorem d17_177 : dC38 177 (.isub, 1) := by decide +kernel
theorem d17_178 : dC38 178 (.i2l, 1) := by decide +kernel
theorem d17_179 : dC38 179 (.lmul, 1) := by decide +kernel
theorem d17_180 : dC38 180 (.lstore 13, 2) := by decide +kernel
theorem d17_182 : dC38 182 (.iinc 15 36, 3) := by decide +kernel
theorem d17_185 : dC38 185 (.goto (-89), 3) := by decide +kernel
theorem d17_188 : dC38 188 (.lload 8, 2) := by decide +kernel
theorem d17_190 : dC38 190 (.lload 11, 2) := by decide +kernel
theorem d17_192 : dC38 192 (.lsub, 1) := by decide +kernel
theorem d17_193 : dC38 193 (.iload 4, 2) := by decide +kernel
theorem d17_195 : dC38 195 (.iconst 1, 1) := by decide +kernel
theorem d17_196 : dC38 196 (.iadd, 1) := by decide +kernel
theorem d17_197 : dC38 197 (.lload 11, 2) := by decide +kernel
theorem d17_199 : dC38 199 (.lconst 0, 1) := by decide +kernel
theorem d17_200 : dC38 200 (.lcmp, 1) := by decide +kernel
theorem d17_201 : dC38 201 (.ifCond .ne 7, 3) := by decide +kernel
theorem d17_204 : dC38 204 (.iconst 1, 1) := by decide +kernel
theorem d17_205 : dC38 205 (.goto 4, 3) := by decide +kernel
theorem d17_208 : dC38 208 (.iconst 0, 1) := by decide +kernel
theorem d17_209 : dC38 209 (.invokestatic 42, 3) := by decide +kernel
theorem d17_212 : dC38 212 (.istore 10, 2) := by decide +kernel
theorem d17_214 : dC38 214 (.lload 6, 2) := by decide +kernel
theorem d17_216 : dC38 216 (.lload 8, 2) := by decide +kernel
theorem d17_218 : dC38 218 (.iload 4, 2) := by decide +kernel
theorem d17_220 : dC38 220 (.iconst 1, 1) := by decide +kernel
theorem d17_221 : dC38 221 (.iadd, 1) := by decide +kernel
theorem d17_222 : dC38 222 (.i2l, 1) := by decide +kernel
theorem d17_223 : dC38 223 (.ldiv, 1) := by decide +kernel
theorem d17_224 : dC38 224 (.ladd, 1) := by decide +kernel
theorem d17_225 : dC38 225 (.lstore 6, 2) := by decide +kernel
theorem d17_227 : dC38 227 (.lload 8, 2) := by decide +kernel
theorem d17_229 : dC38 229 (.iload 4, 2) := by decide +kernel
theorem d17_231 : dC38 231 (.iconst 1, 1) := by decide +kernel
theorem d17_232 : dC38 232 (.iadd, 1) := by decide +kernel
theorem d17_233 : dC38 233 (.i2l, 1) := by decide +kernel
theorem d17_234 : dC38 234 (.lrem, 1) := by decide +kernel
theorem d17_235 : dC38 235 (.lstore 8, 2) := by decide +kernel
theorem d17_237 : dC38 237 (.lload 6, 2) := by decide +kernel
theorem d17_239 : dC38 239 (.ldc2_w 48, 3) := by decide +kernel
theorem d17_242 : dC38 242 (.lcmp, 1) := by decide +kernel
theorem d17_243 : dC38 243 (.ifCond .le 5, 3) := by decide +kernel
theorem d17_248 : dC38 248 (.aload_n 3, 1) := by decide +kernel
theorem d17_249 : dC38 249 (.lload 8, 2) := by decide +kernel
theorem d17_251 : dC38 251 (.l2i, 1) := by decide +kernel
theorem d17_252 : dC38 252 (.aload_n 3, 1) := by decide +kernel
theorem d17_253 : dC38 253 (.lload 8, 2) := by decide +kernel
theorem d17_255 : dC38 255 (.l2i, 1) := by decide +kernel
theorem d17_256 : dC38 256 (.iconst 1, 1) := by decide +kernel
theorem d17_257 : dC38 257 (.iadd, 1) := by decide +kernel
theorem d17_258 : dC38 258 (.iload 4, 2) := by decide +kernel
theorem d17_260 : dC38 260 (.lload 8, 2) := by decide +kernel
theorem d17_262 : dC38 262 (.l2i, 1) := by decide +kernel
theorem d17_263 : dC38 263 (.isub, 1) := by decide +kernel
theorem d17_264 : dC38 264 (.invokestatic 50, 3) := by decide +kernel
theorem d17_267 : dC38 267 (.aload_n 3, 1) := by decide +kernel
theorem d17_268 : dC38 268 (.lload 8, 2) := by decide +kernel
theorem d17_270 : dC38 270 (.l2i, 1) := by decide +kernel
theorem d17_271 : dC38 271 (.lload 6, 2) := by decide +kernel
theorem d17_273 : dC38 273 (.l2i, 1) := by decide +kernel
theorem d17_274 : dC38 274 (.iastore, 1) := by decide +kernel
theorem d17_275 : dC38 275 (.iinc 4 1, 3) := by decide +kernel
theorem d17_278 : dC38 278 (.lload 8, 2) := by decide +kernel
theorem d17_280 : dC38 280 (.lconst 1, 1) := by decide +kernel
theorem d17_281 : dC38 281 (.ladd, 1) := by decide +kernel
theorem d17_282 : dC38 282 (.lstore 8, 2) := by decide +kernel
theorem d17_284 : dC38 284 (.goto (-208), 3) := by decide +kernel
theorem d17_287 : dC38 287 (.aload_n 3, 1) := by decide +kernel
theorem d17_288 : dC38 288 (.iload 4, 2) := by decide +kernel
theorem d17_290 : dC38 290 (.invokestatic 56, 3) := by decide +kernel
theorem d17_293 : dC38 293 (.areturn, 1) := by decide +kernel
theorem ef_rmdec (m : MethodId) (a1 : Addr) (cl : List Nat) (tx : List Nat) (b1 : Addr) (k1 : ClassId) (cs : Int32) (fo : Value) : entryFrame m #[(.ref a1)] 18 = mkF m 0 #[vR a1, uS, uS, uS, uS, uS, uS, uS, uS, uS, uS, uS, uS, uS, uS, uS, uS, uS] [] := by first | (simp [entryFrame, mkF, argsToLocals, Value.category]; done) | rfl
def Qrmdec (Z : State) (a1 : Addr) (cl : List Nat) (tx : List Nat) (b1 : Addr) (k1 : ClassId) (cs : Int32) (fo : Value) (h0 : Heap) (n0 : Nat) (v : Option Value) (h : Heap) (L : List Loc) : Prop := ∃ r : Addr, ∃ kr : ClassId, v = some (.ref r) ∧ Fr n0 L ∧ Keep h0 h [] ∧ Arv Z h r kr .int (own_i cl.length) ((cl.map own_i).map Value.int) (.int 0) ∧ n0 ≤ r ∧ h0.size ≤ r
set_option maxRecDepth 65536 in
set_option maxHeartbeats 40000000 in
theorem rmdec (l : Launch) (Z : State) (a0 : Array Value) (hw : ∀ d ∈ tables_1, d.before a0 Z = true) (ws : List Jvm.Cond) (a1 : Addr) (cl : List Nat) (tx : List Nat) (b1 : Addr) (k1 : ClassId) (cs : Int32) (fo : Value) (h0 : Heap) (n0 : Nat) (Z0 : n0 ≤ h0.size) (E1 : Exa Z h0 a1 "java/lang/String") (Fv1 : Fld Z h0 a1 "java/lang/String" "value" "[B" (.ref b1)) (Fc1 : Fld Z h0 a1 "java/lang/String" "coder" "B" (.int 0)) (Vb1 : Arv Z h0 b1 k1 .byte (own_i tx.length) ((tx.map own_i).map Value.int) (.int 0)) (S_cs : Sta Z h0 "java/lang/String" "COMPACT_STRINGS" "Z" (.int cs)) (S_fo : Sta Z h0 "jdk/internal/util/Preconditions" "SIOOBE_FORMATTER" "Ljava/util/function/BiFunction;" fo) (hcs : ¬ cs = 0) (hfo : fo = .null ∨ ∃ fx, fo = .ref fx) (hl4 : cl.length ≤ 4) (hcl : ∀ c ∈ cl, c ≤ 1114111) (htx : tx = own_txt cl) :
    MetFree l Y38 (head1 (Jvm.Cond.code Y38 prog_12_method_2_code 18 (some (.array .int)) :: ws) Rm20) (fun a U => a = #[(.ref a1)] ∧ Z.Warmed39 U.vm ∧ U.heap = h0) (fun _ _ _ _ _ => True) (fun _ U o U' => ∃ v L, o = .returned v ∧ Qrmdec Z a1 cl tx b1 k1 cs fo h0 n0 v U'.heap L ∧ FrameEnd U o U' L Rm20.cells Rm20.slots) := by
 refine MetFree.of_bodySF (plainFor_of_name pn_0) hisR ?_
 intro p e s m args below meth c s₁ Bd hml0 hP hK
 obtain ⟨rfl, hZ, hh⟩ := hP
 have hx := Bd.exec
 have hby := Bd.bytes
 have hml : c.maxLocals = 18 := hml0
 have hown : s.vm.findClass "com/example/kenning/kenning/Punycode" = some m.cls := findClass_of_methodNamed Bd.named
 have hnm := (name_of_methodNamed Bd.named Bd.method).1
 have X0 : Stand p l e Rm20 s m #[(.ref a1)] below meth c s₁ [] 0 0 := Stand.of_body Bd
 have e0 : s₁.heap = h0 := by rw [← hh, Bd.state]; rfl
 have N0 := Fr.nil n0
 show Go p.tables e below (fun o U' => ∃ v L, o = .returned v ∧ Qrmdec Z a1 cl tx b1 k1 cs fo h0 n0 v U'.heap L ∧ FrameEnd s o U' L Rm20.cells Rm20.slots) _
 refine Go.step (fun t kt => castTop (ef_rmdec m a1 cl tx b1 k1 cs fo) kt) ?_
 show gG s₁ m 0 #[vR a1, uS, uS, uS, uS, uS, uS, uS, uS, uS, uS, uS, uS, uS, uS, uS, uS, uS] []
 have K101 : Keep h0 h0 [] := (Keep.refl h0 [])
 have hlen := own_ds_len hcl hl4
 have hla := own_txt_la cl
 rw [← htx] at hla
 have ht : ∀ c ∈ tx, c < 128 := by rw [htx]; exact own_txt_lt cl
 have hts : tx.length = (own_B cl).length + (own_ds cl).length := by rw [htx]; unfold own_txt; simp
 obtain ⟨fD, hfD⟩ := own_dec hcl hl4
 refine Go.step (fun _ kt => XS.aloadN X0.here hx rfl (hb hby d17_0) rfl rfl (XS.bipush X0.here hx rfl (hb hby d17_1) kt)) ?_
 show gG s₁ m 3 #[vR a1, uS, uS, uS, uS, uS, uS, uS, uS, uS, uS, uS, uS, uS, uS, uS, uS, uS] [(.int 45), (.ref a1)]
 obtain ⟨cq103, kq103, q103a, q103b, q103c⟩ := isOf hZ e0 E1
 obtain ⟨_, _, ⟨T103, L103, k103, n103⟩, -, X103, ⟨Lc103, hQ103, l103, y103, z103⟩, st103⟩ := X0.virtualBack hx (y := Y35) (z := Y35) hown (mvT hZ (w97 hw)) (mvT hZ (w98 hw)) (notFace_of_selects (args := #[]) (mvT hZ (w100 hw))) (mvT hZ (w100 hw)) (mvT hZ (w99 hw)) (by decide) (backOf (W := 0) (rmlx18 l Z a0 hw [] a1 tx b1 k1 cs h0 n0 Z0 E1 Fv1 Fc1 Vb1 S_cs hcs (by omega) ht) hZ (w101 hw) (w27 hw) (by decide) (by decide)) q103a q103c (g := (mkF m 3 #[vR a1, uS, uS, uS, uS, uS, uS, uS, uS, uS, uS, uS, uS, uS, uS, uS, uS, uS] [(.int 45), (.ref a1)])) rfl hml.symm (Steps.refl _) (argsL := [(.int 45)]) (rest := []) (lenOf pd_4 rfl) rfl (Nat.le_of_eq rfl) (hb hby d17_3) (fun _ _ => ⟨rfl, e0, (by decide : 0 + 0 ≤ _), (by decide : 0 + 0 ≤ _)⟩)
 dsimp only [Pt.U, Pt.locs, Pt.cells, Pt.slots] at X103 l103 y103 z103 st103 hQ103
 subst l103 y103 z103
 obtain ⟨rfl, N103q, eh103⟩ := hQ103
 have N103 := Fr.app N0 N103q
 refine Go.step (fun _ kt => st103.trans kt) ?_
 show gG T103 m 6 #[vR a1, uS, uS, uS, uS, uS, uS, uS, uS, uS, uS, uS, uS, uS, uS, uS, uS, uS] [(.int (own_lg tx tx.length))]
 refine Go.step (fun _ kt => XS.istoreN X103.here hx rfl (hb hby d17_6) rfl (l' := #[vR a1, vI (own_lg tx tx.length), uS, uS, uS, uS, uS, uS, uS, uS, uS, uS, uS, uS, uS, uS, uS, uS]) rfl (XS.iloadN X103.here hx rfl (hb hby d17_7) rfl (XS.iconst X103.here hx rfl (hb hby d17_8) kt))) ?_
 show gG T103 m 9 #[vR a1, vI (own_lg tx tx.length), uS, uS, uS, uS, uS, uS, uS, uS, uS, uS, uS, uS, uS, uS, uS, uS] [(.int 0), (.int (own_lg tx tx.length))]
 obtain ⟨_, _, ⟨T105, L105, k105, n105⟩, -, X105, ⟨Lc105, hQ105, l105, y105, z105⟩, st105⟩ := Jvm.LawKit.callS X103 hx (y := Y1) hown (mvT hZ (w131 hw)) (mvT hZ (w132 hw)) (mvT hZ (w86 hw)) (mvT hZ (w133 hw)) (by decide) (backOf (W := 0) (rmmax l Z a0 hw [] (own_lg tx tx.length) (0 : Int32)  h0 n0 Z0  ) hZ (w133 hw) (w86 hw) (by decide) (by decide)) (g := (mkF m 9 #[vR a1, vI (own_lg tx tx.length), uS, uS, uS, uS, uS, uS, uS, uS, uS, uS, uS, uS, uS, uS, uS, uS] [(.int 0), (.int (own_lg tx tx.length))])) rfl hml.symm (argsL := [(.int (own_lg tx tx.length)), (.int 0)]) (rest := []) (lenOf pd_0 rfl) rfl (Nat.le_of_eq rfl) (hb hby d17_9) (fun _ _ => ⟨rfl, eh103, (by decide : 0 + 0 ≤ _), (by decide : 0 + 0 ≤ _)⟩)
 dsimp only [Pt.U, Pt.locs, Pt.cells, Pt.slots] at X105 l105 y105 z105 st105 hQ105
 subst l105 y105 z105
 obtain ⟨rfl, N105q, eh105⟩ := hQ105
 have N105 := Fr.app N103 N105q
 refine Go.step st105 ?_
 show gG T105 m 12 #[vR a1, vI (own_lg tx tx.length), uS, uS, uS, uS, uS, uS, uS, uS, uS, uS, uS, uS, uS, uS, uS, uS] [(.int (own_max (own_lg tx tx.length) (0 : Int32)))]
 have q106 : (own_max (own_lg tx tx.length) (0 : Int32)) = (own_i (own_bas cl).length) := own_maxla hla (by omega)
 rw [q106]
 refine Go.step (fun _ kt => XS.istoreN X105.here hx rfl (hb hby d17_12) rfl (l' := #[vR a1, vI (own_lg tx tx.length), vI (own_i (own_bas cl).length), uS, uS, uS, uS, uS, uS, uS, uS, uS, uS, uS, uS, uS, uS, uS]) rfl (XS.aloadN X105.here hx rfl (hb hby d17_13) rfl rfl kt)) ?_
 show gG T105 m 14 #[vR a1, vI (own_lg tx tx.length), vI (own_i (own_bas cl).length), uS, uS, uS, uS, uS, uS, uS, uS, uS, uS, uS, uS, uS, uS, uS] [(.ref a1)]
 obtain ⟨cq108, kq108, q108a, q108b, q108c⟩ := isOf hZ eh105 E1
 obtain ⟨_, _, ⟨T108, L108, k108, n108⟩, -, X108, ⟨Lc108, hQ108, l108, y108, z108⟩, st108⟩ := X105.virtualBack hx (y := Y28) (z := Y28) hown (mvT hZ (w134 hw)) (mvT hZ (w103 hw)) (notFace_of_selects (args := #[]) (mvT hZ (w105 hw))) (mvT hZ (w105 hw)) (mvT hZ (w104 hw)) (by decide) (backOf (W := 0) (rmsl l Z a0 hw [] a1 tx b1 k1 cs h0 n0 Z0 E1 Fv1 Fc1 Vb1 S_cs hcs) hZ (w106 hw) (w27 hw) (by decide) (by decide)) q108a q108c (g := (mkF m 14 #[vR a1, vI (own_lg tx tx.length), vI (own_i (own_bas cl).length), uS, uS, uS, uS, uS, uS, uS, uS, uS, uS, uS, uS, uS, uS, uS] [(.ref a1)])) rfl hml.symm (Steps.refl _) (argsL := []) (rest := []) (lenOf pd_2 rfl) rfl (Nat.le_of_eq rfl) (hb hby d17_14) (fun _ _ => ⟨rfl, eh105, (by decide : 0 + 0 ≤ _), (by decide : 0 + 0 ≤ _)⟩)
 dsimp only [Pt.U, Pt.locs, Pt.cells, Pt.slots] at X108 l108 y108 z108 st108 hQ108
 subst l108 y108 z108
 obtain ⟨rfl, N108q, eh108⟩ := hQ108
 have N108 := Fr.app N105 N108q
 refine Go.step (fun _ kt => st108.trans kt) ?_
 obtain ⟨T109, h109, k109, X109, e109, E109, A109, Ex109, st109⟩ := newPE (aty := .int) X108 hx hZ (w1 hw) eh108 (g := (mkF m 17 #[vR a1, vI (own_lg tx tx.length), vI (own_i (own_bas cl).length), uS, uS, uS, uS, uS, uS, uS, uS, uS, uS, uS, uS, uS, uS, uS] [(.int (own_i tx.length))])) rfl (hb hby d17_17) rfl (own_nneg (by omega)) (cap := 34) (own_capN (by omega) (by omega)) (by decide) (by decide) (by decide) (ad := "[I") own_adI
 obtain ⟨b109, g109⟩ : ∃ z, z = h0.size := ⟨_, rfl⟩
 rw [← g109] at A109 Ex109 st109
 refine Go.step st109 ?_
 have ne_a1_b109 : a1 ≠ b109 := Nat.ne_of_lt (Nat.lt_of_lt_of_le E1.lt (Nat.le_of_eq g109.symm))
 have ne_b1_b109 : b1 ≠ b109 := Nat.ne_of_lt (Nat.lt_of_lt_of_le Vb1.lt (Nat.le_of_eq g109.symm))
 have g_b109 : n0 ≤ b109 := Nat.le_trans Z0 (Nat.le_of_eq g109.symm)
 have sz_b109 : h0.size ≤ b109 := Nat.le_trans K101.1 (Nat.le_of_eq g109.symm)
 have F110 := (E1.ext E109)
 have F111 := (Fv1.ext E109)
 have F112 := (Fc1.ext E109)
 have F113 := (Vb1.ext E109)
 have F114 := (S_cs.ext E109)
 have F115 := (S_fo.ext E109)
 have Z116 : n0 ≤ h109.size := (Nat.le_trans Z0 E109.1)
 have K117 : Keep h0 h109 [] := (K101.ext E109)
 have V118 : Arv Z h109 b109 k109 .int (own_i tx.length) ((([] : List Nat).map own_i).map Value.int) (.int 0) := Arv.new A109 (own_nneg (by omega))
 show gG T109 m 19 #[vR a1, vI (own_lg tx tx.length), vI (own_i (own_bas cl).length), uS, uS, uS, uS, uS, uS, uS, uS, uS, uS, uS, uS, uS, uS, uS] [(.ref b109)]
 refine Go.step (fun _ kt => XS.astoreN X109.here hx rfl (hb hby d17_19) rfl rfl (l' := #[vR a1, vI (own_lg tx tx.length), vI (own_i (own_bas cl).length), vR b109, uS, uS, uS, uS, uS, uS, uS, uS, uS, uS, uS, uS, uS, uS]) rfl (XS.iconst X109.here hx rfl (hb hby d17_20) (XS.istore X109.here hx rfl (hb hby d17_21) rfl (l' := #[vR a1, vI (own_lg tx tx.length), vI (own_i (own_bas cl).length), vR b109, vI 0, uS, uS, uS, uS, uS, uS, uS, uS, uS, uS, uS, uS, uS]) rfl (XS.iconst X109.here hx rfl (hb hby d17_23) (XS.istore X109.here hx rfl (hb hby d17_24) rfl (l' := #[vR a1, vI (own_lg tx tx.length), vI (own_i (own_bas cl).length), vR b109, vI 0, vI 0, uS, uS, uS, uS, uS, uS, uS, uS, uS, uS, uS, uS]) rfl kt))))) ?_
 show gG T109 m 26 #[vR a1, vI (own_lg tx tx.length), vI (own_i (own_bas cl).length), vR b109, vI 0, vI 0, uS, uS, uS, uS, uS, uS, uS, uS, uS, uS, uS, uS] []
 have q119 : (0 : Int32) = (own_i 0) := rfl
 rw [q119]
 have R120 : Arv Z h109 b109 k109 .int (own_i tx.length) (((tx.take 0).map own_i).map Value.int) (.int 0) := by rw [List.take_zero]; exact V118
 have G26g121 : ∀ (re : Nat) (ix : Nat) (hre : ix + re = (own_bas cl).length) (Tg121 : State) (Hg121 : Heap) (Lg121 : List Loc) (Xg121 : Stand p l e Rm20 s m #[(.ref a1)] below meth c Tg121 Lg121 1 34) (eg121 : Tg121.heap = Hg121) (Ng121 : Fr n0 Lg121) (Zg121 : n0 ≤ Hg121.size) (Kg121 : Keep h0 Hg121 []) (Fg121_0 : Exa Z Hg121 a1 "java/lang/String") (Fg121_1 : Fld Z Hg121 a1 "java/lang/String" "value" "[B" (.ref b1)) (Fg121_2 : Fld Z Hg121 a1 "java/lang/String" "coder" "B" (.int 0)) (Fg121_3 : Arv Z Hg121 b1 k1 .byte (own_i tx.length) ((tx.map own_i).map Value.int) (.int 0)) (Fg121_4 : Sta Z Hg121 "java/lang/String" "COMPACT_STRINGS" "Z" (.int cs)) (Fg121_5 : Sta Z Hg121 "jdk/internal/util/Preconditions" "SIOOBE_FORMATTER" "Ljava/util/function/BiFunction;" fo) (Fg121_6 : Exa Z Hg121 b109 "[I") (Fg121_7 : Arv Z Hg121 b109 k109 .int (own_i tx.length) (((tx.take ix).map own_i).map Value.int) (.int 0)), Go p.tables e below (fun o U' => ∃ v L, o = .returned v ∧ Qrmdec Z a1 cl tx b1 k1 cs fo h0 n0 v U'.heap L ∧ FrameEnd s o U' L Rm20.cells Rm20.slots) (Tg121.setTop (mkF m 26 #[vR a1, vI (own_lg tx tx.length), vI (own_i (own_bas cl).length), vR b109, vI (own_i ix), vI (own_i ix), uS, uS, uS, uS, uS, uS, uS, uS, uS, uS, uS, uS] [])) := by
  intro re
  induction re with
  | zero =>
   intro ix hre Tg121 Hg121 Lg121 Xg121 eg121 Ng121 Zg121 Kg121 Fg121_0 Fg121_1 Fg121_2 Fg121_3 Fg121_4 Fg121_5 Fg121_6 Fg121_7
   show gG Tg121 m 26 #[vR a1, vI (own_lg tx tx.length), vI (own_i (own_bas cl).length), vR b109, vI (own_i ix), vI (own_i ix), uS, uS, uS, uS, uS, uS, uS, uS, uS, uS, uS, uS] []
   refine Go.step (fun _ kt => XS.iload Xg121.here hx rfl (hb hby d17_26) rfl (XS.iloadN Xg121.here hx rfl (hb hby d17_28) rfl (XS.icmpYes Xg121.here hx rfl (pc0 := 29) (pc' := 51) rfl (hb hby d17_29) rfl (flt (own_ilF (a := ix) (b := (own_bas cl).length) (by omega) (by omega) (by omega))).2.1 (by decide) (by decide) kt))) ?_
   show gG Tg121 m 51 #[vR a1, vI (own_lg tx tx.length), vI (own_i (own_bas cl).length), vR b109, vI (own_i ix), vI (own_i ix), uS, uS, uS, uS, uS, uS, uS, uS, uS, uS, uS, uS] []
   have hix0 : ix = (own_bas cl).length := by omega
   have htk : tx.take ix = own_bas cl := by rw [hix0, htx]; exact own_take cl
   have q122 : (own_i ix) = (own_i (own_bas cl).length) := by rw [hix0]
   rw [q122]
   have R123 : Arv Z Hg121 b109 k109 .int (own_i tx.length) (((own_bas cl).map own_i).map Value.int) (.int 0) := by rw [← htk]; exact Fg121_7
   have G76g124 : ∀ (fu : Nat) (un : Nat) (ui : Nat) (ub : Nat) (uo : List Nat) (dn : List Nat) (rs : List Nat) (iy : Nat) (s11 : Slot) (s12 : Slot) (s13 : Slot) (s14 : Slot) (s15 : Slot) (s16 : Slot) (s17 : Slot) (hD : own_dloop fu rs un ui ub uo = some cl) (hds : own_ds cl = dn ++ rs) (hiy : iy = (own_B cl).length + dn.length) (hlo : uo.length + rs.length ≤ tx.length) (hun : un ≤ 1114111) (hui : ui ≤ 2147483647) (hub : ub ≤ 1000000000) (h_s11 : (s11 = .unset ∧ s12 = .unset) ∨ ∃ y, s11 = .val (.long y) ∧ s12 = .second) (h_s13 : (s13 = .unset ∧ s14 = .unset) ∨ ∃ y, s13 = .val (.long y) ∧ s14 = .second) (h_s15 : s15 = .unset ∨ ∃ y, s15 = vI y) (h_s16 : s16 = .unset ∨ ∃ y, s16 = vI y) (h_s17 : s17 = .unset ∨ ∃ y, s17 = vI y) (Tg124 : State) (Hg124 : Heap) (Lg124 : List Loc) (Xg124 : Stand p l e Rm20 s m #[(.ref a1)] below meth c Tg124 Lg124 1 34) (eg124 : Tg124.heap = Hg124) (Ng124 : Fr n0 Lg124) (Zg124 : n0 ≤ Hg124.size) (Kg124 : Keep h0 Hg124 []) (Fg124_0 : Exa Z Hg124 a1 "java/lang/String") (Fg124_1 : Fld Z Hg124 a1 "java/lang/String" "value" "[B" (.ref b1)) (Fg124_2 : Fld Z Hg124 a1 "java/lang/String" "coder" "B" (.int 0)) (Fg124_3 : Arv Z Hg124 b1 k1 .byte (own_i tx.length) ((tx.map own_i).map Value.int) (.int 0)) (Fg124_4 : Sta Z Hg124 "java/lang/String" "COMPACT_STRINGS" "Z" (.int cs)) (Fg124_5 : Sta Z Hg124 "jdk/internal/util/Preconditions" "SIOOBE_FORMATTER" "Ljava/util/function/BiFunction;" fo) (Fg124_6 : Exa Z Hg124 b109 "[I") (Fg124_7 : Arv Z Hg124 b109 k109 .int (own_i tx.length) ((uo.map own_i).map Value.int) (.int 0)), Go p.tables e below (fun o U' => ∃ v L, o = .returned v ∧ Qrmdec Z a1 cl tx b1 k1 cs fo h0 n0 v U'.heap L ∧ FrameEnd s o U' L Rm20.cells Rm20.slots) (Tg124.setTop (mkF m 76 #[vR a1, vI (own_lg tx tx.length), vI (own_i (own_bas cl).length), vR b109, vI (own_i uo.length), vI (own_i iy), .val (.long (own_j un)), .second, .val (.long (own_j ui)), .second, vI (own_i ub), s11, s12, s13, s14, s15, s16, s17] [])) := by
    intro fu
    induction fu with
    | zero =>
     intro un ui ub uo dn rs iy s11 s12 s13 s14 s15 s16 s17 hD hds hiy hlo hun hui hub h_s11 h_s13 h_s15 h_s16 h_s17 Tg124 Hg124 Lg124 Xg124 eg124 Ng124 Zg124 Kg124 Fg124_0 Fg124_1 Fg124_2 Fg124_3 Fg124_4 Fg124_5 Fg124_6 Fg124_7
     simp [own_dloop] at hD
    | succ fu ih76 =>
     intro un ui ub uo dn rs iy s11 s12 s13 s14 s15 s16 s17 hD hds hiy hlo hun hui hub h_s11 h_s13 h_s15 h_s16 h_s17 Tg124 Hg124 Lg124 Xg124 eg124 Ng124 Zg124 Kg124 Fg124_0 Fg124_1 Fg124_2 Fg124_3 Fg124_4 Fg124_5 Fg124_6 Fg124_7
     show gG Tg124 m 76 #[vR a1, vI (own_lg tx tx.length), vI (own_i (own_bas cl).length), vR b109, vI (own_i uo.length), vI (own_i iy), .val (.long (own_j un)), .second, .val (.long (own_j ui)), .second, vI (own_i ub), s11, s12, s13, s14, s15, s16, s17] []
     have hdl : (own_ds cl).length = dn.length + rs.length := by rw [hds, List.length_append]
     refine Go.step (fun _ kt => XS.iload Xg124.here hx rfl (hb hby d17_76) rfl (XS.aloadN Xg124.here hx rfl (hb hby d17_78) rfl rfl kt)) ?_
     show gG Tg124 m 79 #[vR a1, vI (own_lg tx tx.length), vI (own_i (own_bas cl).length), vR b109, vI (own_i uo.length), vI (own_i iy), .val (.long (own_j un)), .second, .val (.long (own_j ui)), .second, vI (own_i ub), s11, s12, s13, s14, s15, s16, s17] [(.ref a1), (.int (own_i iy))]
     obtain ⟨cq126, kq126, q126a, q126b, q126c⟩ := isOf hZ eg124 Fg124_0
     obtain ⟨_, _, ⟨T126, L126, k126, n126⟩, -, X126, ⟨Lc126, hQ126, l126, y126, z126⟩, st126⟩ := Xg124.virtualBack hx (y := Y28) (z := Y28) hown (mvT hZ (w134 hw)) (mvT hZ (w103 hw)) (notFace_of_selects (args := #[]) (mvT hZ (w105 hw))) (mvT hZ (w105 hw)) (mvT hZ (w104 hw)) (by decide) (backOf (W := 1) (rmsl l Z a0 hw [] a1 tx b1 k1 cs Hg124 n0 Zg124 Fg124_0 Fg124_1 Fg124_2 Fg124_3 Fg124_4 hcs) hZ (w106 hw) (w27 hw) (by decide) (by decide)) q126a q126c (g := (mkF m 79 #[vR a1, vI (own_lg tx tx.length), vI (own_i (own_bas cl).length), vR b109, vI (own_i uo.length), vI (own_i iy), .val (.long (own_j un)), .second, .val (.long (own_j ui)), .second, vI (own_i ub), s11, s12, s13, s14, s15, s16, s17] [(.ref a1), (.int (own_i iy))])) rfl hml.symm (Steps.refl _) (argsL := []) (rest := [(.int (own_i iy))]) (lenOf pd_2 rfl) rfl (Nat.le_of_eq rfl) (hb hby d17_79) (fun _ _ => ⟨rfl, eg124, (by decide : 1 + 0 ≤ _), (by decide : 34 + 0 ≤ _)⟩)
     dsimp only [Pt.U, Pt.locs, Pt.cells, Pt.slots] at X126 l126 y126 z126 st126 hQ126
     subst l126 y126 z126
     obtain ⟨rfl, N126q, eh126⟩ := hQ126
     have N126 := Fr.app Ng124 N126q
     refine Go.step (fun _ kt => st126.trans kt) ?_
     show gG T126 m 82 #[vR a1, vI (own_lg tx tx.length), vI (own_i (own_bas cl).length), vR b109, vI (own_i uo.length), vI (own_i iy), .val (.long (own_j un)), .second, .val (.long (own_j ui)), .second, vI (own_i ub), s11, s12, s13, s14, s15, s16, s17] [(.int (own_i tx.length)), (.int (own_i iy))]
     by_cases hc82_127 : (own_i iy) < (own_i tx.length)
     ·have hN82 : iy < tx.length := own_ilt (a := iy) (b := tx.length) (by omega) (by omega) hc82_127
      refine Go.step (fun _ kt => XS.icmpNo X126.here hx rfl (hb hby d17_82) rfl (tlt hc82_127).2.1 kt) ?_
      show gG T126 m 85 #[vR a1, vI (own_lg tx tx.length), vI (own_i (own_bas cl).length), vR b109, vI (own_i uo.length), vI (own_i iy), .val (.long (own_j un)), .second, .val (.long (own_j ui)), .second, vI (own_i ub), s11, s12, s13, s14, s15, s16, s17] []
      have hne : rs ≠ [] := fun q => by rw [q, List.length_nil] at hdl; omega
      obtain ⟨iF, tF, hv0, hnF, hD2⟩ := own_dinv hD hne
      have hge := own_vdec_le _ _ _ _ _ _ _ hv0
      have hol := own_dloop_len _ _ _ _ _ _ _ hD2
      have hmd := Nat.mod_lt iF (show 0 < uo.length + 1 by omega)
      rw [own_inslen (by omega)] at hol
      have hiF : iF < 10000000 := by have h1 := Nat.div_add_mod iF (uo.length + 1); have h2 : (uo.length + 1) * (iF / (uo.length + 1)) ≤ 4 * 1114111 := Nat.mul_le_mul (by omega) (by omega); omega
      refine Go.step (fun _ kt => XS.lload X126.here hx rfl (hb hby d17_85) rfl (XS.lstore X126.here hx rfl (hb hby d17_87) rfl (l' := #[vR a1, vI (own_lg tx tx.length), vI (own_i (own_bas cl).length), vR b109, vI (own_i uo.length), vI (own_i iy), .val (.long (own_j un)), .second, .val (.long (own_j ui)), .second, vI (own_i ub), .val (.long (own_j ui)), .second, s13, s14, s15, s16, s17]) (by rcases h_s11 with ⟨rfl, rfl⟩ | ⟨_, rfl, rfl⟩ <;> rfl) (XS.lconst X126.here hx rfl (hb hby d17_89) (XS.lstore X126.here hx rfl (hb hby d17_90) rfl (l' := #[vR a1, vI (own_lg tx tx.length), vI (own_i (own_bas cl).length), vR b109, vI (own_i uo.length), vI (own_i iy), .val (.long (own_j un)), .second, .val (.long (own_j ui)), .second, vI (own_i ub), .val (.long (own_j ui)), .second, .val (.long (1 : Int64)), .second, s15, s16, s17]) (by rcases h_s13 with ⟨rfl, rfl⟩ | ⟨_, rfl, rfl⟩ <;> rfl) (XS.bipush X126.here hx rfl (hb hby d17_92) (XS.istore X126.here hx rfl (hb hby d17_94) rfl (l' := #[vR a1, vI (own_lg tx tx.length), vI (own_i (own_bas cl).length), vR b109, vI (own_i uo.length), vI (own_i iy), .val (.long (own_j un)), .second, .val (.long (own_j ui)), .second, vI (own_i ub), .val (.long (own_j ui)), .second, .val (.long (1 : Int64)), .second, vI 36, s16, s17]) (by rcases h_s15 with rfl | ⟨_, rfl⟩ <;> rfl) kt)))))) ?_
      show gG T126 m 96 #[vR a1, vI (own_lg tx tx.length), vI (own_i (own_bas cl).length), vR b109, vI (own_i uo.length), vI (own_i iy), .val (.long (own_j un)), .second, .val (.long (own_j ui)), .second, vI (own_i ub), .val (.long (own_j ui)), .second, .val (.long (1 : Int64)), .second, vI 36, s16, s17] []
      have q128 : (1 : Int64) = (own_j 1) := rfl
      rw [q128]
      have q129 : (36 : Int32) = (own_i 36) := rfl
      rw [q129]
      have G96g130 : ∀ (rv : List Nat) (dm : List Nat) (iz : Nat) (uw : Nat) (uk : Nat) (uj : Nat) (s16 : Slot) (s17 : Slot) (hv : own_vdec rv uk ub uw uj = some (iF, tF)) (hdm : own_ds cl = dm ++ rv) (hiz : iz = (own_B cl).length + dm.length) (hrv : rv.length ≤ rs.length) (hww : uw ≤ 75161927680) (huj : uj ≤ 2147483647) (huk : uk + 36 * rv.length ≤ 10000) (h_s16 : s16 = .unset ∨ ∃ y, s16 = vI y) (h_s17 : s17 = .unset ∨ ∃ y, s17 = vI y) (Tg130 : State) (Hg130 : Heap) (Lg130 : List Loc) (Xg130 : Stand p l e Rm20 s m #[(.ref a1)] below meth c Tg130 Lg130 1 34) (eg130 : Tg130.heap = Hg130) (Ng130 : Fr n0 Lg130) (Zg130 : n0 ≤ Hg130.size) (Kg130 : Keep h0 Hg130 []) (Fg130_0 : Exa Z Hg130 a1 "java/lang/String") (Fg130_1 : Fld Z Hg130 a1 "java/lang/String" "value" "[B" (.ref b1)) (Fg130_2 : Fld Z Hg130 a1 "java/lang/String" "coder" "B" (.int 0)) (Fg130_3 : Arv Z Hg130 b1 k1 .byte (own_i tx.length) ((tx.map own_i).map Value.int) (.int 0)) (Fg130_4 : Sta Z Hg130 "java/lang/String" "COMPACT_STRINGS" "Z" (.int cs)) (Fg130_5 : Sta Z Hg130 "jdk/internal/util/Preconditions" "SIOOBE_FORMATTER" "Ljava/util/function/BiFunction;" fo) (Fg130_6 : Exa Z Hg130 b109 "[I") (Fg130_7 : Arv Z Hg130 b109 k109 .int (own_i tx.length) ((uo.map own_i).map Value.int) (.int 0)), Go p.tables e below (fun o U' => ∃ v L, o = .returned v ∧ Qrmdec Z a1 cl tx b1 k1 cs fo h0 n0 v U'.heap L ∧ FrameEnd s o U' L Rm20.cells Rm20.slots) (Tg130.setTop (mkF m 96 #[vR a1, vI (own_lg tx tx.length), vI (own_i (own_bas cl).length), vR b109, vI (own_i uo.length), vI (own_i iz), .val (.long (own_j un)), .second, .val (.long (own_j uj)), .second, vI (own_i ub), .val (.long (own_j ui)), .second, .val (.long (own_j uw)), .second, vI (own_i uk), s16, s17] [])) := by
       intro rv
       induction rv with
       | nil =>
        intro dm iz uw uk uj s16 s17 hv hdm hiz hrv hww huj huk h_s16 h_s17 Tg130 Hg130 Lg130 Xg130 eg130 Ng130 Zg130 Kg130 Fg130_0 Fg130_1 Fg130_2 Fg130_3 Fg130_4 Fg130_5 Fg130_6 Fg130_7
        simp [own_vdec] at hv
       | cons dx rv ih96 =>
        intro dm iz uw uk uj s16 s17 hv hdm hiz hrv hww huj huk h_s16 h_s17 Tg130 Hg130 Lg130 Xg130 eg130 Ng130 Zg130 Kg130 Fg130_0 Fg130_1 Fg130_2 Fg130_3 Fg130_4 Fg130_5 Fg130_6 Fg130_7
        show gG Tg130 m 96 #[vR a1, vI (own_lg tx tx.length), vI (own_i (own_bas cl).length), vR b109, vI (own_i uo.length), vI (own_i iz), .val (.long (own_j un)), .second, .val (.long (own_j uj)), .second, vI (own_i ub), .val (.long (own_j ui)), .second, .val (.long (own_j uw)), .second, vI (own_i uk), s16, s17] []
        simp only [List.length_cons] at hrv huk
        have hdl2 : (own_ds cl).length = dm.length + (rv.length + 1) := by rw [hdm, List.length_append, List.length_cons]
        have hdx : dx < 36 := own_ds_36 cl dx (by rw [hdm]; simp)
        have hgx := own_txt_get htx hdm hiz
        obtain ⟨hle, hor⟩ := own_vd hv
        have hdw : dx * uw ≤ 36 * uw := Nat.mul_le_mul_right _ (by omega)
        have ht2 := own_thr_le uk ub
        refine Go.step (fun _ kt => XS.iload Xg130.here hx rfl (hb hby d17_96) rfl (XS.aloadN Xg130.here hx rfl (hb hby d17_98) rfl rfl kt)) ?_
        show gG Tg130 m 99 #[vR a1, vI (own_lg tx tx.length), vI (own_i (own_bas cl).length), vR b109, vI (own_i uo.length), vI (own_i iz), .val (.long (own_j un)), .second, .val (.long (own_j uj)), .second, vI (own_i ub), .val (.long (own_j ui)), .second, .val (.long (own_j uw)), .second, vI (own_i uk), s16, s17] [(.ref a1), (.int (own_i iz))]
        obtain ⟨cq132, kq132, q132a, q132b, q132c⟩ := isOf hZ eg130 Fg130_0
        obtain ⟨_, _, ⟨T132, L132, k132, n132⟩, -, X132, ⟨Lc132, hQ132, l132, y132, z132⟩, st132⟩ := Xg130.virtualBack hx (y := Y28) (z := Y28) hown (mvT hZ (w134 hw)) (mvT hZ (w103 hw)) (notFace_of_selects (args := #[]) (mvT hZ (w105 hw))) (mvT hZ (w105 hw)) (mvT hZ (w104 hw)) (by decide) (backOf (W := 1) (rmsl l Z a0 hw [] a1 tx b1 k1 cs Hg130 n0 Zg130 Fg130_0 Fg130_1 Fg130_2 Fg130_3 Fg130_4 hcs) hZ (w106 hw) (w27 hw) (by decide) (by decide)) q132a q132c (g := (mkF m 99 #[vR a1, vI (own_lg tx tx.length), vI (own_i (own_bas cl).length), vR b109, vI (own_i uo.length), vI (own_i iz), .val (.long (own_j un)), .second, .val (.long (own_j uj)), .second, vI (own_i ub), .val (.long (own_j ui)), .second, .val (.long (own_j uw)), .second, vI (own_i uk), s16, s17] [(.ref a1), (.int (own_i iz))])) rfl hml.symm (Steps.refl _) (argsL := []) (rest := [(.int (own_i iz))]) (lenOf pd_2 rfl) rfl (Nat.le_of_eq rfl) (hb hby d17_99) (fun _ _ => ⟨rfl, eg130, (by decide : 1 + 0 ≤ _), (by decide : 34 + 0 ≤ _)⟩)
        dsimp only [Pt.U, Pt.locs, Pt.cells, Pt.slots] at X132 l132 y132 z132 st132 hQ132
        subst l132 y132 z132
        obtain ⟨rfl, N132q, eh132⟩ := hQ132
        have N132 := Fr.app Ng130 N132q
        refine Go.step (fun _ kt => st132.trans kt) ?_
        show gG T132 m 102 #[vR a1, vI (own_lg tx tx.length), vI (own_i (own_bas cl).length), vR b109, vI (own_i uo.length), vI (own_i iz), .val (.long (own_j un)), .second, .val (.long (own_j uj)), .second, vI (own_i ub), .val (.long (own_j ui)), .second, .val (.long (own_j uw)), .second, vI (own_i uk), s16, s17] [(.int (own_i tx.length)), (.int (own_i iz))]
        refine Go.step (fun _ kt => XS.icmpNo X132.here hx rfl (hb hby d17_102) rfl (tlt (own_ilT (a := iz) (b := tx.length) (by omega) (by omega) (by omega))).2.1 (XS.aloadN X132.here hx rfl (hb hby d17_105) rfl rfl (XS.iload X132.here hx rfl (hb hby d17_106) rfl (XS.iinc X132.here hx rfl (hb hby d17_108) rfl (l' := #[vR a1, vI (own_lg tx tx.length), vI (own_i (own_bas cl).length), vR b109, vI (own_i uo.length), vI ((own_i iz) + (1 : Int32)), .val (.long (own_j un)), .second, .val (.long (own_j uj)), .second, vI (own_i ub), .val (.long (own_j ui)), .second, .val (.long (own_j uw)), .second, vI (own_i uk), s16, s17]) rfl kt)))) ?_
        show gG T132 m 111 #[vR a1, vI (own_lg tx tx.length), vI (own_i (own_bas cl).length), vR b109, vI (own_i uo.length), vI ((own_i iz) + (1 : Int32)), .val (.long (own_j un)), .second, .val (.long (own_j uj)), .second, vI (own_i ub), .val (.long (own_j ui)), .second, .val (.long (own_j uw)), .second, vI (own_i uk), s16, s17] [(.int (own_i iz)), (.ref a1)]
        have q133 : ((own_i iz) + (1 : Int32)) = (own_i (iz + 1)) := own_ia iz 1
        rw [q133]
        obtain ⟨cq135, kq135, q135a, q135b, q135c⟩ := isOf hZ eh132 Fg130_0
        obtain ⟨_, _, ⟨T135, L135, k135, n135⟩, -, X135, ⟨Lc135, hQ135, l135, y135, z135⟩, st135⟩ := X132.virtualBack hx (y := Y32) (z := Y32) hown (mvT hZ (w186 hw)) (mvT hZ (w187 hw)) (notFace_of_selects (args := #[]) (mvT hZ (w189 hw))) (mvT hZ (w189 hw)) (mvT hZ (w188 hw)) (by decide) (backOf (W := 0) (rmca l Z a0 hw [] a1 iz tx b1 k1 cs fo Hg130 n0 Zg130 Fg130_0 Fg130_1 Fg130_2 Fg130_3 Fg130_4 Fg130_5 hcs hfo (by omega) (by omega) ht) hZ (w190 hw) (w27 hw) (by decide) (by decide)) q135a q135c (g := (mkF m 111 #[vR a1, vI (own_lg tx tx.length), vI (own_i (own_bas cl).length), vR b109, vI (own_i uo.length), vI (own_i (iz + 1)), .val (.long (own_j un)), .second, .val (.long (own_j uj)), .second, vI (own_i ub), .val (.long (own_j ui)), .second, .val (.long (own_j uw)), .second, vI (own_i uk), s16, s17] [(.int (own_i iz)), (.ref a1)])) rfl hml.symm (Steps.refl _) (argsL := [(.int (own_i iz))]) (rest := []) (lenOf pd_24 rfl) rfl (Nat.le_of_eq rfl) (hb hby d17_111) (fun _ _ => ⟨rfl, eh132, (by decide : 1 + 0 ≤ _), (by decide : 34 + 0 ≤ _)⟩)
        dsimp only [Pt.U, Pt.locs, Pt.cells, Pt.slots] at X135 l135 y135 z135 st135 hQ135
        subst l135 y135 z135
        obtain ⟨rfl, N135q, eh135⟩ := hQ135
        have N135 := Fr.app N132 N135q
        refine Go.step (fun _ kt => st135.trans kt) ?_
        obtain ⟨_, _, ⟨T137, L137, k137, n137⟩, -, X137, ⟨Lc137, hQ137, l137, y137, z137⟩, st137⟩ := Jvm.LawKit.callS X135 hx (y := Y5) hown (mvT hZ (w202 hw)) (mvT hZ (w203 hw)) (mvT hZ (w9 hw)) (mvT hZ (w204 hw)) (by decide) (backOf (W := 0) (rmdig l Z a0 hw []  (tx.getD iz 0) dx Hg130 n0 Zg130  hdx hgx) hZ (w204 hw) (w9 hw) (by decide) (by decide)) (g := (mkF m 114 #[vR a1, vI (own_lg tx tx.length), vI (own_i (own_bas cl).length), vR b109, vI (own_i uo.length), vI (own_i (iz + 1)), .val (.long (own_j un)), .second, .val (.long (own_j uj)), .second, vI (own_i ub), .val (.long (own_j ui)), .second, .val (.long (own_j uw)), .second, vI (own_i uk), s16, s17] [(.int (own_i (tx.getD iz 0)))])) rfl hml.symm (argsL := [(.int (own_i (tx.getD iz 0)))]) (rest := []) (lenOf pd_25 rfl) rfl (Nat.le_of_eq rfl) (hb hby d17_114) (fun _ _ => ⟨rfl, eh135, (by decide : 1 + 0 ≤ _), (by decide : 34 + 0 ≤ _)⟩)
        dsimp only [Pt.U, Pt.locs, Pt.cells, Pt.slots] at X137 l137 y137 z137 st137 hQ137
        subst l137 y137 z137
        obtain ⟨rfl, N137q, eh137⟩ := hQ137
        have N137 := Fr.app N135 N137q
        refine Go.step st137 ?_
        show gG T137 m 117 #[vR a1, vI (own_lg tx tx.length), vI (own_i (own_bas cl).length), vR b109, vI (own_i uo.length), vI (own_i (iz + 1)), .val (.long (own_j un)), .second, .val (.long (own_j uj)), .second, vI (own_i ub), .val (.long (own_j ui)), .second, .val (.long (own_j uw)), .second, vI (own_i uk), s16, s17] [(.int (own_i dx))]
        refine Go.step (fun _ kt => XS.goto X137.here hx rfl (pc0 := 117) (pc' := 121) rfl (hb hby d17_117) (by decide) (by decide) (XS.istore X137.here hx rfl (hb hby d17_121) rfl (l' := #[vR a1, vI (own_lg tx tx.length), vI (own_i (own_bas cl).length), vR b109, vI (own_i uo.length), vI (own_i (iz + 1)), .val (.long (own_j un)), .second, .val (.long (own_j uj)), .second, vI (own_i ub), .val (.long (own_j ui)), .second, .val (.long (own_j uw)), .second, vI (own_i uk), vI (own_i dx), s17]) (by rcases h_s16 with rfl | ⟨_, rfl⟩ <;> rfl) (XS.iload X137.here hx rfl (hb hby d17_123) rfl (XS.ifYes X137.here hx rfl (pc0 := 125) (pc' := 130) rfl (hb hby d17_125) rfl ((if0 _ _).trans (flt (own_ilF (a := dx) (b := 0) (by omega) (by omega) (by omega))).2.1) (by decide) (by decide) (XS.lload X137.here hx rfl (hb hby d17_130) rfl (XS.iload X137.here hx rfl (hb hby d17_132) rfl (XS.i2l X137.here hx rfl (hb hby d17_134) rfl kt))))))) ?_
        show gG T137 m 135 #[vR a1, vI (own_lg tx tx.length), vI (own_i (own_bas cl).length), vR b109, vI (own_i uo.length), vI (own_i (iz + 1)), .val (.long (own_j un)), .second, .val (.long (own_j uj)), .second, vI (own_i ub), .val (.long (own_j ui)), .second, .val (.long (own_j uw)), .second, vI (own_i uk), vI (own_i dx), s17] [(.long ((own_i dx).toInt64)), (.long (own_j uj))]
        have q138 : ((own_i dx).toInt64) = (own_j dx) := own_ij (a := dx) (by omega)
        rw [q138]
        refine Go.step (fun _ kt => XS.lload X137.here hx rfl (hb hby d17_135) rfl (XS.lmul X137.here hx rfl (hb hby d17_137) rfl kt)) ?_
        show gG T137 m 138 #[vR a1, vI (own_lg tx tx.length), vI (own_i (own_bas cl).length), vR b109, vI (own_i uo.length), vI (own_i (iz + 1)), .val (.long (own_j un)), .second, .val (.long (own_j uj)), .second, vI (own_i ub), .val (.long (own_j ui)), .second, .val (.long (own_j uw)), .second, vI (own_i uk), vI (own_i dx), s17] [(.long ((own_j dx) * (own_j uw))), (.long (own_j uj))]
        have q139 : ((own_j dx) * (own_j uw)) = (own_j (dx * uw)) := own_jm dx uw
        rw [q139]
        refine Go.step (fun _ kt => XS.ladd X137.here hx rfl (hb hby d17_138) rfl kt) ?_
        show gG T137 m 139 #[vR a1, vI (own_lg tx tx.length), vI (own_i (own_bas cl).length), vR b109, vI (own_i uo.length), vI (own_i (iz + 1)), .val (.long (own_j un)), .second, .val (.long (own_j uj)), .second, vI (own_i ub), .val (.long (own_j ui)), .second, .val (.long (own_j uw)), .second, vI (own_i uk), vI (own_i dx), s17] [(.long ((own_j uj) + (own_j (dx * uw))))]
        have q140 : ((own_j uj) + (own_j (dx * uw))) = (own_j (uj + (dx * uw))) := own_ja uj (dx * uw)
        rw [q140]
        refine Go.step (fun _ kt => XS.lstore X137.here hx rfl (hb hby d17_139) rfl (l' := #[vR a1, vI (own_lg tx tx.length), vI (own_i (own_bas cl).length), vR b109, vI (own_i uo.length), vI (own_i (iz + 1)), .val (.long (own_j un)), .second, .val (.long (own_j (uj + (dx * uw)))), .second, vI (own_i ub), .val (.long (own_j ui)), .second, .val (.long (own_j uw)), .second, vI (own_i uk), vI (own_i dx), s17]) rfl (XS.lload X137.here hx rfl (hb hby d17_141) rfl kt)) ?_
        show gG T137 m 143 #[vR a1, vI (own_lg tx tx.length), vI (own_i (own_bas cl).length), vR b109, vI (own_i uo.length), vI (own_i (iz + 1)), .val (.long (own_j un)), .second, .val (.long (own_j (uj + (dx * uw)))), .second, vI (own_i ub), .val (.long (own_j ui)), .second, .val (.long (own_j uw)), .second, vI (own_i uk), vI (own_i dx), s17] [(.long (own_j (uj + (dx * uw))))]
        refine Go.step (X137.ldc2Long hx hown (mvT hZ (w205 hw)) (g := (mkF m 143 #[vR a1, vI (own_lg tx tx.length), vI (own_i (own_bas cl).length), vR b109, vI (own_i uo.length), vI (own_i (iz + 1)), .val (.long (own_j un)), .second, .val (.long (own_j (uj + (dx * uw)))), .second, vI (own_i ub), .val (.long (own_j ui)), .second, .val (.long (own_j uw)), .second, vI (own_i uk), vI (own_i dx), s17] [(.long (own_j (uj + (dx * uw))))])) rfl (hb hby d17_143)) ?_
        show gG T137 m 146 #[vR a1, vI (own_lg tx tx.length), vI (own_i (own_bas cl).length), vR b109, vI (own_i uo.length), vI (own_i (iz + 1)), .val (.long (own_j un)), .second, .val (.long (own_j (uj + (dx * uw)))), .second, vI (own_i ub), .val (.long (own_j ui)), .second, .val (.long (own_j uw)), .second, vI (own_i uk), vI (own_i dx), s17] [(.long (2147483647 : Int64)), (.long (own_j (uj + (dx * uw))))]
        refine Go.step (fun _ kt => XS.lcmp X137.here hx rfl (hb hby d17_146) rfl (XS.ifYes X137.here hx rfl (pc0 := 147) (pc' := 152) rfl (hb hby d17_147) rfl ((if0 _ _).trans (flt (own_lgF (a := 2147483647) (b := (uj + (dx * uw))) (by omega) (by omega) (by omega))).2.2.2) (by decide) (by decide) (XS.iload X137.here hx rfl (hb hby d17_152) rfl (XS.iload X137.here hx rfl (hb hby d17_154) rfl kt)))) ?_
        show gG T137 m 156 #[vR a1, vI (own_lg tx tx.length), vI (own_i (own_bas cl).length), vR b109, vI (own_i uo.length), vI (own_i (iz + 1)), .val (.long (own_j un)), .second, .val (.long (own_j (uj + (dx * uw)))), .second, vI (own_i ub), .val (.long (own_j ui)), .second, .val (.long (own_j uw)), .second, vI (own_i uk), vI (own_i dx), s17] [(.int (own_i ub)), (.int (own_i uk))]
        obtain ⟨_, _, ⟨T142, L142, k142, n142⟩, -, X142, ⟨Lc142, hQ142, l142, y142, z142⟩, st142⟩ := Jvm.LawKit.callS X137 hx (y := Y2) hown (mvT hZ (w171 hw)) (mvT hZ (w172 hw)) (mvT hZ (w9 hw)) (mvT hZ (w173 hw)) (by decide) (backOf (W := 0) (rmthr l Z a0 hw []  uk ub Hg130 n0 Zg130  (by omega) (by omega)) hZ (w173 hw) (w9 hw) (by decide) (by decide)) (g := (mkF m 156 #[vR a1, vI (own_lg tx tx.length), vI (own_i (own_bas cl).length), vR b109, vI (own_i uo.length), vI (own_i (iz + 1)), .val (.long (own_j un)), .second, .val (.long (own_j (uj + (dx * uw)))), .second, vI (own_i ub), .val (.long (own_j ui)), .second, .val (.long (own_j uw)), .second, vI (own_i uk), vI (own_i dx), s17] [(.int (own_i ub)), (.int (own_i uk))])) rfl hml.symm (argsL := [(.int (own_i uk)), (.int (own_i ub))]) (rest := []) (lenOf pd_0 rfl) rfl (Nat.le_of_eq rfl) (hb hby d17_156) (fun _ _ => ⟨rfl, eh137, (by decide : 1 + 0 ≤ _), (by decide : 34 + 0 ≤ _)⟩)
        dsimp only [Pt.U, Pt.locs, Pt.cells, Pt.slots] at X142 l142 y142 z142 st142 hQ142
        subst l142 y142 z142
        obtain ⟨rfl, N142q, eh142⟩ := hQ142
        have N142 := Fr.app N137 N142q
        refine Go.step st142 ?_
        show gG T142 m 159 #[vR a1, vI (own_lg tx tx.length), vI (own_i (own_bas cl).length), vR b109, vI (own_i uo.length), vI (own_i (iz + 1)), .val (.long (own_j un)), .second, .val (.long (own_j (uj + (dx * uw)))), .second, vI (own_i ub), .val (.long (own_j ui)), .second, .val (.long (own_j uw)), .second, vI (own_i uk), vI (own_i dx), s17] [(.int (own_i (own_thr uk ub)))]
        refine Go.step (fun _ kt => XS.istore X142.here hx rfl (hb hby d17_159) rfl (l' := #[vR a1, vI (own_lg tx tx.length), vI (own_i (own_bas cl).length), vR b109, vI (own_i uo.length), vI (own_i (iz + 1)), .val (.long (own_j un)), .second, .val (.long (own_j (uj + (dx * uw)))), .second, vI (own_i ub), .val (.long (own_j ui)), .second, .val (.long (own_j uw)), .second, vI (own_i uk), vI (own_i dx), vI (own_i (own_thr uk ub))]) (by rcases h_s17 with rfl | ⟨_, rfl⟩ <;> rfl) (XS.iload X142.here hx rfl (hb hby d17_161) rfl (XS.iload X142.here hx rfl (hb hby d17_163) rfl kt))) ?_
        show gG T142 m 165 #[vR a1, vI (own_lg tx tx.length), vI (own_i (own_bas cl).length), vR b109, vI (own_i uo.length), vI (own_i (iz + 1)), .val (.long (own_j un)), .second, .val (.long (own_j (uj + (dx * uw)))), .second, vI (own_i ub), .val (.long (own_j ui)), .second, .val (.long (own_j uw)), .second, vI (own_i uk), vI (own_i dx), vI (own_i (own_thr uk ub))] [(.int (own_i (own_thr uk ub))), (.int (own_i dx))]
        by_cases hc165_143 : (own_i dx) < (own_i (own_thr uk ub))
        ·have hN165 : dx < (own_thr uk ub) := own_ilt (a := dx) (b := (own_thr uk ub)) (by omega) (by omega) hc165_143
         refine Go.step (fun _ kt => XS.icmpNo X142.here hx rfl (hb hby d17_165) rfl (tlt hc165_143).2.1 (XS.goto X142.here hx rfl (pc0 := 168) (pc' := 188) rfl (hb hby d17_168) (by decide) (by decide) kt)) ?_
         show gG T142 m 188 #[vR a1, vI (own_lg tx tx.length), vI (own_i (own_bas cl).length), vR b109, vI (own_i uo.length), vI (own_i (iz + 1)), .val (.long (own_j un)), .second, .val (.long (own_j (uj + (dx * uw)))), .second, vI (own_i ub), .val (.long (own_j ui)), .second, .val (.long (own_j uw)), .second, vI (own_i uk), vI (own_i dx), vI (own_i (own_thr uk ub))] []
         obtain ⟨-, hF1, hF2⟩ := hor.resolve_right (fun q => q.1 hN165)
         have q144 : (own_j (uj + (dx * uw))) = (own_j iF) := by rw [hF1]
         rw [q144]
         refine Go.step (fun _ kt => XS.lload X142.here hx rfl (hb hby d17_188) rfl (XS.lload X142.here hx rfl (hb hby d17_190) rfl (XS.lsub X142.here hx rfl (hb hby d17_192) rfl kt))) ?_
         show gG T142 m 193 #[vR a1, vI (own_lg tx tx.length), vI (own_i (own_bas cl).length), vR b109, vI (own_i uo.length), vI (own_i (iz + 1)), .val (.long (own_j un)), .second, .val (.long (own_j iF)), .second, vI (own_i ub), .val (.long (own_j ui)), .second, .val (.long (own_j uw)), .second, vI (own_i uk), vI (own_i dx), vI (own_i (own_thr uk ub))] [(.long ((own_j iF) - (own_j ui)))]
         have q145 : ((own_j iF) - (own_j ui)) = (own_j (iF - ui)) := own_js (a := iF) (b := ui) (by omega)
         rw [q145]
         refine Go.step (fun _ kt => XS.iload X142.here hx rfl (hb hby d17_193) rfl (XS.iconst X142.here hx rfl (hb hby d17_195) (XS.iadd X142.here hx rfl (hb hby d17_196) rfl kt))) ?_
         show gG T142 m 197 #[vR a1, vI (own_lg tx tx.length), vI (own_i (own_bas cl).length), vR b109, vI (own_i uo.length), vI (own_i (iz + 1)), .val (.long (own_j un)), .second, .val (.long (own_j iF)), .second, vI (own_i ub), .val (.long (own_j ui)), .second, .val (.long (own_j uw)), .second, vI (own_i uk), vI (own_i dx), vI (own_i (own_thr uk ub))] [(.int ((own_i uo.length) + (1 : Int32))), (.long (own_j (iF - ui)))]
         have q146 : ((own_i uo.length) + (1 : Int32)) = (own_i (uo.length + 1)) := own_ia uo.length 1
         rw [q146]
         refine Go.step (fun _ kt => XS.lload X142.here hx rfl (hb hby d17_197) rfl (XS.lconst X142.here hx rfl (hb hby d17_199) (XS.lcmp X142.here hx rfl (hb hby d17_200) rfl kt))) ?_
         show gG T142 m 201 #[vR a1, vI (own_lg tx tx.length), vI (own_i (own_bas cl).length), vR b109, vI (own_i uo.length), vI (own_i (iz + 1)), .val (.long (own_j un)), .second, .val (.long (own_j iF)), .second, vI (own_i ub), .val (.long (own_j ui)), .second, .val (.long (own_j uw)), .second, vI (own_i uk), vI (own_i dx), vI (own_i (own_thr uk ub))] [(.int (lcmpW (own_j ui) (0 : Int64))), (.int (own_i (uo.length + 1))), (.long (own_j (iF - ui)))]
         by_cases hc201_147 : (lcmpW (own_j ui) (0 : Int64)) = (0 : Int32)
         ·have hN201 : ui = 0 := own_lqt (a := ui) (b := 0) (by omega) (by omega) hc201_147
          refine Go.step (fun _ kt => XS.ifNo X142.here hx rfl (hb hby d17_201) rfl ((if0 _ _).trans (teq hc201_147).2) (XS.iconst X142.here hx rfl (hb hby d17_204) (XS.goto X142.here hx rfl (pc0 := 205) (pc' := 209) rfl (hb hby d17_205) (by decide) (by decide) kt))) ?_
          show gG T142 m 209 #[vR a1, vI (own_lg tx tx.length), vI (own_i (own_bas cl).length), vR b109, vI (own_i uo.length), vI (own_i (iz + 1)), .val (.long (own_j un)), .second, .val (.long (own_j iF)), .second, vI (own_i ub), .val (.long (own_j ui)), .second, .val (.long (own_j uw)), .second, vI (own_i uk), vI (own_i dx), vI (own_i (own_thr uk ub))] [(.int 1), (.int (own_i (uo.length + 1))), (.long (own_j (iF - ui)))]
          have hbq : (ui == 0) = true := by simp [hN201]
          obtain ⟨_, _, ⟨T149, L149, k149, n149⟩, -, X149, ⟨Lc149, hQ149, l149, y149, z149⟩, st149⟩ := Jvm.LawKit.callS X142 hx (y := Y4) hown (mvT hZ (w179 hw)) (mvT hZ (w180 hw)) (mvT hZ (w9 hw)) (mvT hZ (w181 hw)) (by decide) (backOf (W := 0) (rmad l Z a0 hw [] (1 : Int32) (iF - ui) (uo.length + 1) true Hg130 n0 Zg130  (by omega) (by omega) rfl) hZ (w181 hw) (w9 hw) (by decide) (by decide)) (g := (mkF m 209 #[vR a1, vI (own_lg tx tx.length), vI (own_i (own_bas cl).length), vR b109, vI (own_i uo.length), vI (own_i (iz + 1)), .val (.long (own_j un)), .second, .val (.long (own_j iF)), .second, vI (own_i ub), .val (.long (own_j ui)), .second, .val (.long (own_j uw)), .second, vI (own_i uk), vI (own_i dx), vI (own_i (own_thr uk ub))] [(.int 1), (.int (own_i (uo.length + 1))), (.long (own_j (iF - ui)))])) rfl hml.symm (argsL := [(.long (own_j (iF - ui))), (.int (own_i (uo.length + 1))), (.int 1)]) (rest := []) (lenOf pd_22 rfl) rfl (Nat.le_of_eq rfl) (hb hby d17_209) (fun _ _ => ⟨rfl, eh142, (by decide : 1 + 0 ≤ _), (by decide : 34 + 0 ≤ _)⟩)
          dsimp only [Pt.U, Pt.locs, Pt.cells, Pt.slots] at X149 l149 y149 z149 st149 hQ149
          subst l149 y149 z149
          obtain ⟨rfl, N149q, eh149⟩ := hQ149
          have N149 := Fr.app N142 N149q
          refine Go.step st149 ?_
          show gG T149 m 212 #[vR a1, vI (own_lg tx tx.length), vI (own_i (own_bas cl).length), vR b109, vI (own_i uo.length), vI (own_i (iz + 1)), .val (.long (own_j un)), .second, .val (.long (own_j iF)), .second, vI (own_i ub), .val (.long (own_j ui)), .second, .val (.long (own_j uw)), .second, vI (own_i uk), vI (own_i dx), vI (own_i (own_thr uk ub))] [(.int (own_i (own_adapt (iF - ui) (uo.length + 1) true)))]
          refine Go.step (fun _ kt => XS.istore X149.here hx rfl (hb hby d17_212) rfl (l' := #[vR a1, vI (own_lg tx tx.length), vI (own_i (own_bas cl).length), vR b109, vI (own_i uo.length), vI (own_i (iz + 1)), .val (.long (own_j un)), .second, .val (.long (own_j iF)), .second, vI (own_i (own_adapt (iF - ui) (uo.length + 1) true)), .val (.long (own_j ui)), .second, .val (.long (own_j uw)), .second, vI (own_i uk), vI (own_i dx), vI (own_i (own_thr uk ub))]) rfl (XS.lload X149.here hx rfl (hb hby d17_214) rfl (XS.lload X149.here hx rfl (hb hby d17_216) rfl (XS.iload X149.here hx rfl (hb hby d17_218) rfl (XS.iconst X149.here hx rfl (hb hby d17_220) (XS.iadd X149.here hx rfl (hb hby d17_221) rfl kt)))))) ?_
          show gG T149 m 222 #[vR a1, vI (own_lg tx tx.length), vI (own_i (own_bas cl).length), vR b109, vI (own_i uo.length), vI (own_i (iz + 1)), .val (.long (own_j un)), .second, .val (.long (own_j iF)), .second, vI (own_i (own_adapt (iF - ui) (uo.length + 1) true)), .val (.long (own_j ui)), .second, .val (.long (own_j uw)), .second, vI (own_i uk), vI (own_i dx), vI (own_i (own_thr uk ub))] [(.int ((own_i uo.length) + (1 : Int32))), (.long (own_j iF)), (.long (own_j un))]
          have q150 : ((own_i uo.length) + (1 : Int32)) = (own_i (uo.length + 1)) := own_ia uo.length 1
          rw [q150]
          refine Go.step (fun _ kt => XS.i2l X149.here hx rfl (hb hby d17_222) rfl kt) ?_
          show gG T149 m 223 #[vR a1, vI (own_lg tx tx.length), vI (own_i (own_bas cl).length), vR b109, vI (own_i uo.length), vI (own_i (iz + 1)), .val (.long (own_j un)), .second, .val (.long (own_j iF)), .second, vI (own_i (own_adapt (iF - ui) (uo.length + 1) true)), .val (.long (own_j ui)), .second, .val (.long (own_j uw)), .second, vI (own_i uk), vI (own_i dx), vI (own_i (own_thr uk ub))] [(.long ((own_i (uo.length + 1)).toInt64)), (.long (own_j iF)), (.long (own_j un))]
          have q151 : ((own_i (uo.length + 1)).toInt64) = (own_j (uo.length + 1)) := own_ij (a := (uo.length + 1)) (by omega)
          rw [q151]
          refine Go.step (fun _ kt => XS.ldiv X149.here hx rfl (hb hby d17_223) rfl (own_jnz (by omega) (by omega)) kt) ?_
          show gG T149 m 224 #[vR a1, vI (own_lg tx tx.length), vI (own_i (own_bas cl).length), vR b109, vI (own_i uo.length), vI (own_i (iz + 1)), .val (.long (own_j un)), .second, .val (.long (own_j iF)), .second, vI (own_i (own_adapt (iF - ui) (uo.length + 1) true)), .val (.long (own_j ui)), .second, .val (.long (own_j uw)), .second, vI (own_i uk), vI (own_i dx), vI (own_i (own_thr uk ub))] [(.long ((own_j iF) / (own_j (uo.length + 1)))), (.long (own_j un))]
          have q152 : ((own_j iF) / (own_j (uo.length + 1))) = (own_j (iF / (uo.length + 1))) := own_jd (a := iF) (b := (uo.length + 1)) (by omega) (by omega)
          rw [q152]
          refine Go.step (fun _ kt => XS.ladd X149.here hx rfl (hb hby d17_224) rfl kt) ?_
          show gG T149 m 225 #[vR a1, vI (own_lg tx tx.length), vI (own_i (own_bas cl).length), vR b109, vI (own_i uo.length), vI (own_i (iz + 1)), .val (.long (own_j un)), .second, .val (.long (own_j iF)), .second, vI (own_i (own_adapt (iF - ui) (uo.length + 1) true)), .val (.long (own_j ui)), .second, .val (.long (own_j uw)), .second, vI (own_i uk), vI (own_i dx), vI (own_i (own_thr uk ub))] [(.long ((own_j un) + (own_j (iF / (uo.length + 1)))))]
          have q153 : ((own_j un) + (own_j (iF / (uo.length + 1)))) = (own_j (un + (iF / (uo.length + 1)))) := own_ja un (iF / (uo.length + 1))
          rw [q153]
          obtain ⟨nn, e_nn⟩ : ∃ z, z = un + iF / (uo.length + 1) := ⟨_, rfl⟩
          have q154 : (own_j (un + (iF / (uo.length + 1)))) = (own_j nn) := by rw [e_nn]
          rw [q154]
          refine Go.step (fun _ kt => XS.lstore X149.here hx rfl (hb hby d17_225) rfl (l' := #[vR a1, vI (own_lg tx tx.length), vI (own_i (own_bas cl).length), vR b109, vI (own_i uo.length), vI (own_i (iz + 1)), .val (.long (own_j nn)), .second, .val (.long (own_j iF)), .second, vI (own_i (own_adapt (iF - ui) (uo.length + 1) true)), .val (.long (own_j ui)), .second, .val (.long (own_j uw)), .second, vI (own_i uk), vI (own_i dx), vI (own_i (own_thr uk ub))]) rfl (XS.lload X149.here hx rfl (hb hby d17_227) rfl (XS.iload X149.here hx rfl (hb hby d17_229) rfl (XS.iconst X149.here hx rfl (hb hby d17_231) (XS.iadd X149.here hx rfl (hb hby d17_232) rfl kt))))) ?_
          show gG T149 m 233 #[vR a1, vI (own_lg tx tx.length), vI (own_i (own_bas cl).length), vR b109, vI (own_i uo.length), vI (own_i (iz + 1)), .val (.long (own_j nn)), .second, .val (.long (own_j iF)), .second, vI (own_i (own_adapt (iF - ui) (uo.length + 1) true)), .val (.long (own_j ui)), .second, .val (.long (own_j uw)), .second, vI (own_i uk), vI (own_i dx), vI (own_i (own_thr uk ub))] [(.int ((own_i uo.length) + (1 : Int32))), (.long (own_j iF))]
          have q155 : ((own_i uo.length) + (1 : Int32)) = (own_i (uo.length + 1)) := own_ia uo.length 1
          rw [q155]
          refine Go.step (fun _ kt => XS.i2l X149.here hx rfl (hb hby d17_233) rfl kt) ?_
          show gG T149 m 234 #[vR a1, vI (own_lg tx tx.length), vI (own_i (own_bas cl).length), vR b109, vI (own_i uo.length), vI (own_i (iz + 1)), .val (.long (own_j nn)), .second, .val (.long (own_j iF)), .second, vI (own_i (own_adapt (iF - ui) (uo.length + 1) true)), .val (.long (own_j ui)), .second, .val (.long (own_j uw)), .second, vI (own_i uk), vI (own_i dx), vI (own_i (own_thr uk ub))] [(.long ((own_i (uo.length + 1)).toInt64)), (.long (own_j iF))]
          have q156 : ((own_i (uo.length + 1)).toInt64) = (own_j (uo.length + 1)) := own_ij (a := (uo.length + 1)) (by omega)
          rw [q156]
          refine Go.step (fun _ kt => XS.lrem X149.here hx rfl (hb hby d17_234) rfl (own_jnz (by omega) (by omega)) kt) ?_
          show gG T149 m 235 #[vR a1, vI (own_lg tx tx.length), vI (own_i (own_bas cl).length), vR b109, vI (own_i uo.length), vI (own_i (iz + 1)), .val (.long (own_j nn)), .second, .val (.long (own_j iF)), .second, vI (own_i (own_adapt (iF - ui) (uo.length + 1) true)), .val (.long (own_j ui)), .second, .val (.long (own_j uw)), .second, vI (own_i uk), vI (own_i dx), vI (own_i (own_thr uk ub))] [(.long ((own_j iF) - ((own_j iF) / (own_j (uo.length + 1))) * (own_j (uo.length + 1))))]
          have q157 : ((own_j iF) - ((own_j iF) / (own_j (uo.length + 1))) * (own_j (uo.length + 1))) = (own_j (iF % (uo.length + 1))) := own_jr (a := iF) (b := (uo.length + 1)) (by omega) (by omega)
          rw [q157]
          obtain ⟨ii, e_ii⟩ : ∃ z, z = iF % (uo.length + 1) := ⟨_, rfl⟩
          have q158 : (own_j (iF % (uo.length + 1))) = (own_j ii) := by rw [e_ii]
          rw [q158]
          rw [← e_nn] at hnF hD2
          rw [← e_ii] at hD2 hmd
          refine Go.step (fun _ kt => XS.lstore X149.here hx rfl (hb hby d17_235) rfl (l' := #[vR a1, vI (own_lg tx tx.length), vI (own_i (own_bas cl).length), vR b109, vI (own_i uo.length), vI (own_i (iz + 1)), .val (.long (own_j nn)), .second, .val (.long (own_j ii)), .second, vI (own_i (own_adapt (iF - ui) (uo.length + 1) true)), .val (.long (own_j ui)), .second, .val (.long (own_j uw)), .second, vI (own_i uk), vI (own_i dx), vI (own_i (own_thr uk ub))]) rfl (XS.lload X149.here hx rfl (hb hby d17_237) rfl kt)) ?_
          show gG T149 m 239 #[vR a1, vI (own_lg tx tx.length), vI (own_i (own_bas cl).length), vR b109, vI (own_i uo.length), vI (own_i (iz + 1)), .val (.long (own_j nn)), .second, .val (.long (own_j ii)), .second, vI (own_i (own_adapt (iF - ui) (uo.length + 1) true)), .val (.long (own_j ui)), .second, .val (.long (own_j uw)), .second, vI (own_i uk), vI (own_i dx), vI (own_i (own_thr uk ub))] [(.long (own_j nn))]
          refine Go.step (X149.ldc2Long hx hown (mvT hZ (w206 hw)) (g := (mkF m 239 #[vR a1, vI (own_lg tx tx.length), vI (own_i (own_bas cl).length), vR b109, vI (own_i uo.length), vI (own_i (iz + 1)), .val (.long (own_j nn)), .second, .val (.long (own_j ii)), .second, vI (own_i (own_adapt (iF - ui) (uo.length + 1) true)), .val (.long (own_j ui)), .second, .val (.long (own_j uw)), .second, vI (own_i uk), vI (own_i dx), vI (own_i (own_thr uk ub))] [(.long (own_j nn))])) rfl (hb hby d17_239)) ?_
          show gG T149 m 242 #[vR a1, vI (own_lg tx tx.length), vI (own_i (own_bas cl).length), vR b109, vI (own_i uo.length), vI (own_i (iz + 1)), .val (.long (own_j nn)), .second, .val (.long (own_j ii)), .second, vI (own_i (own_adapt (iF - ui) (uo.length + 1) true)), .val (.long (own_j ui)), .second, .val (.long (own_j uw)), .second, vI (own_i uk), vI (own_i dx), vI (own_i (own_thr uk ub))] [(.long (1114111 : Int64)), (.long (own_j nn))]
          refine Go.step (fun _ kt => XS.lcmp X149.here hx rfl (hb hby d17_242) rfl (XS.ifYes X149.here hx rfl (pc0 := 243) (pc' := 248) rfl (hb hby d17_243) rfl ((if0 _ _).trans (flt (own_lgF (a := 1114111) (b := nn) (by omega) (by omega) (by omega))).2.2.2) (by decide) (by decide) (XS.aloadN X149.here hx rfl (hb hby d17_248) rfl rfl (XS.lload X149.here hx rfl (hb hby d17_249) rfl (XS.l2i X149.here hx rfl (hb hby d17_251) rfl kt))))) ?_
          show gG T149 m 252 #[vR a1, vI (own_lg tx tx.length), vI (own_i (own_bas cl).length), vR b109, vI (own_i uo.length), vI (own_i (iz + 1)), .val (.long (own_j nn)), .second, .val (.long (own_j ii)), .second, vI (own_i (own_adapt (iF - ui) (uo.length + 1) true)), .val (.long (own_j ui)), .second, .val (.long (own_j uw)), .second, vI (own_i uk), vI (own_i dx), vI (own_i (own_thr uk ub))] [(.int ((own_j ii).toInt32)), (.ref b109)]
          have q159 : ((own_j ii).toInt32) = (own_i ii) := own_ji (a := ii) (by omega)
          rw [q159]
          refine Go.step (fun _ kt => XS.aloadN X149.here hx rfl (hb hby d17_252) rfl rfl (XS.lload X149.here hx rfl (hb hby d17_253) rfl (XS.l2i X149.here hx rfl (hb hby d17_255) rfl kt))) ?_
          show gG T149 m 256 #[vR a1, vI (own_lg tx tx.length), vI (own_i (own_bas cl).length), vR b109, vI (own_i uo.length), vI (own_i (iz + 1)), .val (.long (own_j nn)), .second, .val (.long (own_j ii)), .second, vI (own_i (own_adapt (iF - ui) (uo.length + 1) true)), .val (.long (own_j ui)), .second, .val (.long (own_j uw)), .second, vI (own_i uk), vI (own_i dx), vI (own_i (own_thr uk ub))] [(.int ((own_j ii).toInt32)), (.ref b109), (.int (own_i ii)), (.ref b109)]
          have q160 : ((own_j ii).toInt32) = (own_i ii) := own_ji (a := ii) (by omega)
          rw [q160]
          refine Go.step (fun _ kt => XS.iconst X149.here hx rfl (hb hby d17_256) (XS.iadd X149.here hx rfl (hb hby d17_257) rfl kt)) ?_
          show gG T149 m 258 #[vR a1, vI (own_lg tx tx.length), vI (own_i (own_bas cl).length), vR b109, vI (own_i uo.length), vI (own_i (iz + 1)), .val (.long (own_j nn)), .second, .val (.long (own_j ii)), .second, vI (own_i (own_adapt (iF - ui) (uo.length + 1) true)), .val (.long (own_j ui)), .second, .val (.long (own_j uw)), .second, vI (own_i uk), vI (own_i dx), vI (own_i (own_thr uk ub))] [(.int ((own_i ii) + (1 : Int32))), (.ref b109), (.int (own_i ii)), (.ref b109)]
          have q161 : ((own_i ii) + (1 : Int32)) = (own_i (ii + 1)) := own_ia ii 1
          rw [q161]
          refine Go.step (fun _ kt => XS.iload X149.here hx rfl (hb hby d17_258) rfl (XS.lload X149.here hx rfl (hb hby d17_260) rfl (XS.l2i X149.here hx rfl (hb hby d17_262) rfl kt))) ?_
          show gG T149 m 263 #[vR a1, vI (own_lg tx tx.length), vI (own_i (own_bas cl).length), vR b109, vI (own_i uo.length), vI (own_i (iz + 1)), .val (.long (own_j nn)), .second, .val (.long (own_j ii)), .second, vI (own_i (own_adapt (iF - ui) (uo.length + 1) true)), .val (.long (own_j ui)), .second, .val (.long (own_j uw)), .second, vI (own_i uk), vI (own_i dx), vI (own_i (own_thr uk ub))] [(.int ((own_j ii).toInt32)), (.int (own_i uo.length)), (.int (own_i (ii + 1))), (.ref b109), (.int (own_i ii)), (.ref b109)]
          have q162 : ((own_j ii).toInt32) = (own_i ii) := own_ji (a := ii) (by omega)
          rw [q162]
          refine Go.step (fun _ kt => XS.isub X149.here hx rfl (hb hby d17_263) rfl kt) ?_
          show gG T149 m 264 #[vR a1, vI (own_lg tx tx.length), vI (own_i (own_bas cl).length), vR b109, vI (own_i uo.length), vI (own_i (iz + 1)), .val (.long (own_j nn)), .second, .val (.long (own_j ii)), .second, vI (own_i (own_adapt (iF - ui) (uo.length + 1) true)), .val (.long (own_j ui)), .second, .val (.long (own_j uw)), .second, vI (own_i uk), vI (own_i dx), vI (own_i (own_thr uk ub))] [(.int ((own_i uo.length) - (own_i ii))), (.int (own_i (ii + 1))), (.ref b109), (.int (own_i ii)), (.ref b109)]
          have q163 : ((own_i uo.length) - (own_i ii)) = (own_i (uo.length - ii)) := own_is (a := uo.length) (b := ii) (by omega)
          rw [q163]
          obtain ⟨T164, h164, L164, X164, e164, N164, Kq164, V164, st164⟩ := cpA X149 hx hZ hown (w207 hw) (w91 hw) (w89 hw) (w90 hw) eh149 (own_more Fg130_7) (own_more Fg130_7) (Or.inl ⟨rfl, rfl⟩) (own_nneg (by omega)) (own_nneg (by omega)) (own_nneg (by omega)) (by rw [own_iN (by omega), own_iN (by omega), own_iN (by omega)]; omega) (by rw [own_iN (by omega), own_iN (by omega), own_iN (by omega)]; omega) rfl (by rw [own_iN (by omega), own_iN (by omega), List.length_map, List.length_map, List.length_append, List.length_singleton]; omega) N149 g_b109 (g := (mkF m 264 #[vR a1, vI (own_lg tx tx.length), vI (own_i (own_bas cl).length), vR b109, vI (own_i uo.length), vI (own_i (iz + 1)), .val (.long (own_j nn)), .second, .val (.long (own_j ii)), .second, vI (own_i (own_adapt (iF - ui) (uo.length + 1) true)), .val (.long (own_j ui)), .second, .val (.long (own_j uw)), .second, vI (own_i uk), vI (own_i dx), vI (own_i (own_thr uk ub))] [(.int (own_i (uo.length - ii))), (.int (own_i (ii + 1))), (.ref b109), (.int (own_i ii)), (.ref b109)])) rfl hml.symm rfl (hb hby d17_264) (by decide) (W := 0) (Nat.le_of_eq rfl) (by decide)
          refine Go.step st164 ?_
          have F165 := (Fg130_0.keep Kq164)
          have F166 := (Fg130_1.keep Kq164 (fun q => ne_a1_b109 (List.mem_singleton.mp q)))
          have F167 := (Fg130_2.keep Kq164 (fun q => ne_a1_b109 (List.mem_singleton.mp q)))
          have F168 := (Fg130_3.keep Kq164 (fun q => ne_b1_b109 (List.mem_singleton.mp q)))
          have F169 := (own_sta_keep Fg130_4 Kq164 (by intro x hx; cases List.mem_singleton.mp hx; exact ⟨_, Fg130_6⟩))
          have F170 := (own_sta_keep Fg130_5 Kq164 (by intro x hx; cases List.mem_singleton.mp hx; exact ⟨_, Fg130_6⟩))
          have F171 := (Fg130_6.keep Kq164)
          have Z172 : n0 ≤ h164.size := (Nat.le_trans Zg130 Kq164.1)
          have K173 : Keep h0 h164 [] := (Kg130.trans Kq164 (by intro x hx; cases List.mem_singleton.mp hx; exact (Or.inr sz_b109)))
          obtain ⟨us2, hus2, Vm2⟩ := own_mvu (O := uo) (ii := ii) (by omega) (by omega) rfl V164
          show gG T164 m 267 #[vR a1, vI (own_lg tx tx.length), vI (own_i (own_bas cl).length), vR b109, vI (own_i uo.length), vI (own_i (iz + 1)), .val (.long (own_j nn)), .second, .val (.long (own_j ii)), .second, vI (own_i (own_adapt (iF - ui) (uo.length + 1) true)), .val (.long (own_j ui)), .second, .val (.long (own_j uw)), .second, vI (own_i uk), vI (own_i dx), vI (own_i (own_thr uk ub))] []
          refine Go.step (fun _ kt => XS.aloadN X164.here hx rfl (hb hby d17_267) rfl rfl (XS.lload X164.here hx rfl (hb hby d17_268) rfl (XS.l2i X164.here hx rfl (hb hby d17_270) rfl kt))) ?_
          show gG T164 m 271 #[vR a1, vI (own_lg tx tx.length), vI (own_i (own_bas cl).length), vR b109, vI (own_i uo.length), vI (own_i (iz + 1)), .val (.long (own_j nn)), .second, .val (.long (own_j ii)), .second, vI (own_i (own_adapt (iF - ui) (uo.length + 1) true)), .val (.long (own_j ui)), .second, .val (.long (own_j uw)), .second, vI (own_i uk), vI (own_i dx), vI (own_i (own_thr uk ub))] [(.int ((own_j ii).toInt32)), (.ref b109)]
          have q174 : ((own_j ii).toInt32) = (own_i ii) := own_ji (a := ii) (by omega)
          rw [q174]
          refine Go.step (fun _ kt => XS.lload X164.here hx rfl (hb hby d17_271) rfl (XS.l2i X164.here hx rfl (hb hby d17_273) rfl kt)) ?_
          show gG T164 m 274 #[vR a1, vI (own_lg tx tx.length), vI (own_i (own_bas cl).length), vR b109, vI (own_i uo.length), vI (own_i (iz + 1)), .val (.long (own_j nn)), .second, .val (.long (own_j ii)), .second, vI (own_i (own_adapt (iF - ui) (uo.length + 1) true)), .val (.long (own_j ui)), .second, .val (.long (own_j uw)), .second, vI (own_i uk), vI (own_i dx), vI (own_i (own_thr uk ub))] [(.int ((own_j nn).toInt32)), (.int (own_i ii)), (.ref b109)]
          have q175 : ((own_j nn).toInt32) = (own_i nn) := own_ji (a := nn) (by omega)
          rw [q175]
          obtain ⟨cl176, Ar176, qa176, Sa176, Na176, Ha176, Ga176⟩ := (id Vm2)
          obtain ⟨T176, h176, X176, e176, W176, st176⟩ := stI X164 hx hZ e164 Ar176 (j := (own_i ii)) (own_inN Sa176 (own_ltN (by omega) (by omega)) (by omega)) (g := (mkF m 274 #[vR a1, vI (own_lg tx tx.length), vI (own_i (own_bas cl).length), vR b109, vI (own_i uo.length), vI (own_i (iz + 1)), .val (.long (own_j nn)), .second, .val (.long (own_j ii)), .second, vI (own_i (own_adapt (iF - ui) (uo.length + 1) true)), .val (.long (own_j ui)), .second, .val (.long (own_j uw)), .second, vI (own_i uk), vI (own_i dx), vI (own_i (own_thr uk ub))] [(.int (own_i nn)), (.int (own_i ii)), (.ref b109)])) rfl rfl (hb hby d17_274)
          refine Go.step st176 ?_
          have V177 := own_set (v := nn) (by omega) (by omega) hus2 Vm2 W176
          have N176 := Fr.snoc X176 N164 g_b109
          have F178 := (F165.wr W176)
          have F179 := (F166.other W176 (Or.inl ne_a1_b109))
          have F180 := (F167.other W176 (Or.inl ne_a1_b109))
          have F181 := (F168.other W176 ne_b1_b109)
          have F182 := (F169.wr W176)
          have F183 := (F170.wr W176)
          have F184 := (F171.wr W176)
          have Z185 : n0 ≤ h176.size := (Nat.le_trans Z172 (Nat.le_of_eq W176.size.symm))
          have K186 : Keep h0 h176 [] := (K173.wr W176 (Or.inr sz_b109))
          show gG T176 m 275 #[vR a1, vI (own_lg tx tx.length), vI (own_i (own_bas cl).length), vR b109, vI (own_i uo.length), vI (own_i (iz + 1)), .val (.long (own_j nn)), .second, .val (.long (own_j ii)), .second, vI (own_i (own_adapt (iF - ui) (uo.length + 1) true)), .val (.long (own_j ui)), .second, .val (.long (own_j uw)), .second, vI (own_i uk), vI (own_i dx), vI (own_i (own_thr uk ub))] []
          refine Go.step (fun _ kt => XS.iinc X176.here hx rfl (hb hby d17_275) rfl (l' := #[vR a1, vI (own_lg tx tx.length), vI (own_i (own_bas cl).length), vR b109, vI ((own_i uo.length) + (1 : Int32)), vI (own_i (iz + 1)), .val (.long (own_j nn)), .second, .val (.long (own_j ii)), .second, vI (own_i (own_adapt (iF - ui) (uo.length + 1) true)), .val (.long (own_j ui)), .second, .val (.long (own_j uw)), .second, vI (own_i uk), vI (own_i dx), vI (own_i (own_thr uk ub))]) rfl kt) ?_
          show gG T176 m 278 #[vR a1, vI (own_lg tx tx.length), vI (own_i (own_bas cl).length), vR b109, vI ((own_i uo.length) + (1 : Int32)), vI (own_i (iz + 1)), .val (.long (own_j nn)), .second, .val (.long (own_j ii)), .second, vI (own_i (own_adapt (iF - ui) (uo.length + 1) true)), .val (.long (own_j ui)), .second, .val (.long (own_j uw)), .second, vI (own_i uk), vI (own_i dx), vI (own_i (own_thr uk ub))] []
          have q187 : ((own_i uo.length) + (1 : Int32)) = (own_i (uo.length + 1)) := own_ia uo.length 1
          rw [q187]
          refine Go.step (fun _ kt => XS.lload X176.here hx rfl (hb hby d17_278) rfl (XS.lconst X176.here hx rfl (hb hby d17_280) (XS.ladd X176.here hx rfl (hb hby d17_281) rfl kt))) ?_
          show gG T176 m 282 #[vR a1, vI (own_lg tx tx.length), vI (own_i (own_bas cl).length), vR b109, vI (own_i (uo.length + 1)), vI (own_i (iz + 1)), .val (.long (own_j nn)), .second, .val (.long (own_j ii)), .second, vI (own_i (own_adapt (iF - ui) (uo.length + 1) true)), .val (.long (own_j ui)), .second, .val (.long (own_j uw)), .second, vI (own_i uk), vI (own_i dx), vI (own_i (own_thr uk ub))] [(.long ((own_j ii) + (1 : Int64)))]
          have q188 : ((own_j ii) + (1 : Int64)) = (own_j (ii + 1)) := own_ja ii 1
          rw [q188]
          refine Go.step (fun _ kt => XS.lstore X176.here hx rfl (hb hby d17_282) rfl (l' := #[vR a1, vI (own_lg tx tx.length), vI (own_i (own_bas cl).length), vR b109, vI (own_i (uo.length + 1)), vI (own_i (iz + 1)), .val (.long (own_j nn)), .second, .val (.long (own_j (ii + 1))), .second, vI (own_i (own_adapt (iF - ui) (uo.length + 1) true)), .val (.long (own_j ui)), .second, .val (.long (own_j uw)), .second, vI (own_i uk), vI (own_i dx), vI (own_i (own_thr uk ub))]) rfl kt) ?_
          show gG T176 m 284 #[vR a1, vI (own_lg tx tx.length), vI (own_i (own_bas cl).length), vR b109, vI (own_i (uo.length + 1)), vI (own_i (iz + 1)), .val (.long (own_j nn)), .second, .val (.long (own_j (ii + 1))), .second, vI (own_i (own_adapt (iF - ui) (uo.length + 1) true)), .val (.long (own_j ui)), .second, .val (.long (own_j uw)), .second, vI (own_i uk), vI (own_i dx), vI (own_i (own_thr uk ub))] []
          have q189 : (own_i (uo.length + 1)) = (own_i (uo.take ii ++ nn :: uo.drop ii).length) := by rw [own_inslen (by omega)]
          rw [q189]
          refine Go.step (fun _ kt => XS.goto X176.here hx rfl (pc0 := 284) (pc' := 76) rfl (hb hby d17_284) (by decide) (by decide) kt) ?_
          show gG T176 m 76 #[vR a1, vI (own_lg tx tx.length), vI (own_i (own_bas cl).length), vR b109, vI (own_i (uo.take ii ++ nn :: uo.drop ii).length), vI (own_i (iz + 1)), .val (.long (own_j nn)), .second, .val (.long (own_j (ii + 1))), .second, vI (own_i (own_adapt (iF - ui) (uo.length + 1) true)), .val (.long (own_j ui)), .second, .val (.long (own_j uw)), .second, vI (own_i uk), vI (own_i dx), vI (own_i (own_thr uk ub))] []
          exact ih76 nn (ii + 1) (own_adapt (iF - ui) (uo.length + 1) true) (uo.take ii ++ nn :: uo.drop ii) (dm ++ [dx]) tF (iz + 1) _ _ _ _ _ _ _ (by rw [hbq] at hD2; exact hD2) (by rw [hdm, hF2]; simp) (by rw [hiz, List.length_append]; rfl) (by rw [own_inslen (by omega), hF2]; omega) hnF (by omega) (own_adapt_le true (by omega) (by omega)) (Or.inr ⟨_, rfl, rfl⟩) (Or.inr ⟨_, rfl, rfl⟩) (Or.inr ⟨_, rfl⟩) (Or.inr ⟨_, rfl⟩) (Or.inr ⟨_, rfl⟩) _ _ _ (X176.more (by decide) (by decide)) e176 N176 Z185 K186 F178 F179 F180 F181 F182 F183 F184 V177
         ·have hN201 : ¬ (ui = 0) := own_lqf (a := ui) (b := 0) (by omega) (by omega) hc201_147
          refine Go.step (fun _ kt => XS.ifYes X142.here hx rfl (pc0 := 201) (pc' := 208) rfl (hb hby d17_201) rfl ((if0 _ _).trans (feq hc201_147).2) (by decide) (by decide) (XS.iconst X142.here hx rfl (hb hby d17_208) kt)) ?_
          show gG T142 m 209 #[vR a1, vI (own_lg tx tx.length), vI (own_i (own_bas cl).length), vR b109, vI (own_i uo.length), vI (own_i (iz + 1)), .val (.long (own_j un)), .second, .val (.long (own_j iF)), .second, vI (own_i ub), .val (.long (own_j ui)), .second, .val (.long (own_j uw)), .second, vI (own_i uk), vI (own_i dx), vI (own_i (own_thr uk ub))] [(.int 0), (.int (own_i (uo.length + 1))), (.long (own_j (iF - ui)))]
          have hbq : (ui == 0) = false := by simp [hN201]
          obtain ⟨_, _, ⟨T191, L191, k191, n191⟩, -, X191, ⟨Lc191, hQ191, l191, y191, z191⟩, st191⟩ := Jvm.LawKit.callS X142 hx (y := Y4) hown (mvT hZ (w179 hw)) (mvT hZ (w180 hw)) (mvT hZ (w9 hw)) (mvT hZ (w181 hw)) (by decide) (backOf (W := 0) (rmad l Z a0 hw [] (0 : Int32) (iF - ui) (uo.length + 1) false Hg130 n0 Zg130  (by omega) (by omega) rfl) hZ (w181 hw) (w9 hw) (by decide) (by decide)) (g := (mkF m 209 #[vR a1, vI (own_lg tx tx.length), vI (own_i (own_bas cl).length), vR b109, vI (own_i uo.length), vI (own_i (iz + 1)), .val (.long (own_j un)), .second, .val (.long (own_j iF)), .second, vI (own_i ub), .val (.long (own_j ui)), .second, .val (.long (own_j uw)), .second, vI (own_i uk), vI (own_i dx), vI (own_i (own_thr uk ub))] [(.int 0), (.int (own_i (uo.length + 1))), (.long (own_j (iF - ui)))])) rfl hml.symm (argsL := [(.long (own_j (iF - ui))), (.int (own_i (uo.length + 1))), (.int 0)]) (rest := []) (lenOf pd_22 rfl) rfl (Nat.le_of_eq rfl) (hb hby d17_209) (fun _ _ => ⟨rfl, eh142, (by decide : 1 + 0 ≤ _), (by decide : 34 + 0 ≤ _)⟩)
          dsimp only [Pt.U, Pt.locs, Pt.cells, Pt.slots] at X191 l191 y191 z191 st191 hQ191
          subst l191 y191 z191
          obtain ⟨rfl, N191q, eh191⟩ := hQ191
          have N191 := Fr.app N142 N191q
          refine Go.step st191 ?_
          show gG T191 m 212 #[vR a1, vI (own_lg tx tx.length), vI (own_i (own_bas cl).length), vR b109, vI (own_i uo.length), vI (own_i (iz + 1)), .val (.long (own_j un)), .second, .val (.long (own_j iF)), .second, vI (own_i ub), .val (.long (own_j ui)), .second, .val (.long (own_j uw)), .second, vI (own_i uk), vI (own_i dx), vI (own_i (own_thr uk ub))] [(.int (own_i (own_adapt (iF - ui) (uo.length + 1) false)))]
          refine Go.step (fun _ kt => XS.istore X191.here hx rfl (hb hby d17_212) rfl (l' := #[vR a1, vI (own_lg tx tx.length), vI (own_i (own_bas cl).length), vR b109, vI (own_i uo.length), vI (own_i (iz + 1)), .val (.long (own_j un)), .second, .val (.long (own_j iF)), .second, vI (own_i (own_adapt (iF - ui) (uo.length + 1) false)), .val (.long (own_j ui)), .second, .val (.long (own_j uw)), .second, vI (own_i uk), vI (own_i dx), vI (own_i (own_thr uk ub))]) rfl (XS.lload X191.here hx rfl (hb hby d17_214) rfl (XS.lload X191.here hx rfl (hb hby d17_216) rfl (XS.iload X191.here hx rfl (hb hby d17_218) rfl (XS.iconst X191.here hx rfl (hb hby d17_220) (XS.iadd X191.here hx rfl (hb hby d17_221) rfl kt)))))) ?_
          show gG T191 m 222 #[vR a1, vI (own_lg tx tx.length), vI (own_i (own_bas cl).length), vR b109, vI (own_i uo.length), vI (own_i (iz + 1)), .val (.long (own_j un)), .second, .val (.long (own_j iF)), .second, vI (own_i (own_adapt (iF - ui) (uo.length + 1) false)), .val (.long (own_j ui)), .second, .val (.long (own_j uw)), .second, vI (own_i uk), vI (own_i dx), vI (own_i (own_thr uk ub))] [(.int ((own_i uo.length) + (1 : Int32))), (.long (own_j iF)), (.long (own_j un))]
          have q192 : ((own_i uo.length) + (1 : Int32)) = (own_i (uo.length + 1)) := own_ia uo.length 1
          rw [q192]
          refine Go.step (fun _ kt => XS.i2l X191.here hx rfl (hb hby d17_222) rfl kt) ?_
          show gG T191 m 223 #[vR a1, vI (own_lg tx tx.length), vI (own_i (own_bas cl).length), vR b109, vI (own_i uo.length), vI (own_i (iz + 1)), .val (.long (own_j un)), .second, .val (.long (own_j iF)), .second, vI (own_i (own_adapt (iF - ui) (uo.length + 1) false)), .val (.long (own_j ui)), .second, .val (.long (own_j uw)), .second, vI (own_i uk), vI (own_i dx), vI (own_i (own_thr uk ub))] [(.long ((own_i (uo.length + 1)).toInt64)), (.long (own_j iF)), (.long (own_j un))]
          have q193 : ((own_i (uo.length + 1)).toInt64) = (own_j (uo.length + 1)) := own_ij (a := (uo.length + 1)) (by omega)
          rw [q193]
          refine Go.step (fun _ kt => XS.ldiv X191.here hx rfl (hb hby d17_223) rfl (own_jnz (by omega) (by omega)) kt) ?_
          show gG T191 m 224 #[vR a1, vI (own_lg tx tx.length), vI (own_i (own_bas cl).length), vR b109, vI (own_i uo.length), vI (own_i (iz + 1)), .val (.long (own_j un)), .second, .val (.long (own_j iF)), .second, vI (own_i (own_adapt (iF - ui) (uo.length + 1) false)), .val (.long (own_j ui)), .second, .val (.long (own_j uw)), .second, vI (own_i uk), vI (own_i dx), vI (own_i (own_thr uk ub))] [(.long ((own_j iF) / (own_j (uo.length + 1)))), (.long (own_j un))]
          have q194 : ((own_j iF) / (own_j (uo.length + 1))) = (own_j (iF / (uo.length + 1))) := own_jd (a := iF) (b := (uo.length + 1)) (by omega) (by omega)
          rw [q194]
          refine Go.step (fun _ kt => XS.ladd X191.here hx rfl (hb hby d17_224) rfl kt) ?_
          show gG T191 m 225 #[vR a1, vI (own_lg tx tx.length), vI (own_i (own_bas cl).length), vR b109, vI (own_i uo.length), vI (own_i (iz + 1)), .val (.long (own_j un)), .second, .val (.long (own_j iF)), .second, vI (own_i (own_adapt (iF - ui) (uo.length + 1) false)), .val (.long (own_j ui)), .second, .val (.long (own_j uw)), .second, vI (own_i uk), vI (own_i dx), vI (own_i (own_thr uk ub))] [(.long ((own_j un) + (own_j (iF / (uo.length + 1)))))]
          have q195 : ((own_j un) + (own_j (iF / (uo.length + 1)))) = (own_j (un + (iF / (uo.length + 1)))) := own_ja un (iF / (uo.length + 1))
          rw [q195]
          obtain ⟨nn, e_nn⟩ : ∃ z, z = un + iF / (uo.length + 1) := ⟨_, rfl⟩
          have q196 : (own_j (un + (iF / (uo.length + 1)))) = (own_j nn) := by rw [e_nn]
          rw [q196]
          refine Go.step (fun _ kt => XS.lstore X191.here hx rfl (hb hby d17_225) rfl (l' := #[vR a1, vI (own_lg tx tx.length), vI (own_i (own_bas cl).length), vR b109, vI (own_i uo.length), vI (own_i (iz + 1)), .val (.long (own_j nn)), .second, .val (.long (own_j iF)), .second, vI (own_i (own_adapt (iF - ui) (uo.length + 1) false)), .val (.long (own_j ui)), .second, .val (.long (own_j uw)), .second, vI (own_i uk), vI (own_i dx), vI (own_i (own_thr uk ub))]) rfl (XS.lload X191.here hx rfl (hb hby d17_227) rfl (XS.iload X191.here hx rfl (hb hby d17_229) rfl (XS.iconst X191.here hx rfl (hb hby d17_231) (XS.iadd X191.here hx rfl (hb hby d17_232) rfl kt))))) ?_
          show gG T191 m 233 #[vR a1, vI (own_lg tx tx.length), vI (own_i (own_bas cl).length), vR b109, vI (own_i uo.length), vI (own_i (iz + 1)), .val (.long (own_j nn)), .second, .val (.long (own_j iF)), .second, vI (own_i (own_adapt (iF - ui) (uo.length + 1) false)), .val (.long (own_j ui)), .second, .val (.long (own_j uw)), .second, vI (own_i uk), vI (own_i dx), vI (own_i (own_thr uk ub))] [(.int ((own_i uo.length) + (1 : Int32))), (.long (own_j iF))]
          have q197 : ((own_i uo.length) + (1 : Int32)) = (own_i (uo.length + 1)) := own_ia uo.length 1
          rw [q197]
          refine Go.step (fun _ kt => XS.i2l X191.here hx rfl (hb hby d17_233) rfl kt) ?_
          show gG T191 m 234 #[vR a1, vI (own_lg tx tx.length), vI (own_i (own_bas cl).length), vR b109, vI (own_i uo.length), vI (own_i (iz + 1)), .val (.long (own_j nn)), .second, .val (.long (own_j iF)), .second, vI (own_i (own_adapt (iF - ui) (uo.length + 1) false)), .val (.long (own_j ui)), .second, .val (.long (own_j uw)), .second, vI (own_i uk), vI (own_i dx), vI (own_i (own_thr uk ub))] [(.long ((own_i (uo.length + 1)).toInt64)), (.long (own_j iF))]
          have q198 : ((own_i (uo.length + 1)).toInt64) = (own_j (uo.length + 1)) := own_ij (a := (uo.length + 1)) (by omega)
          rw [q198]
          refine Go.step (fun _ kt => XS.lrem X191.here hx rfl (hb hby d17_234) rfl (own_jnz (by omega) (by omega)) kt) ?_
          show gG T191 m 235 #[vR a1, vI (own_lg tx tx.length), vI (own_i (own_bas cl).length), vR b109, vI (own_i uo.length), vI (own_i (iz + 1)), .val (.long (own_j nn)), .second, .val (.long (own_j iF)), .second, vI (own_i (own_adapt (iF - ui) (uo.length + 1) false)), .val (.long (own_j ui)), .second, .val (.long (own_j uw)), .second, vI (own_i uk), vI (own_i dx), vI (own_i (own_thr uk ub))] [(.long ((own_j iF) - ((own_j iF) / (own_j (uo.length + 1))) * (own_j (uo.length + 1))))]
          have q199 : ((own_j iF) - ((own_j iF) / (own_j (uo.length + 1))) * (own_j (uo.length + 1))) = (own_j (iF % (uo.length + 1))) := own_jr (a := iF) (b := (uo.length + 1)) (by omega) (by omega)
          rw [q199]
          obtain ⟨ii, e_ii⟩ : ∃ z, z = iF % (uo.length + 1) := ⟨_, rfl⟩
          have q200 : (own_j (iF % (uo.length + 1))) = (own_j ii) := by rw [e_ii]
          rw [q200]
          rw [← e_nn] at hnF hD2
          rw [← e_ii] at hD2 hmd
          refine Go.step (fun _ kt => XS.lstore X191.here hx rfl (hb hby d17_235) rfl (l' := #[vR a1, vI (own_lg tx tx.length), vI (own_i (own_bas cl).length), vR b109, vI (own_i uo.length), vI (own_i (iz + 1)), .val (.long (own_j nn)), .second, .val (.long (own_j ii)), .second, vI (own_i (own_adapt (iF - ui) (uo.length + 1) false)), .val (.long (own_j ui)), .second, .val (.long (own_j uw)), .second, vI (own_i uk), vI (own_i dx), vI (own_i (own_thr uk ub))]) rfl (XS.lload X191.here hx rfl (hb hby d17_237) rfl kt)) ?_
          show gG T191 m 239 #[vR a1, vI (own_lg tx tx.length), vI (own_i (own_bas cl).length), vR b109, vI (own_i uo.length), vI (own_i (iz + 1)), .val (.long (own_j nn)), .second, .val (.long (own_j ii)), .second, vI (own_i (own_adapt (iF - ui) (uo.length + 1) false)), .val (.long (own_j ui)), .second, .val (.long (own_j uw)), .second, vI (own_i uk), vI (own_i dx), vI (own_i (own_thr uk ub))] [(.long (own_j nn))]
          refine Go.step (X191.ldc2Long hx hown (mvT hZ (w206 hw)) (g := (mkF m 239 #[vR a1, vI (own_lg tx tx.length), vI (own_i (own_bas cl).length), vR b109, vI (own_i uo.length), vI (own_i (iz + 1)), .val (.long (own_j nn)), .second, .val (.long (own_j ii)), .second, vI (own_i (own_adapt (iF - ui) (uo.length + 1) false)), .val (.long (own_j ui)), .second, .val (.long (own_j uw)), .second, vI (own_i uk), vI (own_i dx), vI (own_i (own_thr uk ub))] [(.long (own_j nn))])) rfl (hb hby d17_239)) ?_
          show gG T191 m 242 #[vR a1, vI (own_lg tx tx.length), vI (own_i (own_bas cl).length), vR b109, vI (own_i uo.length), vI (own_i (iz + 1)), .val (.long (own_j nn)), .second, .val (.long (own_j ii)), .second, vI (own_i (own_adapt (iF - ui) (uo.length + 1) false)), .val (.long (own_j ui)), .second, .val (.long (own_j uw)), .second, vI (own_i uk), vI (own_i dx), vI (own_i (own_thr uk ub))] [(.long (1114111 : Int64)), (.long (own_j nn))]
          refine Go.step (fun _ kt => XS.lcmp X191.here hx rfl (hb hby d17_242) rfl (XS.ifYes X191.here hx rfl (pc0 := 243) (pc' := 248) rfl (hb hby d17_243) rfl ((if0 _ _).trans (flt (own_lgF (a := 1114111) (b := nn) (by omega) (by omega) (by omega))).2.2.2) (by decide) (by decide) (XS.aloadN X191.here hx rfl (hb hby d17_248) rfl rfl (XS.lload X191.here hx rfl (hb hby d17_249) rfl (XS.l2i X191.here hx rfl (hb hby d17_251) rfl kt))))) ?_
          show gG T191 m 252 #[vR a1, vI (own_lg tx tx.length), vI (own_i (own_bas cl).length), vR b109, vI (own_i uo.length), vI (own_i (iz + 1)), .val (.long (own_j nn)), .second, .val (.long (own_j ii)), .second, vI (own_i (own_adapt (iF - ui) (uo.length + 1) false)), .val (.long (own_j ui)), .second, .val (.long (own_j uw)), .second, vI (own_i uk), vI (own_i dx), vI (own_i (own_thr uk ub))] [(.int ((own_j ii).toInt32)), (.ref b109)]
          have q201 : ((own_j ii).toInt32) = (own_i ii) := own_ji (a := ii) (by omega)
          rw [q201]
          refine Go.step (fun _ kt => XS.aloadN X191.here hx rfl (hb hby d17_252) rfl rfl (XS.lload X191.here hx rfl (hb hby d17_253) rfl (XS.l2i X191.here hx rfl (hb hby d17_255) rfl kt))) ?_
          show gG T191 m 256 #[vR a1, vI (own_lg tx tx.length), vI (own_i (own_bas cl).length), vR b109, vI (own_i uo.length), vI (own_i (iz + 1)), .val (.long (own_j nn)), .second, .val (.long (own_j ii)), .second, vI (own_i (own_adapt (iF - ui) (uo.length + 1) false)), .val (.long (own_j ui)), .second, .val (.long (own_j uw)), .second, vI (own_i uk), vI (own_i dx), vI (own_i (own_thr uk ub))] [(.int ((own_j ii).toInt32)), (.ref b109), (.int (own_i ii)), (.ref b109)]
          have q202 : ((own_j ii).toInt32) = (own_i ii) := own_ji (a := ii) (by omega)
          rw [q202]
          refine Go.step (fun _ kt => XS.iconst X191.here hx rfl (hb hby d17_256) (XS.iadd X191.here hx rfl (hb hby d17_257) rfl kt)) ?_
          show gG T191 m 258 #[vR a1, vI (own_lg tx tx.length), vI (own_i (own_bas cl).length), vR b109, vI (own_i uo.length), vI (own_i (iz + 1)), .val (.long (own_j nn)), .second, .val (.long (own_j ii)), .second, vI (own_i (own_adapt (iF - ui) (uo.length + 1) false)), .val (.long (own_j ui)), .second, .val (.long (own_j uw)), .second, vI (own_i uk), vI (own_i dx), vI (own_i (own_thr uk ub))] [(.int ((own_i ii) + (1 : Int32))), (.ref b109), (.int (own_i ii)), (.ref b109)]
          have q203 : ((own_i ii) + (1 : Int32)) = (own_i (ii + 1)) := own_ia ii 1
          rw [q203]
          refine Go.step (fun _ kt => XS.iload X191.here hx rfl (hb hby d17_258) rfl (XS.lload X191.here hx rfl (hb hby d17_260) rfl (XS.l2i X191.here hx rfl (hb hby d17_262) rfl kt))) ?_
          show gG T191 m 263 #[vR a1, vI (own_lg tx tx.length), vI (own_i (own_bas cl).length), vR b109, vI (own_i uo.length), vI (own_i (iz + 1)), .val (.long (own_j nn)), .second, .val (.long (own_j ii)), .second, vI (own_i (own_adapt (iF - ui) (uo.length + 1) false)), .val (.long (own_j ui)), .second, .val (.long (own_j uw)), .second, vI (own_i uk), vI (own_i dx), vI (own_i (own_thr uk ub))] [(.int ((own_j ii).toInt32)), (.int (own_i uo.length)), (.int (own_i (ii + 1))), (.ref b109), (.int (own_i ii)), (.ref b109)]
          have q204 : ((own_j ii).toInt32) = (own_i ii) := own_ji (a := ii) (by omega)
          rw [q204]
          refine Go.step (fun _ kt => XS.isub X191.here hx rfl (hb hby d17_263) rfl kt) ?_
          show gG T191 m 264 #[vR a1, vI (own_lg tx tx.length), vI (own_i (own_bas cl).length), vR b109, vI (own_i uo.length), vI (own_i (iz + 1)), .val (.long (own_j nn)), .second, .val (.long (own_j ii)), .second, vI (own_i (own_adapt (iF - ui) (uo.length + 1) false)), .val (.long (own_j ui)), .second, .val (.long (own_j uw)), .second, vI (own_i uk), vI (own_i dx), vI (own_i (own_thr uk ub))] [(.int ((own_i uo.length) - (own_i ii))), (.int (own_i (ii + 1))), (.ref b109), (.int (own_i ii)), (.ref b109)]
          have q205 : ((own_i uo.length) - (own_i ii)) = (own_i (uo.length - ii)) := own_is (a := uo.length) (b := ii) (by omega)
          rw [q205]
          obtain ⟨T206, h206, L206, X206, e206, N206, Kq206, V206, st206⟩ := cpA X191 hx hZ hown (w207 hw) (w91 hw) (w89 hw) (w90 hw) eh191 (own_more Fg130_7) (own_more Fg130_7) (Or.inl ⟨rfl, rfl⟩) (own_nneg (by omega)) (own_nneg (by omega)) (own_nneg (by omega)) (by rw [own_iN (by omega), own_iN (by omega), own_iN (by omega)]; omega) (by rw [own_iN (by omega), own_iN (by omega), own_iN (by omega)]; omega) rfl (by rw [own_iN (by omega), own_iN (by omega), List.length_map, List.length_map, List.length_append, List.length_singleton]; omega) N191 g_b109 (g := (mkF m 264 #[vR a1, vI (own_lg tx tx.length), vI (own_i (own_bas cl).length), vR b109, vI (own_i uo.length), vI (own_i (iz + 1)), .val (.long (own_j nn)), .second, .val (.long (own_j ii)), .second, vI (own_i (own_adapt (iF - ui) (uo.length + 1) false)), .val (.long (own_j ui)), .second, .val (.long (own_j uw)), .second, vI (own_i uk), vI (own_i dx), vI (own_i (own_thr uk ub))] [(.int (own_i (uo.length - ii))), (.int (own_i (ii + 1))), (.ref b109), (.int (own_i ii)), (.ref b109)])) rfl hml.symm rfl (hb hby d17_264) (by decide) (W := 0) (Nat.le_of_eq rfl) (by decide)
          refine Go.step st206 ?_
          have F207 := (Fg130_0.keep Kq206)
          have F208 := (Fg130_1.keep Kq206 (fun q => ne_a1_b109 (List.mem_singleton.mp q)))
          have F209 := (Fg130_2.keep Kq206 (fun q => ne_a1_b109 (List.mem_singleton.mp q)))
          have F210 := (Fg130_3.keep Kq206 (fun q => ne_b1_b109 (List.mem_singleton.mp q)))
          have F211 := (own_sta_keep Fg130_4 Kq206 (by intro x hx; cases List.mem_singleton.mp hx; exact ⟨_, Fg130_6⟩))
          have F212 := (own_sta_keep Fg130_5 Kq206 (by intro x hx; cases List.mem_singleton.mp hx; exact ⟨_, Fg130_6⟩))
          have F213 := (Fg130_6.keep Kq206)
          have Z214 : n0 ≤ h206.size := (Nat.le_trans Zg130 Kq206.1)
          have K215 : Keep h0 h206 [] := (Kg130.trans Kq206 (by intro x hx; cases List.mem_singleton.mp hx; exact (Or.inr sz_b109)))
          obtain ⟨us2, hus2, Vm2⟩ := own_mvu (O := uo) (ii := ii) (by omega) (by omega) rfl V206
          show gG T206 m 267 #[vR a1, vI (own_lg tx tx.length), vI (own_i (own_bas cl).length), vR b109, vI (own_i uo.length), vI (own_i (iz + 1)), .val (.long (own_j nn)), .second, .val (.long (own_j ii)), .second, vI (own_i (own_adapt (iF - ui) (uo.length + 1) false)), .val (.long (own_j ui)), .second, .val (.long (own_j uw)), .second, vI (own_i uk), vI (own_i dx), vI (own_i (own_thr uk ub))] []
          refine Go.step (fun _ kt => XS.aloadN X206.here hx rfl (hb hby d17_267) rfl rfl (XS.lload X206.here hx rfl (hb hby d17_268) rfl (XS.l2i X206.here hx rfl (hb hby d17_270) rfl kt))) ?_
          show gG T206 m 271 #[vR a1, vI (own_lg tx tx.length), vI (own_i (own_bas cl).length), vR b109, vI (own_i uo.length), vI (own_i (iz + 1)), .val (.long (own_j nn)), .second, .val (.long (own_j ii)), .second, vI (own_i (own_adapt (iF - ui) (uo.length + 1) false)), .val (.long (own_j ui)), .second, .val (.long (own_j uw)), .second, vI (own_i uk), vI (own_i dx), vI (own_i (own_thr uk ub))] [(.int ((own_j ii).toInt32)), (.ref b109)]
          have q216 : ((own_j ii).toInt32) = (own_i ii) := own_ji (a := ii) (by omega)
          rw [q216]
          refine Go.step (fun _ kt => XS.lload X206.here hx rfl (hb hby d17_271) rfl (XS.l2i X206.here hx rfl (hb hby d17_273) rfl kt)) ?_
          show gG T206 m 274 #[vR a1, vI (own_lg tx tx.length), vI (own_i (own_bas cl).length), vR b109, vI (own_i uo.length), vI (own_i (iz + 1)), .val (.long (own_j nn)), .second, .val (.long (own_j ii)), .second, vI (own_i (own_adapt (iF - ui) (uo.length + 1) false)), .val (.long (own_j ui)), .second, .val (.long (own_j uw)), .second, vI (own_i uk), vI (own_i dx), vI (own_i (own_thr uk ub))] [(.int ((own_j nn).toInt32)), (.int (own_i ii)), (.ref b109)]
          have q217 : ((own_j nn).toInt32) = (own_i nn) := own_ji (a := nn) (by omega)
          rw [q217]
          obtain ⟨cl218, Ar218, qa218, Sa218, Na218, Ha218, Ga218⟩ := (id Vm2)
          obtain ⟨T218, h218, X218, e218, W218, st218⟩ := stI X206 hx hZ e206 Ar218 (j := (own_i ii)) (own_inN Sa218 (own_ltN (by omega) (by omega)) (by omega)) (g := (mkF m 274 #[vR a1, vI (own_lg tx tx.length), vI (own_i (own_bas cl).length), vR b109, vI (own_i uo.length), vI (own_i (iz + 1)), .val (.long (own_j nn)), .second, .val (.long (own_j ii)), .second, vI (own_i (own_adapt (iF - ui) (uo.length + 1) false)), .val (.long (own_j ui)), .second, .val (.long (own_j uw)), .second, vI (own_i uk), vI (own_i dx), vI (own_i (own_thr uk ub))] [(.int (own_i nn)), (.int (own_i ii)), (.ref b109)])) rfl rfl (hb hby d17_274)
          refine Go.step st218 ?_
          have V219 := own_set (v := nn) (by omega) (by omega) hus2 Vm2 W218
          have N218 := Fr.snoc X218 N206 g_b109
          have F220 := (F207.wr W218)
          have F221 := (F208.other W218 (Or.inl ne_a1_b109))
          have F222 := (F209.other W218 (Or.inl ne_a1_b109))
          have F223 := (F210.other W218 ne_b1_b109)
          have F224 := (F211.wr W218)
          have F225 := (F212.wr W218)
          have F226 := (F213.wr W218)
          have Z227 : n0 ≤ h218.size := (Nat.le_trans Z214 (Nat.le_of_eq W218.size.symm))
          have K228 : Keep h0 h218 [] := (K215.wr W218 (Or.inr sz_b109))
          show gG T218 m 275 #[vR a1, vI (own_lg tx tx.length), vI (own_i (own_bas cl).length), vR b109, vI (own_i uo.length), vI (own_i (iz + 1)), .val (.long (own_j nn)), .second, .val (.long (own_j ii)), .second, vI (own_i (own_adapt (iF - ui) (uo.length + 1) false)), .val (.long (own_j ui)), .second, .val (.long (own_j uw)), .second, vI (own_i uk), vI (own_i dx), vI (own_i (own_thr uk ub))] []
          refine Go.step (fun _ kt => XS.iinc X218.here hx rfl (hb hby d17_275) rfl (l' := #[vR a1, vI (own_lg tx tx.length), vI (own_i (own_bas cl).length), vR b109, vI ((own_i uo.length) + (1 : Int32)), vI (own_i (iz + 1)), .val (.long (own_j nn)), .second, .val (.long (own_j ii)), .second, vI (own_i (own_adapt (iF - ui) (uo.length + 1) false)), .val (.long (own_j ui)), .second, .val (.long (own_j uw)), .second, vI (own_i uk), vI (own_i dx), vI (own_i (own_thr uk ub))]) rfl kt) ?_
          show gG T218 m 278 #[vR a1, vI (own_lg tx tx.length), vI (own_i (own_bas cl).length), vR b109, vI ((own_i uo.length) + (1 : Int32)), vI (own_i (iz + 1)), .val (.long (own_j nn)), .second, .val (.long (own_j ii)), .second, vI (own_i (own_adapt (iF - ui) (uo.length + 1) false)), .val (.long (own_j ui)), .second, .val (.long (own_j uw)), .second, vI (own_i uk), vI (own_i dx), vI (own_i (own_thr uk ub))] []
          have q229 : ((own_i uo.length) + (1 : Int32)) = (own_i (uo.length + 1)) := own_ia uo.length 1
          rw [q229]
          refine Go.step (fun _ kt => XS.lload X218.here hx rfl (hb hby d17_278) rfl (XS.lconst X218.here hx rfl (hb hby d17_280) (XS.ladd X218.here hx rfl (hb hby d17_281) rfl kt))) ?_
          show gG T218 m 282 #[vR a1, vI (own_lg tx tx.length), vI (own_i (own_bas cl).length), vR b109, vI (own_i (uo.length + 1)), vI (own_i (iz + 1)), .val (.long (own_j nn)), .second, .val (.long (own_j ii)), .second, vI (own_i (own_adapt (iF - ui) (uo.length + 1) false)), .val (.long (own_j ui)), .second, .val (.long (own_j uw)), .second, vI (own_i uk), vI (own_i dx), vI (own_i (own_thr uk ub))] [(.long ((own_j ii) + (1 : Int64)))]
          have q230 : ((own_j ii) + (1 : Int64)) = (own_j (ii + 1)) := own_ja ii 1
          rw [q230]
          refine Go.step (fun _ kt => XS.lstore X218.here hx rfl (hb hby d17_282) rfl (l' := #[vR a1, vI (own_lg tx tx.length), vI (own_i (own_bas cl).length), vR b109, vI (own_i (uo.length + 1)), vI (own_i (iz + 1)), .val (.long (own_j nn)), .second, .val (.long (own_j (ii + 1))), .second, vI (own_i (own_adapt (iF - ui) (uo.length + 1) false)), .val (.long (own_j ui)), .second, .val (.long (own_j uw)), .second, vI (own_i uk), vI (own_i dx), vI (own_i (own_thr uk ub))]) rfl kt) ?_
          show gG T218 m 284 #[vR a1, vI (own_lg tx tx.length), vI (own_i (own_bas cl).length), vR b109, vI (own_i (uo.length + 1)), vI (own_i (iz + 1)), .val (.long (own_j nn)), .second, .val (.long (own_j (ii + 1))), .second, vI (own_i (own_adapt (iF - ui) (uo.length + 1) false)), .val (.long (own_j ui)), .second, .val (.long (own_j uw)), .second, vI (own_i uk), vI (own_i dx), vI (own_i (own_thr uk ub))] []
          have q231 : (own_i (uo.length + 1)) = (own_i (uo.take ii ++ nn :: uo.drop ii).length) := by rw [own_inslen (by omega)]
          rw [q231]
          refine Go.step (fun _ kt => XS.goto X218.here hx rfl (pc0 := 284) (pc' := 76) rfl (hb hby d17_284) (by decide) (by decide) kt) ?_
          show gG T218 m 76 #[vR a1, vI (own_lg tx tx.length), vI (own_i (own_bas cl).length), vR b109, vI (own_i (uo.take ii ++ nn :: uo.drop ii).length), vI (own_i (iz + 1)), .val (.long (own_j nn)), .second, .val (.long (own_j (ii + 1))), .second, vI (own_i (own_adapt (iF - ui) (uo.length + 1) false)), .val (.long (own_j ui)), .second, .val (.long (own_j uw)), .second, vI (own_i uk), vI (own_i dx), vI (own_i (own_thr uk ub))] []
          exact ih76 nn (ii + 1) (own_adapt (iF - ui) (uo.length + 1) false) (uo.take ii ++ nn :: uo.drop ii) (dm ++ [dx]) tF (iz + 1) _ _ _ _ _ _ _ (by rw [hbq] at hD2; exact hD2) (by rw [hdm, hF2]; simp) (by rw [hiz, List.length_append]; rfl) (by rw [own_inslen (by omega), hF2]; omega) hnF (by omega) (own_adapt_le false (by omega) (by omega)) (Or.inr ⟨_, rfl, rfl⟩) (Or.inr ⟨_, rfl, rfl⟩) (Or.inr ⟨_, rfl⟩) (Or.inr ⟨_, rfl⟩) (Or.inr ⟨_, rfl⟩) _ _ _ (X218.more (by decide) (by decide)) e218 N218 Z227 K228 F220 F221 F222 F223 F224 F225 F226 V219
        ·have hN165 : ¬ (dx < (own_thr uk ub)) := own_ilf (a := dx) (b := (own_thr uk ub)) (by omega) (by omega) hc165_143
         refine Go.step (fun _ kt => XS.icmpYes X142.here hx rfl (pc0 := 165) (pc' := 171) rfl (hb hby d17_165) rfl (flt hc165_143).2.1 (by decide) (by decide) kt) ?_
         show gG T142 m 171 #[vR a1, vI (own_lg tx tx.length), vI (own_i (own_bas cl).length), vR b109, vI (own_i uo.length), vI (own_i (iz + 1)), .val (.long (own_j un)), .second, .val (.long (own_j (uj + (dx * uw)))), .second, vI (own_i ub), .val (.long (own_j ui)), .second, .val (.long (own_j uw)), .second, vI (own_i uk), vI (own_i dx), vI (own_i (own_thr uk ub))] []
         have hv2 := (hor.resolve_left (fun q => hN165 q.1)).2
         have hwd : dx * uw ≥ 1 * uw := Nat.mul_le_mul_right _ (by omega)
         have hw35 : uw * (36 - own_thr uk ub) ≤ uw * 35 := Nat.mul_le_mul_left _ (by omega)
         refine Go.step (fun _ kt => XS.lload X142.here hx rfl (hb hby d17_171) rfl (XS.bipush X142.here hx rfl (hb hby d17_173) (XS.iload X142.here hx rfl (hb hby d17_175) rfl (XS.isub X142.here hx rfl (hb hby d17_177) rfl kt)))) ?_
         show gG T142 m 178 #[vR a1, vI (own_lg tx tx.length), vI (own_i (own_bas cl).length), vR b109, vI (own_i uo.length), vI (own_i (iz + 1)), .val (.long (own_j un)), .second, .val (.long (own_j (uj + (dx * uw)))), .second, vI (own_i ub), .val (.long (own_j ui)), .second, .val (.long (own_j uw)), .second, vI (own_i uk), vI (own_i dx), vI (own_i (own_thr uk ub))] [(.int ((36 : Int32) - (own_i (own_thr uk ub)))), (.long (own_j uw))]
         have q232 : ((36 : Int32) - (own_i (own_thr uk ub))) = (own_i (36 - (own_thr uk ub))) := own_is (a := 36) (b := (own_thr uk ub)) (by omega)
         rw [q232]
         refine Go.step (fun _ kt => XS.i2l X142.here hx rfl (hb hby d17_178) rfl kt) ?_
         show gG T142 m 179 #[vR a1, vI (own_lg tx tx.length), vI (own_i (own_bas cl).length), vR b109, vI (own_i uo.length), vI (own_i (iz + 1)), .val (.long (own_j un)), .second, .val (.long (own_j (uj + (dx * uw)))), .second, vI (own_i ub), .val (.long (own_j ui)), .second, .val (.long (own_j uw)), .second, vI (own_i uk), vI (own_i dx), vI (own_i (own_thr uk ub))] [(.long ((own_i (36 - (own_thr uk ub))).toInt64)), (.long (own_j uw))]
         have q233 : ((own_i (36 - (own_thr uk ub))).toInt64) = (own_j (36 - (own_thr uk ub))) := own_ij (a := (36 - (own_thr uk ub))) (by omega)
         rw [q233]
         refine Go.step (fun _ kt => XS.lmul X142.here hx rfl (hb hby d17_179) rfl kt) ?_
         show gG T142 m 180 #[vR a1, vI (own_lg tx tx.length), vI (own_i (own_bas cl).length), vR b109, vI (own_i uo.length), vI (own_i (iz + 1)), .val (.long (own_j un)), .second, .val (.long (own_j (uj + (dx * uw)))), .second, vI (own_i ub), .val (.long (own_j ui)), .second, .val (.long (own_j uw)), .second, vI (own_i uk), vI (own_i dx), vI (own_i (own_thr uk ub))] [(.long ((own_j uw) * (own_j (36 - (own_thr uk ub)))))]
         have q234 : ((own_j uw) * (own_j (36 - (own_thr uk ub)))) = (own_j (uw * (36 - (own_thr uk ub)))) := own_jm uw (36 - (own_thr uk ub))
         rw [q234]
         refine Go.step (fun _ kt => XS.lstore X142.here hx rfl (hb hby d17_180) rfl (l' := #[vR a1, vI (own_lg tx tx.length), vI (own_i (own_bas cl).length), vR b109, vI (own_i uo.length), vI (own_i (iz + 1)), .val (.long (own_j un)), .second, .val (.long (own_j (uj + (dx * uw)))), .second, vI (own_i ub), .val (.long (own_j ui)), .second, .val (.long (own_j (uw * (36 - (own_thr uk ub))))), .second, vI (own_i uk), vI (own_i dx), vI (own_i (own_thr uk ub))]) rfl (XS.iinc X142.here hx rfl (hb hby d17_182) rfl (l' := #[vR a1, vI (own_lg tx tx.length), vI (own_i (own_bas cl).length), vR b109, vI (own_i uo.length), vI (own_i (iz + 1)), .val (.long (own_j un)), .second, .val (.long (own_j (uj + (dx * uw)))), .second, vI (own_i ub), .val (.long (own_j ui)), .second, .val (.long (own_j (uw * (36 - (own_thr uk ub))))), .second, vI ((own_i uk) + (36 : Int32)), vI (own_i dx), vI (own_i (own_thr uk ub))]) rfl kt)) ?_
         show gG T142 m 185 #[vR a1, vI (own_lg tx tx.length), vI (own_i (own_bas cl).length), vR b109, vI (own_i uo.length), vI (own_i (iz + 1)), .val (.long (own_j un)), .second, .val (.long (own_j (uj + (dx * uw)))), .second, vI (own_i ub), .val (.long (own_j ui)), .second, .val (.long (own_j (uw * (36 - (own_thr uk ub))))), .second, vI ((own_i uk) + (36 : Int32)), vI (own_i dx), vI (own_i (own_thr uk ub))] []
         have q235 : ((own_i uk) + (36 : Int32)) = (own_i (uk + 36)) := own_ia uk 36
         rw [q235]
         refine Go.step (fun _ kt => XS.goto X142.here hx rfl (pc0 := 185) (pc' := 96) rfl (hb hby d17_185) (by decide) (by decide) kt) ?_
         show gG T142 m 96 #[vR a1, vI (own_lg tx tx.length), vI (own_i (own_bas cl).length), vR b109, vI (own_i uo.length), vI (own_i (iz + 1)), .val (.long (own_j un)), .second, .val (.long (own_j (uj + (dx * uw)))), .second, vI (own_i ub), .val (.long (own_j ui)), .second, .val (.long (own_j (uw * (36 - (own_thr uk ub))))), .second, vI (own_i (uk + 36)), vI (own_i dx), vI (own_i (own_thr uk ub))] []
         exact ih96 (dm ++ [dx]) (iz + 1) (uw * (36 - (own_thr uk ub))) (uk + 36) (uj + (dx * uw)) _ _ hv2 (by rw [hdm]; simp) (by rw [hiz, List.length_append]; rfl) (by omega) (by omega) (by omega) (by omega) (Or.inr ⟨_, rfl⟩) (Or.inr ⟨_, rfl⟩) _ _ _ (X142.more (by decide) (by decide)) eh142 N142 Zg130 Kg130 Fg130_0 Fg130_1 Fg130_2 Fg130_3 Fg130_4 Fg130_5 Fg130_6 Fg130_7
      exact G96g130 rs dn iy 1 36 ui _ _ hv0 hds hiy (Nat.le_refl _) (by omega) hui (by omega) h_s16 h_s17 _ _ _ (X126.more (by decide) (by decide)) eh126 N126 Zg124 Kg124 Fg124_0 Fg124_1 Fg124_2 Fg124_3 Fg124_4 Fg124_5 Fg124_6 Fg124_7
     ·have hN82 : ¬ (iy < tx.length) := own_ilf (a := iy) (b := tx.length) (by omega) (by omega) hc82_127
      refine Go.step (fun _ kt => XS.icmpYes X126.here hx rfl (pc0 := 82) (pc' := 287) rfl (hb hby d17_82) rfl (flt hc82_127).2.1 (by decide) (by decide) kt) ?_
      show gG T126 m 287 #[vR a1, vI (own_lg tx tx.length), vI (own_i (own_bas cl).length), vR b109, vI (own_i uo.length), vI (own_i iy), .val (.long (own_j un)), .second, .val (.long (own_j ui)), .second, vI (own_i ub), s11, s12, s13, s14, s15, s16, s17] []
      have hr0 : rs = [] := List.length_eq_zero_iff.mp (by omega)
      have huo : uo = cl := by rw [hr0, own_dloop, if_pos rfl] at hD; exact Option.some.inj hD
      have hul : uo.length = cl.length := by rw [huo]
      have q236 : (own_i uo.length) = (own_i cl.length) := by rw [huo]
      rw [q236]
      have R237 : Arv Z Hg124 b109 k109 .int (own_i tx.length) ((cl.map own_i).map Value.int) (.int 0) := by rw [← huo]; exact Fg124_7
      refine Go.step (fun _ kt => XS.aloadN X126.here hx rfl (hb hby d17_287) rfl rfl (XS.iload X126.here hx rfl (hb hby d17_288) rfl kt)) ?_
      obtain ⟨_, _, ⟨T239, L239, k239, n239⟩, -, X239, ⟨Lc239, hQ239, l239, y239, z239⟩, st239⟩ := Jvm.LawKit.callS X126 hx (y := Y36) hown (mvT hZ (w136 hw)) (mvT hZ (w137 hw)) (mvT hZ (w76 hw)) (mvT hZ (w138 hw)) (by decide) (backOf (W := 0) (rmcoi l Z a0 hw [] b109 cl tx.length k109 Hg124 n0 Zg124 Fg124_6 R237 ⟨by omega, by omega⟩) hZ (w138 hw) (w76 hw) (by decide) (by decide)) (g := (mkF m 290 #[vR a1, vI (own_lg tx tx.length), vI (own_i (own_bas cl).length), vR b109, vI (own_i cl.length), vI (own_i iy), .val (.long (own_j un)), .second, .val (.long (own_j ui)), .second, vI (own_i ub), s11, s12, s13, s14, s15, s16, s17] [(.int (own_i cl.length)), (.ref b109)])) rfl hml.symm (argsL := [(.ref b109), (.int (own_i cl.length))]) (rest := []) (lenOf pd_26 rfl) rfl (Nat.le_of_eq rfl) (hb hby d17_290) (fun _ _ => ⟨rfl, eh126, (by decide : 1 + 1 ≤ _), (by decide : 34 + 34 ≤ _)⟩)
      dsimp only [Pt.U, Pt.locs, Pt.cells, Pt.slots] at X239 l239 y239 z239 st239 hQ239
      subst l239 y239 z239
      obtain ⟨b239r, b239kr, rfl, N239q, Kq239, P240, g_b239r, szq_b239r⟩ := hQ239
      have ne_a1_b239r : a1 ≠ b239r := Nat.ne_of_lt (Nat.lt_of_lt_of_le Fg124_0.lt szq_b239r)
      have ne_b1_b239r : b1 ≠ b239r := Nat.ne_of_lt (Nat.lt_of_lt_of_le Fg124_3.lt szq_b239r)
      have ne_b109_b239r : b109 ≠ b239r := Nat.ne_of_lt (Nat.lt_of_lt_of_le Fg124_6.lt szq_b239r)
      have sz_b239r : h0.size ≤ b239r := Nat.le_trans Kg124.1 szq_b239r
      have F241 := (Fg124_0.keep Kq239)
      have F242 := (Fg124_1.keep Kq239 (by simp))
      have F243 := (Fg124_2.keep Kq239 (by simp))
      have F244 := (Fg124_3.keep Kq239 (by simp))
      have F245 := (own_sta_keep Fg124_4 Kq239 (by intro x hx; cases hx))
      have F246 := (own_sta_keep Fg124_5 Kq239 (by intro x hx; cases hx))
      have F247 := (Fg124_6.keep Kq239)
      have F248 := (R237.keep Kq239 (by simp))
      have Z249 : n0 ≤ T239.heap.size := (Nat.le_trans Zg124 Kq239.1)
      have K250 : Keep h0 T239.heap [] := (Kg124.trans Kq239 (by intro x hx; cases hx))
      have N239 := Fr.app N126 N239q
      refine Go.step st239 ?_
      show gG T239 m 293 #[vR a1, vI (own_lg tx tx.length), vI (own_i (own_bas cl).length), vR b109, vI (own_i cl.length), vI (own_i iy), .val (.long (own_j un)), .second, .val (.long (own_j ui)), .second, vI (own_i ub), s11, s12, s13, s14, s15, s16, s17] [(.ref b239r)]
      obtain ⟨fs, hr, hrun, hended, hW, hsame⟩ := X239.leave (v := some (.ref b239r)) (fun h => by rw [Bd.returns] at h; cases h)
      refine ⟨_, _, retOut X239 hx Bd.returns rfl (Or.inr (Or.inr (Or.inr (Or.inr ⟨rfl, rfl, rfl⟩)))) (hb hby d17_293) hr, hrun, hended, _, _, rfl, ?_, ⟨_, rfl⟩, hW, hsame.mono (by decide) (by decide)⟩
      show Qrmdec Z a1 cl tx b1 k1 cs fo h0 n0 _ T239.heap _
      refine ⟨b239r, b239kr, ?_, N239, K250, P240, g_b239r, sz_b239r⟩
      rfl
   rcases hla with ⟨q1, q2, q3⟩ | ⟨q1, q2, q3⟩
   ·show gG Tg121 m 51 #[vR a1, vI (own_lg tx tx.length), vI (own_i (own_bas cl).length), vR b109, vI (own_i (own_bas cl).length), vI (own_i (own_bas cl).length), uS, uS, uS, uS, uS, uS, uS, uS, uS, uS, uS, uS] []
    refine Go.step (fun _ kt => XS.iloadN Xg121.here hx rfl (hb hby d17_51) rfl (XS.ifYes Xg121.here hx rfl (pc0 := 52) (pc' := 61) rfl (hb hby d17_52) rfl ((if0 _ _).trans (flt (by rw [q1]; decide)).2.2.2) (by decide) (by decide) (XS.iconst Xg121.here hx rfl (hb hby d17_61) kt))) ?_
    show gG Tg121 m 62 #[vR a1, vI (own_lg tx tx.length), vI (own_i (own_bas cl).length), vR b109, vI (own_i (own_bas cl).length), vI (own_i (own_bas cl).length), uS, uS, uS, uS, uS, uS, uS, uS, uS, uS, uS, uS] [(.int 0)]
    have q251 : (0 : Int32) = (own_i (own_B cl).length) := by rw [q3]; rfl
    rw [q251]
    refine Go.step (fun _ kt => XS.istore Xg121.here hx rfl (hb hby d17_62) rfl (l' := #[vR a1, vI (own_lg tx tx.length), vI (own_i (own_bas cl).length), vR b109, vI (own_i (own_bas cl).length), vI (own_i (own_B cl).length), uS, uS, uS, uS, uS, uS, uS, uS, uS, uS, uS, uS]) rfl kt) ?_
    show gG Tg121 m 64 #[vR a1, vI (own_lg tx tx.length), vI (own_i (own_bas cl).length), vR b109, vI (own_i (own_bas cl).length), vI (own_i (own_B cl).length), uS, uS, uS, uS, uS, uS, uS, uS, uS, uS, uS, uS] []
    refine Go.step (Xg121.ldc2Long hx hown (mvT hZ (w135 hw)) (g := (mkF m 64 #[vR a1, vI (own_lg tx tx.length), vI (own_i (own_bas cl).length), vR b109, vI (own_i (own_bas cl).length), vI (own_i (own_B cl).length), uS, uS, uS, uS, uS, uS, uS, uS, uS, uS, uS, uS] [])) rfl (hb hby d17_64)) ?_
    show gG Tg121 m 67 #[vR a1, vI (own_lg tx tx.length), vI (own_i (own_bas cl).length), vR b109, vI (own_i (own_bas cl).length), vI (own_i (own_B cl).length), uS, uS, uS, uS, uS, uS, uS, uS, uS, uS, uS, uS] [(.long (128 : Int64))]
    refine Go.step (fun _ kt => XS.lstore Xg121.here hx rfl (hb hby d17_67) rfl (l' := #[vR a1, vI (own_lg tx tx.length), vI (own_i (own_bas cl).length), vR b109, vI (own_i (own_bas cl).length), vI (own_i (own_B cl).length), .val (.long (128 : Int64)), .second, uS, uS, uS, uS, uS, uS, uS, uS, uS, uS]) rfl (XS.lconst Xg121.here hx rfl (hb hby d17_69) (XS.lstore Xg121.here hx rfl (hb hby d17_70) rfl (l' := #[vR a1, vI (own_lg tx tx.length), vI (own_i (own_bas cl).length), vR b109, vI (own_i (own_bas cl).length), vI (own_i (own_B cl).length), .val (.long (128 : Int64)), .second, .val (.long (0 : Int64)), .second, uS, uS, uS, uS, uS, uS, uS, uS]) rfl (XS.bipush Xg121.here hx rfl (hb hby d17_72) (XS.istore Xg121.here hx rfl (hb hby d17_74) rfl (l' := #[vR a1, vI (own_lg tx tx.length), vI (own_i (own_bas cl).length), vR b109, vI (own_i (own_bas cl).length), vI (own_i (own_B cl).length), .val (.long (128 : Int64)), .second, .val (.long (0 : Int64)), .second, vI 72, uS, uS, uS, uS, uS, uS, uS]) rfl kt))))) ?_
    show gG Tg121 m 76 #[vR a1, vI (own_lg tx tx.length), vI (own_i (own_bas cl).length), vR b109, vI (own_i (own_bas cl).length), vI (own_i (own_B cl).length), .val (.long (128 : Int64)), .second, .val (.long (0 : Int64)), .second, vI 72, uS, uS, uS, uS, uS, uS, uS] []
    exact G76g124 fD 128 0 72 (own_bas cl) ([] : List Nat) (own_ds cl) (own_B cl).length _ _ _ _ _ _ _ hfD rfl rfl (by omega) (by omega) (by omega) (by omega) (Or.inl ⟨rfl, rfl⟩) (Or.inl ⟨rfl, rfl⟩) (Or.inl rfl) (Or.inl rfl) (Or.inl rfl) _ _ _ (Xg121.more (by decide) (by decide)) eg121 Ng121 Zg121 Kg121 Fg121_0 Fg121_1 Fg121_2 Fg121_3 Fg121_4 Fg121_5 Fg121_6 R123
   ·show gG Tg121 m 51 #[vR a1, vI (own_lg tx tx.length), vI (own_i (own_bas cl).length), vR b109, vI (own_i (own_bas cl).length), vI (own_i (own_bas cl).length), uS, uS, uS, uS, uS, uS, uS, uS, uS, uS, uS, uS] []
    refine Go.step (fun _ kt => XS.iloadN Xg121.here hx rfl (hb hby d17_51) rfl (XS.ifNo Xg121.here hx rfl (hb hby d17_52) rfl ((if0 _ _).trans (tlt (by rw [q1]; exact own_ilT (a := 0) (by omega) (by omega) q2)).2.2.2) (XS.iloadN Xg121.here hx rfl (hb hby d17_55) rfl (XS.iconst Xg121.here hx rfl (hb hby d17_56) (XS.iadd Xg121.here hx rfl (hb hby d17_57) rfl (XS.goto Xg121.here hx rfl (pc0 := 58) (pc' := 62) rfl (hb hby d17_58) (by decide) (by decide) kt)))))) ?_
    show gG Tg121 m 62 #[vR a1, vI (own_lg tx tx.length), vI (own_i (own_bas cl).length), vR b109, vI (own_i (own_bas cl).length), vI (own_i (own_bas cl).length), uS, uS, uS, uS, uS, uS, uS, uS, uS, uS, uS, uS] [(.int ((own_lg tx tx.length) + (1 : Int32)))]
    have q252 : ((own_lg tx tx.length) + (1 : Int32)) = (own_i (own_B cl).length) := by rw [q1, q3]; exact own_ia _ 1
    rw [q252]
    refine Go.step (fun _ kt => XS.istore Xg121.here hx rfl (hb hby d17_62) rfl (l' := #[vR a1, vI (own_lg tx tx.length), vI (own_i (own_bas cl).length), vR b109, vI (own_i (own_bas cl).length), vI (own_i (own_B cl).length), uS, uS, uS, uS, uS, uS, uS, uS, uS, uS, uS, uS]) rfl kt) ?_
    show gG Tg121 m 64 #[vR a1, vI (own_lg tx tx.length), vI (own_i (own_bas cl).length), vR b109, vI (own_i (own_bas cl).length), vI (own_i (own_B cl).length), uS, uS, uS, uS, uS, uS, uS, uS, uS, uS, uS, uS] []
    refine Go.step (Xg121.ldc2Long hx hown (mvT hZ (w135 hw)) (g := (mkF m 64 #[vR a1, vI (own_lg tx tx.length), vI (own_i (own_bas cl).length), vR b109, vI (own_i (own_bas cl).length), vI (own_i (own_B cl).length), uS, uS, uS, uS, uS, uS, uS, uS, uS, uS, uS, uS] [])) rfl (hb hby d17_64)) ?_
    show gG Tg121 m 67 #[vR a1, vI (own_lg tx tx.length), vI (own_i (own_bas cl).length), vR b109, vI (own_i (own_bas cl).length), vI (own_i (own_B cl).length), uS, uS, uS, uS, uS, uS, uS, uS, uS, uS, uS, uS] [(.long (128 : Int64))]
    refine Go.step (fun _ kt => XS.lstore Xg121.here hx rfl (hb hby d17_67) rfl (l' := #[vR a1, vI (own_lg tx tx.length), vI (own_i (own_bas cl).length), vR b109, vI (own_i (own_bas cl).length), vI (own_i (own_B cl).length), .val (.long (128 : Int64)), .second, uS, uS, uS, uS, uS, uS, uS, uS, uS, uS]) rfl (XS.lconst Xg121.here hx rfl (hb hby d17_69) (XS.lstore Xg121.here hx rfl (hb hby d17_70) rfl (l' := #[vR a1, vI (own_lg tx tx.length), vI (own_i (own_bas cl).length), vR b109, vI (own_i (own_bas cl).length), vI (own_i (own_B cl).length), .val (.long (128 : Int64)), .second, .val (.long (0 : Int64)), .second, uS, uS, uS, uS, uS, uS, uS, uS]) rfl (XS.bipush Xg121.here hx rfl (hb hby d17_72) (XS.istore Xg121.here hx rfl (hb hby d17_74) rfl (l' := #[vR a1, vI (own_lg tx tx.length), vI (own_i (own_bas cl).length), vR b109, vI (own_i (own_bas cl).length), vI (own_i (own_B cl).length), .val (.long (128 : Int64)), .second, .val (.long (0 : Int64)), .second, vI 72, uS, uS, uS, uS, uS, uS, uS]) rfl kt))))) ?_
    show gG Tg121 m 76 #[vR a1, vI (own_lg tx tx.length), vI (own_i (own_bas cl).length), vR b109, vI (own_i (own_bas cl).length), vI (own_i (own_B cl).length), .val (.long (128 : Int64)), .second, .val (.long (0 : Int64)), .second, vI 72, uS, uS, uS, uS, uS, uS, uS] []
    exact G76g124 fD 128 0 72 (own_bas cl) ([] : List Nat) (own_ds cl) (own_B cl).length _ _ _ _ _ _ _ hfD rfl rfl (by omega) (by omega) (by omega) (by omega) (Or.inl ⟨rfl, rfl⟩) (Or.inl ⟨rfl, rfl⟩) (Or.inl rfl) (Or.inl rfl) (Or.inl rfl) _ _ _ (Xg121.more (by decide) (by decide)) eg121 Ng121 Zg121 Kg121 Fg121_0 Fg121_1 Fg121_2 Fg121_3 Fg121_4 Fg121_5 Fg121_6 R123
  | succ re ih26 =>
   intro ix hre Tg121 Hg121 Lg121 Xg121 eg121 Ng121 Zg121 Kg121 Fg121_0 Fg121_1 Fg121_2 Fg121_3 Fg121_4 Fg121_5 Fg121_6 Fg121_7
   show gG Tg121 m 26 #[vR a1, vI (own_lg tx tx.length), vI (own_i (own_bas cl).length), vR b109, vI (own_i ix), vI (own_i ix), uS, uS, uS, uS, uS, uS, uS, uS, uS, uS, uS, uS] []
   have hlt : (tx.take ix).length = ix := by rw [List.length_take]; omega
   refine Go.step (fun _ kt => XS.iload Xg121.here hx rfl (hb hby d17_26) rfl (XS.iloadN Xg121.here hx rfl (hb hby d17_28) rfl (XS.icmpNo Xg121.here hx rfl (hb hby d17_29) rfl (tlt (own_ilT (a := ix) (b := (own_bas cl).length) (by omega) (by omega) (by omega))).2.1 (XS.aloadN Xg121.here hx rfl (hb hby d17_32) rfl rfl (XS.iload Xg121.here hx rfl (hb hby d17_33) rfl (XS.iinc Xg121.here hx rfl (hb hby d17_35) rfl (l' := #[vR a1, vI (own_lg tx tx.length), vI (own_i (own_bas cl).length), vR b109, vI ((own_i ix) + (1 : Int32)), vI (own_i ix), uS, uS, uS, uS, uS, uS, uS, uS, uS, uS, uS, uS]) rfl kt)))))) ?_
   show gG Tg121 m 38 #[vR a1, vI (own_lg tx tx.length), vI (own_i (own_bas cl).length), vR b109, vI ((own_i ix) + (1 : Int32)), vI (own_i ix), uS, uS, uS, uS, uS, uS, uS, uS, uS, uS, uS, uS] [(.int (own_i ix)), (.ref b109)]
   have q253 : ((own_i ix) + (1 : Int32)) = (own_i (ix + 1)) := own_ia ix 1
   rw [q253]
   refine Go.step (fun _ kt => XS.aloadN Xg121.here hx rfl (hb hby d17_38) rfl rfl (XS.iload Xg121.here hx rfl (hb hby d17_39) rfl kt)) ?_
   show gG Tg121 m 41 #[vR a1, vI (own_lg tx tx.length), vI (own_i (own_bas cl).length), vR b109, vI (own_i (ix + 1)), vI (own_i ix), uS, uS, uS, uS, uS, uS, uS, uS, uS, uS, uS, uS] [(.int (own_i ix)), (.ref a1), (.int (own_i ix)), (.ref b109)]
   obtain ⟨cq255, kq255, q255a, q255b, q255c⟩ := isOf hZ eg121 Fg121_0
   obtain ⟨_, _, ⟨T255, L255, k255, n255⟩, -, X255, ⟨Lc255, hQ255, l255, y255, z255⟩, st255⟩ := Xg121.virtualBack hx (y := Y32) (z := Y32) hown (mvT hZ (w186 hw)) (mvT hZ (w187 hw)) (notFace_of_selects (args := #[]) (mvT hZ (w189 hw))) (mvT hZ (w189 hw)) (mvT hZ (w188 hw)) (by decide) (backOf (W := 2) (rmca l Z a0 hw [] a1 ix tx b1 k1 cs fo Hg121 n0 Zg121 Fg121_0 Fg121_1 Fg121_2 Fg121_3 Fg121_4 Fg121_5 hcs hfo (by omega) (by omega) ht) hZ (w190 hw) (w27 hw) (by decide) (by decide)) q255a q255c (g := (mkF m 41 #[vR a1, vI (own_lg tx tx.length), vI (own_i (own_bas cl).length), vR b109, vI (own_i (ix + 1)), vI (own_i ix), uS, uS, uS, uS, uS, uS, uS, uS, uS, uS, uS, uS] [(.int (own_i ix)), (.ref a1), (.int (own_i ix)), (.ref b109)])) rfl hml.symm (Steps.refl _) (argsL := [(.int (own_i ix))]) (rest := [(.int (own_i ix)), (.ref b109)]) (lenOf pd_24 rfl) rfl (Nat.le_of_eq rfl) (hb hby d17_41) (fun _ _ => ⟨rfl, eg121, (by decide : 1 + 0 ≤ _), (by decide : 34 + 0 ≤ _)⟩)
   dsimp only [Pt.U, Pt.locs, Pt.cells, Pt.slots] at X255 l255 y255 z255 st255 hQ255
   subst l255 y255 z255
   obtain ⟨rfl, N255q, eh255⟩ := hQ255
   have N255 := Fr.app Ng121 N255q
   refine Go.step (fun _ kt => st255.trans kt) ?_
   obtain ⟨cl256, Ar256, qa256, Sa256, Na256, Ha256, Ga256⟩ := (id Fg121_7)
   obtain ⟨T256, h256, X256, e256, W256, st256⟩ := stI X255 hx hZ eh255 Ar256 (j := (own_i ix)) (own_inN Sa256 (own_ltN (by omega) (by omega)) (by omega)) (g := (mkF m 44 #[vR a1, vI (own_lg tx tx.length), vI (own_i (own_bas cl).length), vR b109, vI (own_i (ix + 1)), vI (own_i ix), uS, uS, uS, uS, uS, uS, uS, uS, uS, uS, uS, uS] [(.int (own_i (tx.getD ix 0))), (.int (own_i ix)), (.ref b109)])) rfl rfl (hb hby d17_44)
   refine Go.step st256 ?_
   have V257 := own_push (cx := tx.getD ix 0) rfl rfl Fg121_7 (by omega) (by rw [hlt]; exact W256)
   have N256 := Fr.snoc X256 N255 g_b109
   have F258 := (Fg121_0.wr W256)
   have F259 := (Fg121_1.other W256 (Or.inl ne_a1_b109))
   have F260 := (Fg121_2.other W256 (Or.inl ne_a1_b109))
   have F261 := (Fg121_3.other W256 ne_b1_b109)
   have F262 := (Fg121_4.wr W256)
   have F263 := (Fg121_5.wr W256)
   have F264 := (Fg121_6.wr W256)
   have Z265 : n0 ≤ h256.size := (Nat.le_trans Zg121 (Nat.le_of_eq W256.size.symm))
   have K266 : Keep h0 h256 [] := (Kg121.wr W256 (Or.inr sz_b109))
   show gG T256 m 45 #[vR a1, vI (own_lg tx tx.length), vI (own_i (own_bas cl).length), vR b109, vI (own_i (ix + 1)), vI (own_i ix), uS, uS, uS, uS, uS, uS, uS, uS, uS, uS, uS, uS] []
   have R267 : Arv Z h256 b109 k109 .int (own_i tx.length) (((tx.take (ix + 1)).map own_i).map Value.int) (.int 0) := by rw [← own_takeS (by omega)]; exact V257
   refine Go.step (fun _ kt => XS.iinc X256.here hx rfl (hb hby d17_45) rfl (l' := #[vR a1, vI (own_lg tx tx.length), vI (own_i (own_bas cl).length), vR b109, vI (own_i (ix + 1)), vI ((own_i ix) + (1 : Int32)), uS, uS, uS, uS, uS, uS, uS, uS, uS, uS, uS, uS]) rfl kt) ?_
   show gG T256 m 48 #[vR a1, vI (own_lg tx tx.length), vI (own_i (own_bas cl).length), vR b109, vI (own_i (ix + 1)), vI ((own_i ix) + (1 : Int32)), uS, uS, uS, uS, uS, uS, uS, uS, uS, uS, uS, uS] []
   have q268 : ((own_i ix) + (1 : Int32)) = (own_i (ix + 1)) := own_ia ix 1
   rw [q268]
   refine Go.step (fun _ kt => XS.goto X256.here hx rfl (pc0 := 48) (pc' := 26) rfl (hb hby d17_48) (by decide) (by decide) kt) ?_
   show gG T256 m 26 #[vR a1, vI (own_lg tx tx.length), vI (own_i (own_bas cl).length), vR b109, vI (own_i (ix + 1)), vI (own_i (ix + 1)), uS, uS, uS, uS, uS, uS, uS, uS, uS, uS, uS, uS] []
   exact ih26 (ix + 1) (by omega) _ _ _ (X256.more (by decide) (by decide)) e256 N256 Z265 K266 F258 F259 F260 F261 F262 F263 F264 R267
 exact G26g121 (own_bas cl).length 0 (Nat.zero_add _) _ _ _ (X109.more (by decide) (by decide)) e109 N108 Z116 K117 F110 F111 F112 F113 F114 F115 Ex109 R120
theorem pn_8 : plainName "com/example/kenning/kenning/PunycodeEncodePinLaw" = true := by first | (simp [plainName, overriddenIn]; done) | decide +kernel
theorem d1_0 : dC39 0 (.iload_n 0, 1) := by decide +kernel
theorem d1_1 : dC39 1 (.iconst 1, 1) := by decide +kernel
theorem d1_2 : dC39 2 (.iushr, 1) := by decide +kernel
theorem d1_3 : dC39 3 (.istore_n 1, 1) := by decide +kernel
theorem d1_4 : dC39 4 (.iload_n 0, 1) := by decide +kernel
theorem d1_5 : dC39 5 (.iconst 1, 1) := by decide +kernel
theorem d1_6 : dC39 6 (.iand, 1) := by decide +kernel
theorem d1_7 : dC39 7 (.ifCond .ne 8, 3) := by decide +kernel
theorem d1_10 : dC39 10 (.iload_n 1, 1) := by decide +kernel
theorem d1_11 : dC39 11 (.bipush 127, 2) := by decide +kernel
theorem d1_13 : dC39 13 (.iand, 1) := by decide +kernel
theorem d1_14 : dC39 14 (.ireturn, 1) := by decide +kernel
theorem d1_15 : dC39 15 (.sipush 128, 3) := by decide +kernel
theorem d1_18 : dC39 18 (.iload_n 1, 1) := by decide +kernel
theorem d1_19 : dC39 19 (.ldc 7, 2) := by decide +kernel
theorem d1_21 : dC39 21 (.irem, 1) := by decide +kernel
theorem d1_22 : dC39 22 (.iadd, 1) := by decide +kernel
theorem d1_23 : dC39 23 (.ireturn, 1) := by decide +kernel
theorem ef_rmcp (m : MethodId) (q : Int32) : entryFrame m #[(.int q)] 2 = mkF m 0 #[vI q, uS] [] := by first | (simp [entryFrame, mkF, argsToLocals, Value.category]; done) | rfl
def Qrmcp (Z : State) (q : Int32) (h0 : Heap) (n0 : Nat) (v : Option Value) (h : Heap) (L : List Loc) : Prop := v = some (.int (own_i (own_cpn q))) ∧ Fr n0 L ∧ h = h0
set_option maxRecDepth 65536 in
set_option maxHeartbeats 40000000 in
theorem rmcp (l : Launch) (Z : State) (a0 : Array Value) (hw : ∀ d ∈ tables_1, d.before a0 Z = true) (ws : List Jvm.Cond) (q : Int32) (h0 : Heap) (n0 : Nat) (Z0 : n0 ≤ h0.size) :
    MetFree l Y39 (head1 (Jvm.Cond.code Y39 method_2_code 2 (some .int) :: ws) Rm0) (fun a U => a = #[(.int q)] ∧ Z.Warmed39 U.vm ∧ U.heap = h0) (fun _ _ _ _ _ => True) (fun _ U o U' => ∃ v L, o = .returned v ∧ Qrmcp Z q h0 n0 v U'.heap L ∧ FrameEnd U o U' L Rm0.cells Rm0.slots) := by
 refine MetFree.of_bodySF (plainFor_of_name pn_8) hisR ?_
 intro p e s m args below meth c s₁ Bd hml0 hP hK
 obtain ⟨rfl, hZ, hh⟩ := hP
 have hx := Bd.exec
 have hby := Bd.bytes
 have hml : c.maxLocals = 2 := hml0
 have hown : s.vm.findClass "com/example/kenning/kenning/PunycodeEncodePinLaw" = some m.cls := findClass_of_methodNamed Bd.named
 have hnm := (name_of_methodNamed Bd.named Bd.method).1
 have X0 : Stand p l e Rm0 s m #[(.int q)] below meth c s₁ [] 0 0 := Stand.of_body Bd
 have e0 : s₁.heap = h0 := by rw [← hh, Bd.state]; rfl
 have N0 := Fr.nil n0
 show Go p.tables e below (fun o U' => ∃ v L, o = .returned v ∧ Qrmcp Z q h0 n0 v U'.heap L ∧ FrameEnd s o U' L Rm0.cells Rm0.slots) _
 refine Go.step (fun t kt => castTop (ef_rmcp m q) kt) ?_
 show gG s₁ m 0 #[vI q, uS] []
 refine Go.step (fun _ kt => XS.iloadN X0.here hx rfl (hb hby d1_0) rfl (XS.iconst X0.here hx rfl (hb hby d1_1) (XS.iushr X0.here hx rfl (hb hby d1_2) rfl (XS.istoreN X0.here hx rfl (hb hby d1_3) rfl (l' := #[vI q, vI ((q.toUInt32 >>> ((1 : Int32) &&& 31).toUInt32).toInt32)]) rfl (XS.iloadN X0.here hx rfl (hb hby d1_4) rfl (XS.iconst X0.here hx rfl (hb hby d1_5) (XS.iand X0.here hx rfl (hb hby d1_6) rfl kt))))))) ?_
 show gG s₁ m 7 #[vI q, vI ((q.toUInt32 >>> ((1 : Int32) &&& 31).toUInt32).toInt32)] [(.int (q &&& (1 : Int32)))]
 by_cases hc7_101 : (q &&& (1 : Int32)) = (0 : Int32)
 ·refine Go.step (fun _ kt => XS.ifNo X0.here hx rfl (hb hby d1_7) rfl ((if0 _ _).trans (teq hc7_101).2) (XS.iloadN X0.here hx rfl (hb hby d1_10) rfl (XS.bipush X0.here hx rfl (hb hby d1_11) (XS.iand X0.here hx rfl (hb hby d1_13) rfl kt)))) ?_
  show gG s₁ m 14 #[vI q, vI ((q.toUInt32 >>> ((1 : Int32) &&& 31).toUInt32).toInt32)] [(.int (((q.toUInt32 >>> ((1 : Int32) &&& 31).toUInt32).toInt32) &&& (127 : Int32)))]
  obtain ⟨fs, hr, hrun, hended, hW, hsame⟩ := X0.leave (v := some (.int (((q.toUInt32 >>> ((1 : Int32) &&& 31).toUInt32).toInt32) &&& (127 : Int32)))) (fun h => by rw [Bd.returns] at h; cases h)
  refine ⟨_, _, retI X0 hx Bd.returns (hb hby d1_14) hr, hrun, hended, _, _, rfl, ?_, ⟨_, rfl⟩, hW, hsame.mono (by decide) (by decide)⟩
  show Qrmcp Z q h0 n0 _ s₁.heap _
  rw [e0]
  refine ⟨?_, N0, rfl⟩
  rw [own_cpn_i]
  unfold own_cpi
  rw [if_pos hc7_101]
 ·refine Go.step (fun _ kt => XS.ifYes X0.here hx rfl (pc0 := 7) (pc' := 15) rfl (hb hby d1_7) rfl ((if0 _ _).trans (feq hc7_101).2) (by decide) (by decide) (XS.sipush X0.here hx rfl (hb hby d1_15) (XS.iloadN X0.here hx rfl (hb hby d1_18) rfl kt))) ?_
  refine Go.step (X0.ldcInt hx hown (mvT hZ (w6 hw)) (g := (mkF m 19 #[vI q, vI ((q.toUInt32 >>> ((1 : Int32) &&& 31).toUInt32).toInt32)] [(.int ((q.toUInt32 >>> ((1 : Int32) &&& 31).toUInt32).toInt32)), (.int 128)])) rfl (hb hby d1_19)) ?_
  show gG s₁ m 21 #[vI q, vI ((q.toUInt32 >>> ((1 : Int32) &&& 31).toUInt32).toInt32)] [(.int 1113984), (.int ((q.toUInt32 >>> ((1 : Int32) &&& 31).toUInt32).toInt32)), (.int 128)]
  refine Go.step (fun _ kt => iremM (g := (mkF m 21 #[vI q, vI ((q.toUInt32 >>> ((1 : Int32) &&& 31).toUInt32).toInt32)] [(.int 1113984), (.int ((q.toUInt32 >>> ((1 : Int32) &&& 31).toUInt32).toInt32)), (.int 128)])) X0 hx rfl (hb hby d1_21) rfl (by decide) kt) ?_
  show gG s₁ m 22 #[vI q, vI ((q.toUInt32 >>> ((1 : Int32) &&& 31).toUInt32).toInt32)] [(.int (((q.toUInt32 >>> ((1 : Int32) &&& 31).toUInt32).toInt32) % (1113984 : Int32))), (.int 128)]
  refine Go.step (fun _ kt => XS.iadd X0.here hx rfl (hb hby d1_22) rfl kt) ?_
  show gG s₁ m 23 #[vI q, vI ((q.toUInt32 >>> ((1 : Int32) &&& 31).toUInt32).toInt32)] [(.int ((128 : Int32) + (((q.toUInt32 >>> ((1 : Int32) &&& 31).toUInt32).toInt32) % (1113984 : Int32))))]
  obtain ⟨fs, hr, hrun, hended, hW, hsame⟩ := X0.leave (v := some (.int ((128 : Int32) + (((q.toUInt32 >>> ((1 : Int32) &&& 31).toUInt32).toInt32) % (1113984 : Int32))))) (fun h => by rw [Bd.returns] at h; cases h)
  refine ⟨_, _, retI X0 hx Bd.returns (hb hby d1_23) hr, hrun, hended, _, _, rfl, ?_, ⟨_, rfl⟩, hW, hsame.mono (by decide) (by decide)⟩
  show Qrmcp Z q h0 n0 _ s₁.heap _
  rw [e0]
  refine ⟨?_, N0, rfl⟩
  rw [own_cpn_i]
  unfold own_cpi
  rw [if_neg hc7_101]
theorem d27_0 : dC40 0 (.iload_n 2, 1) := by decide +kernel
theorem d27_1 : dC40 1 (.aload_n 0, 1) := by decide +kernel
theorem d27_2 : dC40 2 (.arraylength, 1) := by decide +kernel
theorem d27_3 : dC40 3 (.if_icmp .ge 12, 3) := by decide +kernel
theorem d27_15 : dC40 15 (.iconst 1, 1) := by decide +kernel
theorem d27_16 : dC40 16 (.goto 4, 3) := by decide +kernel
theorem d27_20 : dC40 20 (.ireturn, 1) := by decide +kernel
theorem ef_rmsma (m : MethodId) (a1 : Addr) (a2 : Addr) (ix : Int32) (k1 : ClassId) (n1 : Int32) (l1 : List Int32) : entryFrame m #[(.ref a1), (.ref a2), (.int ix)] 3 = mkF m 0 #[vR a1, vR a2, vI ix] [] := by first | (simp [entryFrame, mkF, argsToLocals, Value.category]; done) | rfl
def Qrmsma (Z : State) (a1 : Addr) (a2 : Addr) (ix : Int32) (k1 : ClassId) (n1 : Int32) (l1 : List Int32) (h0 : Heap) (n0 : Nat) (v : Option Value) (h : Heap) (L : List Loc) : Prop := v = some (.int 1) ∧ Fr n0 L ∧ h = h0
set_option maxRecDepth 65536 in
set_option maxHeartbeats 40000000 in
theorem rmsma (l : Launch) (Z : State) (a0 : Array Value) (hw : ∀ d ∈ tables_1, d.before a0 Z = true) (ws : List Jvm.Cond) (a1 : Addr) (a2 : Addr) (ix : Int32) (k1 : ClassId) (n1 : Int32) (l1 : List Int32) (h0 : Heap) (n0 : Nat) (Z0 : n0 ≤ h0.size) (V1 : Arv Z h0 a1 k1 .int n1 (l1.map Value.int) (.int 0)) (hge : ¬ ix < n1) :
    MetFree l Y40 (head1 (Jvm.Cond.code Y40 method_3_code 3 (some .boolean) :: ws) Rm0) (fun a U => a = #[(.ref a1), (.ref a2), (.int ix)] ∧ Z.Warmed39 U.vm ∧ U.heap = h0) (fun _ _ _ _ _ => True) (fun _ U o U' => ∃ v L, o = .returned v ∧ Qrmsma Z a1 a2 ix k1 n1 l1 h0 n0 v U'.heap L ∧ FrameEnd U o U' L Rm0.cells Rm0.slots) := by
 refine MetFree.of_bodySF (plainFor_of_name pn_8) hisR ?_
 intro p e s m args below meth c s₁ Bd hml0 hP hK
 obtain ⟨rfl, hZ, hh⟩ := hP
 have hx := Bd.exec
 have hby := Bd.bytes
 have hml : c.maxLocals = 3 := hml0
 have hown : s.vm.findClass "com/example/kenning/kenning/PunycodeEncodePinLaw" = some m.cls := findClass_of_methodNamed Bd.named
 have hnm := (name_of_methodNamed Bd.named Bd.method).1
 have X0 : Stand p l e Rm0 s m #[(.ref a1), (.ref a2), (.int ix)] below meth c s₁ [] 0 0 := Stand.of_body Bd
 have e0 : s₁.heap = h0 := by rw [← hh, Bd.state]; rfl
 have N0 := Fr.nil n0
 show Go p.tables e below (fun o U' => ∃ v L, o = .returned v ∧ Qrmsma Z a1 a2 ix k1 n1 l1 h0 n0 v U'.heap L ∧ FrameEnd s o U' L Rm0.cells Rm0.slots) _
 refine Go.step (fun t kt => castTop (ef_rmsma m a1 a2 ix k1 n1 l1) kt) ?_
 show gG s₁ m 0 #[vR a1, vR a2, vI ix] []
 refine Go.step (fun _ kt => XS.iloadN X0.here hx rfl (hb hby d27_0) rfl (XS.aloadN X0.here hx rfl (hb hby d27_1) rfl rfl kt)) ?_
 obtain ⟨cl101, Ar101, qa101, Sa101, Na101, Ha101, Ga101⟩ := (id V1)
 refine Go.step (X0.arraylength hx (by rw [e0]; exact Ar101.1) (State.isArrayOf_alike hZ.alike Ar101.2.1) (g := (mkF m 2 #[vR a1, vR a2, vI ix] [(.ref a1), (.int ix)])) rfl rfl (hb hby d27_2)) ?_
 rw [len_of Sa101 Na101]
 show gG s₁ m 3 #[vR a1, vR a2, vI ix] [(.int n1), (.int ix)]
 refine Go.step (fun _ kt => XS.icmpYes X0.here hx rfl (pc0 := 3) (pc' := 15) rfl (hb hby d27_3) rfl (flt hge).2.1 (by decide) (by decide) (XS.iconst X0.here hx rfl (hb hby d27_15) (XS.goto X0.here hx rfl (pc0 := 16) (pc' := 20) rfl (hb hby d27_16) (by decide) (by decide) kt))) ?_
 show gG s₁ m 20 #[vR a1, vR a2, vI ix] [(.int 1)]
 obtain ⟨fs, hr, hrun, hended, hW, hsame⟩ := X0.leave (v := some (.int 1)) (fun h => by rw [Bd.returns] at h; cases h)
 refine ⟨_, _, retN X0 hx (t := .boolean) Bd.returns (by simp) (hb hby d27_20) hr, hrun, hended, _, _, rfl, ?_, ⟨_, rfl⟩, hW, hsame.mono (by decide) (by decide)⟩
 show Qrmsma Z a1 a2 ix k1 n1 l1 h0 n0 _ s₁.heap _
 rw [e0]
 refine ⟨?_, N0, rfl⟩
 rfl
theorem d27_6 : dC40 6 (.aload_n 0, 1) := by decide +kernel
theorem d27_7 : dC40 7 (.iload_n 2, 1) := by decide +kernel
theorem d27_8 : dC40 8 (.iaload, 1) := by decide +kernel
theorem d27_9 : dC40 9 (.aload_n 1, 1) := by decide +kernel
theorem d27_10 : dC40 10 (.iload_n 2, 1) := by decide +kernel
theorem d27_11 : dC40 11 (.iaload, 1) := by decide +kernel
theorem d27_12 : dC40 12 (.if_icmp .ne 7, 3) := by decide +kernel
theorem ef_rmsmb (m : MethodId) (a1 : Addr) (a2 : Addr) (ix : Nat) (k1 : ClassId) (k2 : ClassId) (n1 : Int32) (l1 : List Int32) (n2 : Int32) (l2 : List Int32) : entryFrame m #[(.ref a1), (.ref a2), (.int (own_i ix))] 3 = mkF m 0 #[vR a1, vR a2, vI (own_i ix)] [] := by first | (simp [entryFrame, mkF, argsToLocals, Value.category]; done) | rfl
def Qrmsmb (Z : State) (a1 : Addr) (a2 : Addr) (ix : Nat) (k1 : ClassId) (k2 : ClassId) (n1 : Int32) (l1 : List Int32) (n2 : Int32) (l2 : List Int32) (h0 : Heap) (n0 : Nat) (v : Option Value) (h : Heap) (L : List Loc) : Prop := v = some (.int 1) ∧ Fr n0 L ∧ h = h0
set_option maxRecDepth 65536 in
set_option maxHeartbeats 40000000 in
theorem rmsmb (l : Launch) (Z : State) (a0 : Array Value) (hw : ∀ d ∈ tables_1, d.before a0 Z = true) (ws : List Jvm.Cond) (a1 : Addr) (a2 : Addr) (ix : Nat) (k1 : ClassId) (k2 : ClassId) (n1 : Int32) (l1 : List Int32) (n2 : Int32) (l2 : List Int32) (h0 : Heap) (n0 : Nat) (Z0 : n0 ≤ h0.size) (V1 : Arv Z h0 a1 k1 .int n1 (l1.map Value.int) (.int 0)) (V2 : Arv Z h0 a2 k2 .int n2 (l2.map Value.int) (.int 0)) (hix : ix < 2147483648) (hlt : own_i ix < n1) (hj1 : ix < n1.toNatClampNeg) (hj2 : ix < n2.toNatClampNeg) (heq : l1.getD ix 0 = l2.getD ix 0) :
    MetFree l Y40 (head1 (Jvm.Cond.code Y40 method_3_code 3 (some .boolean) :: ws) Rm0) (fun a U => a = #[(.ref a1), (.ref a2), (.int (own_i ix))] ∧ Z.Warmed39 U.vm ∧ U.heap = h0) (fun _ _ _ _ _ => True) (fun _ U o U' => ∃ v L, o = .returned v ∧ Qrmsmb Z a1 a2 ix k1 k2 n1 l1 n2 l2 h0 n0 v U'.heap L ∧ FrameEnd U o U' L Rm0.cells Rm0.slots) := by
 refine MetFree.of_bodySF (plainFor_of_name pn_8) hisR ?_
 intro p e s m args below meth c s₁ Bd hml0 hP hK
 obtain ⟨rfl, hZ, hh⟩ := hP
 have hx := Bd.exec
 have hby := Bd.bytes
 have hml : c.maxLocals = 3 := hml0
 have hown : s.vm.findClass "com/example/kenning/kenning/PunycodeEncodePinLaw" = some m.cls := findClass_of_methodNamed Bd.named
 have hnm := (name_of_methodNamed Bd.named Bd.method).1
 have X0 : Stand p l e Rm0 s m #[(.ref a1), (.ref a2), (.int (own_i ix))] below meth c s₁ [] 0 0 := Stand.of_body Bd
 have e0 : s₁.heap = h0 := by rw [← hh, Bd.state]; rfl
 have N0 := Fr.nil n0
 show Go p.tables e below (fun o U' => ∃ v L, o = .returned v ∧ Qrmsmb Z a1 a2 ix k1 k2 n1 l1 n2 l2 h0 n0 v U'.heap L ∧ FrameEnd s o U' L Rm0.cells Rm0.slots) _
 refine Go.step (fun t kt => castTop (ef_rmsmb m a1 a2 ix k1 k2 n1 l1 n2 l2) kt) ?_
 show gG s₁ m 0 #[vR a1, vR a2, vI (own_i ix)] []
 refine Go.step (fun _ kt => XS.iloadN X0.here hx rfl (hb hby d27_0) rfl (XS.aloadN X0.here hx rfl (hb hby d27_1) rfl rfl kt)) ?_
 obtain ⟨cl101, Ar101, qa101, Sa101, Na101, Ha101, Ga101⟩ := (id V1)
 refine Go.step (X0.arraylength hx (by rw [e0]; exact Ar101.1) (State.isArrayOf_alike hZ.alike Ar101.2.1) (g := (mkF m 2 #[vR a1, vR a2, vI (own_i ix)] [(.ref a1), (.int (own_i ix))])) rfl rfl (hb hby d27_2)) ?_
 rw [len_of Sa101 Na101]
 show gG s₁ m 3 #[vR a1, vR a2, vI (own_i ix)] [(.int n1), (.int (own_i ix))]
 refine Go.step (fun _ kt => XS.icmpNo X0.here hx rfl (hb hby d27_3) rfl (tlt hlt).2.1 (XS.aloadN X0.here hx rfl (hb hby d27_6) rfl rfl (XS.iloadN X0.here hx rfl (hb hby d27_7) rfl kt))) ?_
 obtain ⟨cl102, Ar102, qa102, Sa102, Na102, Ha102, Ga102⟩ := (id V1)
 have hin102 : ¬ ((own_i ix) < 0 ∨ cl102.slots.size ≤ ((own_i ix)).toNatClampNeg) := own_inN Sa102 hj1 (by omega)
 have hat102 : cl102.slots[((own_i ix)).toNatClampNeg]? = some (.int (l1.getD ix 0)) := at_of Ha102 hin102 (by rw [own_iN (by omega)]; exact own_getD _ _)
 refine Go.step (X0.iaload hx (j := (own_i ix)) (v := (.int (l1.getD ix 0))) (by rw [e0]; exact Ar102.1) (State.isArrayOf_alike hZ.alike Ar102.2.1) Ar102.2.2 hin102 hat102 (g := (mkF m 8 #[vR a1, vR a2, vI (own_i ix)] [(.int (own_i ix)), (.ref a1)])) rfl rfl (hb hby d27_8)) ?_
 show gG s₁ m 9 #[vR a1, vR a2, vI (own_i ix)] [(.int (l1.getD ix 0))]
 refine Go.step (fun _ kt => XS.aloadN X0.here hx rfl (hb hby d27_9) rfl rfl (XS.iloadN X0.here hx rfl (hb hby d27_10) rfl kt)) ?_
 obtain ⟨cl103, Ar103, qa103, Sa103, Na103, Ha103, Ga103⟩ := (id V2)
 have hin103 : ¬ ((own_i ix) < 0 ∨ cl103.slots.size ≤ ((own_i ix)).toNatClampNeg) := own_inN Sa103 hj2 (by omega)
 have hat103 : cl103.slots[((own_i ix)).toNatClampNeg]? = some (.int (l2.getD ix 0)) := at_of Ha103 hin103 (by rw [own_iN (by omega)]; exact own_getD _ _)
 refine Go.step (X0.iaload hx (j := (own_i ix)) (v := (.int (l2.getD ix 0))) (by rw [e0]; exact Ar103.1) (State.isArrayOf_alike hZ.alike Ar103.2.1) Ar103.2.2 hin103 hat103 (g := (mkF m 11 #[vR a1, vR a2, vI (own_i ix)] [(.int (own_i ix)), (.ref a2), (.int (l1.getD ix 0))])) rfl rfl (hb hby d27_11)) ?_
 show gG s₁ m 12 #[vR a1, vR a2, vI (own_i ix)] [(.int (l2.getD ix 0)), (.int (l1.getD ix 0))]
 refine Go.step (fun _ kt => XS.icmpNo X0.here hx rfl (hb hby d27_12) rfl (teq heq).2 (XS.iconst X0.here hx rfl (hb hby d27_15) (XS.goto X0.here hx rfl (pc0 := 16) (pc' := 20) rfl (hb hby d27_16) (by decide) (by decide) kt))) ?_
 show gG s₁ m 20 #[vR a1, vR a2, vI (own_i ix)] [(.int 1)]
 obtain ⟨fs, hr, hrun, hended, hW, hsame⟩ := X0.leave (v := some (.int 1)) (fun h => by rw [Bd.returns] at h; cases h)
 refine ⟨_, _, retN X0 hx (t := .boolean) Bd.returns (by simp) (hb hby d27_20) hr, hrun, hended, _, _, rfl, ?_, ⟨_, rfl⟩, hW, hsame.mono (by decide) (by decide)⟩
 show Qrmsmb Z a1 a2 ix k1 k2 n1 l1 n2 l2 h0 n0 _ s₁.heap _
 rw [e0]
 refine ⟨?_, N0, rfl⟩
 rfl
theorem pd_27 : parseMethodDescriptor "([I)Ljava/lang/String;" = some ⟨[(.array .int)], some (.object "java/lang/String")⟩ := by decide +kernel
theorem pd_28 : parseMethodDescriptor "(Ljava/lang/String;)[I" = some ⟨[(.object "java/lang/String")], some (.array .int)⟩ := by decide +kernel
theorem pd_29 : parseMethodDescriptor "([I[II)Z" = some ⟨[(.array .int), (.array .int), .int], some .boolean⟩ := by decide +kernel
theorem ef_rm0 (m : MethodId) (p1 : Int32) (p2 : Int32) (p3 : Int32) (p4 : Int32) (p5 : Int32) (cs : Int32) (fo : Value) : entryFrame m #[(.int p1), (.int p2), (.int p3), (.int p4), (.int p5)] maxLocals = mkF m 0 #[vI p1, vI p2, vI p3, vI p4, vI p5, uS, uS, uS, uS, uS] [] := by first | (simp [entryFrame, mkF, argsToLocals, Value.category, maxLocals]; done) | rfl
def Qrm0 (Z : State) (p1 : Int32) (p2 : Int32) (p3 : Int32) (p4 : Int32) (p5 : Int32) (cs : Int32) (fo : Value) (h0 : Heap) (n0 : Nat) (v : Option Value) (h : Heap) (L : List Loc) : Prop := v = some (.int 1) ∧ Fr n0 L
set_option maxRecDepth 65536 in
set_option maxHeartbeats 40000000 in
theorem rm0 (l : Launch) (Z : State) (a0 : Array Value) (hw : ∀ d ∈ tables_1, d.before a0 Z = true) (ws : List Jvm.Cond) (p1 : Int32) (p2 : Int32) (p3 : Int32) (p4 : Int32) (p5 : Int32) (cs : Int32) (fo : Value) (h0 : Heap) (n0 : Nat) (Z0 : n0 ≤ h0.size) (S_cs : Sta Z h0 "java/lang/String" "COMPACT_STRINGS" "Z" (.int cs)) (S_fo : Sta Z h0 "jdk/internal/util/Preconditions" "SIOOBE_FORMATTER" "Ljava/util/function/BiFunction;" fo) (hcs : ¬ cs = 0) (hfo : fo = .null ∨ ∃ fx, fo = .ref fx) :
    MetFree l x (head1 (Jvm.Cond.code x code maxLocals ret :: ws) room_1) (fun a U => a = #[(.int p1), (.int p2), (.int p3), (.int p4), (.int p5)] ∧ Z.Warmed39 U.vm ∧ U.heap = h0) (fun _ _ _ _ _ => True) (fun _ U o U' => ∃ v L, o = .returned v ∧ Qrm0 Z p1 p2 p3 p4 p5 cs fo h0 n0 v U'.heap L ∧ FrameEnd U o U' L room_1.cells room_1.slots) := by
 refine MetFree.of_bodySF (plainFor_of_name pn_8) hisR ?_
 intro p e s m args below meth c s₁ Bd hml0 hP hK
 obtain ⟨rfl, hZ, hh⟩ := hP
 have hx := Bd.exec
 have hby := Bd.bytes
 have hml : c.maxLocals = 10 := hml0
 have hown : s.vm.findClass "com/example/kenning/kenning/PunycodeEncodePinLaw" = some m.cls := findClass_of_methodNamed Bd.named
 have hnm := (name_of_methodNamed Bd.named Bd.method).1
 have X0 : Stand p l e room_1 s m #[(.int p1), (.int p2), (.int p3), (.int p4), (.int p5)] below meth c s₁ [] 0 0 := Stand.of_body Bd
 have e0 : s₁.heap = h0 := by rw [← hh, Bd.state]; rfl
 have N0 := Fr.nil n0
 show Go p.tables e below (fun o U' => ∃ v L, o = .returned v ∧ Qrm0 Z p1 p2 p3 p4 p5 cs fo h0 n0 v U'.heap L ∧ FrameEnd s o U' L room_1.cells room_1.slots) _
 refine Go.step (fun t kt => castTop (ef_rm0 m p1 p2 p3 p4 p5 cs fo) kt) ?_
 show gG s₁ m 0 #[vI p1, vI p2, vI p3, vI p4, vI p5, uS, uS, uS, uS, uS] []
 refine Go.step (fun _ kt => XS.iloadN X0.here hx rfl (hb hby at_0) rfl kt) ?_
 refine Go.step (X0.ldcInt hx hown (mvT hZ (w0 hw)) (g := (mkF m 1 #[vI p1, vI p2, vI p3, vI p4, vI p5, uS, uS, uS, uS, uS] [(.int p1)])) rfl (hb hby at_1)) ?_
 show gG s₁ m 3 #[vI p1, vI p2, vI p3, vI p4, vI p5, uS, uS, uS, uS, uS] [(.int 2147483647), (.int p1)]
 refine Go.step (fun _ kt => XS.iand X0.here hx rfl (hb hby at_3) rfl (XS.iconst X0.here hx rfl (hb hby at_4) kt)) ?_
 show gG s₁ m 5 #[vI p1, vI p2, vI p3, vI p4, vI p5, uS, uS, uS, uS, uS] [(.int 5), (.int (p1 &&& (2147483647 : Int32)))]
 refine Go.step (fun _ kt => iremM (g := (mkF m 5 #[vI p1, vI p2, vI p3, vI p4, vI p5, uS, uS, uS, uS, uS] [(.int 5), (.int (p1 &&& (2147483647 : Int32)))])) X0 hx rfl (hb hby at_5) rfl (by decide) kt) ?_
 show gG s₁ m 6 #[vI p1, vI p2, vI p3, vI p4, vI p5, uS, uS, uS, uS, uS] [(.int ((p1 &&& (2147483647 : Int32)) % (5 : Int32)))]
 obtain ⟨ln, e_ln⟩ : ∃ nm_, nm_ = ((p1 &&& (2147483647 : Int32)) % (5 : Int32)) := ⟨_, rfl⟩
 rw [← e_ln]
 show gG s₁ m 6 #[vI p1, vI p2, vI p3, vI p4, vI p5, uS, uS, uS, uS, uS] [(.int ln)]
 refine Go.step (fun _ kt => XS.istore X0.here hx rfl (hb hby at_6) rfl (l' := #[vI p1, vI p2, vI p3, vI p4, vI p5, vI ln, uS, uS, uS, uS]) rfl (XS.iconst X0.here hx rfl (hb hby at_8) kt)) ?_
 obtain ⟨T101, h101, k101, X101, e101, E101, A101, st101⟩ := newP (aty := .int) X0 hx hZ (w1 hw) e0 (g := (mkF m 9 #[vI p1, vI p2, vI p3, vI p4, vI p5, vI ln, uS, uS, uS, uS] [(.int 4)])) rfl (hb hby at_9) rfl (by decide) (cap := 4) (by decide) (by decide) (by decide) (by decide)
 obtain ⟨b101, g101⟩ : ∃ z, z = h0.size := ⟨_, rfl⟩
 rw [← g101] at A101 st101
 refine Go.step st101 ?_
 have g_b101 : n0 ≤ b101 := Nat.le_trans Z0 (Nat.le_of_eq g101.symm)
 have F102 := (S_cs.ext E101)
 have F103 := (S_fo.ext E101)
 have Z104 : n0 ≤ h101.size := (Nat.le_trans Z0 E101.1)
 have V105 : Arv Z h101 b101 k101 .int 4 [(.int 0), (.int 0), (.int 0), (.int 0)] (.int 0) := (Arv.new A101 (by decide)).pad (pad_rep [] (.int 0) 4)
 show gG T101 m 11 #[vI p1, vI p2, vI p3, vI p4, vI p5, vI ln, uS, uS, uS, uS] [(.ref b101)]
 refine Go.step (fun _ kt => XS.astore X101.here hx rfl (hb hby at_11) rfl rfl (l' := #[vI p1, vI p2, vI p3, vI p4, vI p5, vI ln, vR b101, uS, uS, uS]) rfl (XS.aload X101.here hx rfl (hb hby at_13) rfl rfl (XS.iconst X101.here hx rfl (hb hby at_15) (XS.iloadN X101.here hx rfl (hb hby at_16) rfl kt)))) ?_
 show gG T101 m 17 #[vI p1, vI p2, vI p3, vI p4, vI p5, vI ln, vR b101, uS, uS, uS] [(.int p2), (.int 0), (.ref b101)]
 obtain ⟨_, _, ⟨T106, L106, k106, n106⟩, -, X106, ⟨Lc106, hQ106, l106, y106, z106⟩, st106⟩ := Jvm.LawKit.callS X101 hx (y := Y39) hown (mvT hZ (w2 hw)) (mvT hZ (w3 hw)) (mvT hZ (w4 hw)) (mvT hZ (w5 hw)) (by decide) (backOf (W := 2) (rmcp l Z a0 hw [] p2  h101 n0 Z104  ) hZ (w5 hw) (w4 hw) (by decide) (by decide)) (g := (mkF m 17 #[vI p1, vI p2, vI p3, vI p4, vI p5, vI ln, vR b101, uS, uS, uS] [(.int p2), (.int 0), (.ref b101)])) rfl hml.symm (argsL := [(.int p2)]) (rest := [(.int 0), (.ref b101)]) (lenOf pd_4 rfl) rfl (Nat.le_of_eq rfl) (hb hby at_17) (fun _ _ => ⟨rfl, e101, (by decide : 1 + 0 ≤ _), (by decide : 4 + 0 ≤ _)⟩)
 dsimp only [Pt.U, Pt.locs, Pt.cells, Pt.slots] at X106 l106 y106 z106 st106 hQ106
 subst l106 y106 z106
 obtain ⟨rfl, N106q, eh106⟩ := hQ106
 have N106 := Fr.app N0 N106q
 refine Go.step st106 ?_
 obtain ⟨cl107, Ar107, qa107, Sa107, Na107, Ha107, Ga107⟩ := (id V105)
 have hin107 : ¬ ((0 : Int32) < 0 ∨ cl107.slots.size ≤ ((0 : Int32)).toNatClampNeg) := inb_of Sa107 ⟨by decide, by decide⟩
 obtain ⟨T107, h107, X107, e107, W107, st107⟩ := stI X106 hx hZ eh106 Ar107 (j := (0 : Int32)) hin107 (g := (mkF m 20 #[vI p1, vI p2, vI p3, vI p4, vI p5, vI ln, vR b101, uS, uS, uS] [(.int (own_i (own_cpn p2))), (.int 0), (.ref b101)])) rfl rfl (hb hby at_20)
 refine Go.step st107 ?_
 have V108 := Arv.set Ar107 qa107 Sa107 Na107 Ha107 Ga107 rfl W107 0 rfl (Nat.le_of_ble_eq_true rfl)
 have N107 := Fr.snoc X107 N106 g_b101
 have F109 := (F102.wr W107)
 have F110 := (F103.wr W107)
 have Z111 : n0 ≤ h107.size := (Nat.le_trans Z104 (Nat.le_of_eq W107.size.symm))
 show gG T107 m 21 #[vI p1, vI p2, vI p3, vI p4, vI p5, vI ln, vR b101, uS, uS, uS] []
 refine Go.step (fun _ kt => XS.aload X107.here hx rfl (hb hby at_21) rfl rfl (XS.iconst X107.here hx rfl (hb hby at_23) (XS.iloadN X107.here hx rfl (hb hby at_24) rfl kt))) ?_
 obtain ⟨_, _, ⟨T112, L112, k112, n112⟩, -, X112, ⟨Lc112, hQ112, l112, y112, z112⟩, st112⟩ := Jvm.LawKit.callS X107 hx (y := Y39) hown (mvT hZ (w2 hw)) (mvT hZ (w3 hw)) (mvT hZ (w4 hw)) (mvT hZ (w5 hw)) (by decide) (backOf (W := 2) (rmcp l Z a0 hw [] p3  h107 n0 Z111  ) hZ (w5 hw) (w4 hw) (by decide) (by decide)) (g := (mkF m 25 #[vI p1, vI p2, vI p3, vI p4, vI p5, vI ln, vR b101, uS, uS, uS] [(.int p3), (.int 1), (.ref b101)])) rfl hml.symm (argsL := [(.int p3)]) (rest := [(.int 1), (.ref b101)]) (lenOf pd_4 rfl) rfl (Nat.le_of_eq rfl) (hb hby at_25) (fun _ _ => ⟨rfl, e107, (by decide : 1 + 0 ≤ _), (by decide : 4 + 0 ≤ _)⟩)
 dsimp only [Pt.U, Pt.locs, Pt.cells, Pt.slots] at X112 l112 y112 z112 st112 hQ112
 subst l112 y112 z112
 obtain ⟨rfl, N112q, eh112⟩ := hQ112
 have N112 := Fr.app N107 N112q
 refine Go.step st112 ?_
 obtain ⟨cl113, Ar113, qa113, Sa113, Na113, Ha113, Ga113⟩ := (id V108)
 have hin113 : ¬ ((1 : Int32) < 0 ∨ cl113.slots.size ≤ ((1 : Int32)).toNatClampNeg) := inb_of Sa113 ⟨by decide, by decide⟩
 obtain ⟨T113, h113, X113, e113, W113, st113⟩ := stI X112 hx hZ eh112 Ar113 (j := (1 : Int32)) hin113 (g := (mkF m 28 #[vI p1, vI p2, vI p3, vI p4, vI p5, vI ln, vR b101, uS, uS, uS] [(.int (own_i (own_cpn p3))), (.int 1), (.ref b101)])) rfl rfl (hb hby at_28)
 refine Go.step st113 ?_
 have V114 := Arv.set Ar113 qa113 Sa113 Na113 Ha113 Ga113 rfl W113 1 rfl (Nat.le_of_ble_eq_true rfl)
 have N113 := Fr.snoc X113 N112 g_b101
 have F115 := (F109.wr W113)
 have F116 := (F110.wr W113)
 have Z117 : n0 ≤ h113.size := (Nat.le_trans Z111 (Nat.le_of_eq W113.size.symm))
 show gG T113 m 29 #[vI p1, vI p2, vI p3, vI p4, vI p5, vI ln, vR b101, uS, uS, uS] []
 refine Go.step (fun _ kt => XS.aload X113.here hx rfl (hb hby at_29) rfl rfl (XS.iconst X113.here hx rfl (hb hby at_31) (XS.iloadN X113.here hx rfl (hb hby at_32) rfl kt))) ?_
 obtain ⟨_, _, ⟨T118, L118, k118, n118⟩, -, X118, ⟨Lc118, hQ118, l118, y118, z118⟩, st118⟩ := Jvm.LawKit.callS X113 hx (y := Y39) hown (mvT hZ (w2 hw)) (mvT hZ (w3 hw)) (mvT hZ (w4 hw)) (mvT hZ (w5 hw)) (by decide) (backOf (W := 2) (rmcp l Z a0 hw [] p4  h113 n0 Z117  ) hZ (w5 hw) (w4 hw) (by decide) (by decide)) (g := (mkF m 33 #[vI p1, vI p2, vI p3, vI p4, vI p5, vI ln, vR b101, uS, uS, uS] [(.int p4), (.int 2), (.ref b101)])) rfl hml.symm (argsL := [(.int p4)]) (rest := [(.int 2), (.ref b101)]) (lenOf pd_4 rfl) rfl (Nat.le_of_eq rfl) (hb hby at_33) (fun _ _ => ⟨rfl, e113, (by decide : 1 + 0 ≤ _), (by decide : 4 + 0 ≤ _)⟩)
 dsimp only [Pt.U, Pt.locs, Pt.cells, Pt.slots] at X118 l118 y118 z118 st118 hQ118
 subst l118 y118 z118
 obtain ⟨rfl, N118q, eh118⟩ := hQ118
 have N118 := Fr.app N113 N118q
 refine Go.step st118 ?_
 obtain ⟨cl119, Ar119, qa119, Sa119, Na119, Ha119, Ga119⟩ := (id V114)
 have hin119 : ¬ ((2 : Int32) < 0 ∨ cl119.slots.size ≤ ((2 : Int32)).toNatClampNeg) := inb_of Sa119 ⟨by decide, by decide⟩
 obtain ⟨T119, h119, X119, e119, W119, st119⟩ := stI X118 hx hZ eh118 Ar119 (j := (2 : Int32)) hin119 (g := (mkF m 36 #[vI p1, vI p2, vI p3, vI p4, vI p5, vI ln, vR b101, uS, uS, uS] [(.int (own_i (own_cpn p4))), (.int 2), (.ref b101)])) rfl rfl (hb hby at_36)
 refine Go.step st119 ?_
 have V120 := Arv.set Ar119 qa119 Sa119 Na119 Ha119 Ga119 rfl W119 2 rfl (Nat.le_of_ble_eq_true rfl)
 have N119 := Fr.snoc X119 N118 g_b101
 have F121 := (F115.wr W119)
 have F122 := (F116.wr W119)
 have Z123 : n0 ≤ h119.size := (Nat.le_trans Z117 (Nat.le_of_eq W119.size.symm))
 show gG T119 m 37 #[vI p1, vI p2, vI p3, vI p4, vI p5, vI ln, vR b101, uS, uS, uS] []
 refine Go.step (fun _ kt => XS.aload X119.here hx rfl (hb hby at_37) rfl rfl (XS.iconst X119.here hx rfl (hb hby at_39) (XS.iload X119.here hx rfl (hb hby at_40) rfl kt))) ?_
 obtain ⟨_, _, ⟨T124, L124, k124, n124⟩, -, X124, ⟨Lc124, hQ124, l124, y124, z124⟩, st124⟩ := Jvm.LawKit.callS X119 hx (y := Y39) hown (mvT hZ (w2 hw)) (mvT hZ (w3 hw)) (mvT hZ (w4 hw)) (mvT hZ (w5 hw)) (by decide) (backOf (W := 2) (rmcp l Z a0 hw [] p5  h119 n0 Z123  ) hZ (w5 hw) (w4 hw) (by decide) (by decide)) (g := (mkF m 42 #[vI p1, vI p2, vI p3, vI p4, vI p5, vI ln, vR b101, uS, uS, uS] [(.int p5), (.int 3), (.ref b101)])) rfl hml.symm (argsL := [(.int p5)]) (rest := [(.int 3), (.ref b101)]) (lenOf pd_4 rfl) rfl (Nat.le_of_eq rfl) (hb hby at_42) (fun _ _ => ⟨rfl, e119, (by decide : 1 + 0 ≤ _), (by decide : 4 + 0 ≤ _)⟩)
 dsimp only [Pt.U, Pt.locs, Pt.cells, Pt.slots] at X124 l124 y124 z124 st124 hQ124
 subst l124 y124 z124
 obtain ⟨rfl, N124q, eh124⟩ := hQ124
 have N124 := Fr.app N119 N124q
 refine Go.step st124 ?_
 obtain ⟨cl125, Ar125, qa125, Sa125, Na125, Ha125, Ga125⟩ := (id V120)
 have hin125 : ¬ ((3 : Int32) < 0 ∨ cl125.slots.size ≤ ((3 : Int32)).toNatClampNeg) := inb_of Sa125 ⟨by decide, by decide⟩
 obtain ⟨T125, h125, X125, e125, W125, st125⟩ := stI X124 hx hZ eh124 Ar125 (j := (3 : Int32)) hin125 (g := (mkF m 45 #[vI p1, vI p2, vI p3, vI p4, vI p5, vI ln, vR b101, uS, uS, uS] [(.int (own_i (own_cpn p5))), (.int 3), (.ref b101)])) rfl rfl (hb hby at_45)
 refine Go.step st125 ?_
 have V126 := Arv.set Ar125 qa125 Sa125 Na125 Ha125 Ga125 rfl W125 3 rfl (Nat.le_of_ble_eq_true rfl)
 have N125 := Fr.snoc X125 N124 g_b101
 have F127 := (F121.wr W125)
 have F128 := (F122.wr W125)
 have Z129 : n0 ≤ h125.size := (Nat.le_trans Z123 (Nat.le_of_eq W125.size.symm))
 show gG T125 m 46 #[vI p1, vI p2, vI p3, vI p4, vI p5, vI ln, vR b101, uS, uS, uS] []
 rcases (show ln = 0 ∨ ln = 1 ∨ ln = 2 ∨ ln = 3 ∨ ln = 4 by rw [e_ln]; exact own_m5 _) with hk | hk | hk | hk | hk
 ·rw [hk]
  show gG T125 m 46 #[vI p1, vI p2, vI p3, vI p4, vI p5, vI 0, vR b101, uS, uS, uS] []
  refine Go.step (fun _ kt => XS.iload X125.here hx rfl (hb hby at_46) rfl kt) ?_
  obtain ⟨T130, h130, k130, X130, e130, E130, A130, st130⟩ := newP (aty := .int) X125 hx hZ (w1 hw) e125 (g := (mkF m 48 #[vI p1, vI p2, vI p3, vI p4, vI p5, vI 0, vR b101, uS, uS, uS] [(.int 0)])) rfl (hb hby at_48) rfl (by decide) (cap := 0) (by decide) (by decide) (by decide) (by decide)
  obtain ⟨b130, g130⟩ : ∃ z, z = h125.size := ⟨_, rfl⟩
  rw [← g130] at A130 st130
  refine Go.step st130 ?_
  have ne_b101_b130 : b101 ≠ b130 := Nat.ne_of_lt (Nat.lt_of_lt_of_le V126.lt (Nat.le_of_eq g130.symm))
  have g_b130 : n0 ≤ b130 := Nat.le_trans Z129 (Nat.le_of_eq g130.symm)
  have F131 := (F127.ext E130)
  have F132 := (F128.ext E130)
  have F133 : Arv Z h130 b101 k101 .int 4 [(.int (own_i (own_cpn p2))), (.int (own_i (own_cpn p3))), (.int (own_i (own_cpn p4))), (.int (own_i (own_cpn p5)))] (.int 0) := (V126.ext E130)
  have Z134 : n0 ≤ h130.size := (Nat.le_trans Z129 E130.1)
  have V135 : Arv Z h130 b130 k130 .int 0 [] (.int 0) := Arv.new A130 (by decide)
  show gG T130 m 50 #[vI p1, vI p2, vI p3, vI p4, vI p5, vI 0, vR b101, uS, uS, uS] [(.ref b130)]
  refine Go.step (fun _ kt => XS.astore X130.here hx rfl (hb hby at_50) rfl rfl (l' := #[vI p1, vI p2, vI p3, vI p4, vI p5, vI 0, vR b101, vR b130, uS, uS]) rfl (XS.iload X130.here hx rfl (hb hby at_52) rfl (XS.ifYes X130.here hx rfl (pc0 := 54) (pc' := 65) rfl (hb hby at_54) rfl ((if0 _ _).trans (flt (by decide : ¬ ((0 : Int32) < (0 : Int32)))).2.2.2) (by decide) (by decide) (XS.iload X130.here hx rfl (hb hby at_65) rfl (XS.iconst X130.here hx rfl (hb hby at_67) (XS.icmpYes X130.here hx rfl (pc0 := 68) (pc' := 79) rfl (hb hby at_68) rfl (flt (by decide : ¬ ((1 : Int32) < (0 : Int32)))).2.2.2 (by decide) (by decide) (XS.iload X130.here hx rfl (hb hby at_79) rfl (XS.iconst X130.here hx rfl (hb hby at_81) (XS.icmpYes X130.here hx rfl (pc0 := 82) (pc' := 93) rfl (hb hby at_82) rfl (flt (by decide : ¬ ((2 : Int32) < (0 : Int32)))).2.2.2 (by decide) (by decide) (XS.iload X130.here hx rfl (hb hby at_93) rfl (XS.iconst X130.here hx rfl (hb hby at_95) (XS.icmpYes X130.here hx rfl (pc0 := 96) (pc' := 107) rfl (hb hby at_96) rfl (flt (by decide : ¬ ((3 : Int32) < (0 : Int32)))).2.2.2 (by decide) (by decide) (XS.aload X130.here hx rfl (hb hby at_107) rfl rfl kt))))))))))))) ?_
  show gG T130 m 109 #[vI p1, vI p2, vI p3, vI p4, vI p5, vI 0, vR b101, vR b130, uS, uS] [(.ref b130)]
  have R136 : Arv Z h130 b130 k130 .int (own_i ([] : List Nat).length) ((([] : List Nat).map own_i).map Value.int) (.int 0) := V135
  obtain ⟨_, _, ⟨T137, L137, k137, n137⟩, -, X137, ⟨Lc137, hQ137, l137, y137, z137⟩, st137⟩ := Jvm.LawKit.callS X130 hx (y := Y37) hown (mvT hZ (w7 hw)) (mvT hZ (w8 hw)) (mvT hZ (w9 hw)) (mvT hZ (w10 hw)) (by decide) (backOf (W := 0) (rmenc l Z a0 hw [] b130 ([] : List Nat) k130 cs h130 n0 Z134 R136 F131 hcs (Nat.le_of_ble_eq_true rfl) (by intro z hz; simp only [List.mem_cons, List.not_mem_nil, or_false] at hz)) hZ (w10 hw) (w9 hw) (by decide) (by decide)) (g := (mkF m 109 #[vI p1, vI p2, vI p3, vI p4, vI p5, vI 0, vR b101, vR b130, uS, uS] [(.ref b130)])) rfl hml.symm (argsL := [(.ref b130)]) (rest := []) (lenOf pd_27 rfl) rfl (Nat.le_of_eq rfl) (hb hby at_109) (fun _ _ => ⟨rfl, e130, (by decide : 2 + 5 ≤ _), (by decide : 4 + 92 ≤ _)⟩)
  dsimp only [Pt.U, Pt.locs, Pt.cells, Pt.slots] at X137 l137 y137 z137 st137 hQ137
  subst l137 y137 z137
  obtain ⟨b137r, b137b, b137kr, rfl, N137q, Kq137, P138, P139, P140, P141, g_b137r, szq_b137r, g_b137b, szq_b137b⟩ := hQ137
  have ne_b101_b137r : b101 ≠ b137r := Nat.ne_of_lt (Nat.lt_of_lt_of_le F133.lt szq_b137r)
  have ne_b130_b137r : b130 ≠ b137r := Nat.ne_of_lt (Nat.lt_of_lt_of_le R136.lt szq_b137r)
  have ne_b101_b137b : b101 ≠ b137b := Nat.ne_of_lt (Nat.lt_of_lt_of_le F133.lt szq_b137b)
  have ne_b130_b137b : b130 ≠ b137b := Nat.ne_of_lt (Nat.lt_of_lt_of_le R136.lt szq_b137b)
  have F142 := (own_sta_keep F131 Kq137 (by intro x hx; cases hx))
  have F143 := (own_sta_keep F132 Kq137 (by intro x hx; cases hx))
  have F144 := (F133.keep Kq137 (by simp))
  have F145 := (R136.keep Kq137 (by simp))
  have Z146 : n0 ≤ T137.heap.size := (Nat.le_trans Z134 Kq137.1)
  have N137 := Fr.app N125 N137q
  refine Go.step st137 ?_
  show gG T137 m 112 #[vI p1, vI p2, vI p3, vI p4, vI p5, vI 0, vR b101, vR b130, uS, uS] [(.ref b137r)]
  refine Go.step (fun _ kt => XS.astore X137.here hx rfl (hb hby at_112) rfl rfl (l' := #[vI p1, vI p2, vI p3, vI p4, vI p5, vI 0, vR b101, vR b130, vR b137r, uS]) rfl (XS.aload X137.here hx rfl (hb hby at_114) rfl rfl kt)) ?_
  obtain ⟨_, _, ⟨T147, L147, k147, n147⟩, -, X147, ⟨Lc147, hQ147, l147, y147, z147⟩, st147⟩ := Jvm.LawKit.callS X137 hx (y := Y38) hown (mvT hZ (w94 hw)) (mvT hZ (w95 hw)) (mvT hZ (w9 hw)) (mvT hZ (w96 hw)) (by decide) (backOf (W := 0) (rmdec l Z a0 hw [] b137r ([] : List Nat) (own_txt ([] : List Nat)) b137b b137kr cs fo T137.heap n0 Z146 P138 P139 P140 P141 F142 F143 hcs hfo (Nat.le_of_ble_eq_true rfl) (by intro z hz; simp only [List.mem_cons, List.not_mem_nil, or_false] at hz) rfl) hZ (w96 hw) (w9 hw) (by decide) (by decide)) (g := (mkF m 116 #[vI p1, vI p2, vI p3, vI p4, vI p5, vI 0, vR b101, vR b130, vR b137r, uS] [(.ref b137r)])) rfl hml.symm (argsL := [(.ref b137r)]) (rest := []) (lenOf pd_28 rfl) rfl (Nat.le_of_eq rfl) (hb hby at_116) (fun _ _ => ⟨rfl, rfl, (by decide : 7 + 2 ≤ _), (by decide : 96 + 68 ≤ _)⟩)
  dsimp only [Pt.U, Pt.locs, Pt.cells, Pt.slots] at X147 l147 y147 z147 st147 hQ147
  subst l147 y147 z147
  obtain ⟨b147r, b147kr, rfl, N147q, Kq147, P148, g_b147r, szq_b147r⟩ := hQ147
  have ne_b101_b147r : b101 ≠ b147r := Nat.ne_of_lt (Nat.lt_of_lt_of_le F144.lt szq_b147r)
  have ne_b130_b147r : b130 ≠ b147r := Nat.ne_of_lt (Nat.lt_of_lt_of_le F145.lt szq_b147r)
  have ne_b137r_b147r : b137r ≠ b147r := Nat.ne_of_lt (Nat.lt_of_lt_of_le P138.lt szq_b147r)
  have ne_b137b_b147r : b137b ≠ b147r := Nat.ne_of_lt (Nat.lt_of_lt_of_le P141.lt szq_b147r)
  have F149 := (own_sta_keep F142 Kq147 (by intro x hx; cases hx))
  have F150 := (own_sta_keep F143 Kq147 (by intro x hx; cases hx))
  have F151 := (F144.keep Kq147 (by simp))
  have F152 := (F145.keep Kq147 (by simp))
  have F153 := (P138.keep Kq147)
  have F154 := (P139.keep Kq147 (by simp))
  have F155 := (P140.keep Kq147 (by simp))
  have F156 := (P141.keep Kq147 (by simp))
  have Z157 : n0 ≤ T147.heap.size := (Nat.le_trans Z146 Kq147.1)
  have N147 := Fr.app N137 N147q
  refine Go.step st147 ?_
  show gG T147 m 119 #[vI p1, vI p2, vI p3, vI p4, vI p5, vI 0, vR b101, vR b130, vR b137r, uS] [(.ref b147r)]
  refine Go.step (fun _ kt => XS.astore X147.here hx rfl (hb hby at_119) rfl rfl (l' := #[vI p1, vI p2, vI p3, vI p4, vI p5, vI 0, vR b101, vR b130, vR b137r, vR b147r]) rfl kt) ?_
  show gG T147 m 121 #[vI p1, vI p2, vI p3, vI p4, vI p5, vI 0, vR b101, vR b130, vR b137r, vR b147r] []
  have R158 : Arv Z T147.heap b147r b147kr .int 0 [] (.int 0) := P148
  refine Go.step (fun _ kt => XS.aload X147.here hx rfl (hb hby at_121) rfl rfl (XS.ifnullNo X147.here hx rfl (hb hby at_123) rfl (XS.aload X147.here hx rfl (hb hby at_126) rfl rfl kt))) ?_
  obtain ⟨cl159, Ar159, qa159, Sa159, Na159, Ha159, Ga159⟩ := (id R158)
  refine Go.step (X147.arraylength hx Ar159.1 (State.isArrayOf_alike hZ.alike Ar159.2.1) (g := (mkF m 128 #[vI p1, vI p2, vI p3, vI p4, vI p5, vI 0, vR b101, vR b130, vR b137r, vR b147r] [(.ref b147r)])) rfl rfl (hb hby at_128)) ?_
  rw [len_of Sa159 Na159]
  show gG T147 m 129 #[vI p1, vI p2, vI p3, vI p4, vI p5, vI 0, vR b101, vR b130, vR b137r, vR b147r] [(.int 0)]
  refine Go.step (fun _ kt => XS.iload X147.here hx rfl (hb hby at_129) rfl (XS.icmpYes X147.here hx rfl (pc0 := 131) (pc' := 136) rfl (hb hby at_131) rfl (teq (by decide : (0 : Int32) = (0 : Int32))).1 (by decide) (by decide) (XS.aload X147.here hx rfl (hb hby at_136) rfl rfl (XS.aload X147.here hx rfl (hb hby at_138) rfl rfl (XS.iconst X147.here hx rfl (hb hby at_140) kt))))) ?_
  show gG T147 m 141 #[vI p1, vI p2, vI p3, vI p4, vI p5, vI 0, vR b101, vR b130, vR b137r, vR b147r] [(.int 0), (.ref b101), (.ref b147r)]
  obtain ⟨_, _, ⟨T160, L160, k160, n160⟩, -, X160, ⟨Lc160, hQ160, l160, y160, z160⟩, st160⟩ := Jvm.LawKit.callS X147 hx (y := Y40) hown (mvT hZ (w148 hw)) (mvT hZ (w149 hw)) (mvT hZ (w4 hw)) (mvT hZ (w150 hw)) (by decide) (backOf (W := 0) (rmsma l Z a0 hw [] b147r b101 (0 : Int32) b147kr (0 : Int32) ([] : List Int32) T147.heap n0 Z157 R158 (by decide)) hZ (w150 hw) (w4 hw) (by decide) (by decide)) (g := (mkF m 141 #[vI p1, vI p2, vI p3, vI p4, vI p5, vI 0, vR b101, vR b130, vR b137r, vR b147r] [(.int 0), (.ref b101), (.ref b147r)])) rfl hml.symm (argsL := [(.ref b147r), (.ref b101), (.int 0)]) (rest := []) (lenOf pd_29 rfl) rfl (Nat.le_of_eq rfl) (hb hby at_141) (fun _ _ => ⟨rfl, rfl, (by decide : 9 + 0 ≤ _), (by decide : 164 + 0 ≤ _)⟩)
  dsimp only [Pt.U, Pt.locs, Pt.cells, Pt.slots] at X160 l160 y160 z160 st160 hQ160
  subst l160 y160 z160
  obtain ⟨rfl, N160q, eh160⟩ := hQ160
  have N160 := Fr.app N147 N160q
  refine Go.step st160 ?_
  show gG T160 m 144 #[vI p1, vI p2, vI p3, vI p4, vI p5, vI 0, vR b101, vR b130, vR b137r, vR b147r] [(.int 1)]
  refine Go.step (fun _ kt => XS.ifNo X160.here hx rfl (hb hby at_144) rfl ((if0 _ _).trans (feq (by decide : ¬ ((1 : Int32) = (0 : Int32)))).1) (XS.aload X160.here hx rfl (hb hby at_147) rfl rfl (XS.aload X160.here hx rfl (hb hby at_149) rfl rfl (XS.iconst X160.here hx rfl (hb hby at_151) kt)))) ?_
  show gG T160 m 152 #[vI p1, vI p2, vI p3, vI p4, vI p5, vI 0, vR b101, vR b130, vR b137r, vR b147r] [(.int 1), (.ref b101), (.ref b147r)]
  obtain ⟨_, _, ⟨T161, L161, k161, n161⟩, -, X161, ⟨Lc161, hQ161, l161, y161, z161⟩, st161⟩ := Jvm.LawKit.callS X160 hx (y := Y40) hown (mvT hZ (w148 hw)) (mvT hZ (w149 hw)) (mvT hZ (w4 hw)) (mvT hZ (w150 hw)) (by decide) (backOf (W := 0) (rmsma l Z a0 hw [] b147r b101 (1 : Int32) b147kr (0 : Int32) ([] : List Int32) T147.heap n0 Z157 R158 (by decide)) hZ (w150 hw) (w4 hw) (by decide) (by decide)) (g := (mkF m 152 #[vI p1, vI p2, vI p3, vI p4, vI p5, vI 0, vR b101, vR b130, vR b137r, vR b147r] [(.int 1), (.ref b101), (.ref b147r)])) rfl hml.symm (argsL := [(.ref b147r), (.ref b101), (.int 1)]) (rest := []) (lenOf pd_29 rfl) rfl (Nat.le_of_eq rfl) (hb hby at_152) (fun _ _ => ⟨rfl, eh160, (by decide : 9 + 0 ≤ _), (by decide : 164 + 0 ≤ _)⟩)
  dsimp only [Pt.U, Pt.locs, Pt.cells, Pt.slots] at X161 l161 y161 z161 st161 hQ161
  subst l161 y161 z161
  obtain ⟨rfl, N161q, eh161⟩ := hQ161
  have N161 := Fr.app N160 N161q
  refine Go.step st161 ?_
  show gG T161 m 155 #[vI p1, vI p2, vI p3, vI p4, vI p5, vI 0, vR b101, vR b130, vR b137r, vR b147r] [(.int 1)]
  refine Go.step (fun _ kt => XS.ifNo X161.here hx rfl (hb hby at_155) rfl ((if0 _ _).trans (feq (by decide : ¬ ((1 : Int32) = (0 : Int32)))).1) (XS.aload X161.here hx rfl (hb hby at_158) rfl rfl (XS.aload X161.here hx rfl (hb hby at_160) rfl rfl (XS.iconst X161.here hx rfl (hb hby at_162) kt)))) ?_
  show gG T161 m 163 #[vI p1, vI p2, vI p3, vI p4, vI p5, vI 0, vR b101, vR b130, vR b137r, vR b147r] [(.int 2), (.ref b101), (.ref b147r)]
  obtain ⟨_, _, ⟨T162, L162, k162, n162⟩, -, X162, ⟨Lc162, hQ162, l162, y162, z162⟩, st162⟩ := Jvm.LawKit.callS X161 hx (y := Y40) hown (mvT hZ (w148 hw)) (mvT hZ (w149 hw)) (mvT hZ (w4 hw)) (mvT hZ (w150 hw)) (by decide) (backOf (W := 0) (rmsma l Z a0 hw [] b147r b101 (2 : Int32) b147kr (0 : Int32) ([] : List Int32) T147.heap n0 Z157 R158 (by decide)) hZ (w150 hw) (w4 hw) (by decide) (by decide)) (g := (mkF m 163 #[vI p1, vI p2, vI p3, vI p4, vI p5, vI 0, vR b101, vR b130, vR b137r, vR b147r] [(.int 2), (.ref b101), (.ref b147r)])) rfl hml.symm (argsL := [(.ref b147r), (.ref b101), (.int 2)]) (rest := []) (lenOf pd_29 rfl) rfl (Nat.le_of_eq rfl) (hb hby at_163) (fun _ _ => ⟨rfl, eh161, (by decide : 9 + 0 ≤ _), (by decide : 164 + 0 ≤ _)⟩)
  dsimp only [Pt.U, Pt.locs, Pt.cells, Pt.slots] at X162 l162 y162 z162 st162 hQ162
  subst l162 y162 z162
  obtain ⟨rfl, N162q, eh162⟩ := hQ162
  have N162 := Fr.app N161 N162q
  refine Go.step st162 ?_
  show gG T162 m 166 #[vI p1, vI p2, vI p3, vI p4, vI p5, vI 0, vR b101, vR b130, vR b137r, vR b147r] [(.int 1)]
  refine Go.step (fun _ kt => XS.ifNo X162.here hx rfl (hb hby at_166) rfl ((if0 _ _).trans (feq (by decide : ¬ ((1 : Int32) = (0 : Int32)))).1) (XS.aload X162.here hx rfl (hb hby at_169) rfl rfl (XS.aload X162.here hx rfl (hb hby at_171) rfl rfl (XS.iconst X162.here hx rfl (hb hby at_173) kt)))) ?_
  show gG T162 m 174 #[vI p1, vI p2, vI p3, vI p4, vI p5, vI 0, vR b101, vR b130, vR b137r, vR b147r] [(.int 3), (.ref b101), (.ref b147r)]
  obtain ⟨_, _, ⟨T163, L163, k163, n163⟩, -, X163, ⟨Lc163, hQ163, l163, y163, z163⟩, st163⟩ := Jvm.LawKit.callS X162 hx (y := Y40) hown (mvT hZ (w148 hw)) (mvT hZ (w149 hw)) (mvT hZ (w4 hw)) (mvT hZ (w150 hw)) (by decide) (backOf (W := 0) (rmsma l Z a0 hw [] b147r b101 (3 : Int32) b147kr (0 : Int32) ([] : List Int32) T147.heap n0 Z157 R158 (by decide)) hZ (w150 hw) (w4 hw) (by decide) (by decide)) (g := (mkF m 174 #[vI p1, vI p2, vI p3, vI p4, vI p5, vI 0, vR b101, vR b130, vR b137r, vR b147r] [(.int 3), (.ref b101), (.ref b147r)])) rfl hml.symm (argsL := [(.ref b147r), (.ref b101), (.int 3)]) (rest := []) (lenOf pd_29 rfl) rfl (Nat.le_of_eq rfl) (hb hby at_174) (fun _ _ => ⟨rfl, eh162, (by decide : 9 + 0 ≤ _), (by decide : 164 + 0 ≤ _)⟩)
  dsimp only [Pt.U, Pt.locs, Pt.cells, Pt.slots] at X163 l163 y163 z163 st163 hQ163
  subst l163 y163 z163
  obtain ⟨rfl, N163q, eh163⟩ := hQ163
  have N163 := Fr.app N162 N163q
  refine Go.step st163 ?_
  show gG T163 m 177 #[vI p1, vI p2, vI p3, vI p4, vI p5, vI 0, vR b101, vR b130, vR b137r, vR b147r] [(.int 1)]
  refine Go.step (fun _ kt => XS.ifNo X163.here hx rfl (hb hby at_177) rfl ((if0 _ _).trans (feq (by decide : ¬ ((1 : Int32) = (0 : Int32)))).1) (XS.iconst X163.here hx rfl (hb hby at_180) (XS.goto X163.here hx rfl (pc0 := 181) (pc' := 185) rfl (hb hby at_181) (by decide) (by decide) kt))) ?_
  show gG T163 m 185 #[vI p1, vI p2, vI p3, vI p4, vI p5, vI 0, vR b101, vR b130, vR b137r, vR b147r] [(.int 1)]
  obtain ⟨fs, hr, hrun, hended, hW, hsame⟩ := X163.leave (v := some (.int 1)) (fun h => by rw [Bd.returns] at h; cases h)
  refine ⟨_, _, retN X163 hx (t := .boolean) Bd.returns (by simp) (hb hby at_185) hr, hrun, hended, _, _, rfl, ?_, ⟨_, rfl⟩, hW, hsame.mono (by decide) (by decide)⟩
  show Qrm0 Z p1 p2 p3 p4 p5 cs fo h0 n0 _ T163.heap _
  rw [eh163]
  exact ⟨rfl, N163⟩
 ·rw [hk]
  show gG T125 m 46 #[vI p1, vI p2, vI p3, vI p4, vI p5, vI 1, vR b101, uS, uS, uS] []
  refine Go.step (fun _ kt => XS.iload X125.here hx rfl (hb hby at_46) rfl kt) ?_
  obtain ⟨T164, h164, k164, X164, e164, E164, A164, st164⟩ := newP (aty := .int) X125 hx hZ (w1 hw) e125 (g := (mkF m 48 #[vI p1, vI p2, vI p3, vI p4, vI p5, vI 1, vR b101, uS, uS, uS] [(.int 1)])) rfl (hb hby at_48) rfl (by decide) (cap := 1) (by decide) (by decide) (by decide) (by decide)
  obtain ⟨b164, g164⟩ : ∃ z, z = h125.size := ⟨_, rfl⟩
  rw [← g164] at A164 st164
  refine Go.step st164 ?_
  have ne_b101_b164 : b101 ≠ b164 := Nat.ne_of_lt (Nat.lt_of_lt_of_le V126.lt (Nat.le_of_eq g164.symm))
  have g_b164 : n0 ≤ b164 := Nat.le_trans Z129 (Nat.le_of_eq g164.symm)
  have F165 := (F127.ext E164)
  have F166 := (F128.ext E164)
  have F167 : Arv Z h164 b101 k101 .int 4 [(.int (own_i (own_cpn p2))), (.int (own_i (own_cpn p3))), (.int (own_i (own_cpn p4))), (.int (own_i (own_cpn p5)))] (.int 0) := (V126.ext E164)
  have Z168 : n0 ≤ h164.size := (Nat.le_trans Z129 E164.1)
  have V169 : Arv Z h164 b164 k164 .int 1 [(.int 0)] (.int 0) := (Arv.new A164 (by decide)).pad (pad_rep [] (.int 0) 1)
  show gG T164 m 50 #[vI p1, vI p2, vI p3, vI p4, vI p5, vI 1, vR b101, uS, uS, uS] [(.ref b164)]
  refine Go.step (fun _ kt => XS.astore X164.here hx rfl (hb hby at_50) rfl rfl (l' := #[vI p1, vI p2, vI p3, vI p4, vI p5, vI 1, vR b101, vR b164, uS, uS]) rfl (XS.iload X164.here hx rfl (hb hby at_52) rfl (XS.ifNo X164.here hx rfl (hb hby at_54) rfl ((if0 _ _).trans (tlt (by decide : (0 : Int32) < (1 : Int32))).2.2.2) (XS.aload X164.here hx rfl (hb hby at_57) rfl rfl (XS.iconst X164.here hx rfl (hb hby at_59) (XS.aload X164.here hx rfl (hb hby at_60) rfl rfl (XS.iconst X164.here hx rfl (hb hby at_62) kt))))))) ?_
  show gG T164 m 63 #[vI p1, vI p2, vI p3, vI p4, vI p5, vI 1, vR b101, vR b164, uS, uS] [(.int 0), (.ref b101), (.int 0), (.ref b164)]
  obtain ⟨cl170, Ar170, qa170, Sa170, Na170, Ha170, Ga170⟩ := (id F167)
  have hin170 : ¬ ((0 : Int32) < 0 ∨ cl170.slots.size ≤ ((0 : Int32)).toNatClampNeg) := inb_of Sa170 ⟨by decide, by decide⟩
  have hat170 : cl170.slots[((0 : Int32)).toNatClampNeg]? = some (.int (own_i (own_cpn p2))) := at_of Ha170 hin170 rfl
  refine Go.step (X164.iaload hx (j := (0 : Int32)) (v := (.int (own_i (own_cpn p2)))) (by rw [e164]; exact Ar170.1) (State.isArrayOf_alike hZ.alike Ar170.2.1) Ar170.2.2 hin170 hat170 (g := (mkF m 63 #[vI p1, vI p2, vI p3, vI p4, vI p5, vI 1, vR b101, vR b164, uS, uS] [(.int 0), (.ref b101), (.int 0), (.ref b164)])) rfl rfl (hb hby at_63)) ?_
  obtain ⟨cl171, Ar171, qa171, Sa171, Na171, Ha171, Ga171⟩ := (id V169)
  have hin171 : ¬ ((0 : Int32) < 0 ∨ cl171.slots.size ≤ ((0 : Int32)).toNatClampNeg) := inb_of Sa171 ⟨by decide, by decide⟩
  obtain ⟨T171, h171, X171, e171, W171, st171⟩ := stI X164 hx hZ e164 Ar171 (j := (0 : Int32)) hin171 (g := (mkF m 64 #[vI p1, vI p2, vI p3, vI p4, vI p5, vI 1, vR b101, vR b164, uS, uS] [(.int (own_i (own_cpn p2))), (.int 0), (.ref b164)])) rfl rfl (hb hby at_64)
  refine Go.step st171 ?_
  have V172 := Arv.set Ar171 qa171 Sa171 Na171 Ha171 Ga171 rfl W171 0 rfl (Nat.le_of_ble_eq_true rfl)
  have N171 := Fr.snoc X171 N125 g_b164
  have F173 := (F165.wr W171)
  have F174 := (F166.wr W171)
  have F175 := (F167.other W171 ne_b101_b164)
  have Z176 : n0 ≤ h171.size := (Nat.le_trans Z168 (Nat.le_of_eq W171.size.symm))
  show gG T171 m 65 #[vI p1, vI p2, vI p3, vI p4, vI p5, vI 1, vR b101, vR b164, uS, uS] []
  refine Go.step (fun _ kt => XS.iload X171.here hx rfl (hb hby at_65) rfl (XS.iconst X171.here hx rfl (hb hby at_67) (XS.icmpYes X171.here hx rfl (pc0 := 68) (pc' := 79) rfl (hb hby at_68) rfl (flt (by decide : ¬ ((1 : Int32) < (1 : Int32)))).2.2.2 (by decide) (by decide) (XS.iload X171.here hx rfl (hb hby at_79) rfl (XS.iconst X171.here hx rfl (hb hby at_81) (XS.icmpYes X171.here hx rfl (pc0 := 82) (pc' := 93) rfl (hb hby at_82) rfl (flt (by decide : ¬ ((2 : Int32) < (1 : Int32)))).2.2.2 (by decide) (by decide) (XS.iload X171.here hx rfl (hb hby at_93) rfl (XS.iconst X171.here hx rfl (hb hby at_95) (XS.icmpYes X171.here hx rfl (pc0 := 96) (pc' := 107) rfl (hb hby at_96) rfl (flt (by decide : ¬ ((3 : Int32) < (1 : Int32)))).2.2.2 (by decide) (by decide) (XS.aload X171.here hx rfl (hb hby at_107) rfl rfl kt)))))))))) ?_
  show gG T171 m 109 #[vI p1, vI p2, vI p3, vI p4, vI p5, vI 1, vR b101, vR b164, uS, uS] [(.ref b164)]
  have R177 : Arv Z h171 b164 k164 .int (own_i ([(own_cpn p2)] : List Nat).length) ((([(own_cpn p2)] : List Nat).map own_i).map Value.int) (.int 0) := V172
  obtain ⟨_, _, ⟨T178, L178, k178, n178⟩, -, X178, ⟨Lc178, hQ178, l178, y178, z178⟩, st178⟩ := Jvm.LawKit.callS X171 hx (y := Y37) hown (mvT hZ (w7 hw)) (mvT hZ (w8 hw)) (mvT hZ (w9 hw)) (mvT hZ (w10 hw)) (by decide) (backOf (W := 0) (rmenc l Z a0 hw [] b164 ([(own_cpn p2)] : List Nat) k164 cs h171 n0 Z176 R177 F173 hcs (Nat.le_of_ble_eq_true rfl) (by intro z hz; simp only [List.mem_cons, List.not_mem_nil, or_false] at hz; rcases hz with rfl <;> exact own_cpn_le _)) hZ (w10 hw) (w9 hw) (by decide) (by decide)) (g := (mkF m 109 #[vI p1, vI p2, vI p3, vI p4, vI p5, vI 1, vR b101, vR b164, uS, uS] [(.ref b164)])) rfl hml.symm (argsL := [(.ref b164)]) (rest := []) (lenOf pd_27 rfl) rfl (Nat.le_of_eq rfl) (hb hby at_109) (fun _ _ => ⟨rfl, e171, (by decide : 2 + 5 ≤ _), (by decide : 5 + 92 ≤ _)⟩)
  dsimp only [Pt.U, Pt.locs, Pt.cells, Pt.slots] at X178 l178 y178 z178 st178 hQ178
  subst l178 y178 z178
  obtain ⟨b178r, b178b, b178kr, rfl, N178q, Kq178, P179, P180, P181, P182, g_b178r, szq_b178r, g_b178b, szq_b178b⟩ := hQ178
  have ne_b101_b178r : b101 ≠ b178r := Nat.ne_of_lt (Nat.lt_of_lt_of_le F175.lt szq_b178r)
  have ne_b164_b178r : b164 ≠ b178r := Nat.ne_of_lt (Nat.lt_of_lt_of_le R177.lt szq_b178r)
  have ne_b101_b178b : b101 ≠ b178b := Nat.ne_of_lt (Nat.lt_of_lt_of_le F175.lt szq_b178b)
  have ne_b164_b178b : b164 ≠ b178b := Nat.ne_of_lt (Nat.lt_of_lt_of_le R177.lt szq_b178b)
  have F183 := (own_sta_keep F173 Kq178 (by intro x hx; cases hx))
  have F184 := (own_sta_keep F174 Kq178 (by intro x hx; cases hx))
  have F185 := (F175.keep Kq178 (by simp))
  have F186 := (R177.keep Kq178 (by simp))
  have Z187 : n0 ≤ T178.heap.size := (Nat.le_trans Z176 Kq178.1)
  have N178 := Fr.app N171 N178q
  refine Go.step st178 ?_
  show gG T178 m 112 #[vI p1, vI p2, vI p3, vI p4, vI p5, vI 1, vR b101, vR b164, uS, uS] [(.ref b178r)]
  refine Go.step (fun _ kt => XS.astore X178.here hx rfl (hb hby at_112) rfl rfl (l' := #[vI p1, vI p2, vI p3, vI p4, vI p5, vI 1, vR b101, vR b164, vR b178r, uS]) rfl (XS.aload X178.here hx rfl (hb hby at_114) rfl rfl kt)) ?_
  obtain ⟨_, _, ⟨T188, L188, k188, n188⟩, -, X188, ⟨Lc188, hQ188, l188, y188, z188⟩, st188⟩ := Jvm.LawKit.callS X178 hx (y := Y38) hown (mvT hZ (w94 hw)) (mvT hZ (w95 hw)) (mvT hZ (w9 hw)) (mvT hZ (w96 hw)) (by decide) (backOf (W := 0) (rmdec l Z a0 hw [] b178r ([(own_cpn p2)] : List Nat) (own_txt ([(own_cpn p2)] : List Nat)) b178b b178kr cs fo T178.heap n0 Z187 P179 P180 P181 P182 F183 F184 hcs hfo (Nat.le_of_ble_eq_true rfl) (by intro z hz; simp only [List.mem_cons, List.not_mem_nil, or_false] at hz; rcases hz with rfl <;> exact own_cpn_le _) rfl) hZ (w96 hw) (w9 hw) (by decide) (by decide)) (g := (mkF m 116 #[vI p1, vI p2, vI p3, vI p4, vI p5, vI 1, vR b101, vR b164, vR b178r, uS] [(.ref b178r)])) rfl hml.symm (argsL := [(.ref b178r)]) (rest := []) (lenOf pd_28 rfl) rfl (Nat.le_of_eq rfl) (hb hby at_116) (fun _ _ => ⟨rfl, rfl, (by decide : 7 + 2 ≤ _), (by decide : 97 + 68 ≤ _)⟩)
  dsimp only [Pt.U, Pt.locs, Pt.cells, Pt.slots] at X188 l188 y188 z188 st188 hQ188
  subst l188 y188 z188
  obtain ⟨b188r, b188kr, rfl, N188q, Kq188, P189, g_b188r, szq_b188r⟩ := hQ188
  have ne_b101_b188r : b101 ≠ b188r := Nat.ne_of_lt (Nat.lt_of_lt_of_le F185.lt szq_b188r)
  have ne_b164_b188r : b164 ≠ b188r := Nat.ne_of_lt (Nat.lt_of_lt_of_le F186.lt szq_b188r)
  have ne_b178r_b188r : b178r ≠ b188r := Nat.ne_of_lt (Nat.lt_of_lt_of_le P179.lt szq_b188r)
  have ne_b178b_b188r : b178b ≠ b188r := Nat.ne_of_lt (Nat.lt_of_lt_of_le P182.lt szq_b188r)
  have F190 := (own_sta_keep F183 Kq188 (by intro x hx; cases hx))
  have F191 := (own_sta_keep F184 Kq188 (by intro x hx; cases hx))
  have F192 := (F185.keep Kq188 (by simp))
  have F193 := (F186.keep Kq188 (by simp))
  have F194 := (P179.keep Kq188)
  have F195 := (P180.keep Kq188 (by simp))
  have F196 := (P181.keep Kq188 (by simp))
  have F197 := (P182.keep Kq188 (by simp))
  have Z198 : n0 ≤ T188.heap.size := (Nat.le_trans Z187 Kq188.1)
  have N188 := Fr.app N178 N188q
  refine Go.step st188 ?_
  show gG T188 m 119 #[vI p1, vI p2, vI p3, vI p4, vI p5, vI 1, vR b101, vR b164, vR b178r, uS] [(.ref b188r)]
  refine Go.step (fun _ kt => XS.astore X188.here hx rfl (hb hby at_119) rfl rfl (l' := #[vI p1, vI p2, vI p3, vI p4, vI p5, vI 1, vR b101, vR b164, vR b178r, vR b188r]) rfl kt) ?_
  show gG T188 m 121 #[vI p1, vI p2, vI p3, vI p4, vI p5, vI 1, vR b101, vR b164, vR b178r, vR b188r] []
  have R199 : Arv Z T188.heap b188r b188kr .int 1 [(.int (own_i (own_cpn p2)))] (.int 0) := P189
  refine Go.step (fun _ kt => XS.aload X188.here hx rfl (hb hby at_121) rfl rfl (XS.ifnullNo X188.here hx rfl (hb hby at_123) rfl (XS.aload X188.here hx rfl (hb hby at_126) rfl rfl kt))) ?_
  obtain ⟨cl200, Ar200, qa200, Sa200, Na200, Ha200, Ga200⟩ := (id R199)
  refine Go.step (X188.arraylength hx Ar200.1 (State.isArrayOf_alike hZ.alike Ar200.2.1) (g := (mkF m 128 #[vI p1, vI p2, vI p3, vI p4, vI p5, vI 1, vR b101, vR b164, vR b178r, vR b188r] [(.ref b188r)])) rfl rfl (hb hby at_128)) ?_
  rw [len_of Sa200 Na200]
  show gG T188 m 129 #[vI p1, vI p2, vI p3, vI p4, vI p5, vI 1, vR b101, vR b164, vR b178r, vR b188r] [(.int 1)]
  refine Go.step (fun _ kt => XS.iload X188.here hx rfl (hb hby at_129) rfl (XS.icmpYes X188.here hx rfl (pc0 := 131) (pc' := 136) rfl (hb hby at_131) rfl (teq (by decide : (1 : Int32) = (1 : Int32))).1 (by decide) (by decide) (XS.aload X188.here hx rfl (hb hby at_136) rfl rfl (XS.aload X188.here hx rfl (hb hby at_138) rfl rfl (XS.iconst X188.here hx rfl (hb hby at_140) kt))))) ?_
  show gG T188 m 141 #[vI p1, vI p2, vI p3, vI p4, vI p5, vI 1, vR b101, vR b164, vR b178r, vR b188r] [(.int 0), (.ref b101), (.ref b188r)]
  obtain ⟨_, _, ⟨T201, L201, k201, n201⟩, -, X201, ⟨Lc201, hQ201, l201, y201, z201⟩, st201⟩ := Jvm.LawKit.callS X188 hx (y := Y40) hown (mvT hZ (w148 hw)) (mvT hZ (w149 hw)) (mvT hZ (w4 hw)) (mvT hZ (w150 hw)) (by decide) (backOf (W := 0) (rmsmb l Z a0 hw [] b188r b101 0 b188kr k101 (1 : Int32) ([(own_i (own_cpn p2))] : List Int32) (4 : Int32) ([(own_i (own_cpn p2)), (own_i (own_cpn p3)), (own_i (own_cpn p4)), (own_i (own_cpn p5))] : List Int32) T188.heap n0 Z198 R199 F192 (by decide) (by decide) (by decide) (by decide) rfl) hZ (w150 hw) (w4 hw) (by decide) (by decide)) (g := (mkF m 141 #[vI p1, vI p2, vI p3, vI p4, vI p5, vI 1, vR b101, vR b164, vR b178r, vR b188r] [(.int 0), (.ref b101), (.ref b188r)])) rfl hml.symm (argsL := [(.ref b188r), (.ref b101), (.int 0)]) (rest := []) (lenOf pd_29 rfl) rfl (Nat.le_of_eq rfl) (hb hby at_141) (fun _ _ => ⟨rfl, rfl, (by decide : 9 + 0 ≤ _), (by decide : 165 + 0 ≤ _)⟩)
  dsimp only [Pt.U, Pt.locs, Pt.cells, Pt.slots] at X201 l201 y201 z201 st201 hQ201
  subst l201 y201 z201
  obtain ⟨rfl, N201q, eh201⟩ := hQ201
  have N201 := Fr.app N188 N201q
  refine Go.step st201 ?_
  show gG T201 m 144 #[vI p1, vI p2, vI p3, vI p4, vI p5, vI 1, vR b101, vR b164, vR b178r, vR b188r] [(.int 1)]
  refine Go.step (fun _ kt => XS.ifNo X201.here hx rfl (hb hby at_144) rfl ((if0 _ _).trans (feq (by decide : ¬ ((1 : Int32) = (0 : Int32)))).1) (XS.aload X201.here hx rfl (hb hby at_147) rfl rfl (XS.aload X201.here hx rfl (hb hby at_149) rfl rfl (XS.iconst X201.here hx rfl (hb hby at_151) kt)))) ?_
  show gG T201 m 152 #[vI p1, vI p2, vI p3, vI p4, vI p5, vI 1, vR b101, vR b164, vR b178r, vR b188r] [(.int 1), (.ref b101), (.ref b188r)]
  obtain ⟨_, _, ⟨T202, L202, k202, n202⟩, -, X202, ⟨Lc202, hQ202, l202, y202, z202⟩, st202⟩ := Jvm.LawKit.callS X201 hx (y := Y40) hown (mvT hZ (w148 hw)) (mvT hZ (w149 hw)) (mvT hZ (w4 hw)) (mvT hZ (w150 hw)) (by decide) (backOf (W := 0) (rmsma l Z a0 hw [] b188r b101 (1 : Int32) b188kr (1 : Int32) ([(own_i (own_cpn p2))] : List Int32) T188.heap n0 Z198 R199 (by decide)) hZ (w150 hw) (w4 hw) (by decide) (by decide)) (g := (mkF m 152 #[vI p1, vI p2, vI p3, vI p4, vI p5, vI 1, vR b101, vR b164, vR b178r, vR b188r] [(.int 1), (.ref b101), (.ref b188r)])) rfl hml.symm (argsL := [(.ref b188r), (.ref b101), (.int 1)]) (rest := []) (lenOf pd_29 rfl) rfl (Nat.le_of_eq rfl) (hb hby at_152) (fun _ _ => ⟨rfl, eh201, (by decide : 9 + 0 ≤ _), (by decide : 165 + 0 ≤ _)⟩)
  dsimp only [Pt.U, Pt.locs, Pt.cells, Pt.slots] at X202 l202 y202 z202 st202 hQ202
  subst l202 y202 z202
  obtain ⟨rfl, N202q, eh202⟩ := hQ202
  have N202 := Fr.app N201 N202q
  refine Go.step st202 ?_
  show gG T202 m 155 #[vI p1, vI p2, vI p3, vI p4, vI p5, vI 1, vR b101, vR b164, vR b178r, vR b188r] [(.int 1)]
  refine Go.step (fun _ kt => XS.ifNo X202.here hx rfl (hb hby at_155) rfl ((if0 _ _).trans (feq (by decide : ¬ ((1 : Int32) = (0 : Int32)))).1) (XS.aload X202.here hx rfl (hb hby at_158) rfl rfl (XS.aload X202.here hx rfl (hb hby at_160) rfl rfl (XS.iconst X202.here hx rfl (hb hby at_162) kt)))) ?_
  show gG T202 m 163 #[vI p1, vI p2, vI p3, vI p4, vI p5, vI 1, vR b101, vR b164, vR b178r, vR b188r] [(.int 2), (.ref b101), (.ref b188r)]
  obtain ⟨_, _, ⟨T203, L203, k203, n203⟩, -, X203, ⟨Lc203, hQ203, l203, y203, z203⟩, st203⟩ := Jvm.LawKit.callS X202 hx (y := Y40) hown (mvT hZ (w148 hw)) (mvT hZ (w149 hw)) (mvT hZ (w4 hw)) (mvT hZ (w150 hw)) (by decide) (backOf (W := 0) (rmsma l Z a0 hw [] b188r b101 (2 : Int32) b188kr (1 : Int32) ([(own_i (own_cpn p2))] : List Int32) T188.heap n0 Z198 R199 (by decide)) hZ (w150 hw) (w4 hw) (by decide) (by decide)) (g := (mkF m 163 #[vI p1, vI p2, vI p3, vI p4, vI p5, vI 1, vR b101, vR b164, vR b178r, vR b188r] [(.int 2), (.ref b101), (.ref b188r)])) rfl hml.symm (argsL := [(.ref b188r), (.ref b101), (.int 2)]) (rest := []) (lenOf pd_29 rfl) rfl (Nat.le_of_eq rfl) (hb hby at_163) (fun _ _ => ⟨rfl, eh202, (by decide : 9 + 0 ≤ _), (by decide : 165 + 0 ≤ _)⟩)
  dsimp only [Pt.U, Pt.locs, Pt.cells, Pt.slots] at X203 l203 y203 z203 st203 hQ203
  subst l203 y203 z203
  obtain ⟨rfl, N203q, eh203⟩ := hQ203
  have N203 := Fr.app N202 N203q
  refine Go.step st203 ?_
  show gG T203 m 166 #[vI p1, vI p2, vI p3, vI p4, vI p5, vI 1, vR b101, vR b164, vR b178r, vR b188r] [(.int 1)]
  refine Go.step (fun _ kt => XS.ifNo X203.here hx rfl (hb hby at_166) rfl ((if0 _ _).trans (feq (by decide : ¬ ((1 : Int32) = (0 : Int32)))).1) (XS.aload X203.here hx rfl (hb hby at_169) rfl rfl (XS.aload X203.here hx rfl (hb hby at_171) rfl rfl (XS.iconst X203.here hx rfl (hb hby at_173) kt)))) ?_
  show gG T203 m 174 #[vI p1, vI p2, vI p3, vI p4, vI p5, vI 1, vR b101, vR b164, vR b178r, vR b188r] [(.int 3), (.ref b101), (.ref b188r)]
  obtain ⟨_, _, ⟨T204, L204, k204, n204⟩, -, X204, ⟨Lc204, hQ204, l204, y204, z204⟩, st204⟩ := Jvm.LawKit.callS X203 hx (y := Y40) hown (mvT hZ (w148 hw)) (mvT hZ (w149 hw)) (mvT hZ (w4 hw)) (mvT hZ (w150 hw)) (by decide) (backOf (W := 0) (rmsma l Z a0 hw [] b188r b101 (3 : Int32) b188kr (1 : Int32) ([(own_i (own_cpn p2))] : List Int32) T188.heap n0 Z198 R199 (by decide)) hZ (w150 hw) (w4 hw) (by decide) (by decide)) (g := (mkF m 174 #[vI p1, vI p2, vI p3, vI p4, vI p5, vI 1, vR b101, vR b164, vR b178r, vR b188r] [(.int 3), (.ref b101), (.ref b188r)])) rfl hml.symm (argsL := [(.ref b188r), (.ref b101), (.int 3)]) (rest := []) (lenOf pd_29 rfl) rfl (Nat.le_of_eq rfl) (hb hby at_174) (fun _ _ => ⟨rfl, eh203, (by decide : 9 + 0 ≤ _), (by decide : 165 + 0 ≤ _)⟩)
  dsimp only [Pt.U, Pt.locs, Pt.cells, Pt.slots] at X204 l204 y204 z204 st204 hQ204
  subst l204 y204 z204
  obtain ⟨rfl, N204q, eh204⟩ := hQ204
  have N204 := Fr.app N203 N204q
  refine Go.step st204 ?_
  show gG T204 m 177 #[vI p1, vI p2, vI p3, vI p4, vI p5, vI 1, vR b101, vR b164, vR b178r, vR b188r] [(.int 1)]
  refine Go.step (fun _ kt => XS.ifNo X204.here hx rfl (hb hby at_177) rfl ((if0 _ _).trans (feq (by decide : ¬ ((1 : Int32) = (0 : Int32)))).1) (XS.iconst X204.here hx rfl (hb hby at_180) (XS.goto X204.here hx rfl (pc0 := 181) (pc' := 185) rfl (hb hby at_181) (by decide) (by decide) kt))) ?_
  show gG T204 m 185 #[vI p1, vI p2, vI p3, vI p4, vI p5, vI 1, vR b101, vR b164, vR b178r, vR b188r] [(.int 1)]
  obtain ⟨fs, hr, hrun, hended, hW, hsame⟩ := X204.leave (v := some (.int 1)) (fun h => by rw [Bd.returns] at h; cases h)
  refine ⟨_, _, retN X204 hx (t := .boolean) Bd.returns (by simp) (hb hby at_185) hr, hrun, hended, _, _, rfl, ?_, ⟨_, rfl⟩, hW, hsame.mono (by decide) (by decide)⟩
  show Qrm0 Z p1 p2 p3 p4 p5 cs fo h0 n0 _ T204.heap _
  rw [eh204]
  exact ⟨rfl, N204⟩
 ·rw [hk]
  show gG T125 m 46 #[vI p1, vI p2, vI p3, vI p4, vI p5, vI 2, vR b101, uS, uS, uS] []
  refine Go.step (fun _ kt => XS.iload X125.here hx rfl (hb hby at_46) rfl kt) ?_
  obtain ⟨T205, h205, k205, X205, e205, E205, A205, st205⟩ := newP (aty := .int) X125 hx hZ (w1 hw) e125 (g := (mkF m 48 #[vI p1, vI p2, vI p3, vI p4, vI p5, vI 2, vR b101, uS, uS, uS] [(.int 2)])) rfl (hb hby at_48) rfl (by decide) (cap := 2) (by decide) (by decide) (by decide) (by decide)
  obtain ⟨b205, g205⟩ : ∃ z, z = h125.size := ⟨_, rfl⟩
  rw [← g205] at A205 st205
  refine Go.step st205 ?_
  have ne_b101_b205 : b101 ≠ b205 := Nat.ne_of_lt (Nat.lt_of_lt_of_le V126.lt (Nat.le_of_eq g205.symm))
  have g_b205 : n0 ≤ b205 := Nat.le_trans Z129 (Nat.le_of_eq g205.symm)
  have F206 := (F127.ext E205)
  have F207 := (F128.ext E205)
  have F208 : Arv Z h205 b101 k101 .int 4 [(.int (own_i (own_cpn p2))), (.int (own_i (own_cpn p3))), (.int (own_i (own_cpn p4))), (.int (own_i (own_cpn p5)))] (.int 0) := (V126.ext E205)
  have Z209 : n0 ≤ h205.size := (Nat.le_trans Z129 E205.1)
  have V210 : Arv Z h205 b205 k205 .int 2 [(.int 0), (.int 0)] (.int 0) := (Arv.new A205 (by decide)).pad (pad_rep [] (.int 0) 2)
  show gG T205 m 50 #[vI p1, vI p2, vI p3, vI p4, vI p5, vI 2, vR b101, uS, uS, uS] [(.ref b205)]
  refine Go.step (fun _ kt => XS.astore X205.here hx rfl (hb hby at_50) rfl rfl (l' := #[vI p1, vI p2, vI p3, vI p4, vI p5, vI 2, vR b101, vR b205, uS, uS]) rfl (XS.iload X205.here hx rfl (hb hby at_52) rfl (XS.ifNo X205.here hx rfl (hb hby at_54) rfl ((if0 _ _).trans (tlt (by decide : (0 : Int32) < (2 : Int32))).2.2.2) (XS.aload X205.here hx rfl (hb hby at_57) rfl rfl (XS.iconst X205.here hx rfl (hb hby at_59) (XS.aload X205.here hx rfl (hb hby at_60) rfl rfl (XS.iconst X205.here hx rfl (hb hby at_62) kt))))))) ?_
  show gG T205 m 63 #[vI p1, vI p2, vI p3, vI p4, vI p5, vI 2, vR b101, vR b205, uS, uS] [(.int 0), (.ref b101), (.int 0), (.ref b205)]
  obtain ⟨cl211, Ar211, qa211, Sa211, Na211, Ha211, Ga211⟩ := (id F208)
  have hin211 : ¬ ((0 : Int32) < 0 ∨ cl211.slots.size ≤ ((0 : Int32)).toNatClampNeg) := inb_of Sa211 ⟨by decide, by decide⟩
  have hat211 : cl211.slots[((0 : Int32)).toNatClampNeg]? = some (.int (own_i (own_cpn p2))) := at_of Ha211 hin211 rfl
  refine Go.step (X205.iaload hx (j := (0 : Int32)) (v := (.int (own_i (own_cpn p2)))) (by rw [e205]; exact Ar211.1) (State.isArrayOf_alike hZ.alike Ar211.2.1) Ar211.2.2 hin211 hat211 (g := (mkF m 63 #[vI p1, vI p2, vI p3, vI p4, vI p5, vI 2, vR b101, vR b205, uS, uS] [(.int 0), (.ref b101), (.int 0), (.ref b205)])) rfl rfl (hb hby at_63)) ?_
  obtain ⟨cl212, Ar212, qa212, Sa212, Na212, Ha212, Ga212⟩ := (id V210)
  have hin212 : ¬ ((0 : Int32) < 0 ∨ cl212.slots.size ≤ ((0 : Int32)).toNatClampNeg) := inb_of Sa212 ⟨by decide, by decide⟩
  obtain ⟨T212, h212, X212, e212, W212, st212⟩ := stI X205 hx hZ e205 Ar212 (j := (0 : Int32)) hin212 (g := (mkF m 64 #[vI p1, vI p2, vI p3, vI p4, vI p5, vI 2, vR b101, vR b205, uS, uS] [(.int (own_i (own_cpn p2))), (.int 0), (.ref b205)])) rfl rfl (hb hby at_64)
  refine Go.step st212 ?_
  have V213 := Arv.set Ar212 qa212 Sa212 Na212 Ha212 Ga212 rfl W212 0 rfl (Nat.le_of_ble_eq_true rfl)
  have N212 := Fr.snoc X212 N125 g_b205
  have F214 := (F206.wr W212)
  have F215 := (F207.wr W212)
  have F216 := (F208.other W212 ne_b101_b205)
  have Z217 : n0 ≤ h212.size := (Nat.le_trans Z209 (Nat.le_of_eq W212.size.symm))
  show gG T212 m 65 #[vI p1, vI p2, vI p3, vI p4, vI p5, vI 2, vR b101, vR b205, uS, uS] []
  refine Go.step (fun _ kt => XS.iload X212.here hx rfl (hb hby at_65) rfl (XS.iconst X212.here hx rfl (hb hby at_67) (XS.icmpNo X212.here hx rfl (hb hby at_68) rfl (tlt (by decide : (1 : Int32) < (2 : Int32))).2.2.2 (XS.aload X212.here hx rfl (hb hby at_71) rfl rfl (XS.iconst X212.here hx rfl (hb hby at_73) (XS.aload X212.here hx rfl (hb hby at_74) rfl rfl (XS.iconst X212.here hx rfl (hb hby at_76) kt))))))) ?_
  show gG T212 m 77 #[vI p1, vI p2, vI p3, vI p4, vI p5, vI 2, vR b101, vR b205, uS, uS] [(.int 1), (.ref b101), (.int 1), (.ref b205)]
  obtain ⟨cl218, Ar218, qa218, Sa218, Na218, Ha218, Ga218⟩ := (id F216)
  have hin218 : ¬ ((1 : Int32) < 0 ∨ cl218.slots.size ≤ ((1 : Int32)).toNatClampNeg) := inb_of Sa218 ⟨by decide, by decide⟩
  have hat218 : cl218.slots[((1 : Int32)).toNatClampNeg]? = some (.int (own_i (own_cpn p3))) := at_of Ha218 hin218 rfl
  refine Go.step (X212.iaload hx (j := (1 : Int32)) (v := (.int (own_i (own_cpn p3)))) (by rw [e212]; exact Ar218.1) (State.isArrayOf_alike hZ.alike Ar218.2.1) Ar218.2.2 hin218 hat218 (g := (mkF m 77 #[vI p1, vI p2, vI p3, vI p4, vI p5, vI 2, vR b101, vR b205, uS, uS] [(.int 1), (.ref b101), (.int 1), (.ref b205)])) rfl rfl (hb hby at_77)) ?_
  obtain ⟨cl219, Ar219, qa219, Sa219, Na219, Ha219, Ga219⟩ := (id V213)
  have hin219 : ¬ ((1 : Int32) < 0 ∨ cl219.slots.size ≤ ((1 : Int32)).toNatClampNeg) := inb_of Sa219 ⟨by decide, by decide⟩
  obtain ⟨T219, h219, X219, e219, W219, st219⟩ := stI X212 hx hZ e212 Ar219 (j := (1 : Int32)) hin219 (g := (mkF m 78 #[vI p1, vI p2, vI p3, vI p4, vI p5, vI 2, vR b101, vR b205, uS, uS] [(.int (own_i (own_cpn p3))), (.int 1), (.ref b205)])) rfl rfl (hb hby at_78)
  refine Go.step st219 ?_
  have V220 := Arv.set Ar219 qa219 Sa219 Na219 Ha219 Ga219 rfl W219 1 rfl (Nat.le_of_ble_eq_true rfl)
  have N219 := Fr.snoc X219 N212 g_b205
  have F221 := (F214.wr W219)
  have F222 := (F215.wr W219)
  have F223 := (F216.other W219 ne_b101_b205)
  have Z224 : n0 ≤ h219.size := (Nat.le_trans Z217 (Nat.le_of_eq W219.size.symm))
  show gG T219 m 79 #[vI p1, vI p2, vI p3, vI p4, vI p5, vI 2, vR b101, vR b205, uS, uS] []
  refine Go.step (fun _ kt => XS.iload X219.here hx rfl (hb hby at_79) rfl (XS.iconst X219.here hx rfl (hb hby at_81) (XS.icmpYes X219.here hx rfl (pc0 := 82) (pc' := 93) rfl (hb hby at_82) rfl (flt (by decide : ¬ ((2 : Int32) < (2 : Int32)))).2.2.2 (by decide) (by decide) (XS.iload X219.here hx rfl (hb hby at_93) rfl (XS.iconst X219.here hx rfl (hb hby at_95) (XS.icmpYes X219.here hx rfl (pc0 := 96) (pc' := 107) rfl (hb hby at_96) rfl (flt (by decide : ¬ ((3 : Int32) < (2 : Int32)))).2.2.2 (by decide) (by decide) (XS.aload X219.here hx rfl (hb hby at_107) rfl rfl kt))))))) ?_
  show gG T219 m 109 #[vI p1, vI p2, vI p3, vI p4, vI p5, vI 2, vR b101, vR b205, uS, uS] [(.ref b205)]
  have R225 : Arv Z h219 b205 k205 .int (own_i ([(own_cpn p2), (own_cpn p3)] : List Nat).length) ((([(own_cpn p2), (own_cpn p3)] : List Nat).map own_i).map Value.int) (.int 0) := V220
  obtain ⟨_, _, ⟨T226, L226, k226, n226⟩, -, X226, ⟨Lc226, hQ226, l226, y226, z226⟩, st226⟩ := Jvm.LawKit.callS X219 hx (y := Y37) hown (mvT hZ (w7 hw)) (mvT hZ (w8 hw)) (mvT hZ (w9 hw)) (mvT hZ (w10 hw)) (by decide) (backOf (W := 0) (rmenc l Z a0 hw [] b205 ([(own_cpn p2), (own_cpn p3)] : List Nat) k205 cs h219 n0 Z224 R225 F221 hcs (Nat.le_of_ble_eq_true rfl) (by intro z hz; simp only [List.mem_cons, List.not_mem_nil, or_false] at hz; rcases hz with rfl | rfl <;> exact own_cpn_le _)) hZ (w10 hw) (w9 hw) (by decide) (by decide)) (g := (mkF m 109 #[vI p1, vI p2, vI p3, vI p4, vI p5, vI 2, vR b101, vR b205, uS, uS] [(.ref b205)])) rfl hml.symm (argsL := [(.ref b205)]) (rest := []) (lenOf pd_27 rfl) rfl (Nat.le_of_eq rfl) (hb hby at_109) (fun _ _ => ⟨rfl, e219, (by decide : 2 + 5 ≤ _), (by decide : 6 + 92 ≤ _)⟩)
  dsimp only [Pt.U, Pt.locs, Pt.cells, Pt.slots] at X226 l226 y226 z226 st226 hQ226
  subst l226 y226 z226
  obtain ⟨b226r, b226b, b226kr, rfl, N226q, Kq226, P227, P228, P229, P230, g_b226r, szq_b226r, g_b226b, szq_b226b⟩ := hQ226
  have ne_b101_b226r : b101 ≠ b226r := Nat.ne_of_lt (Nat.lt_of_lt_of_le F223.lt szq_b226r)
  have ne_b205_b226r : b205 ≠ b226r := Nat.ne_of_lt (Nat.lt_of_lt_of_le R225.lt szq_b226r)
  have ne_b101_b226b : b101 ≠ b226b := Nat.ne_of_lt (Nat.lt_of_lt_of_le F223.lt szq_b226b)
  have ne_b205_b226b : b205 ≠ b226b := Nat.ne_of_lt (Nat.lt_of_lt_of_le R225.lt szq_b226b)
  have F231 := (own_sta_keep F221 Kq226 (by intro x hx; cases hx))
  have F232 := (own_sta_keep F222 Kq226 (by intro x hx; cases hx))
  have F233 := (F223.keep Kq226 (by simp))
  have F234 := (R225.keep Kq226 (by simp))
  have Z235 : n0 ≤ T226.heap.size := (Nat.le_trans Z224 Kq226.1)
  have N226 := Fr.app N219 N226q
  refine Go.step st226 ?_
  show gG T226 m 112 #[vI p1, vI p2, vI p3, vI p4, vI p5, vI 2, vR b101, vR b205, uS, uS] [(.ref b226r)]
  refine Go.step (fun _ kt => XS.astore X226.here hx rfl (hb hby at_112) rfl rfl (l' := #[vI p1, vI p2, vI p3, vI p4, vI p5, vI 2, vR b101, vR b205, vR b226r, uS]) rfl (XS.aload X226.here hx rfl (hb hby at_114) rfl rfl kt)) ?_
  obtain ⟨_, _, ⟨T236, L236, k236, n236⟩, -, X236, ⟨Lc236, hQ236, l236, y236, z236⟩, st236⟩ := Jvm.LawKit.callS X226 hx (y := Y38) hown (mvT hZ (w94 hw)) (mvT hZ (w95 hw)) (mvT hZ (w9 hw)) (mvT hZ (w96 hw)) (by decide) (backOf (W := 0) (rmdec l Z a0 hw [] b226r ([(own_cpn p2), (own_cpn p3)] : List Nat) (own_txt ([(own_cpn p2), (own_cpn p3)] : List Nat)) b226b b226kr cs fo T226.heap n0 Z235 P227 P228 P229 P230 F231 F232 hcs hfo (Nat.le_of_ble_eq_true rfl) (by intro z hz; simp only [List.mem_cons, List.not_mem_nil, or_false] at hz; rcases hz with rfl | rfl <;> exact own_cpn_le _) rfl) hZ (w96 hw) (w9 hw) (by decide) (by decide)) (g := (mkF m 116 #[vI p1, vI p2, vI p3, vI p4, vI p5, vI 2, vR b101, vR b205, vR b226r, uS] [(.ref b226r)])) rfl hml.symm (argsL := [(.ref b226r)]) (rest := []) (lenOf pd_28 rfl) rfl (Nat.le_of_eq rfl) (hb hby at_116) (fun _ _ => ⟨rfl, rfl, (by decide : 7 + 2 ≤ _), (by decide : 98 + 68 ≤ _)⟩)
  dsimp only [Pt.U, Pt.locs, Pt.cells, Pt.slots] at X236 l236 y236 z236 st236 hQ236
  subst l236 y236 z236
  obtain ⟨b236r, b236kr, rfl, N236q, Kq236, P237, g_b236r, szq_b236r⟩ := hQ236
  have ne_b101_b236r : b101 ≠ b236r := Nat.ne_of_lt (Nat.lt_of_lt_of_le F233.lt szq_b236r)
  have ne_b205_b236r : b205 ≠ b236r := Nat.ne_of_lt (Nat.lt_of_lt_of_le F234.lt szq_b236r)
  have ne_b226r_b236r : b226r ≠ b236r := Nat.ne_of_lt (Nat.lt_of_lt_of_le P227.lt szq_b236r)
  have ne_b226b_b236r : b226b ≠ b236r := Nat.ne_of_lt (Nat.lt_of_lt_of_le P230.lt szq_b236r)
  have F238 := (own_sta_keep F231 Kq236 (by intro x hx; cases hx))
  have F239 := (own_sta_keep F232 Kq236 (by intro x hx; cases hx))
  have F240 := (F233.keep Kq236 (by simp))
  have F241 := (F234.keep Kq236 (by simp))
  have F242 := (P227.keep Kq236)
  have F243 := (P228.keep Kq236 (by simp))
  have F244 := (P229.keep Kq236 (by simp))
  have F245 := (P230.keep Kq236 (by simp))
  have Z246 : n0 ≤ T236.heap.size := (Nat.le_trans Z235 Kq236.1)
  have N236 := Fr.app N226 N236q
  refine Go.step st236 ?_
  show gG T236 m 119 #[vI p1, vI p2, vI p3, vI p4, vI p5, vI 2, vR b101, vR b205, vR b226r, uS] [(.ref b236r)]
  refine Go.step (fun _ kt => XS.astore X236.here hx rfl (hb hby at_119) rfl rfl (l' := #[vI p1, vI p2, vI p3, vI p4, vI p5, vI 2, vR b101, vR b205, vR b226r, vR b236r]) rfl kt) ?_
  show gG T236 m 121 #[vI p1, vI p2, vI p3, vI p4, vI p5, vI 2, vR b101, vR b205, vR b226r, vR b236r] []
  have R247 : Arv Z T236.heap b236r b236kr .int 2 [(.int (own_i (own_cpn p2))), (.int (own_i (own_cpn p3)))] (.int 0) := P237
  refine Go.step (fun _ kt => XS.aload X236.here hx rfl (hb hby at_121) rfl rfl (XS.ifnullNo X236.here hx rfl (hb hby at_123) rfl (XS.aload X236.here hx rfl (hb hby at_126) rfl rfl kt))) ?_
  obtain ⟨cl248, Ar248, qa248, Sa248, Na248, Ha248, Ga248⟩ := (id R247)
  refine Go.step (X236.arraylength hx Ar248.1 (State.isArrayOf_alike hZ.alike Ar248.2.1) (g := (mkF m 128 #[vI p1, vI p2, vI p3, vI p4, vI p5, vI 2, vR b101, vR b205, vR b226r, vR b236r] [(.ref b236r)])) rfl rfl (hb hby at_128)) ?_
  rw [len_of Sa248 Na248]
  show gG T236 m 129 #[vI p1, vI p2, vI p3, vI p4, vI p5, vI 2, vR b101, vR b205, vR b226r, vR b236r] [(.int 2)]
  refine Go.step (fun _ kt => XS.iload X236.here hx rfl (hb hby at_129) rfl (XS.icmpYes X236.here hx rfl (pc0 := 131) (pc' := 136) rfl (hb hby at_131) rfl (teq (by decide : (2 : Int32) = (2 : Int32))).1 (by decide) (by decide) (XS.aload X236.here hx rfl (hb hby at_136) rfl rfl (XS.aload X236.here hx rfl (hb hby at_138) rfl rfl (XS.iconst X236.here hx rfl (hb hby at_140) kt))))) ?_
  show gG T236 m 141 #[vI p1, vI p2, vI p3, vI p4, vI p5, vI 2, vR b101, vR b205, vR b226r, vR b236r] [(.int 0), (.ref b101), (.ref b236r)]
  obtain ⟨_, _, ⟨T249, L249, k249, n249⟩, -, X249, ⟨Lc249, hQ249, l249, y249, z249⟩, st249⟩ := Jvm.LawKit.callS X236 hx (y := Y40) hown (mvT hZ (w148 hw)) (mvT hZ (w149 hw)) (mvT hZ (w4 hw)) (mvT hZ (w150 hw)) (by decide) (backOf (W := 0) (rmsmb l Z a0 hw [] b236r b101 0 b236kr k101 (2 : Int32) ([(own_i (own_cpn p2)), (own_i (own_cpn p3))] : List Int32) (4 : Int32) ([(own_i (own_cpn p2)), (own_i (own_cpn p3)), (own_i (own_cpn p4)), (own_i (own_cpn p5))] : List Int32) T236.heap n0 Z246 R247 F240 (by decide) (by decide) (by decide) (by decide) rfl) hZ (w150 hw) (w4 hw) (by decide) (by decide)) (g := (mkF m 141 #[vI p1, vI p2, vI p3, vI p4, vI p5, vI 2, vR b101, vR b205, vR b226r, vR b236r] [(.int 0), (.ref b101), (.ref b236r)])) rfl hml.symm (argsL := [(.ref b236r), (.ref b101), (.int 0)]) (rest := []) (lenOf pd_29 rfl) rfl (Nat.le_of_eq rfl) (hb hby at_141) (fun _ _ => ⟨rfl, rfl, (by decide : 9 + 0 ≤ _), (by decide : 166 + 0 ≤ _)⟩)
  dsimp only [Pt.U, Pt.locs, Pt.cells, Pt.slots] at X249 l249 y249 z249 st249 hQ249
  subst l249 y249 z249
  obtain ⟨rfl, N249q, eh249⟩ := hQ249
  have N249 := Fr.app N236 N249q
  refine Go.step st249 ?_
  show gG T249 m 144 #[vI p1, vI p2, vI p3, vI p4, vI p5, vI 2, vR b101, vR b205, vR b226r, vR b236r] [(.int 1)]
  refine Go.step (fun _ kt => XS.ifNo X249.here hx rfl (hb hby at_144) rfl ((if0 _ _).trans (feq (by decide : ¬ ((1 : Int32) = (0 : Int32)))).1) (XS.aload X249.here hx rfl (hb hby at_147) rfl rfl (XS.aload X249.here hx rfl (hb hby at_149) rfl rfl (XS.iconst X249.here hx rfl (hb hby at_151) kt)))) ?_
  show gG T249 m 152 #[vI p1, vI p2, vI p3, vI p4, vI p5, vI 2, vR b101, vR b205, vR b226r, vR b236r] [(.int 1), (.ref b101), (.ref b236r)]
  obtain ⟨_, _, ⟨T250, L250, k250, n250⟩, -, X250, ⟨Lc250, hQ250, l250, y250, z250⟩, st250⟩ := Jvm.LawKit.callS X249 hx (y := Y40) hown (mvT hZ (w148 hw)) (mvT hZ (w149 hw)) (mvT hZ (w4 hw)) (mvT hZ (w150 hw)) (by decide) (backOf (W := 0) (rmsmb l Z a0 hw [] b236r b101 1 b236kr k101 (2 : Int32) ([(own_i (own_cpn p2)), (own_i (own_cpn p3))] : List Int32) (4 : Int32) ([(own_i (own_cpn p2)), (own_i (own_cpn p3)), (own_i (own_cpn p4)), (own_i (own_cpn p5))] : List Int32) T236.heap n0 Z246 R247 F240 (by decide) (by decide) (by decide) (by decide) rfl) hZ (w150 hw) (w4 hw) (by decide) (by decide)) (g := (mkF m 152 #[vI p1, vI p2, vI p3, vI p4, vI p5, vI 2, vR b101, vR b205, vR b226r, vR b236r] [(.int 1), (.ref b101), (.ref b236r)])) rfl hml.symm (argsL := [(.ref b236r), (.ref b101), (.int 1)]) (rest := []) (lenOf pd_29 rfl) rfl (Nat.le_of_eq rfl) (hb hby at_152) (fun _ _ => ⟨rfl, eh249, (by decide : 9 + 0 ≤ _), (by decide : 166 + 0 ≤ _)⟩)
  dsimp only [Pt.U, Pt.locs, Pt.cells, Pt.slots] at X250 l250 y250 z250 st250 hQ250
  subst l250 y250 z250
  obtain ⟨rfl, N250q, eh250⟩ := hQ250
  have N250 := Fr.app N249 N250q
  refine Go.step st250 ?_
  show gG T250 m 155 #[vI p1, vI p2, vI p3, vI p4, vI p5, vI 2, vR b101, vR b205, vR b226r, vR b236r] [(.int 1)]
  refine Go.step (fun _ kt => XS.ifNo X250.here hx rfl (hb hby at_155) rfl ((if0 _ _).trans (feq (by decide : ¬ ((1 : Int32) = (0 : Int32)))).1) (XS.aload X250.here hx rfl (hb hby at_158) rfl rfl (XS.aload X250.here hx rfl (hb hby at_160) rfl rfl (XS.iconst X250.here hx rfl (hb hby at_162) kt)))) ?_
  show gG T250 m 163 #[vI p1, vI p2, vI p3, vI p4, vI p5, vI 2, vR b101, vR b205, vR b226r, vR b236r] [(.int 2), (.ref b101), (.ref b236r)]
  obtain ⟨_, _, ⟨T251, L251, k251, n251⟩, -, X251, ⟨Lc251, hQ251, l251, y251, z251⟩, st251⟩ := Jvm.LawKit.callS X250 hx (y := Y40) hown (mvT hZ (w148 hw)) (mvT hZ (w149 hw)) (mvT hZ (w4 hw)) (mvT hZ (w150 hw)) (by decide) (backOf (W := 0) (rmsma l Z a0 hw [] b236r b101 (2 : Int32) b236kr (2 : Int32) ([(own_i (own_cpn p2)), (own_i (own_cpn p3))] : List Int32) T236.heap n0 Z246 R247 (by decide)) hZ (w150 hw) (w4 hw) (by decide) (by decide)) (g := (mkF m 163 #[vI p1, vI p2, vI p3, vI p4, vI p5, vI 2, vR b101, vR b205, vR b226r, vR b236r] [(.int 2), (.ref b101), (.ref b236r)])) rfl hml.symm (argsL := [(.ref b236r), (.ref b101), (.int 2)]) (rest := []) (lenOf pd_29 rfl) rfl (Nat.le_of_eq rfl) (hb hby at_163) (fun _ _ => ⟨rfl, eh250, (by decide : 9 + 0 ≤ _), (by decide : 166 + 0 ≤ _)⟩)
  dsimp only [Pt.U, Pt.locs, Pt.cells, Pt.slots] at X251 l251 y251 z251 st251 hQ251
  subst l251 y251 z251
  obtain ⟨rfl, N251q, eh251⟩ := hQ251
  have N251 := Fr.app N250 N251q
  refine Go.step st251 ?_
  show gG T251 m 166 #[vI p1, vI p2, vI p3, vI p4, vI p5, vI 2, vR b101, vR b205, vR b226r, vR b236r] [(.int 1)]
  refine Go.step (fun _ kt => XS.ifNo X251.here hx rfl (hb hby at_166) rfl ((if0 _ _).trans (feq (by decide : ¬ ((1 : Int32) = (0 : Int32)))).1) (XS.aload X251.here hx rfl (hb hby at_169) rfl rfl (XS.aload X251.here hx rfl (hb hby at_171) rfl rfl (XS.iconst X251.here hx rfl (hb hby at_173) kt)))) ?_
  show gG T251 m 174 #[vI p1, vI p2, vI p3, vI p4, vI p5, vI 2, vR b101, vR b205, vR b226r, vR b236r] [(.int 3), (.ref b101), (.ref b236r)]
  obtain ⟨_, _, ⟨T252, L252, k252, n252⟩, -, X252, ⟨Lc252, hQ252, l252, y252, z252⟩, st252⟩ := Jvm.LawKit.callS X251 hx (y := Y40) hown (mvT hZ (w148 hw)) (mvT hZ (w149 hw)) (mvT hZ (w4 hw)) (mvT hZ (w150 hw)) (by decide) (backOf (W := 0) (rmsma l Z a0 hw [] b236r b101 (3 : Int32) b236kr (2 : Int32) ([(own_i (own_cpn p2)), (own_i (own_cpn p3))] : List Int32) T236.heap n0 Z246 R247 (by decide)) hZ (w150 hw) (w4 hw) (by decide) (by decide)) (g := (mkF m 174 #[vI p1, vI p2, vI p3, vI p4, vI p5, vI 2, vR b101, vR b205, vR b226r, vR b236r] [(.int 3), (.ref b101), (.ref b236r)])) rfl hml.symm (argsL := [(.ref b236r), (.ref b101), (.int 3)]) (rest := []) (lenOf pd_29 rfl) rfl (Nat.le_of_eq rfl) (hb hby at_174) (fun _ _ => ⟨rfl, eh251, (by decide : 9 + 0 ≤ _), (by decide : 166 + 0 ≤ _)⟩)
  dsimp only [Pt.U, Pt.locs, Pt.cells, Pt.slots] at X252 l252 y252 z252 st252 hQ252
  subst l252 y252 z252
  obtain ⟨rfl, N252q, eh252⟩ := hQ252
  have N252 := Fr.app N251 N252q
  refine Go.step st252 ?_
  show gG T252 m 177 #[vI p1, vI p2, vI p3, vI p4, vI p5, vI 2, vR b101, vR b205, vR b226r, vR b236r] [(.int 1)]
  refine Go.step (fun _ kt => XS.ifNo X252.here hx rfl (hb hby at_177) rfl ((if0 _ _).trans (feq (by decide : ¬ ((1 : Int32) = (0 : Int32)))).1) (XS.iconst X252.here hx rfl (hb hby at_180) (XS.goto X252.here hx rfl (pc0 := 181) (pc' := 185) rfl (hb hby at_181) (by decide) (by decide) kt))) ?_
  show gG T252 m 185 #[vI p1, vI p2, vI p3, vI p4, vI p5, vI 2, vR b101, vR b205, vR b226r, vR b236r] [(.int 1)]
  obtain ⟨fs, hr, hrun, hended, hW, hsame⟩ := X252.leave (v := some (.int 1)) (fun h => by rw [Bd.returns] at h; cases h)
  refine ⟨_, _, retN X252 hx (t := .boolean) Bd.returns (by simp) (hb hby at_185) hr, hrun, hended, _, _, rfl, ?_, ⟨_, rfl⟩, hW, hsame.mono (by decide) (by decide)⟩
  show Qrm0 Z p1 p2 p3 p4 p5 cs fo h0 n0 _ T252.heap _
  rw [eh252]
  exact ⟨rfl, N252⟩
 ·rw [hk]
  show gG T125 m 46 #[vI p1, vI p2, vI p3, vI p4, vI p5, vI 3, vR b101, uS, uS, uS] []
  refine Go.step (fun _ kt => XS.iload X125.here hx rfl (hb hby at_46) rfl kt) ?_
  obtain ⟨T253, h253, k253, X253, e253, E253, A253, st253⟩ := newP (aty := .int) X125 hx hZ (w1 hw) e125 (g := (mkF m 48 #[vI p1, vI p2, vI p3, vI p4, vI p5, vI 3, vR b101, uS, uS, uS] [(.int 3)])) rfl (hb hby at_48) rfl (by decide) (cap := 3) (by decide) (by decide) (by decide) (by decide)
  obtain ⟨b253, g253⟩ : ∃ z, z = h125.size := ⟨_, rfl⟩
  rw [← g253] at A253 st253
  refine Go.step st253 ?_
  have ne_b101_b253 : b101 ≠ b253 := Nat.ne_of_lt (Nat.lt_of_lt_of_le V126.lt (Nat.le_of_eq g253.symm))
  have g_b253 : n0 ≤ b253 := Nat.le_trans Z129 (Nat.le_of_eq g253.symm)
  have F254 := (F127.ext E253)
  have F255 := (F128.ext E253)
  have F256 : Arv Z h253 b101 k101 .int 4 [(.int (own_i (own_cpn p2))), (.int (own_i (own_cpn p3))), (.int (own_i (own_cpn p4))), (.int (own_i (own_cpn p5)))] (.int 0) := (V126.ext E253)
  have Z257 : n0 ≤ h253.size := (Nat.le_trans Z129 E253.1)
  have V258 : Arv Z h253 b253 k253 .int 3 [(.int 0), (.int 0), (.int 0)] (.int 0) := (Arv.new A253 (by decide)).pad (pad_rep [] (.int 0) 3)
  show gG T253 m 50 #[vI p1, vI p2, vI p3, vI p4, vI p5, vI 3, vR b101, uS, uS, uS] [(.ref b253)]
  refine Go.step (fun _ kt => XS.astore X253.here hx rfl (hb hby at_50) rfl rfl (l' := #[vI p1, vI p2, vI p3, vI p4, vI p5, vI 3, vR b101, vR b253, uS, uS]) rfl (XS.iload X253.here hx rfl (hb hby at_52) rfl (XS.ifNo X253.here hx rfl (hb hby at_54) rfl ((if0 _ _).trans (tlt (by decide : (0 : Int32) < (3 : Int32))).2.2.2) (XS.aload X253.here hx rfl (hb hby at_57) rfl rfl (XS.iconst X253.here hx rfl (hb hby at_59) (XS.aload X253.here hx rfl (hb hby at_60) rfl rfl (XS.iconst X253.here hx rfl (hb hby at_62) kt))))))) ?_
  show gG T253 m 63 #[vI p1, vI p2, vI p3, vI p4, vI p5, vI 3, vR b101, vR b253, uS, uS] [(.int 0), (.ref b101), (.int 0), (.ref b253)]
  obtain ⟨cl259, Ar259, qa259, Sa259, Na259, Ha259, Ga259⟩ := (id F256)
  have hin259 : ¬ ((0 : Int32) < 0 ∨ cl259.slots.size ≤ ((0 : Int32)).toNatClampNeg) := inb_of Sa259 ⟨by decide, by decide⟩
  have hat259 : cl259.slots[((0 : Int32)).toNatClampNeg]? = some (.int (own_i (own_cpn p2))) := at_of Ha259 hin259 rfl
  refine Go.step (X253.iaload hx (j := (0 : Int32)) (v := (.int (own_i (own_cpn p2)))) (by rw [e253]; exact Ar259.1) (State.isArrayOf_alike hZ.alike Ar259.2.1) Ar259.2.2 hin259 hat259 (g := (mkF m 63 #[vI p1, vI p2, vI p3, vI p4, vI p5, vI 3, vR b101, vR b253, uS, uS] [(.int 0), (.ref b101), (.int 0), (.ref b253)])) rfl rfl (hb hby at_63)) ?_
  obtain ⟨cl260, Ar260, qa260, Sa260, Na260, Ha260, Ga260⟩ := (id V258)
  have hin260 : ¬ ((0 : Int32) < 0 ∨ cl260.slots.size ≤ ((0 : Int32)).toNatClampNeg) := inb_of Sa260 ⟨by decide, by decide⟩
  obtain ⟨T260, h260, X260, e260, W260, st260⟩ := stI X253 hx hZ e253 Ar260 (j := (0 : Int32)) hin260 (g := (mkF m 64 #[vI p1, vI p2, vI p3, vI p4, vI p5, vI 3, vR b101, vR b253, uS, uS] [(.int (own_i (own_cpn p2))), (.int 0), (.ref b253)])) rfl rfl (hb hby at_64)
  refine Go.step st260 ?_
  have V261 := Arv.set Ar260 qa260 Sa260 Na260 Ha260 Ga260 rfl W260 0 rfl (Nat.le_of_ble_eq_true rfl)
  have N260 := Fr.snoc X260 N125 g_b253
  have F262 := (F254.wr W260)
  have F263 := (F255.wr W260)
  have F264 := (F256.other W260 ne_b101_b253)
  have Z265 : n0 ≤ h260.size := (Nat.le_trans Z257 (Nat.le_of_eq W260.size.symm))
  show gG T260 m 65 #[vI p1, vI p2, vI p3, vI p4, vI p5, vI 3, vR b101, vR b253, uS, uS] []
  refine Go.step (fun _ kt => XS.iload X260.here hx rfl (hb hby at_65) rfl (XS.iconst X260.here hx rfl (hb hby at_67) (XS.icmpNo X260.here hx rfl (hb hby at_68) rfl (tlt (by decide : (1 : Int32) < (3 : Int32))).2.2.2 (XS.aload X260.here hx rfl (hb hby at_71) rfl rfl (XS.iconst X260.here hx rfl (hb hby at_73) (XS.aload X260.here hx rfl (hb hby at_74) rfl rfl (XS.iconst X260.here hx rfl (hb hby at_76) kt))))))) ?_
  show gG T260 m 77 #[vI p1, vI p2, vI p3, vI p4, vI p5, vI 3, vR b101, vR b253, uS, uS] [(.int 1), (.ref b101), (.int 1), (.ref b253)]
  obtain ⟨cl266, Ar266, qa266, Sa266, Na266, Ha266, Ga266⟩ := (id F264)
  have hin266 : ¬ ((1 : Int32) < 0 ∨ cl266.slots.size ≤ ((1 : Int32)).toNatClampNeg) := inb_of Sa266 ⟨by decide, by decide⟩
  have hat266 : cl266.slots[((1 : Int32)).toNatClampNeg]? = some (.int (own_i (own_cpn p3))) := at_of Ha266 hin266 rfl
  refine Go.step (X260.iaload hx (j := (1 : Int32)) (v := (.int (own_i (own_cpn p3)))) (by rw [e260]; exact Ar266.1) (State.isArrayOf_alike hZ.alike Ar266.2.1) Ar266.2.2 hin266 hat266 (g := (mkF m 77 #[vI p1, vI p2, vI p3, vI p4, vI p5, vI 3, vR b101, vR b253, uS, uS] [(.int 1), (.ref b101), (.int 1), (.ref b253)])) rfl rfl (hb hby at_77)) ?_
  obtain ⟨cl267, Ar267, qa267, Sa267, Na267, Ha267, Ga267⟩ := (id V261)
  have hin267 : ¬ ((1 : Int32) < 0 ∨ cl267.slots.size ≤ ((1 : Int32)).toNatClampNeg) := inb_of Sa267 ⟨by decide, by decide⟩
  obtain ⟨T267, h267, X267, e267, W267, st267⟩ := stI X260 hx hZ e260 Ar267 (j := (1 : Int32)) hin267 (g := (mkF m 78 #[vI p1, vI p2, vI p3, vI p4, vI p5, vI 3, vR b101, vR b253, uS, uS] [(.int (own_i (own_cpn p3))), (.int 1), (.ref b253)])) rfl rfl (hb hby at_78)
  refine Go.step st267 ?_
  have V268 := Arv.set Ar267 qa267 Sa267 Na267 Ha267 Ga267 rfl W267 1 rfl (Nat.le_of_ble_eq_true rfl)
  have N267 := Fr.snoc X267 N260 g_b253
  have F269 := (F262.wr W267)
  have F270 := (F263.wr W267)
  have F271 := (F264.other W267 ne_b101_b253)
  have Z272 : n0 ≤ h267.size := (Nat.le_trans Z265 (Nat.le_of_eq W267.size.symm))
  show gG T267 m 79 #[vI p1, vI p2, vI p3, vI p4, vI p5, vI 3, vR b101, vR b253, uS, uS] []
  refine Go.step (fun _ kt => XS.iload X267.here hx rfl (hb hby at_79) rfl (XS.iconst X267.here hx rfl (hb hby at_81) (XS.icmpNo X267.here hx rfl (hb hby at_82) rfl (tlt (by decide : (2 : Int32) < (3 : Int32))).2.2.2 (XS.aload X267.here hx rfl (hb hby at_85) rfl rfl (XS.iconst X267.here hx rfl (hb hby at_87) (XS.aload X267.here hx rfl (hb hby at_88) rfl rfl (XS.iconst X267.here hx rfl (hb hby at_90) kt))))))) ?_
  show gG T267 m 91 #[vI p1, vI p2, vI p3, vI p4, vI p5, vI 3, vR b101, vR b253, uS, uS] [(.int 2), (.ref b101), (.int 2), (.ref b253)]
  obtain ⟨cl273, Ar273, qa273, Sa273, Na273, Ha273, Ga273⟩ := (id F271)
  have hin273 : ¬ ((2 : Int32) < 0 ∨ cl273.slots.size ≤ ((2 : Int32)).toNatClampNeg) := inb_of Sa273 ⟨by decide, by decide⟩
  have hat273 : cl273.slots[((2 : Int32)).toNatClampNeg]? = some (.int (own_i (own_cpn p4))) := at_of Ha273 hin273 rfl
  refine Go.step (X267.iaload hx (j := (2 : Int32)) (v := (.int (own_i (own_cpn p4)))) (by rw [e267]; exact Ar273.1) (State.isArrayOf_alike hZ.alike Ar273.2.1) Ar273.2.2 hin273 hat273 (g := (mkF m 91 #[vI p1, vI p2, vI p3, vI p4, vI p5, vI 3, vR b101, vR b253, uS, uS] [(.int 2), (.ref b101), (.int 2), (.ref b253)])) rfl rfl (hb hby at_91)) ?_
  obtain ⟨cl274, Ar274, qa274, Sa274, Na274, Ha274, Ga274⟩ := (id V268)
  have hin274 : ¬ ((2 : Int32) < 0 ∨ cl274.slots.size ≤ ((2 : Int32)).toNatClampNeg) := inb_of Sa274 ⟨by decide, by decide⟩
  obtain ⟨T274, h274, X274, e274, W274, st274⟩ := stI X267 hx hZ e267 Ar274 (j := (2 : Int32)) hin274 (g := (mkF m 92 #[vI p1, vI p2, vI p3, vI p4, vI p5, vI 3, vR b101, vR b253, uS, uS] [(.int (own_i (own_cpn p4))), (.int 2), (.ref b253)])) rfl rfl (hb hby at_92)
  refine Go.step st274 ?_
  have V275 := Arv.set Ar274 qa274 Sa274 Na274 Ha274 Ga274 rfl W274 2 rfl (Nat.le_of_ble_eq_true rfl)
  have N274 := Fr.snoc X274 N267 g_b253
  have F276 := (F269.wr W274)
  have F277 := (F270.wr W274)
  have F278 := (F271.other W274 ne_b101_b253)
  have Z279 : n0 ≤ h274.size := (Nat.le_trans Z272 (Nat.le_of_eq W274.size.symm))
  show gG T274 m 93 #[vI p1, vI p2, vI p3, vI p4, vI p5, vI 3, vR b101, vR b253, uS, uS] []
  refine Go.step (fun _ kt => XS.iload X274.here hx rfl (hb hby at_93) rfl (XS.iconst X274.here hx rfl (hb hby at_95) (XS.icmpYes X274.here hx rfl (pc0 := 96) (pc' := 107) rfl (hb hby at_96) rfl (flt (by decide : ¬ ((3 : Int32) < (3 : Int32)))).2.2.2 (by decide) (by decide) (XS.aload X274.here hx rfl (hb hby at_107) rfl rfl kt)))) ?_
  show gG T274 m 109 #[vI p1, vI p2, vI p3, vI p4, vI p5, vI 3, vR b101, vR b253, uS, uS] [(.ref b253)]
  have R280 : Arv Z h274 b253 k253 .int (own_i ([(own_cpn p2), (own_cpn p3), (own_cpn p4)] : List Nat).length) ((([(own_cpn p2), (own_cpn p3), (own_cpn p4)] : List Nat).map own_i).map Value.int) (.int 0) := V275
  obtain ⟨_, _, ⟨T281, L281, k281, n281⟩, -, X281, ⟨Lc281, hQ281, l281, y281, z281⟩, st281⟩ := Jvm.LawKit.callS X274 hx (y := Y37) hown (mvT hZ (w7 hw)) (mvT hZ (w8 hw)) (mvT hZ (w9 hw)) (mvT hZ (w10 hw)) (by decide) (backOf (W := 0) (rmenc l Z a0 hw [] b253 ([(own_cpn p2), (own_cpn p3), (own_cpn p4)] : List Nat) k253 cs h274 n0 Z279 R280 F276 hcs (Nat.le_of_ble_eq_true rfl) (by intro z hz; simp only [List.mem_cons, List.not_mem_nil, or_false] at hz; rcases hz with rfl | rfl | rfl <;> exact own_cpn_le _)) hZ (w10 hw) (w9 hw) (by decide) (by decide)) (g := (mkF m 109 #[vI p1, vI p2, vI p3, vI p4, vI p5, vI 3, vR b101, vR b253, uS, uS] [(.ref b253)])) rfl hml.symm (argsL := [(.ref b253)]) (rest := []) (lenOf pd_27 rfl) rfl (Nat.le_of_eq rfl) (hb hby at_109) (fun _ _ => ⟨rfl, e274, (by decide : 2 + 5 ≤ _), (by decide : 7 + 92 ≤ _)⟩)
  dsimp only [Pt.U, Pt.locs, Pt.cells, Pt.slots] at X281 l281 y281 z281 st281 hQ281
  subst l281 y281 z281
  obtain ⟨b281r, b281b, b281kr, rfl, N281q, Kq281, P282, P283, P284, P285, g_b281r, szq_b281r, g_b281b, szq_b281b⟩ := hQ281
  have ne_b101_b281r : b101 ≠ b281r := Nat.ne_of_lt (Nat.lt_of_lt_of_le F278.lt szq_b281r)
  have ne_b253_b281r : b253 ≠ b281r := Nat.ne_of_lt (Nat.lt_of_lt_of_le R280.lt szq_b281r)
  have ne_b101_b281b : b101 ≠ b281b := Nat.ne_of_lt (Nat.lt_of_lt_of_le F278.lt szq_b281b)
  have ne_b253_b281b : b253 ≠ b281b := Nat.ne_of_lt (Nat.lt_of_lt_of_le R280.lt szq_b281b)
  have F286 := (own_sta_keep F276 Kq281 (by intro x hx; cases hx))
  have F287 := (own_sta_keep F277 Kq281 (by intro x hx; cases hx))
  have F288 := (F278.keep Kq281 (by simp))
  have F289 := (R280.keep Kq281 (by simp))
  have Z290 : n0 ≤ T281.heap.size := (Nat.le_trans Z279 Kq281.1)
  have N281 := Fr.app N274 N281q
  refine Go.step st281 ?_
  show gG T281 m 112 #[vI p1, vI p2, vI p3, vI p4, vI p5, vI 3, vR b101, vR b253, uS, uS] [(.ref b281r)]
  refine Go.step (fun _ kt => XS.astore X281.here hx rfl (hb hby at_112) rfl rfl (l' := #[vI p1, vI p2, vI p3, vI p4, vI p5, vI 3, vR b101, vR b253, vR b281r, uS]) rfl (XS.aload X281.here hx rfl (hb hby at_114) rfl rfl kt)) ?_
  obtain ⟨_, _, ⟨T291, L291, k291, n291⟩, -, X291, ⟨Lc291, hQ291, l291, y291, z291⟩, st291⟩ := Jvm.LawKit.callS X281 hx (y := Y38) hown (mvT hZ (w94 hw)) (mvT hZ (w95 hw)) (mvT hZ (w9 hw)) (mvT hZ (w96 hw)) (by decide) (backOf (W := 0) (rmdec l Z a0 hw [] b281r ([(own_cpn p2), (own_cpn p3), (own_cpn p4)] : List Nat) (own_txt ([(own_cpn p2), (own_cpn p3), (own_cpn p4)] : List Nat)) b281b b281kr cs fo T281.heap n0 Z290 P282 P283 P284 P285 F286 F287 hcs hfo (Nat.le_of_ble_eq_true rfl) (by intro z hz; simp only [List.mem_cons, List.not_mem_nil, or_false] at hz; rcases hz with rfl | rfl | rfl <;> exact own_cpn_le _) rfl) hZ (w96 hw) (w9 hw) (by decide) (by decide)) (g := (mkF m 116 #[vI p1, vI p2, vI p3, vI p4, vI p5, vI 3, vR b101, vR b253, vR b281r, uS] [(.ref b281r)])) rfl hml.symm (argsL := [(.ref b281r)]) (rest := []) (lenOf pd_28 rfl) rfl (Nat.le_of_eq rfl) (hb hby at_116) (fun _ _ => ⟨rfl, rfl, (by decide : 7 + 2 ≤ _), (by decide : 99 + 68 ≤ _)⟩)
  dsimp only [Pt.U, Pt.locs, Pt.cells, Pt.slots] at X291 l291 y291 z291 st291 hQ291
  subst l291 y291 z291
  obtain ⟨b291r, b291kr, rfl, N291q, Kq291, P292, g_b291r, szq_b291r⟩ := hQ291
  have ne_b101_b291r : b101 ≠ b291r := Nat.ne_of_lt (Nat.lt_of_lt_of_le F288.lt szq_b291r)
  have ne_b253_b291r : b253 ≠ b291r := Nat.ne_of_lt (Nat.lt_of_lt_of_le F289.lt szq_b291r)
  have ne_b281r_b291r : b281r ≠ b291r := Nat.ne_of_lt (Nat.lt_of_lt_of_le P282.lt szq_b291r)
  have ne_b281b_b291r : b281b ≠ b291r := Nat.ne_of_lt (Nat.lt_of_lt_of_le P285.lt szq_b291r)
  have F293 := (own_sta_keep F286 Kq291 (by intro x hx; cases hx))
  have F294 := (own_sta_keep F287 Kq291 (by intro x hx; cases hx))
  have F295 := (F288.keep Kq291 (by simp))
  have F296 := (F289.keep Kq291 (by simp))
  have F297 := (P282.keep Kq291)
  have F298 := (P283.keep Kq291 (by simp))
  have F299 := (P284.keep Kq291 (by simp))
  have F300 := (P285.keep Kq291 (by simp))
  have Z301 : n0 ≤ T291.heap.size := (Nat.le_trans Z290 Kq291.1)
  have N291 := Fr.app N281 N291q
  refine Go.step st291 ?_
  show gG T291 m 119 #[vI p1, vI p2, vI p3, vI p4, vI p5, vI 3, vR b101, vR b253, vR b281r, uS] [(.ref b291r)]
  refine Go.step (fun _ kt => XS.astore X291.here hx rfl (hb hby at_119) rfl rfl (l' := #[vI p1, vI p2, vI p3, vI p4, vI p5, vI 3, vR b101, vR b253, vR b281r, vR b291r]) rfl kt) ?_
  show gG T291 m 121 #[vI p1, vI p2, vI p3, vI p4, vI p5, vI 3, vR b101, vR b253, vR b281r, vR b291r] []
  have R302 : Arv Z T291.heap b291r b291kr .int 3 [(.int (own_i (own_cpn p2))), (.int (own_i (own_cpn p3))), (.int (own_i (own_cpn p4)))] (.int 0) := P292
  refine Go.step (fun _ kt => XS.aload X291.here hx rfl (hb hby at_121) rfl rfl (XS.ifnullNo X291.here hx rfl (hb hby at_123) rfl (XS.aload X291.here hx rfl (hb hby at_126) rfl rfl kt))) ?_
  obtain ⟨cl303, Ar303, qa303, Sa303, Na303, Ha303, Ga303⟩ := (id R302)
  refine Go.step (X291.arraylength hx Ar303.1 (State.isArrayOf_alike hZ.alike Ar303.2.1) (g := (mkF m 128 #[vI p1, vI p2, vI p3, vI p4, vI p5, vI 3, vR b101, vR b253, vR b281r, vR b291r] [(.ref b291r)])) rfl rfl (hb hby at_128)) ?_
  rw [len_of Sa303 Na303]
  show gG T291 m 129 #[vI p1, vI p2, vI p3, vI p4, vI p5, vI 3, vR b101, vR b253, vR b281r, vR b291r] [(.int 3)]
  refine Go.step (fun _ kt => XS.iload X291.here hx rfl (hb hby at_129) rfl (XS.icmpYes X291.here hx rfl (pc0 := 131) (pc' := 136) rfl (hb hby at_131) rfl (teq (by decide : (3 : Int32) = (3 : Int32))).1 (by decide) (by decide) (XS.aload X291.here hx rfl (hb hby at_136) rfl rfl (XS.aload X291.here hx rfl (hb hby at_138) rfl rfl (XS.iconst X291.here hx rfl (hb hby at_140) kt))))) ?_
  show gG T291 m 141 #[vI p1, vI p2, vI p3, vI p4, vI p5, vI 3, vR b101, vR b253, vR b281r, vR b291r] [(.int 0), (.ref b101), (.ref b291r)]
  obtain ⟨_, _, ⟨T304, L304, k304, n304⟩, -, X304, ⟨Lc304, hQ304, l304, y304, z304⟩, st304⟩ := Jvm.LawKit.callS X291 hx (y := Y40) hown (mvT hZ (w148 hw)) (mvT hZ (w149 hw)) (mvT hZ (w4 hw)) (mvT hZ (w150 hw)) (by decide) (backOf (W := 0) (rmsmb l Z a0 hw [] b291r b101 0 b291kr k101 (3 : Int32) ([(own_i (own_cpn p2)), (own_i (own_cpn p3)), (own_i (own_cpn p4))] : List Int32) (4 : Int32) ([(own_i (own_cpn p2)), (own_i (own_cpn p3)), (own_i (own_cpn p4)), (own_i (own_cpn p5))] : List Int32) T291.heap n0 Z301 R302 F295 (by decide) (by decide) (by decide) (by decide) rfl) hZ (w150 hw) (w4 hw) (by decide) (by decide)) (g := (mkF m 141 #[vI p1, vI p2, vI p3, vI p4, vI p5, vI 3, vR b101, vR b253, vR b281r, vR b291r] [(.int 0), (.ref b101), (.ref b291r)])) rfl hml.symm (argsL := [(.ref b291r), (.ref b101), (.int 0)]) (rest := []) (lenOf pd_29 rfl) rfl (Nat.le_of_eq rfl) (hb hby at_141) (fun _ _ => ⟨rfl, rfl, (by decide : 9 + 0 ≤ _), (by decide : 167 + 0 ≤ _)⟩)
  dsimp only [Pt.U, Pt.locs, Pt.cells, Pt.slots] at X304 l304 y304 z304 st304 hQ304
  subst l304 y304 z304
  obtain ⟨rfl, N304q, eh304⟩ := hQ304
  have N304 := Fr.app N291 N304q
  refine Go.step st304 ?_
  show gG T304 m 144 #[vI p1, vI p2, vI p3, vI p4, vI p5, vI 3, vR b101, vR b253, vR b281r, vR b291r] [(.int 1)]
  refine Go.step (fun _ kt => XS.ifNo X304.here hx rfl (hb hby at_144) rfl ((if0 _ _).trans (feq (by decide : ¬ ((1 : Int32) = (0 : Int32)))).1) (XS.aload X304.here hx rfl (hb hby at_147) rfl rfl (XS.aload X304.here hx rfl (hb hby at_149) rfl rfl (XS.iconst X304.here hx rfl (hb hby at_151) kt)))) ?_
  show gG T304 m 152 #[vI p1, vI p2, vI p3, vI p4, vI p5, vI 3, vR b101, vR b253, vR b281r, vR b291r] [(.int 1), (.ref b101), (.ref b291r)]
  obtain ⟨_, _, ⟨T305, L305, k305, n305⟩, -, X305, ⟨Lc305, hQ305, l305, y305, z305⟩, st305⟩ := Jvm.LawKit.callS X304 hx (y := Y40) hown (mvT hZ (w148 hw)) (mvT hZ (w149 hw)) (mvT hZ (w4 hw)) (mvT hZ (w150 hw)) (by decide) (backOf (W := 0) (rmsmb l Z a0 hw [] b291r b101 1 b291kr k101 (3 : Int32) ([(own_i (own_cpn p2)), (own_i (own_cpn p3)), (own_i (own_cpn p4))] : List Int32) (4 : Int32) ([(own_i (own_cpn p2)), (own_i (own_cpn p3)), (own_i (own_cpn p4)), (own_i (own_cpn p5))] : List Int32) T291.heap n0 Z301 R302 F295 (by decide) (by decide) (by decide) (by decide) rfl) hZ (w150 hw) (w4 hw) (by decide) (by decide)) (g := (mkF m 152 #[vI p1, vI p2, vI p3, vI p4, vI p5, vI 3, vR b101, vR b253, vR b281r, vR b291r] [(.int 1), (.ref b101), (.ref b291r)])) rfl hml.symm (argsL := [(.ref b291r), (.ref b101), (.int 1)]) (rest := []) (lenOf pd_29 rfl) rfl (Nat.le_of_eq rfl) (hb hby at_152) (fun _ _ => ⟨rfl, eh304, (by decide : 9 + 0 ≤ _), (by decide : 167 + 0 ≤ _)⟩)
  dsimp only [Pt.U, Pt.locs, Pt.cells, Pt.slots] at X305 l305 y305 z305 st305 hQ305
  subst l305 y305 z305
  obtain ⟨rfl, N305q, eh305⟩ := hQ305
  have N305 := Fr.app N304 N305q
  refine Go.step st305 ?_
  show gG T305 m 155 #[vI p1, vI p2, vI p3, vI p4, vI p5, vI 3, vR b101, vR b253, vR b281r, vR b291r] [(.int 1)]
  refine Go.step (fun _ kt => XS.ifNo X305.here hx rfl (hb hby at_155) rfl ((if0 _ _).trans (feq (by decide : ¬ ((1 : Int32) = (0 : Int32)))).1) (XS.aload X305.here hx rfl (hb hby at_158) rfl rfl (XS.aload X305.here hx rfl (hb hby at_160) rfl rfl (XS.iconst X305.here hx rfl (hb hby at_162) kt)))) ?_
  show gG T305 m 163 #[vI p1, vI p2, vI p3, vI p4, vI p5, vI 3, vR b101, vR b253, vR b281r, vR b291r] [(.int 2), (.ref b101), (.ref b291r)]
  obtain ⟨_, _, ⟨T306, L306, k306, n306⟩, -, X306, ⟨Lc306, hQ306, l306, y306, z306⟩, st306⟩ := Jvm.LawKit.callS X305 hx (y := Y40) hown (mvT hZ (w148 hw)) (mvT hZ (w149 hw)) (mvT hZ (w4 hw)) (mvT hZ (w150 hw)) (by decide) (backOf (W := 0) (rmsmb l Z a0 hw [] b291r b101 2 b291kr k101 (3 : Int32) ([(own_i (own_cpn p2)), (own_i (own_cpn p3)), (own_i (own_cpn p4))] : List Int32) (4 : Int32) ([(own_i (own_cpn p2)), (own_i (own_cpn p3)), (own_i (own_cpn p4)), (own_i (own_cpn p5))] : List Int32) T291.heap n0 Z301 R302 F295 (by decide) (by decide) (by decide) (by decide) rfl) hZ (w150 hw) (w4 hw) (by decide) (by decide)) (g := (mkF m 163 #[vI p1, vI p2, vI p3, vI p4, vI p5, vI 3, vR b101, vR b253, vR b281r, vR b291r] [(.int 2), (.ref b101), (.ref b291r)])) rfl hml.symm (argsL := [(.ref b291r), (.ref b101), (.int 2)]) (rest := []) (lenOf pd_29 rfl) rfl (Nat.le_of_eq rfl) (hb hby at_163) (fun _ _ => ⟨rfl, eh305, (by decide : 9 + 0 ≤ _), (by decide : 167 + 0 ≤ _)⟩)
  dsimp only [Pt.U, Pt.locs, Pt.cells, Pt.slots] at X306 l306 y306 z306 st306 hQ306
  subst l306 y306 z306
  obtain ⟨rfl, N306q, eh306⟩ := hQ306
  have N306 := Fr.app N305 N306q
  refine Go.step st306 ?_
  show gG T306 m 166 #[vI p1, vI p2, vI p3, vI p4, vI p5, vI 3, vR b101, vR b253, vR b281r, vR b291r] [(.int 1)]
  refine Go.step (fun _ kt => XS.ifNo X306.here hx rfl (hb hby at_166) rfl ((if0 _ _).trans (feq (by decide : ¬ ((1 : Int32) = (0 : Int32)))).1) (XS.aload X306.here hx rfl (hb hby at_169) rfl rfl (XS.aload X306.here hx rfl (hb hby at_171) rfl rfl (XS.iconst X306.here hx rfl (hb hby at_173) kt)))) ?_
  show gG T306 m 174 #[vI p1, vI p2, vI p3, vI p4, vI p5, vI 3, vR b101, vR b253, vR b281r, vR b291r] [(.int 3), (.ref b101), (.ref b291r)]
  obtain ⟨_, _, ⟨T307, L307, k307, n307⟩, -, X307, ⟨Lc307, hQ307, l307, y307, z307⟩, st307⟩ := Jvm.LawKit.callS X306 hx (y := Y40) hown (mvT hZ (w148 hw)) (mvT hZ (w149 hw)) (mvT hZ (w4 hw)) (mvT hZ (w150 hw)) (by decide) (backOf (W := 0) (rmsma l Z a0 hw [] b291r b101 (3 : Int32) b291kr (3 : Int32) ([(own_i (own_cpn p2)), (own_i (own_cpn p3)), (own_i (own_cpn p4))] : List Int32) T291.heap n0 Z301 R302 (by decide)) hZ (w150 hw) (w4 hw) (by decide) (by decide)) (g := (mkF m 174 #[vI p1, vI p2, vI p3, vI p4, vI p5, vI 3, vR b101, vR b253, vR b281r, vR b291r] [(.int 3), (.ref b101), (.ref b291r)])) rfl hml.symm (argsL := [(.ref b291r), (.ref b101), (.int 3)]) (rest := []) (lenOf pd_29 rfl) rfl (Nat.le_of_eq rfl) (hb hby at_174) (fun _ _ => ⟨rfl, eh306, (by decide : 9 + 0 ≤ _), (by decide : 167 + 0 ≤ _)⟩)
  dsimp only [Pt.U, Pt.locs, Pt.cells, Pt.slots] at X307 l307 y307 z307 st307 hQ307
  subst l307 y307 z307
  obtain ⟨rfl, N307q, eh307⟩ := hQ307
  have N307 := Fr.app N306 N307q
  refine Go.step st307 ?_
  show gG T307 m 177 #[vI p1, vI p2, vI p3, vI p4, vI p5, vI 3, vR b101, vR b253, vR b281r, vR b291r] [(.int 1)]
  refine Go.step (fun _ kt => XS.ifNo X307.here hx rfl (hb hby at_177) rfl ((if0 _ _).trans (feq (by decide : ¬ ((1 : Int32) = (0 : Int32)))).1) (XS.iconst X307.here hx rfl (hb hby at_180) (XS.goto X307.here hx rfl (pc0 := 181) (pc' := 185) rfl (hb hby at_181) (by decide) (by decide) kt))) ?_
  show gG T307 m 185 #[vI p1, vI p2, vI p3, vI p4, vI p5, vI 3, vR b101, vR b253, vR b281r, vR b291r] [(.int 1)]
  obtain ⟨fs, hr, hrun, hended, hW, hsame⟩ := X307.leave (v := some (.int 1)) (fun h => by rw [Bd.returns] at h; cases h)
  refine ⟨_, _, retN X307 hx (t := .boolean) Bd.returns (by simp) (hb hby at_185) hr, hrun, hended, _, _, rfl, ?_, ⟨_, rfl⟩, hW, hsame.mono (by decide) (by decide)⟩
  show Qrm0 Z p1 p2 p3 p4 p5 cs fo h0 n0 _ T307.heap _
  rw [eh307]
  exact ⟨rfl, N307⟩
 ·rw [hk]
  show gG T125 m 46 #[vI p1, vI p2, vI p3, vI p4, vI p5, vI 4, vR b101, uS, uS, uS] []
  refine Go.step (fun _ kt => XS.iload X125.here hx rfl (hb hby at_46) rfl kt) ?_
  obtain ⟨T308, h308, k308, X308, e308, E308, A308, st308⟩ := newP (aty := .int) X125 hx hZ (w1 hw) e125 (g := (mkF m 48 #[vI p1, vI p2, vI p3, vI p4, vI p5, vI 4, vR b101, uS, uS, uS] [(.int 4)])) rfl (hb hby at_48) rfl (by decide) (cap := 4) (by decide) (by decide) (by decide) (by decide)
  obtain ⟨b308, g308⟩ : ∃ z, z = h125.size := ⟨_, rfl⟩
  rw [← g308] at A308 st308
  refine Go.step st308 ?_
  have ne_b101_b308 : b101 ≠ b308 := Nat.ne_of_lt (Nat.lt_of_lt_of_le V126.lt (Nat.le_of_eq g308.symm))
  have g_b308 : n0 ≤ b308 := Nat.le_trans Z129 (Nat.le_of_eq g308.symm)
  have F309 := (F127.ext E308)
  have F310 := (F128.ext E308)
  have F311 : Arv Z h308 b101 k101 .int 4 [(.int (own_i (own_cpn p2))), (.int (own_i (own_cpn p3))), (.int (own_i (own_cpn p4))), (.int (own_i (own_cpn p5)))] (.int 0) := (V126.ext E308)
  have Z312 : n0 ≤ h308.size := (Nat.le_trans Z129 E308.1)
  have V313 : Arv Z h308 b308 k308 .int 4 [(.int 0), (.int 0), (.int 0), (.int 0)] (.int 0) := (Arv.new A308 (by decide)).pad (pad_rep [] (.int 0) 4)
  show gG T308 m 50 #[vI p1, vI p2, vI p3, vI p4, vI p5, vI 4, vR b101, uS, uS, uS] [(.ref b308)]
  refine Go.step (fun _ kt => XS.astore X308.here hx rfl (hb hby at_50) rfl rfl (l' := #[vI p1, vI p2, vI p3, vI p4, vI p5, vI 4, vR b101, vR b308, uS, uS]) rfl (XS.iload X308.here hx rfl (hb hby at_52) rfl (XS.ifNo X308.here hx rfl (hb hby at_54) rfl ((if0 _ _).trans (tlt (by decide : (0 : Int32) < (4 : Int32))).2.2.2) (XS.aload X308.here hx rfl (hb hby at_57) rfl rfl (XS.iconst X308.here hx rfl (hb hby at_59) (XS.aload X308.here hx rfl (hb hby at_60) rfl rfl (XS.iconst X308.here hx rfl (hb hby at_62) kt))))))) ?_
  show gG T308 m 63 #[vI p1, vI p2, vI p3, vI p4, vI p5, vI 4, vR b101, vR b308, uS, uS] [(.int 0), (.ref b101), (.int 0), (.ref b308)]
  obtain ⟨cl314, Ar314, qa314, Sa314, Na314, Ha314, Ga314⟩ := (id F311)
  have hin314 : ¬ ((0 : Int32) < 0 ∨ cl314.slots.size ≤ ((0 : Int32)).toNatClampNeg) := inb_of Sa314 ⟨by decide, by decide⟩
  have hat314 : cl314.slots[((0 : Int32)).toNatClampNeg]? = some (.int (own_i (own_cpn p2))) := at_of Ha314 hin314 rfl
  refine Go.step (X308.iaload hx (j := (0 : Int32)) (v := (.int (own_i (own_cpn p2)))) (by rw [e308]; exact Ar314.1) (State.isArrayOf_alike hZ.alike Ar314.2.1) Ar314.2.2 hin314 hat314 (g := (mkF m 63 #[vI p1, vI p2, vI p3, vI p4, vI p5, vI 4, vR b101, vR b308, uS, uS] [(.int 0), (.ref b101), (.int 0), (.ref b308)])) rfl rfl (hb hby at_63)) ?_
  obtain ⟨cl315, Ar315, qa315, Sa315, Na315, Ha315, Ga315⟩ := (id V313)
  have hin315 : ¬ ((0 : Int32) < 0 ∨ cl315.slots.size ≤ ((0 : Int32)).toNatClampNeg) := inb_of Sa315 ⟨by decide, by decide⟩
  obtain ⟨T315, h315, X315, e315, W315, st315⟩ := stI X308 hx hZ e308 Ar315 (j := (0 : Int32)) hin315 (g := (mkF m 64 #[vI p1, vI p2, vI p3, vI p4, vI p5, vI 4, vR b101, vR b308, uS, uS] [(.int (own_i (own_cpn p2))), (.int 0), (.ref b308)])) rfl rfl (hb hby at_64)
  refine Go.step st315 ?_
  have V316 := Arv.set Ar315 qa315 Sa315 Na315 Ha315 Ga315 rfl W315 0 rfl (Nat.le_of_ble_eq_true rfl)
  have N315 := Fr.snoc X315 N125 g_b308
  have F317 := (F309.wr W315)
  have F318 := (F310.wr W315)
  have F319 := (F311.other W315 ne_b101_b308)
  have Z320 : n0 ≤ h315.size := (Nat.le_trans Z312 (Nat.le_of_eq W315.size.symm))
  show gG T315 m 65 #[vI p1, vI p2, vI p3, vI p4, vI p5, vI 4, vR b101, vR b308, uS, uS] []
  refine Go.step (fun _ kt => XS.iload X315.here hx rfl (hb hby at_65) rfl (XS.iconst X315.here hx rfl (hb hby at_67) (XS.icmpNo X315.here hx rfl (hb hby at_68) rfl (tlt (by decide : (1 : Int32) < (4 : Int32))).2.2.2 (XS.aload X315.here hx rfl (hb hby at_71) rfl rfl (XS.iconst X315.here hx rfl (hb hby at_73) (XS.aload X315.here hx rfl (hb hby at_74) rfl rfl (XS.iconst X315.here hx rfl (hb hby at_76) kt))))))) ?_
  show gG T315 m 77 #[vI p1, vI p2, vI p3, vI p4, vI p5, vI 4, vR b101, vR b308, uS, uS] [(.int 1), (.ref b101), (.int 1), (.ref b308)]
  obtain ⟨cl321, Ar321, qa321, Sa321, Na321, Ha321, Ga321⟩ := (id F319)
  have hin321 : ¬ ((1 : Int32) < 0 ∨ cl321.slots.size ≤ ((1 : Int32)).toNatClampNeg) := inb_of Sa321 ⟨by decide, by decide⟩
  have hat321 : cl321.slots[((1 : Int32)).toNatClampNeg]? = some (.int (own_i (own_cpn p3))) := at_of Ha321 hin321 rfl
  refine Go.step (X315.iaload hx (j := (1 : Int32)) (v := (.int (own_i (own_cpn p3)))) (by rw [e315]; exact Ar321.1) (State.isArrayOf_alike hZ.alike Ar321.2.1) Ar321.2.2 hin321 hat321 (g := (mkF m 77 #[vI p1, vI p2, vI p3, vI p4, vI p5, vI 4, vR b101, vR b308, uS, uS] [(.int 1), (.ref b101), (.int 1), (.ref b308)])) rfl rfl (hb hby at_77)) ?_
  obtain ⟨cl322, Ar322, qa322, Sa322, Na322, Ha322, Ga322⟩ := (id V316)
  have hin322 : ¬ ((1 : Int32) < 0 ∨ cl322.slots.size ≤ ((1 : Int32)).toNatClampNeg) := inb_of Sa322 ⟨by decide, by decide⟩
  obtain ⟨T322, h322, X322, e322, W322, st322⟩ := stI X315 hx hZ e315 Ar322 (j := (1 : Int32)) hin322 (g := (mkF m 78 #[vI p1, vI p2, vI p3, vI p4, vI p5, vI 4, vR b101, vR b308, uS, uS] [(.int (own_i (own_cpn p3))), (.int 1), (.ref b308)])) rfl rfl (hb hby at_78)
  refine Go.step st322 ?_
  have V323 := Arv.set Ar322 qa322 Sa322 Na322 Ha322 Ga322 rfl W322 1 rfl (Nat.le_of_ble_eq_true rfl)
  have N322 := Fr.snoc X322 N315 g_b308
  have F324 := (F317.wr W322)
  have F325 := (F318.wr W322)
  have F326 := (F319.other W322 ne_b101_b308)
  have Z327 : n0 ≤ h322.size := (Nat.le_trans Z320 (Nat.le_of_eq W322.size.symm))
  show gG T322 m 79 #[vI p1, vI p2, vI p3, vI p4, vI p5, vI 4, vR b101, vR b308, uS, uS] []
  refine Go.step (fun _ kt => XS.iload X322.here hx rfl (hb hby at_79) rfl (XS.iconst X322.here hx rfl (hb hby at_81) (XS.icmpNo X322.here hx rfl (hb hby at_82) rfl (tlt (by decide : (2 : Int32) < (4 : Int32))).2.2.2 (XS.aload X322.here hx rfl (hb hby at_85) rfl rfl (XS.iconst X322.here hx rfl (hb hby at_87) (XS.aload X322.here hx rfl (hb hby at_88) rfl rfl (XS.iconst X322.here hx rfl (hb hby at_90) kt))))))) ?_
  show gG T322 m 91 #[vI p1, vI p2, vI p3, vI p4, vI p5, vI 4, vR b101, vR b308, uS, uS] [(.int 2), (.ref b101), (.int 2), (.ref b308)]
  obtain ⟨cl328, Ar328, qa328, Sa328, Na328, Ha328, Ga328⟩ := (id F326)
  have hin328 : ¬ ((2 : Int32) < 0 ∨ cl328.slots.size ≤ ((2 : Int32)).toNatClampNeg) := inb_of Sa328 ⟨by decide, by decide⟩
  have hat328 : cl328.slots[((2 : Int32)).toNatClampNeg]? = some (.int (own_i (own_cpn p4))) := at_of Ha328 hin328 rfl
  refine Go.step (X322.iaload hx (j := (2 : Int32)) (v := (.int (own_i (own_cpn p4)))) (by rw [e322]; exact Ar328.1) (State.isArrayOf_alike hZ.alike Ar328.2.1) Ar328.2.2 hin328 hat328 (g := (mkF m 91 #[vI p1, vI p2, vI p3, vI p4, vI p5, vI 4, vR b101, vR b308, uS, uS] [(.int 2), (.ref b101), (.int 2), (.ref b308)])) rfl rfl (hb hby at_91)) ?_
  obtain ⟨cl329, Ar329, qa329, Sa329, Na329, Ha329, Ga329⟩ := (id V323)
  have hin329 : ¬ ((2 : Int32) < 0 ∨ cl329.slots.size ≤ ((2 : Int32)).toNatClampNeg) := inb_of Sa329 ⟨by decide, by decide⟩
  obtain ⟨T329, h329, X329, e329, W329, st329⟩ := stI X322 hx hZ e322 Ar329 (j := (2 : Int32)) hin329 (g := (mkF m 92 #[vI p1, vI p2, vI p3, vI p4, vI p5, vI 4, vR b101, vR b308, uS, uS] [(.int (own_i (own_cpn p4))), (.int 2), (.ref b308)])) rfl rfl (hb hby at_92)
  refine Go.step st329 ?_
  have V330 := Arv.set Ar329 qa329 Sa329 Na329 Ha329 Ga329 rfl W329 2 rfl (Nat.le_of_ble_eq_true rfl)
  have N329 := Fr.snoc X329 N322 g_b308
  have F331 := (F324.wr W329)
  have F332 := (F325.wr W329)
  have F333 := (F326.other W329 ne_b101_b308)
  have Z334 : n0 ≤ h329.size := (Nat.le_trans Z327 (Nat.le_of_eq W329.size.symm))
  show gG T329 m 93 #[vI p1, vI p2, vI p3, vI p4, vI p5, vI 4, vR b101, vR b308, uS, uS] []
  refine Go.step (fun _ kt => XS.iload X329.here hx rfl (hb hby at_93) rfl (XS.iconst X329.here hx rfl (hb hby at_95) (XS.icmpNo X329.here hx rfl (hb hby at_96) rfl (tlt (by decide : (3 : Int32) < (4 : Int32))).2.2.2 (XS.aload X329.here hx rfl (hb hby at_99) rfl rfl (XS.iconst X329.here hx rfl (hb hby at_101) (XS.aload X329.here hx rfl (hb hby at_102) rfl rfl (XS.iconst X329.here hx rfl (hb hby at_104) kt))))))) ?_
  show gG T329 m 105 #[vI p1, vI p2, vI p3, vI p4, vI p5, vI 4, vR b101, vR b308, uS, uS] [(.int 3), (.ref b101), (.int 3), (.ref b308)]
  obtain ⟨cl335, Ar335, qa335, Sa335, Na335, Ha335, Ga335⟩ := (id F333)
  have hin335 : ¬ ((3 : Int32) < 0 ∨ cl335.slots.size ≤ ((3 : Int32)).toNatClampNeg) := inb_of Sa335 ⟨by decide, by decide⟩
  have hat335 : cl335.slots[((3 : Int32)).toNatClampNeg]? = some (.int (own_i (own_cpn p5))) := at_of Ha335 hin335 rfl
  refine Go.step (X329.iaload hx (j := (3 : Int32)) (v := (.int (own_i (own_cpn p5)))) (by rw [e329]; exact Ar335.1) (State.isArrayOf_alike hZ.alike Ar335.2.1) Ar335.2.2 hin335 hat335 (g := (mkF m 105 #[vI p1, vI p2, vI p3, vI p4, vI p5, vI 4, vR b101, vR b308, uS, uS] [(.int 3), (.ref b101), (.int 3), (.ref b308)])) rfl rfl (hb hby at_105)) ?_
  obtain ⟨cl336, Ar336, qa336, Sa336, Na336, Ha336, Ga336⟩ := (id V330)
  have hin336 : ¬ ((3 : Int32) < 0 ∨ cl336.slots.size ≤ ((3 : Int32)).toNatClampNeg) := inb_of Sa336 ⟨by decide, by decide⟩
  obtain ⟨T336, h336, X336, e336, W336, st336⟩ := stI X329 hx hZ e329 Ar336 (j := (3 : Int32)) hin336 (g := (mkF m 106 #[vI p1, vI p2, vI p3, vI p4, vI p5, vI 4, vR b101, vR b308, uS, uS] [(.int (own_i (own_cpn p5))), (.int 3), (.ref b308)])) rfl rfl (hb hby at_106)
  refine Go.step st336 ?_
  have V337 := Arv.set Ar336 qa336 Sa336 Na336 Ha336 Ga336 rfl W336 3 rfl (Nat.le_of_ble_eq_true rfl)
  have N336 := Fr.snoc X336 N329 g_b308
  have F338 := (F331.wr W336)
  have F339 := (F332.wr W336)
  have F340 := (F333.other W336 ne_b101_b308)
  have Z341 : n0 ≤ h336.size := (Nat.le_trans Z334 (Nat.le_of_eq W336.size.symm))
  show gG T336 m 107 #[vI p1, vI p2, vI p3, vI p4, vI p5, vI 4, vR b101, vR b308, uS, uS] []
  refine Go.step (fun _ kt => XS.aload X336.here hx rfl (hb hby at_107) rfl rfl kt) ?_
  show gG T336 m 109 #[vI p1, vI p2, vI p3, vI p4, vI p5, vI 4, vR b101, vR b308, uS, uS] [(.ref b308)]
  have R342 : Arv Z h336 b308 k308 .int (own_i ([(own_cpn p2), (own_cpn p3), (own_cpn p4), (own_cpn p5)] : List Nat).length) ((([(own_cpn p2), (own_cpn p3), (own_cpn p4), (own_cpn p5)] : List Nat).map own_i).map Value.int) (.int 0) := V337
  obtain ⟨_, _, ⟨T343, L343, k343, n343⟩, -, X343, ⟨Lc343, hQ343, l343, y343, z343⟩, st343⟩ := Jvm.LawKit.callS X336 hx (y := Y37) hown (mvT hZ (w7 hw)) (mvT hZ (w8 hw)) (mvT hZ (w9 hw)) (mvT hZ (w10 hw)) (by decide) (backOf (W := 0) (rmenc l Z a0 hw [] b308 ([(own_cpn p2), (own_cpn p3), (own_cpn p4), (own_cpn p5)] : List Nat) k308 cs h336 n0 Z341 R342 F338 hcs (Nat.le_of_ble_eq_true rfl) (by intro z hz; simp only [List.mem_cons, List.not_mem_nil, or_false] at hz; rcases hz with rfl | rfl | rfl | rfl <;> exact own_cpn_le _)) hZ (w10 hw) (w9 hw) (by decide) (by decide)) (g := (mkF m 109 #[vI p1, vI p2, vI p3, vI p4, vI p5, vI 4, vR b101, vR b308, uS, uS] [(.ref b308)])) rfl hml.symm (argsL := [(.ref b308)]) (rest := []) (lenOf pd_27 rfl) rfl (Nat.le_of_eq rfl) (hb hby at_109) (fun _ _ => ⟨rfl, e336, (by decide : 2 + 5 ≤ _), (by decide : 8 + 92 ≤ _)⟩)
  dsimp only [Pt.U, Pt.locs, Pt.cells, Pt.slots] at X343 l343 y343 z343 st343 hQ343
  subst l343 y343 z343
  obtain ⟨b343r, b343b, b343kr, rfl, N343q, Kq343, P344, P345, P346, P347, g_b343r, szq_b343r, g_b343b, szq_b343b⟩ := hQ343
  have ne_b101_b343r : b101 ≠ b343r := Nat.ne_of_lt (Nat.lt_of_lt_of_le F340.lt szq_b343r)
  have ne_b308_b343r : b308 ≠ b343r := Nat.ne_of_lt (Nat.lt_of_lt_of_le R342.lt szq_b343r)
  have ne_b101_b343b : b101 ≠ b343b := Nat.ne_of_lt (Nat.lt_of_lt_of_le F340.lt szq_b343b)
  have ne_b308_b343b : b308 ≠ b343b := Nat.ne_of_lt (Nat.lt_of_lt_of_le R342.lt szq_b343b)
  have F348 := (own_sta_keep F338 Kq343 (by intro x hx; cases hx))
  have F349 := (own_sta_keep F339 Kq343 (by intro x hx; cases hx))
  have F350 := (F340.keep Kq343 (by simp))
  have F351 := (R342.keep Kq343 (by simp))
  have Z352 : n0 ≤ T343.heap.size := (Nat.le_trans Z341 Kq343.1)
  have N343 := Fr.app N336 N343q
  refine Go.step st343 ?_
  show gG T343 m 112 #[vI p1, vI p2, vI p3, vI p4, vI p5, vI 4, vR b101, vR b308, uS, uS] [(.ref b343r)]
  refine Go.step (fun _ kt => XS.astore X343.here hx rfl (hb hby at_112) rfl rfl (l' := #[vI p1, vI p2, vI p3, vI p4, vI p5, vI 4, vR b101, vR b308, vR b343r, uS]) rfl (XS.aload X343.here hx rfl (hb hby at_114) rfl rfl kt)) ?_
  obtain ⟨_, _, ⟨T353, L353, k353, n353⟩, -, X353, ⟨Lc353, hQ353, l353, y353, z353⟩, st353⟩ := Jvm.LawKit.callS X343 hx (y := Y38) hown (mvT hZ (w94 hw)) (mvT hZ (w95 hw)) (mvT hZ (w9 hw)) (mvT hZ (w96 hw)) (by decide) (backOf (W := 0) (rmdec l Z a0 hw [] b343r ([(own_cpn p2), (own_cpn p3), (own_cpn p4), (own_cpn p5)] : List Nat) (own_txt ([(own_cpn p2), (own_cpn p3), (own_cpn p4), (own_cpn p5)] : List Nat)) b343b b343kr cs fo T343.heap n0 Z352 P344 P345 P346 P347 F348 F349 hcs hfo (Nat.le_of_ble_eq_true rfl) (by intro z hz; simp only [List.mem_cons, List.not_mem_nil, or_false] at hz; rcases hz with rfl | rfl | rfl | rfl <;> exact own_cpn_le _) rfl) hZ (w96 hw) (w9 hw) (by decide) (by decide)) (g := (mkF m 116 #[vI p1, vI p2, vI p3, vI p4, vI p5, vI 4, vR b101, vR b308, vR b343r, uS] [(.ref b343r)])) rfl hml.symm (argsL := [(.ref b343r)]) (rest := []) (lenOf pd_28 rfl) rfl (Nat.le_of_eq rfl) (hb hby at_116) (fun _ _ => ⟨rfl, rfl, (by decide : 7 + 2 ≤ _), (by decide : 100 + 68 ≤ _)⟩)
  dsimp only [Pt.U, Pt.locs, Pt.cells, Pt.slots] at X353 l353 y353 z353 st353 hQ353
  subst l353 y353 z353
  obtain ⟨b353r, b353kr, rfl, N353q, Kq353, P354, g_b353r, szq_b353r⟩ := hQ353
  have ne_b101_b353r : b101 ≠ b353r := Nat.ne_of_lt (Nat.lt_of_lt_of_le F350.lt szq_b353r)
  have ne_b308_b353r : b308 ≠ b353r := Nat.ne_of_lt (Nat.lt_of_lt_of_le F351.lt szq_b353r)
  have ne_b343r_b353r : b343r ≠ b353r := Nat.ne_of_lt (Nat.lt_of_lt_of_le P344.lt szq_b353r)
  have ne_b343b_b353r : b343b ≠ b353r := Nat.ne_of_lt (Nat.lt_of_lt_of_le P347.lt szq_b353r)
  have F355 := (own_sta_keep F348 Kq353 (by intro x hx; cases hx))
  have F356 := (own_sta_keep F349 Kq353 (by intro x hx; cases hx))
  have F357 := (F350.keep Kq353 (by simp))
  have F358 := (F351.keep Kq353 (by simp))
  have F359 := (P344.keep Kq353)
  have F360 := (P345.keep Kq353 (by simp))
  have F361 := (P346.keep Kq353 (by simp))
  have F362 := (P347.keep Kq353 (by simp))
  have Z363 : n0 ≤ T353.heap.size := (Nat.le_trans Z352 Kq353.1)
  have N353 := Fr.app N343 N353q
  refine Go.step st353 ?_
  show gG T353 m 119 #[vI p1, vI p2, vI p3, vI p4, vI p5, vI 4, vR b101, vR b308, vR b343r, uS] [(.ref b353r)]
  refine Go.step (fun _ kt => XS.astore X353.here hx rfl (hb hby at_119) rfl rfl (l' := #[vI p1, vI p2, vI p3, vI p4, vI p5, vI 4, vR b101, vR b308, vR b343r, vR b353r]) rfl kt) ?_
  show gG T353 m 121 #[vI p1, vI p2, vI p3, vI p4, vI p5, vI 4, vR b101, vR b308, vR b343r, vR b353r] []
  have R364 : Arv Z T353.heap b353r b353kr .int 4 [(.int (own_i (own_cpn p2))), (.int (own_i (own_cpn p3))), (.int (own_i (own_cpn p4))), (.int (own_i (own_cpn p5)))] (.int 0) := P354
  refine Go.step (fun _ kt => XS.aload X353.here hx rfl (hb hby at_121) rfl rfl (XS.ifnullNo X353.here hx rfl (hb hby at_123) rfl (XS.aload X353.here hx rfl (hb hby at_126) rfl rfl kt))) ?_
  obtain ⟨cl365, Ar365, qa365, Sa365, Na365, Ha365, Ga365⟩ := (id R364)
  refine Go.step (X353.arraylength hx Ar365.1 (State.isArrayOf_alike hZ.alike Ar365.2.1) (g := (mkF m 128 #[vI p1, vI p2, vI p3, vI p4, vI p5, vI 4, vR b101, vR b308, vR b343r, vR b353r] [(.ref b353r)])) rfl rfl (hb hby at_128)) ?_
  rw [len_of Sa365 Na365]
  show gG T353 m 129 #[vI p1, vI p2, vI p3, vI p4, vI p5, vI 4, vR b101, vR b308, vR b343r, vR b353r] [(.int 4)]
  refine Go.step (fun _ kt => XS.iload X353.here hx rfl (hb hby at_129) rfl (XS.icmpYes X353.here hx rfl (pc0 := 131) (pc' := 136) rfl (hb hby at_131) rfl (teq (by decide : (4 : Int32) = (4 : Int32))).1 (by decide) (by decide) (XS.aload X353.here hx rfl (hb hby at_136) rfl rfl (XS.aload X353.here hx rfl (hb hby at_138) rfl rfl (XS.iconst X353.here hx rfl (hb hby at_140) kt))))) ?_
  show gG T353 m 141 #[vI p1, vI p2, vI p3, vI p4, vI p5, vI 4, vR b101, vR b308, vR b343r, vR b353r] [(.int 0), (.ref b101), (.ref b353r)]
  obtain ⟨_, _, ⟨T366, L366, k366, n366⟩, -, X366, ⟨Lc366, hQ366, l366, y366, z366⟩, st366⟩ := Jvm.LawKit.callS X353 hx (y := Y40) hown (mvT hZ (w148 hw)) (mvT hZ (w149 hw)) (mvT hZ (w4 hw)) (mvT hZ (w150 hw)) (by decide) (backOf (W := 0) (rmsmb l Z a0 hw [] b353r b101 0 b353kr k101 (4 : Int32) ([(own_i (own_cpn p2)), (own_i (own_cpn p3)), (own_i (own_cpn p4)), (own_i (own_cpn p5))] : List Int32) (4 : Int32) ([(own_i (own_cpn p2)), (own_i (own_cpn p3)), (own_i (own_cpn p4)), (own_i (own_cpn p5))] : List Int32) T353.heap n0 Z363 R364 F357 (by decide) (by decide) (by decide) (by decide) rfl) hZ (w150 hw) (w4 hw) (by decide) (by decide)) (g := (mkF m 141 #[vI p1, vI p2, vI p3, vI p4, vI p5, vI 4, vR b101, vR b308, vR b343r, vR b353r] [(.int 0), (.ref b101), (.ref b353r)])) rfl hml.symm (argsL := [(.ref b353r), (.ref b101), (.int 0)]) (rest := []) (lenOf pd_29 rfl) rfl (Nat.le_of_eq rfl) (hb hby at_141) (fun _ _ => ⟨rfl, rfl, (by decide : 9 + 0 ≤ _), (by decide : 168 + 0 ≤ _)⟩)
  dsimp only [Pt.U, Pt.locs, Pt.cells, Pt.slots] at X366 l366 y366 z366 st366 hQ366
  subst l366 y366 z366
  obtain ⟨rfl, N366q, eh366⟩ := hQ366
  have N366 := Fr.app N353 N366q
  refine Go.step st366 ?_
  show gG T366 m 144 #[vI p1, vI p2, vI p3, vI p4, vI p5, vI 4, vR b101, vR b308, vR b343r, vR b353r] [(.int 1)]
  refine Go.step (fun _ kt => XS.ifNo X366.here hx rfl (hb hby at_144) rfl ((if0 _ _).trans (feq (by decide : ¬ ((1 : Int32) = (0 : Int32)))).1) (XS.aload X366.here hx rfl (hb hby at_147) rfl rfl (XS.aload X366.here hx rfl (hb hby at_149) rfl rfl (XS.iconst X366.here hx rfl (hb hby at_151) kt)))) ?_
  show gG T366 m 152 #[vI p1, vI p2, vI p3, vI p4, vI p5, vI 4, vR b101, vR b308, vR b343r, vR b353r] [(.int 1), (.ref b101), (.ref b353r)]
  obtain ⟨_, _, ⟨T367, L367, k367, n367⟩, -, X367, ⟨Lc367, hQ367, l367, y367, z367⟩, st367⟩ := Jvm.LawKit.callS X366 hx (y := Y40) hown (mvT hZ (w148 hw)) (mvT hZ (w149 hw)) (mvT hZ (w4 hw)) (mvT hZ (w150 hw)) (by decide) (backOf (W := 0) (rmsmb l Z a0 hw [] b353r b101 1 b353kr k101 (4 : Int32) ([(own_i (own_cpn p2)), (own_i (own_cpn p3)), (own_i (own_cpn p4)), (own_i (own_cpn p5))] : List Int32) (4 : Int32) ([(own_i (own_cpn p2)), (own_i (own_cpn p3)), (own_i (own_cpn p4)), (own_i (own_cpn p5))] : List Int32) T353.heap n0 Z363 R364 F357 (by decide) (by decide) (by decide) (by decide) rfl) hZ (w150 hw) (w4 hw) (by decide) (by decide)) (g := (mkF m 152 #[vI p1, vI p2, vI p3, vI p4, vI p5, vI 4, vR b101, vR b308, vR b343r, vR b353r] [(.int 1), (.ref b101), (.ref b353r)])) rfl hml.symm (argsL := [(.ref b353r), (.ref b101), (.int 1)]) (rest := []) (lenOf pd_29 rfl) rfl (Nat.le_of_eq rfl) (hb hby at_152) (fun _ _ => ⟨rfl, eh366, (by decide : 9 + 0 ≤ _), (by decide : 168 + 0 ≤ _)⟩)
  dsimp only [Pt.U, Pt.locs, Pt.cells, Pt.slots] at X367 l367 y367 z367 st367 hQ367
  subst l367 y367 z367
  obtain ⟨rfl, N367q, eh367⟩ := hQ367
  have N367 := Fr.app N366 N367q
  refine Go.step st367 ?_
  show gG T367 m 155 #[vI p1, vI p2, vI p3, vI p4, vI p5, vI 4, vR b101, vR b308, vR b343r, vR b353r] [(.int 1)]
  refine Go.step (fun _ kt => XS.ifNo X367.here hx rfl (hb hby at_155) rfl ((if0 _ _).trans (feq (by decide : ¬ ((1 : Int32) = (0 : Int32)))).1) (XS.aload X367.here hx rfl (hb hby at_158) rfl rfl (XS.aload X367.here hx rfl (hb hby at_160) rfl rfl (XS.iconst X367.here hx rfl (hb hby at_162) kt)))) ?_
  show gG T367 m 163 #[vI p1, vI p2, vI p3, vI p4, vI p5, vI 4, vR b101, vR b308, vR b343r, vR b353r] [(.int 2), (.ref b101), (.ref b353r)]
  obtain ⟨_, _, ⟨T368, L368, k368, n368⟩, -, X368, ⟨Lc368, hQ368, l368, y368, z368⟩, st368⟩ := Jvm.LawKit.callS X367 hx (y := Y40) hown (mvT hZ (w148 hw)) (mvT hZ (w149 hw)) (mvT hZ (w4 hw)) (mvT hZ (w150 hw)) (by decide) (backOf (W := 0) (rmsmb l Z a0 hw [] b353r b101 2 b353kr k101 (4 : Int32) ([(own_i (own_cpn p2)), (own_i (own_cpn p3)), (own_i (own_cpn p4)), (own_i (own_cpn p5))] : List Int32) (4 : Int32) ([(own_i (own_cpn p2)), (own_i (own_cpn p3)), (own_i (own_cpn p4)), (own_i (own_cpn p5))] : List Int32) T353.heap n0 Z363 R364 F357 (by decide) (by decide) (by decide) (by decide) rfl) hZ (w150 hw) (w4 hw) (by decide) (by decide)) (g := (mkF m 163 #[vI p1, vI p2, vI p3, vI p4, vI p5, vI 4, vR b101, vR b308, vR b343r, vR b353r] [(.int 2), (.ref b101), (.ref b353r)])) rfl hml.symm (argsL := [(.ref b353r), (.ref b101), (.int 2)]) (rest := []) (lenOf pd_29 rfl) rfl (Nat.le_of_eq rfl) (hb hby at_163) (fun _ _ => ⟨rfl, eh367, (by decide : 9 + 0 ≤ _), (by decide : 168 + 0 ≤ _)⟩)
  dsimp only [Pt.U, Pt.locs, Pt.cells, Pt.slots] at X368 l368 y368 z368 st368 hQ368
  subst l368 y368 z368
  obtain ⟨rfl, N368q, eh368⟩ := hQ368
  have N368 := Fr.app N367 N368q
  refine Go.step st368 ?_
  show gG T368 m 166 #[vI p1, vI p2, vI p3, vI p4, vI p5, vI 4, vR b101, vR b308, vR b343r, vR b353r] [(.int 1)]
  refine Go.step (fun _ kt => XS.ifNo X368.here hx rfl (hb hby at_166) rfl ((if0 _ _).trans (feq (by decide : ¬ ((1 : Int32) = (0 : Int32)))).1) (XS.aload X368.here hx rfl (hb hby at_169) rfl rfl (XS.aload X368.here hx rfl (hb hby at_171) rfl rfl (XS.iconst X368.here hx rfl (hb hby at_173) kt)))) ?_
  show gG T368 m 174 #[vI p1, vI p2, vI p3, vI p4, vI p5, vI 4, vR b101, vR b308, vR b343r, vR b353r] [(.int 3), (.ref b101), (.ref b353r)]
  obtain ⟨_, _, ⟨T369, L369, k369, n369⟩, -, X369, ⟨Lc369, hQ369, l369, y369, z369⟩, st369⟩ := Jvm.LawKit.callS X368 hx (y := Y40) hown (mvT hZ (w148 hw)) (mvT hZ (w149 hw)) (mvT hZ (w4 hw)) (mvT hZ (w150 hw)) (by decide) (backOf (W := 0) (rmsmb l Z a0 hw [] b353r b101 3 b353kr k101 (4 : Int32) ([(own_i (own_cpn p2)), (own_i (own_cpn p3)), (own_i (own_cpn p4)), (own_i (own_cpn p5))] : List Int32) (4 : Int32) ([(own_i (own_cpn p2)), (own_i (own_cpn p3)), (own_i (own_cpn p4)), (own_i (own_cpn p5))] : List Int32) T353.heap n0 Z363 R364 F357 (by decide) (by decide) (by decide) (by decide) rfl) hZ (w150 hw) (w4 hw) (by decide) (by decide)) (g := (mkF m 174 #[vI p1, vI p2, vI p3, vI p4, vI p5, vI 4, vR b101, vR b308, vR b343r, vR b353r] [(.int 3), (.ref b101), (.ref b353r)])) rfl hml.symm (argsL := [(.ref b353r), (.ref b101), (.int 3)]) (rest := []) (lenOf pd_29 rfl) rfl (Nat.le_of_eq rfl) (hb hby at_174) (fun _ _ => ⟨rfl, eh368, (by decide : 9 + 0 ≤ _), (by decide : 168 + 0 ≤ _)⟩)
  dsimp only [Pt.U, Pt.locs, Pt.cells, Pt.slots] at X369 l369 y369 z369 st369 hQ369
  subst l369 y369 z369
  obtain ⟨rfl, N369q, eh369⟩ := hQ369
  have N369 := Fr.app N368 N369q
  refine Go.step st369 ?_
  show gG T369 m 177 #[vI p1, vI p2, vI p3, vI p4, vI p5, vI 4, vR b101, vR b308, vR b343r, vR b353r] [(.int 1)]
  refine Go.step (fun _ kt => XS.ifNo X369.here hx rfl (hb hby at_177) rfl ((if0 _ _).trans (feq (by decide : ¬ ((1 : Int32) = (0 : Int32)))).1) (XS.iconst X369.here hx rfl (hb hby at_180) (XS.goto X369.here hx rfl (pc0 := 181) (pc' := 185) rfl (hb hby at_181) (by decide) (by decide) kt))) ?_
  show gG T369 m 185 #[vI p1, vI p2, vI p3, vI p4, vI p5, vI 4, vR b101, vR b308, vR b343r, vR b353r] [(.int 1)]
  obtain ⟨fs, hr, hrun, hended, hW, hsame⟩ := X369.leave (v := some (.int 1)) (fun h => by rw [Bd.returns] at h; cases h)
  refine ⟨_, _, retN X369 hx (t := .boolean) Bd.returns (by simp) (hb hby at_185) hr, hrun, hended, _, _, rfl, ?_, ⟨_, rfl⟩, hW, hsame.mono (by decide) (by decide)⟩
  show Qrm0 Z p1 p2 p3 p4 p5 cs fo h0 n0 _ T369.heap _
  rw [eh369]
  exact ⟨rfl, N369⟩
theorem own_isR {args : Array Value} {s : State} {t : Term} (h : (Jvm.Cond.isRef t).value args s none s [] = some true) : ∃ v, t.eval args s none [] s = some v ∧ (v = .null ∨ ∃ fx, v = .ref fx) := by
  simp only [Cond.value] at h
  cases ht : t.eval args s none [] s with
  | none => simp [ht] at h
  | some x => cases x <;> simp [ht] at h ⊢
set_option maxRecDepth 65536 in
set_option maxHeartbeats 40000000 in
theorem comes_1 {Post : Tables → Env → Array Value → State → Outcome → State → Prop} (hpost : ∀ tb e args s v u, (limb_1_1.after args s (.returned v) u = true ∧ limb_1_2.after args s (.returned v) u = true ∧ True) → FrameEnd s (.returned v) u (Jvm.fieldLocs frame_1_writes args s ++ Jvm.arrayLocs frame_1_arrays args s ++ Jvm.staticLocs frame_1_statics s) 32 320 → Post tb e args s (.returned v) u) :
    ArmFor flags0 classFile x code maxLocals ret World_1 tables_1 room_1 Calls_1 rest_1 Pre_1 Post := by
  intro l hfl _ _ p e ha hc hk s m args below hf hA hF happ hP
  obtain ⟨hcalls, hrest, hpre⟩ := hP
  obtain ⟨-, -, -, hnamed, -, -, -, hat⟩ := (Spec.applies_iff hf).mp happ
  obtain ⟨hg, hn⟩ := and_e (Cond.before_iff.mp (show (Jvm.Cond.and given_1 narrow_1).before args s = true from hpre))
  obtain ⟨hcount, hg1⟩ := and_e hg
  obtain ⟨ga0, hg2⟩ := and_e hg1
  obtain ⟨ga1, hg3⟩ := and_e hg2
  obtain ⟨ga2, hg4⟩ := and_e hg3
  obtain ⟨ga3, hg5⟩ := and_e hg4
  have ga4 := hg5
  obtain ⟨w0, w1, w2, w3, w4, rfl⟩ : ∃ w0 w1 w2 w3 w4 : Value, args = #[w0, w1, w2, w3, w4] := by
    have hs : args.size = 5 := by simpa [Cond.value, given_1] using hcount
    obtain ⟨L⟩ := args
    match L, hs with
    | [w0, w1, w2, w3, w4], _ => exact ⟨w0, w1, w2, w3, w4, rfl⟩
  have hw := fun d (hd : d ∈ tables_1) => atoms_spec (ws := Jvm.Cond.code x code maxLocals ret :: tables_1) hat d (List.mem_cons_of_mem _ hd)
  have hfit : Fit s := fun {y c} hc i hi => by
    obtain ⟨ha, rfl⟩ := Array.getElem?_eq_some_iff.mp hc
    have q := List.all_eq_true.mp ((Array.all_eq_true_iff_forall_mem.mp hF) _ (Array.getElem_mem ha)) i (List.mem_range.mpr hi)
    simpa [Array.getElem?_eq_getElem hi] using q
  obtain ⟨hsets, hown0⟩ := atoms_of _ (rest_1_c_eq ▸ (show rest_1_c.before _ s = true from hrest))
  have hr0 := Cond.before_iff.mp hown0
  obtain ⟨i0, ei0⟩ := is_v ga0
  obtain rfl : w0 = (.int i0) := Option.some.inj ei0
  obtain ⟨i1, ei1⟩ := is_v ga1
  obtain rfl : w1 = (.int i1) := Option.some.inj ei1
  obtain ⟨i2, ei2⟩ := is_v ga2
  obtain rfl : w2 = (.int i2) := Option.some.inj ei2
  obtain ⟨i3, ei3⟩ := is_v ga3
  obtain rfl : w3 = (.int i3) := Option.some.inj ei3
  obtain ⟨i4, ei4⟩ := is_v ga4
  obtain rfl : w4 = (.int i4) := Option.some.inj ei4
  obtain ⟨cs, evcs⟩ := is_v (Cond.before_iff.mp (hsets _ (List.mem_of_getElem? (i := 1) rfl)))
  have S_cs : Sta s s.heap "java/lang/String" "COMPACT_STRINGS" "Z" (.int cs) := Sta.start evcs (Or.inl (hsets _ (List.mem_of_getElem? (i := 0) rfl)))
  have hcs : ¬ cs = 0 := gotF (Cond.eq_ints evcs rfl) (not_v (Cond.before_iff.mp (hsets _ (List.mem_of_getElem? (i := 2) rfl))))
  obtain ⟨fo, evfo, hfo⟩ := own_isR (Cond.before_iff.mp (hsets _ (List.mem_of_getElem? (i := 8) rfl)))
  have S_fo : Sta s s.heap "jdk/internal/util/Preconditions" "SIOOBE_FORMATTER" "Ljava/util/function/BiFunction;" fo := Sta.start evfo (Or.inl (hsets _ (List.mem_of_getElem? (i := 7) rfl)))
  obtain ⟨n, o, h1, h2, h3, _, L, rfl, ⟨rfl, N⟩, hq⟩ := rm0 l s _ hw tables_1 i0 i1 i2 i3 i4 cs fo s.heap s.heap.size (Nat.le_refl _) S_cs S_fo hcs hfo p e ha hc hk s m _ below hf ((Spec.applies_iff_loose hf).mp happ).1 ⟨rfl, State.Warmed39.refl s, rfl⟩ trivial
  refine ⟨n, _, h1, h2, h3, hpost _ _ _ _ _ _ ⟨Cond.after_iff.mpr rfl, Cond.after_iff.mpr (eq_i res_at (Term.int_eval (1)) rfl), trivial⟩ ⟨hq.1, hq.2.1, (hq.2.2.sift fun y hy => Or.inr (N y hy)).mono (by decide) (by decide)⟩⟩
theorem main_1_1 : Claimed_1_1 := comes_1 fun _ _ _ _ _ _ h hF => ⟨h.1, hF⟩
theorem main_1_2 : Claimed_1_2 := comes_1 fun _ _ _ _ _ _ h hF => ⟨h.2.1, hF⟩
end Jvm.Pilot.@@N@@
namespace Jvm.Pilot.@@N@@
open Jvm Jvm.ClassFile Sem Op Lib Jvm.Free Jvm.Stand Jvm.Pilot.@@N@@.Jvm.D
/-! MADE BY PROGRAM (witnessworld.py) out of the Statement's table words and the real class files: 23 classes; the members and pool entries that the words name. The judged class is class 1, her method 3. -/
namespace start1
open Jvm.ClassFile
def u (s : String) : CpInfo := .utf8 (stringToUtf16 s)
/-- a pool by its gaps: so many unusable entries, then the entry; so many at the end -/
def gap : Nat → List CpInfo → List CpInfo
  | 0, r => r
  | n + 1, r => .unusable :: gap n r
def poolList (es : List (Nat × CpInfo)) (last : Nat) : List CpInfo := es.foldr (fun e r => gap e.1 (e.2 :: r)) (gap last [])
def pool (es : List (Nat × CpInfo)) (last : Nat) : Array CpInfo := ⟨poolList es last⟩
def fileOf (pool : Array CpInfo) (this : Nat) (attrs : Array Attribute := #[]) (ms : Array MethodInfo := #[]) (fl : Nat := 33) (sup : Nat := 0) (ifs : Array Nat := #[]) (fds : Array FieldInfo := #[]) : ClassFile where
  minorVersion := 0
  majorVersion := 65
  constantPool := pool
  accessFlags := fl
  thisClass := this
  superClass := sup
  interfaces := ifs
  fields := fds
  methods := ms
  attributes := attrs
def plain (name : String) (sup : Option ClassId) : Class where
  name := name
  kind := .ordinary
  loader := none
  accessFlags := 33
  super := sup
  interfaces := #[]
  cf := none
  fields := #[]
  methods := #[]
  instanceTypes := #[]
  staticTypes := #[]
  resolved := #[]
  callSites := []
  init := .initialized
  statics := none
  mirror := none

def pool0 : Array CpInfo := pool [(5, u "<init>"), (0, u "()V"), (1, .class_ 10), (1, u "java/lang/Object"), (85, u "clone"), (0, u "()Ljava/lang/Object;")] 26

def k0c0 : Code := { maxStack := 0, maxLocals := 1, code := object_method_1_code, exceptionTable := #[], attributes := #[] }
def k0m0 : Method := { name := "<init>", desc := "()V", sig := { parameters := [], returnType := none }, accessFlags := 1, code := some k0c0 }
def k0m1 : Method := { name := "clone", desc := "()Ljava/lang/Object;", sig := { parameters := [], returnType := some (.object "java/lang/Object") }, accessFlags := 260, code := none }
/-- java/lang/Object -/
def k0 : Class := { plain "java/lang/Object" none with
  accessFlags := 33
  interfaces := #[]
  cf := some (fileOf pool0 8 #[] #[{ accessFlags := 1, nameIndex := 5, descriptorIndex := 6, attributes := #[] }, { accessFlags := 260, nameIndex := 96, descriptorIndex := 97, attributes := #[] }] 33 0 #[] #[])
  fields := #[]
  methods := #[k0m0, k0m1]
  instanceTypes := #[]
  staticTypes := #[]
  resolved := Array.replicate 124 none
  statics := none }

def pool1 : Array CpInfo := pool [(2, .class_ 4), (1, u "java/lang/Object"), (0, u "<init>"), (0, u "()V"), (0, .integer 1113984), (0, .integer 2147483647), (0, .methodref 10 11), (0, .class_ 12), (0, .nameAndType 13 14), (0, u "com/example/kenning/kenning/PunycodeEncodePinLaw"), (0, u "cp"), (0, u "(I)I"), (0, .methodref 16 17), (0, .class_ 18), (0, .nameAndType 19 20), (0, u "com/example/kenning/kenning/Punycode"), (0, u "encode"), (0, u "([I)Ljava/lang/String;"), (0, .methodref 16 22), (0, .nameAndType 23 24), (0, u "decode"), (0, u "(Ljava/lang/String;)[I"), (0, .methodref 10 26), (0, .nameAndType 27 28), (0, u "same"), (0, u "([I[II)Z"), (3, u "law"), (0, u "(IIIII)Z")] 6

def k1m0 : Method := { name := "<init>", desc := "()V", sig := { parameters := [], returnType := none }, accessFlags := 1, code := none }
def k1c1 : Code := { maxStack := 3, maxLocals := 2, code := method_2_code, exceptionTable := #[], attributes := #[] }
def k1m1 : Method := { name := "cp", desc := "(I)I", sig := { parameters := [.int], returnType := some .int }, accessFlags := 10, code := some k1c1 }
def k1c2 : Code := { maxStack := 3, maxLocals := 3, code := method_3_code, exceptionTable := #[], attributes := #[] }
def k1m2 : Method := { name := "same", desc := "([I[II)Z", sig := { parameters := [(.array .int), (.array .int), .int], returnType := some .boolean }, accessFlags := 10, code := some k1c2 }
def k1c3 : Code := { maxStack := 4, maxLocals := 10, code := code, exceptionTable := #[], attributes := #[] }
def k1m3 : Method := { name := "law", desc := "(IIIII)Z", sig := { parameters := [.int, .int, .int, .int, .int], returnType := some .boolean }, accessFlags := 9, code := some k1c3 }
/-- com/example/kenning/kenning/PunycodeEncodePinLaw -/
def k1 : Class := { plain "com/example/kenning/kenning/PunycodeEncodePinLaw" (some 0) with
  accessFlags := 49
  interfaces := #[]
  cf := some (fileOf pool1 10 #[] #[{ accessFlags := 1, nameIndex := 5, descriptorIndex := 6, attributes := #[] }, { accessFlags := 10, nameIndex := 13, descriptorIndex := 14, attributes := #[] }, { accessFlags := 10, nameIndex := 27, descriptorIndex := 28, attributes := #[] }, { accessFlags := 9, nameIndex := 32, descriptorIndex := 33, attributes := #[] }] 49 2 #[] #[])
  fields := #[]
  methods := #[k1m0, k1m1, k1m2, k1m3]
  instanceTypes := #[]
  staticTypes := #[]
  resolved := Array.replicate 40 none
  statics := none }

def pool2 : Array CpInfo := pool [(2, .class_ 4), (0, .nameAndType 5 6), (0, u "java/lang/Object"), (0, u "<init>"), (0, u "()V"), (0, .class_ 8), (0, u "com/example/kenning/kenning/Punycode"), (0, .methodref 10 11), (0, .class_ 12), (0, .nameAndType 13 14), (0, u "java/lang/String"), (0, u "lastIndexOf"), (0, u "(I)I"), (0, .methodref 16 17), (0, .class_ 18), (0, .nameAndType 19 20), (0, u "java/lang/Math"), (0, u "max"), (0, u "(II)I"), (0, .methodref 10 22), (0, .nameAndType 23 24), (0, u "length"), (0, u "()I"), (0, .methodref 10 26), (0, .nameAndType 27 28), (0, u "charAt"), (0, u "(I)C"), (0, .long 128), (1, .methodref 7 32), (0, .nameAndType 33 34), (0, u "digit"), (0, u "(C)I"), (2, .long 2147483647), (1, .methodref 7 40), (0, .nameAndType 41 20), (0, u "threshold"), (0, .methodref 7 43), (0, .nameAndType 44 45), (0, u "adapt"), (0, u "(JIZ)I"), (2, .long 1114111), (1, .methodref 51 52), (0, .class_ 53), (0, .nameAndType 54 55), (0, u "java/lang/System"), (0, u "arraycopy"), (0, u "(Ljava/lang/Object;ILjava/lang/Object;II)V"), (0, .methodref 57 58), (0, .class_ 59), (0, .nameAndType 60 61), (0, u "java/util/Arrays"), (0, u "copyOf"), (0, u "([II)[I"), (0, .class_ 63), (0, u "java/lang/StringBuilder"), (0, .methodref 62 3), (0, .methodref 62 66), (0, .nameAndType 67 68), (0, u "append"), (0, u "(C)Ljava/lang/StringBuilder;"), (0, .methodref 62 22), (0, .integer 2147483647), (0, .methodref 16 72), (0, .nameAndType 73 20), (0, u "min"), (0, .methodref 7 75), (0, .nameAndType 76 77), (0, u "digitChar"), (0, u "(J)C"), (0, .methodref 62 79), (0, .nameAndType 80 81), (0, u "toString"), (0, u "()Ljava/lang/String;"), (0, .long 26), (1, .long 97), (1, .long 48), (1, .long 700), (1, .long 2), (1, .long 455), (1, .long 35), (1, .long 36), (1, .long 38), (1, u "BASE"), (0, u "I"), (2, u "T_MIN"), (1, u "T_MAX"), (1, u "SKEW"), (1, u "DAMP"), (1, u "INITIAL_BIAS"), (1, u "INITIAL_N"), (1, u "DELIMITER"), (0, u "C"), (3, u "decode"), (0, u "(Ljava/lang/String;)[I"), (3, u "encode"), (0, u "([I)Ljava/lang/String;")] 2

def k2m0 : Method := { name := "<init>", desc := "()V", sig := { parameters := [], returnType := none }, accessFlags := 2, code := none }
def k2c1 : Code := { maxStack := 7, maxLocals := 18, code := prog_12_method_2_code, exceptionTable := #[], attributes := #[] }
def k2m1 : Method := { name := "decode", desc := "(Ljava/lang/String;)[I", sig := { parameters := [(.object "java/lang/String")], returnType := some (.array .int) }, accessFlags := 8, code := some k2c1 }
def k2c2 : Code := { maxStack := 7, maxLocals := 17, code := prog_12_method_3_code, exceptionTable := #[], attributes := #[] }
def k2m2 : Method := { name := "encode", desc := "([I)Ljava/lang/String;", sig := { parameters := [(.array .int)], returnType := some (.object "java/lang/String") }, accessFlags := 8, code := some k2c2 }
def k2c3 : Code := { maxStack := 2, maxLocals := 2, code := prog_12_method_4_code, exceptionTable := #[], attributes := #[] }
def k2m3 : Method := { name := "digit", desc := "(C)I", sig := { parameters := [.char], returnType := some .int }, accessFlags := 10, code := some k2c3 }
def k2c4 : Code := { maxStack := 4, maxLocals := 2, code := prog_12_method_5_code, exceptionTable := #[], attributes := #[] }
def k2m4 : Method := { name := "digitChar", desc := "(J)C", sig := { parameters := [.long], returnType := some .char }, accessFlags := 10, code := some k2c4 }
def k2c5 : Code := { maxStack := 4, maxLocals := 2, code := prog_12_method_6_code, exceptionTable := #[], attributes := #[] }
def k2m5 : Method := { name := "threshold", desc := "(II)I", sig := { parameters := [.int, .int], returnType := some .int }, accessFlags := 10, code := some k2c5 }
def k2c6 : Code := { maxStack := 8, maxLocals := 7, code := prog_12_method_7_code, exceptionTable := #[], attributes := #[] }
def k2m6 : Method := { name := "adapt", desc := "(JIZ)I", sig := { parameters := [.long, .int, .boolean], returnType := some .int }, accessFlags := 10, code := some k2c6 }
/-- com/example/kenning/kenning/Punycode -/
def k2 : Class := { plain "com/example/kenning/kenning/Punycode" (some 0) with
  accessFlags := 48
  interfaces := #[]
  cf := some (fileOf pool2 7 #[] #[{ accessFlags := 2, nameIndex := 5, descriptorIndex := 6, attributes := #[] }, { accessFlags := 8, nameIndex := 121, descriptorIndex := 122, attributes := #[] }, { accessFlags := 8, nameIndex := 126, descriptorIndex := 127, attributes := #[] }, { accessFlags := 10, nameIndex := 33, descriptorIndex := 34, attributes := #[] }, { accessFlags := 10, nameIndex := 76, descriptorIndex := 77, attributes := #[] }, { accessFlags := 10, nameIndex := 41, descriptorIndex := 20, attributes := #[] }, { accessFlags := 10, nameIndex := 44, descriptorIndex := 45, attributes := #[] }] 48 2 #[] #[{ accessFlags := 26, nameIndex := 100, descriptorIndex := 101, attributes := #[] }, { accessFlags := 26, nameIndex := 104, descriptorIndex := 101, attributes := #[] }, { accessFlags := 26, nameIndex := 106, descriptorIndex := 101, attributes := #[] }, { accessFlags := 26, nameIndex := 108, descriptorIndex := 101, attributes := #[] }, { accessFlags := 26, nameIndex := 110, descriptorIndex := 101, attributes := #[] }, { accessFlags := 26, nameIndex := 112, descriptorIndex := 101, attributes := #[] }, { accessFlags := 26, nameIndex := 114, descriptorIndex := 101, attributes := #[] }, { accessFlags := 26, nameIndex := 116, descriptorIndex := 117, attributes := #[] }])
  fields := #[{ name := "BASE", type := .int, accessFlags := 26, slot := 0, constantValue := 0 }, { name := "T_MIN", type := .int, accessFlags := 26, slot := 1, constantValue := 0 }, { name := "T_MAX", type := .int, accessFlags := 26, slot := 2, constantValue := 0 }, { name := "SKEW", type := .int, accessFlags := 26, slot := 3, constantValue := 0 }, { name := "DAMP", type := .int, accessFlags := 26, slot := 4, constantValue := 0 }, { name := "INITIAL_BIAS", type := .int, accessFlags := 26, slot := 5, constantValue := 0 }, { name := "INITIAL_N", type := .int, accessFlags := 26, slot := 6, constantValue := 0 }, { name := "DELIMITER", type := .char, accessFlags := 26, slot := 7, constantValue := 0 }]
  methods := #[k2m0, k2m1, k2m2, k2m3, k2m4, k2m5, k2m6]
  instanceTypes := #[]
  staticTypes := #[.int, .int, .int, .int, .int, .int, .int, .char]
  resolved := Array.replicate 130 none
  statics := none }

def pool3 : Array CpInfo := pool [(1, .class_ 2), (0, u "java/lang/Appendable"), (0, .class_ 4), (0, u "java/lang/Object")] 9

/-- java/lang/Appendable -/
def k3 : Class := { plain "java/lang/Appendable" (some 0) with
  accessFlags := 1537
  interfaces := #[]
  cf := some (fileOf pool3 1 #[] #[] 1537 3 #[] #[])
  fields := #[]
  methods := #[]
  instanceTypes := #[]
  staticTypes := #[]
  resolved := Array.replicate 14 none
  statics := none }

def pool4 : Array CpInfo := pool [(2, .class_ 4), (1, u "java/lang/CharSequence"), (42, .class_ 48), (0, u "java/lang/CharSequence$1CodePointIterator"), (10, .class_ 60), (0, u "java/lang/CharSequence$1CharIterator"), (5, .class_ 67), (0, u "java/lang/Object")] 63

/-- java/lang/CharSequence -/
def k4 : Class := { plain "java/lang/CharSequence" (some 0) with
  accessFlags := 1537
  interfaces := #[]
  cf := some (fileOf pool4 2 #[.nestMembers #[47, 59]] #[] 1537 66 #[] #[])
  fields := #[]
  methods := #[]
  instanceTypes := #[]
  staticTypes := #[]
  resolved := Array.replicate 131 none
  statics := none }

def pool5 : Array CpInfo := pool [(1, .class_ 2), (0, u "java/lang/String"), (0, .methodref 4 5), (0, .class_ 6), (0, .nameAndType 7 8), (0, u "java/lang/Object"), (0, u "<init>"), (0, u "()V"), (1, .class_ 12), (1, u "java/lang/AbstractStringBuilder"), (0, u "EMPTYVALUE"), (0, u "[B"), (0, .fieldref 10 16), (0, .nameAndType 17 14), (0, u "value"), (0, .fieldref 1 19), (0, .nameAndType 20 21), (0, u "COMPACT_STRINGS"), (0, u "Z"), (0, .fieldref 10 23), (0, .nameAndType 24 25), (0, u "coder"), (0, u "B"), (8, u "length"), (0, u "()I"), (3, .integer 2147483647), (5, u "append"), (2, .class_ 49), (0, u "java/lang/CharSequence"), (25, u "maybeLatin1"), (3, .fieldref 10 80), (0, .nameAndType 81 82), (0, u "count"), (0, u "I"), (0, .methodref 10 84), (0, .nameAndType 85 86), (0, u "isLatin1"), (0, u "()Z"), (1, .class_ 90), (1, u "java/lang/StringLatin1"), (9, .methodref 10 101), (0, .nameAndType 102 103), (0, u "ensureCapacityInternal"), (0, u "(I)V"), (0, .methodref 10 105), (0, .nameAndType 106 107), (0, u "newCapacity"), (0, u "(I)I"), (0, .methodref 109 110), (0, .class_ 111), (0, .nameAndType 112 113), (0, u "java/util/Arrays"), (0, u "copyOf"), (0, u "([BI)[B"), (0, .methodref 115 116), (0, .class_ 117), (0, .nameAndType 118 119), (0, u "jdk/internal/util/ArraysSupport"), (0, u "newLength"), (0, u "(III)I"), (71, .methodref 88 192), (0, .nameAndType 193 194), (0, u "canEncode"), (0, u "(C)Z"), (97, u "(C)Ljava/lang/AbstractStringBuilder;"), (110, u "()[B"), (40, .class_ 445), (0, u "java/lang/Appendable"), (106, u "getValue")] 56

def k5m0 : Method := { name := "<init>", desc := "()V", sig := { parameters := [], returnType := none }, accessFlags := 0, code := none }
def k5c1 : Code := { maxStack := 2, maxLocals := 2, code := jdk_68_method_2_code, exceptionTable := #[], attributes := #[] }
def k5m1 : Method := { name := "<init>", desc := "(I)V", sig := { parameters := [.int], returnType := none }, accessFlags := 0, code := some k5c1 }
def k5c2 : Code := { maxStack := 1, maxLocals := 1, code := jdk_68_method_6_code, exceptionTable := #[], attributes := #[] }
def k5m2 : Method := { name := "length", desc := "()I", sig := { parameters := [], returnType := some .int }, accessFlags := 1, code := some k5c2 }
def k5c3 : Code := { maxStack := 4, maxLocals := 3, code := jdk_68_method_9_code, exceptionTable := #[], attributes := #[] }
def k5m3 : Method := { name := "ensureCapacityInternal", desc := "(I)V", sig := { parameters := [.int], returnType := none }, accessFlags := 2, code := some k5c3 }
def k5c4 : Code := { maxStack := 5, maxLocals := 6, code := jdk_68_method_10_code, exceptionTable := #[], attributes := #[] }
def k5m4 : Method := { name := "newCapacity", desc := "(I)I", sig := { parameters := [.int], returnType := some .int }, accessFlags := 2, code := some k5c4 }
def k5c5 : Code := { maxStack := 5, maxLocals := 2, code := jdk_68_method_31_code, exceptionTable := #[], attributes := #[] }
def k5m5 : Method := { name := "append", desc := "(C)Ljava/lang/AbstractStringBuilder;", sig := { parameters := [.char], returnType := some (.object "java/lang/AbstractStringBuilder") }, accessFlags := 1, code := some k5c5 }
def k5c6 : Code := { maxStack := 1, maxLocals := 1, code := jdk_68_method_64_code, exceptionTable := #[], attributes := #[] }
def k5m6 : Method := { name := "getValue", desc := "()[B", sig := { parameters := [], returnType := some (.array .byte) }, accessFlags := 16, code := some k5c6 }
def k5c7 : Code := { maxStack := 1, maxLocals := 1, code := jdk_68_method_68_code, exceptionTable := #[], attributes := #[] }
def k5m7 : Method := { name := "isLatin1", desc := "()Z", sig := { parameters := [], returnType := some .boolean }, accessFlags := 16, code := some k5c7 }
/-- java/lang/AbstractStringBuilder -/
def k5 : Class := { plain "java/lang/AbstractStringBuilder" (some 0) with
  accessFlags := 1056
  interfaces := #[3, 4]
  cf := some (fileOf pool5 10 #[] #[{ accessFlags := 0, nameIndex := 7, descriptorIndex := 8, attributes := #[] }, { accessFlags := 0, nameIndex := 7, descriptorIndex := 103, attributes := #[] }, { accessFlags := 1, nameIndex := 34, descriptorIndex := 35, attributes := #[] }, { accessFlags := 2, nameIndex := 102, descriptorIndex := 103, attributes := #[] }, { accessFlags := 2, nameIndex := 106, descriptorIndex := 107, attributes := #[] }, { accessFlags := 1, nameIndex := 45, descriptorIndex := 292, attributes := #[] }, { accessFlags := 16, nameIndex := 552, descriptorIndex := 403, attributes := #[] }, { accessFlags := 16, nameIndex := 85, descriptorIndex := 86, attributes := #[] }] 1056 4 #[444, 48] #[{ accessFlags := 0, nameIndex := 17, descriptorIndex := 14, attributes := #[] }, { accessFlags := 0, nameIndex := 24, descriptorIndex := 25, attributes := #[] }, { accessFlags := 0, nameIndex := 75, descriptorIndex := 21, attributes := #[] }, { accessFlags := 0, nameIndex := 81, descriptorIndex := 82, attributes := #[] }, { accessFlags := 26, nameIndex := 13, descriptorIndex := 14, attributes := #[] }])
  fields := #[{ name := "value", type := (.array .byte), accessFlags := 0, slot := 0, constantValue := 0 }, { name := "coder", type := .byte, accessFlags := 0, slot := 1, constantValue := 0 }, { name := "maybeLatin1", type := .boolean, accessFlags := 0, slot := 2, constantValue := 0 }, { name := "count", type := .int, accessFlags := 0, slot := 3, constantValue := 0 }, { name := "EMPTYVALUE", type := (.array .byte), accessFlags := 26, slot := 0, constantValue := 0 }]
  methods := #[k5m0, k5m1, k5m2, k5m3, k5m4, k5m5, k5m6, k5m7]
  instanceTypes := #[(.array .byte), .byte, .boolean, .int]
  staticTypes := #[(.array .byte)]
  resolved := Array.replicate 609 none
  statics := none }

def pool6 : Array CpInfo := pool [(1, .class_ 2), (0, u "java/io/Serializable"), (0, .class_ 4), (0, u "java/lang/Object")] 2

/-- java/io/Serializable -/
def k6 : Class := { plain "java/io/Serializable" (some 0) with
  accessFlags := 1537
  interfaces := #[]
  cf := some (fileOf pool6 1 #[] #[] 1537 3 #[] #[])
  fields := #[]
  methods := #[]
  instanceTypes := #[]
  staticTypes := #[]
  resolved := Array.replicate 7 none
  statics := none }

def pool7 : Array CpInfo := pool [(1, .class_ 2), (0, u "java/lang/Comparable"), (0, .class_ 4), (0, u "java/lang/Object")] 7

/-- java/lang/Comparable -/
def k7 : Class := { plain "java/lang/Comparable" (some 0) with
  accessFlags := 1537
  interfaces := #[]
  cf := some (fileOf pool7 1 #[] #[] 1537 3 #[] #[])
  fields := #[]
  methods := #[]
  instanceTypes := #[]
  staticTypes := #[]
  resolved := Array.replicate 12 none
  statics := none }

def pool8 : Array CpInfo := pool [(1, .methodref 2 3), (0, .class_ 4), (0, .nameAndType 5 6), (0, u "java/lang/AbstractStringBuilder"), (0, u "<init>"), (0, u "(I)V"), (11, .class_ 20), (1, u "java/lang/String"), (3, .class_ 26), (1, u "java/lang/StringBuilder"), (0, u "append"), (22, .methodref 2 51), (0, .nameAndType 27 52), (0, u "(C)Ljava/lang/AbstractStringBuilder;"), (84, .methodref 18 138), (0, .nameAndType 5 139), (0, u "(Ljava/lang/StringBuilder;)V"), (5, u "()V"), (10, u "()I"), (129, u "(C)Ljava/lang/StringBuilder;"), (56, .methodref 2 344), (0, .nameAndType 345 156), (0, u "length"), (3, .class_ 350), (0, u "java/lang/Appendable"), (0, .class_ 352), (0, u "java/io/Serializable"), (0, .class_ 354), (0, u "java/lang/Comparable"), (0, .class_ 356), (0, u "java/lang/CharSequence"), (0, u "serialVersionUID"), (0, u "J"), (40, u "toString"), (0, u "()Ljava/lang/String;")] 21

def k8c0 : Code := { maxStack := 2, maxLocals := 1, code := jdk_67_method_1_code, exceptionTable := #[], attributes := #[] }
def k8m0 : Method := { name := "<init>", desc := "()V", sig := { parameters := [], returnType := none }, accessFlags := 1, code := some k8c0 }
def k8c1 : Code := { maxStack := 2, maxLocals := 2, code := jdk_67_method_14_code, exceptionTable := #[], attributes := #[] }
def k8m1 : Method := { name := "append", desc := "(C)Ljava/lang/StringBuilder;", sig := { parameters := [.char], returnType := some (.object "java/lang/StringBuilder") }, accessFlags := 1, code := some k8c1 }
def k8c2 : Code := { maxStack := 3, maxLocals := 1, code := jdk_67_method_42_code, exceptionTable := #[], attributes := #[] }
def k8m2 : Method := { name := "toString", desc := "()Ljava/lang/String;", sig := { parameters := [], returnType := some (.object "java/lang/String") }, accessFlags := 1, code := some k8c2 }
def k8c3 : Code := { maxStack := 1, maxLocals := 1, code := jdk_67_method_93_code, exceptionTable := #[], attributes := #[] }
def k8m3 : Method := { name := "length", desc := "()I", sig := { parameters := [], returnType := some .int }, accessFlags := 4161, code := some k8c3 }
/-- java/lang/StringBuilder -/
def k8 : Class := { plain "java/lang/StringBuilder" (some 5) with
  accessFlags := 49
  interfaces := #[3, 6, 7, 4]
  cf := some (fileOf pool8 24 #[] #[{ accessFlags := 1, nameIndex := 5, descriptorIndex := 145, attributes := #[] }, { accessFlags := 1, nameIndex := 27, descriptorIndex := 286, attributes := #[] }, { accessFlags := 1, nameIndex := 399, descriptorIndex := 400, attributes := #[] }, { accessFlags := 4161, nameIndex := 345, descriptorIndex := 156, attributes := #[] }] 49 2 #[349, 351, 353, 355] #[{ accessFlags := 24, nameIndex := 357, descriptorIndex := 358, attributes := #[] }])
  fields := #[{ name := "serialVersionUID", type := .long, accessFlags := 24, slot := 0, constantValue := 0 }]
  methods := #[k8m0, k8m1, k8m2, k8m3]
  instanceTypes := #[(.array .byte), .byte, .boolean, .int]
  staticTypes := #[.long]
  resolved := Array.replicate 422 none
  statics := none }

def pool9 : Array CpInfo := pool [(1, .class_ 2), (0, u "java/lang/constant/Constable"), (0, .class_ 4), (0, u "java/lang/Object")] 6

/-- java/lang/constant/Constable -/
def k9 : Class := { plain "java/lang/constant/Constable" (some 0) with
  accessFlags := 1537
  interfaces := #[]
  cf := some (fileOf pool9 1 #[] #[] 1537 3 #[] #[])
  fields := #[]
  methods := #[]
  instanceTypes := #[]
  staticTypes := #[]
  resolved := Array.replicate 11 none
  statics := none }

def pool10 : Array CpInfo := pool [(1, .class_ 2), (0, u "java/lang/constant/ConstantDesc"), (0, .class_ 4), (0, u "java/lang/Object")] 32

/-- java/lang/constant/ConstantDesc -/
def k10 : Class := { plain "java/lang/constant/ConstantDesc" (some 0) with
  accessFlags := 1537
  interfaces := #[]
  cf := some (fileOf pool10 1 #[] #[] 1537 3 #[] #[])
  fields := #[]
  methods := #[]
  instanceTypes := #[]
  staticTypes := #[]
  resolved := Array.replicate 37 none
  statics := none }

def pool11 : Array CpInfo := pool [(1, .methodref 2 3), (0, .class_ 4), (0, .nameAndType 5 6), (0, u "java/lang/Object"), (0, u "<init>"), (0, u "()V"), (2, .fieldref 10 11), (0, .class_ 12), (0, .nameAndType 13 14), (0, u "java/lang/String"), (0, u "value"), (0, u "[B"), (0, .fieldref 10 16), (0, .nameAndType 17 18), (0, u "coder"), (0, u "B"), (2, u "hash"), (0, u "I"), (2, u "hashIsZero"), (0, u "Z"), (11, .fieldref 10 39), (0, .nameAndType 40 26), (0, u "COMPACT_STRINGS"), (13, .methodref 55 56), (0, .class_ 57), (0, .nameAndType 58 59), (0, u "java/util/Arrays"), (0, u "copyOfRange"), (0, u "([BII)[B"), (37, u "([BII)I"), (9, .class_ 109), (1, u "java/lang/StringLatin1"), (32, u "()Z"), (191, u "()I"), (0, .methodref 10 336), (0, .nameAndType 17 337), (0, u "()B"), (2, u "()[B"), (22, u "([BI)C"), (27, u "(II)V"), (35, u "(I)C"), (61, .methodref 10 490), (0, .nameAndType 5 491), (0, u "(Ljava/lang/AbstractStringBuilder;Ljava/lang/Void;)V"), (0, .methodref 10 493), (0, .nameAndType 494 142), (0, u "isLatin1"), (0, .methodref 107 496), (0, .nameAndType 497 363), (0, u "charAt"), (3, u "checkIndex"), (3, .methodref 10 506), (0, .nameAndType 507 334), (0, u "length"), (41, .methodref 550 506), (0, .class_ 551), (0, u "java/lang/AbstractStringBuilder"), (0, .methodref 550 553), (0, .nameAndType 554 340), (0, u "getValue"), (20, .class_ 576), (0, u "java/lang/CharSequence"), (22, u "CASE_INSENSITIVE_ORDER"), (0, u "Ljava/util/Comparator;"), (35, u "(II)I"), (4, .methodref 10 642), (0, .nameAndType 643 636), (0, u "lastIndexOf"), (0, .methodref 107 645), (0, .nameAndType 643 97), (119, u "(I)I"), (281, .methodref 550 493), (5, .fieldref 1054 1055), (0, .class_ 1056), (0, .nameAndType 1057 1058), (0, u "jdk/internal/util/Preconditions"), (0, u "SIOOBE_FORMATTER"), (0, u "Ljava/util/function/BiFunction;"), (0, .methodref 1054 1060), (0, .nameAndType 501 1061), (0, u "(IILjava/util/function/BiFunction;)I"), (39, u "serialPersistentFields"), (0, u "[Ljava/io/ObjectStreamField;"), (0, .class_ 1104), (0, u "java/lang/String$CaseInsensitiveComparator"), (1, .class_ 1107), (0, u "java/io/Serializable"), (0, .class_ 1109), (0, u "java/lang/Comparable"), (0, .class_ 1111), (0, u "java/lang/constant/Constable"), (0, .class_ 1113), (0, u "java/lang/constant/ConstantDesc"), (2, u "serialVersionUID"), (0, u "J"), (3, u "REPL"), (0, u "C"), (2, u "LATIN1"), (1, u "UTF16"), (105, u "(Ljava/lang/StringBuilder;)V")] 217

def k11m0 : Method := { name := "<init>", desc := "()V", sig := { parameters := [], returnType := none }, accessFlags := 1, code := none }
def k11c1 : Code := { maxStack := 3, maxLocals := 2, code := jdk_42_method_53_code, exceptionTable := #[], attributes := #[] }
def k11m1 : Method := { name := "<init>", desc := "(Ljava/lang/StringBuilder;)V", sig := { parameters := [(.object "java/lang/StringBuilder")], returnType := none }, accessFlags := 1, code := some k11c1 }
def k11c2 : Code := { maxStack := 2, maxLocals := 1, code := jdk_42_method_54_code, exceptionTable := #[], attributes := #[] }
def k11m2 : Method := { name := "length", desc := "()I", sig := { parameters := [], returnType := some .int }, accessFlags := 1, code := some k11c2 }
def k11c3 : Code := { maxStack := 2, maxLocals := 2, code := jdk_42_method_56_code, exceptionTable := #[], attributes := #[] }
def k11m3 : Method := { name := "charAt", desc := "(I)C", sig := { parameters := [.int], returnType := some .char }, accessFlags := 1, code := some k11c3 }
def k11c4 : Code := { maxStack := 4, maxLocals := 2, code := jdk_42_method_82_code, exceptionTable := #[], attributes := #[] }
def k11m4 : Method := { name := "lastIndexOf", desc := "(I)I", sig := { parameters := [.int], returnType := some .int }, accessFlags := 1, code := some k11c4 }
def k11c5 : Code := { maxStack := 3, maxLocals := 3, code := jdk_42_method_83_code, exceptionTable := #[], attributes := #[] }
def k11m5 : Method := { name := "lastIndexOf", desc := "(II)I", sig := { parameters := [.int, .int], returnType := some .int }, accessFlags := 1, code := some k11c5 }
def k11c6 : Code := { maxStack := 5, maxLocals := 5, code := jdk_42_method_150_code, exceptionTable := #[], attributes := #[] }
def k11m6 : Method := { name := "<init>", desc := "(Ljava/lang/AbstractStringBuilder;Ljava/lang/Void;)V", sig := { parameters := [(.object "java/lang/AbstractStringBuilder"), (.object "java/lang/Void")], returnType := none }, accessFlags := 0, code := some k11c6 }
def k11c7 : Code := { maxStack := 1, maxLocals := 1, code := jdk_42_method_152_code, exceptionTable := #[], attributes := #[] }
def k11m7 : Method := { name := "coder", desc := "()B", sig := { parameters := [], returnType := some .byte }, accessFlags := 0, code := some k11c7 }
def k11c8 : Code := { maxStack := 1, maxLocals := 1, code := jdk_42_method_154_code, exceptionTable := #[], attributes := #[] }
def k11m8 : Method := { name := "isLatin1", desc := "()Z", sig := { parameters := [], returnType := some .boolean }, accessFlags := 0, code := some k11c8 }
def k11c9 : Code := { maxStack := 3, maxLocals := 2, code := jdk_42_method_155_code, exceptionTable := #[], attributes := #[] }
def k11m9 : Method := { name := "checkIndex", desc := "(II)V", sig := { parameters := [.int, .int], returnType := none }, accessFlags := 8, code := some k11c9 }
/-- java/lang/String -/
def k11 : Class := { plain "java/lang/String" (some 0) with
  accessFlags := 49
  interfaces := #[6, 7, 4, 9, 10]
  cf := some (fileOf pool11 10 #[.nestMembers #[1103]] #[{ accessFlags := 1, nameIndex := 5, descriptorIndex := 6, attributes := #[] }, { accessFlags := 1, nameIndex := 5, descriptorIndex := 1233, attributes := #[] }, { accessFlags := 1, nameIndex := 507, descriptorIndex := 334, attributes := #[] }, { accessFlags := 1, nameIndex := 497, descriptorIndex := 427, attributes := #[] }, { accessFlags := 1, nameIndex := 643, descriptorIndex := 765, attributes := #[] }, { accessFlags := 1, nameIndex := 643, descriptorIndex := 636, attributes := #[] }, { accessFlags := 0, nameIndex := 5, descriptorIndex := 491, attributes := #[] }, { accessFlags := 0, nameIndex := 17, descriptorIndex := 337, attributes := #[] }, { accessFlags := 0, nameIndex := 494, descriptorIndex := 142, attributes := #[] }, { accessFlags := 8, nameIndex := 501, descriptorIndex := 391, attributes := #[] }] 49 2 #[1106, 1108, 575, 1110, 1112] #[{ accessFlags := 18, nameIndex := 13, descriptorIndex := 14, attributes := #[] }, { accessFlags := 18, nameIndex := 17, descriptorIndex := 18, attributes := #[] }, { accessFlags := 2, nameIndex := 21, descriptorIndex := 22, attributes := #[] }, { accessFlags := 2, nameIndex := 25, descriptorIndex := 26, attributes := #[] }, { accessFlags := 26, nameIndex := 1116, descriptorIndex := 1117, attributes := #[] }, { accessFlags := 24, nameIndex := 40, descriptorIndex := 26, attributes := #[] }, { accessFlags := 26, nameIndex := 1101, descriptorIndex := 1102, attributes := #[] }, { accessFlags := 26, nameIndex := 1121, descriptorIndex := 1122, attributes := #[] }, { accessFlags := 25, nameIndex := 599, descriptorIndex := 600, attributes := #[] }, { accessFlags := 24, nameIndex := 1125, descriptorIndex := 18, attributes := #[] }, { accessFlags := 24, nameIndex := 1127, descriptorIndex := 18, attributes := #[] }])
  fields := #[{ name := "value", type := (.array .byte), accessFlags := 18, slot := 0, constantValue := 0 }, { name := "coder", type := .byte, accessFlags := 18, slot := 1, constantValue := 0 }, { name := "hash", type := .int, accessFlags := 2, slot := 2, constantValue := 0 }, { name := "hashIsZero", type := .boolean, accessFlags := 2, slot := 3, constantValue := 0 }, { name := "serialVersionUID", type := .long, accessFlags := 26, slot := 0, constantValue := 0 }, { name := "COMPACT_STRINGS", type := .boolean, accessFlags := 24, slot := 1, constantValue := 0 }, { name := "serialPersistentFields", type := (.array (.object "java/io/ObjectStreamField")), accessFlags := 26, slot := 2, constantValue := 0 }, { name := "REPL", type := .char, accessFlags := 26, slot := 3, constantValue := 0 }, { name := "CASE_INSENSITIVE_ORDER", type := (.object "java/util/Comparator"), accessFlags := 25, slot := 4, constantValue := 0 }, { name := "LATIN1", type := .byte, accessFlags := 24, slot := 5, constantValue := 0 }, { name := "UTF16", type := .byte, accessFlags := 24, slot := 6, constantValue := 0 }]
  methods := #[k11m0, k11m1, k11m2, k11m3, k11m4, k11m5, k11m6, k11m7, k11m8, k11m9]
  instanceTypes := #[(.array .byte), .byte, .int, .boolean]
  staticTypes := #[.long, .boolean, (.array (.object "java/io/ObjectStreamField")), .char, (.object "java/util/Comparator"), .byte, .byte]
  resolved := Array.replicate 1451 none
  statics := some 0 }

def pool12 : Array CpInfo := pool [(2, .class_ 4), (1, u "java/lang/Object"), (0, u "<init>"), (0, u "()V"), (7, .class_ 16), (1, u "java/util/Arrays"), (57, .class_ 76), (1, u "java/util/Arrays$NaturalOrder"), (32, u "()Ljava/lang/Object;"), (3, .class_ 115), (1, u "java/util/Arrays$LegacyMergeSort"), (1, u "Z"), (10, .nameAndType 129 109), (0, u "clone"), (9, u "copyOfRange"), (10, .methodref 151 152), (0, .class_ 153), (0, .nameAndType 154 155), (0, u "java/lang/System"), (0, u "arraycopy"), (0, u "(Ljava/lang/Object;ILjava/lang/Object;II)V"), (146, u "copyOf"), (1, .methodref 305 306), (0, .class_ 307), (0, .nameAndType 308 309), (0, u "java/lang/Math"), (0, u "min"), (0, u "(II)I"), (0, .methodref 311 128), (0, .class_ 312), (0, u "[B"), (3, .methodref 317 128), (0, .class_ 318), (0, u "[I"), (20, .methodref 14 340), (0, .nameAndType 341 342), (0, u "copyOfRangeByte"), (0, u "([BII)[B"), (0, .methodref 14 344), (0, .nameAndType 345 346), (0, u "checkLength"), (0, u "(II)V"), (28, .class_ 376), (0, u "java/util/Arrays$ArrayList"), (68, u "$assertionsDisabled"), (269, u "MIN_ARRAY_SORT_GRAN"), (0, u "I"), (2, u "INSERTIONSORT_THRESHOLD"), (149, u "([BI)[B"), (1, u "([II)[I"), (103, .class_ 976), (0, u "java/util/Arrays$ArrayItr")] 52

def k12m0 : Method := { name := "<init>", desc := "()V", sig := { parameters := [], returnType := none }, accessFlags := 2, code := none }
def k12c1 : Code := { maxStack := 6, maxLocals := 3, code := jdk_65_method_121_code, exceptionTable := #[], attributes := #[] }
def k12m1 : Method := { name := "copyOf", desc := "([BI)[B", sig := { parameters := [(.array .byte), .int], returnType := some (.array .byte) }, accessFlags := 9, code := some k12c1 }
def k12c2 : Code := { maxStack := 6, maxLocals := 3, code := jdk_65_method_123_code, exceptionTable := #[], attributes := #[] }
def k12m2 : Method := { name := "copyOf", desc := "([II)[I", sig := { parameters := [(.array .int), .int], returnType := some (.array .int) }, accessFlags := 9, code := some k12c2 }
def k12c3 : Code := { maxStack := 4, maxLocals := 2, code := jdk_65_method_131_code, exceptionTable := #[], attributes := #[] }
def k12m3 : Method := { name := "checkLength", desc := "(II)V", sig := { parameters := [.int, .int], returnType := none }, accessFlags := 10, code := some k12c3 }
def k12c4 : Code := { maxStack := 3, maxLocals := 3, code := jdk_65_method_132_code, exceptionTable := #[], attributes := #[] }
def k12m4 : Method := { name := "copyOfRange", desc := "([BII)[B", sig := { parameters := [(.array .byte), .int, .int], returnType := some (.array .byte) }, accessFlags := 9, code := some k12c4 }
def k12c5 : Code := { maxStack := 6, maxLocals := 5, code := jdk_65_method_133_code, exceptionTable := #[], attributes := #[] }
def k12m5 : Method := { name := "copyOfRangeByte", desc := "([BII)[B", sig := { parameters := [(.array .byte), .int, .int], returnType := some (.array .byte) }, accessFlags := 10, code := some k12c5 }
/-- java/util/Arrays -/
def k12 : Class := { plain "java/util/Arrays" (some 0) with
  accessFlags := 49
  interfaces := #[]
  cf := some (fileOf pool12 14 #[.nestMembers #[975, 375, 113, 74]] #[{ accessFlags := 2, nameIndex := 5, descriptorIndex := 6, attributes := #[] }, { accessFlags := 9, nameIndex := 302, descriptorIndex := 869, attributes := #[] }, { accessFlags := 9, nameIndex := 302, descriptorIndex := 871, attributes := #[] }, { accessFlags := 10, nameIndex := 345, descriptorIndex := 346, attributes := #[] }, { accessFlags := 9, nameIndex := 139, descriptorIndex := 342, attributes := #[] }, { accessFlags := 10, nameIndex := 341, descriptorIndex := 342, attributes := #[] }] 49 2 #[] #[{ accessFlags := 26, nameIndex := 715, descriptorIndex := 716, attributes := #[] }, { accessFlags := 26, nameIndex := 719, descriptorIndex := 716, attributes := #[] }, { accessFlags := 4120, nameIndex := 445, descriptorIndex := 117, attributes := #[] }])
  fields := #[{ name := "MIN_ARRAY_SORT_GRAN", type := .int, accessFlags := 26, slot := 0, constantValue := 0 }, { name := "INSERTIONSORT_THRESHOLD", type := .int, accessFlags := 26, slot := 1, constantValue := 0 }, { name := "$assertionsDisabled", type := .boolean, accessFlags := 4120, slot := 2, constantValue := 0 }]
  methods := #[k12m0, k12m1, k12m2, k12m3, k12m4, k12m5]
  instanceTypes := #[]
  staticTypes := #[.int, .int, .boolean]
  resolved := Array.replicate 1029 none
  statics := none }

def pool13 : Array CpInfo := pool [(1, .class_ 2), (0, u "java/lang/Math"), (1, .class_ 6), (1, u "java/lang/Object"), (0, u "<init>"), (0, u "()V"), (89, .class_ 100), (1, u "java/lang/Math$RandomNumberGeneratorHolder"), (71, u "negativeZeroFloatBits"), (0, u "J"), (2, u "negativeZeroDoubleBits"), (21, u "max"), (2, u "min"), (43, u "$assertionsDisabled"), (0, u "Z"), (88, u "(II)I"), (2, u "twoToTheDoubleScaleDown"), (0, u "D"), (4, u "twoToTheDoubleScaleUp"), (9, u "E"), (3, u "PI"), (2, u "TAU"), (2, u "DEGREES_TO_RADIANS"), (0, u "RADIANS_TO_DEGREES")] 94

def k13m0 : Method := { name := "<init>", desc := "()V", sig := { parameters := [], returnType := none }, accessFlags := 2, code := none }
def k13c1 : Code := { maxStack := 2, maxLocals := 2, code := jdk_29_method_65_code, exceptionTable := #[], attributes := #[] }
def k13m1 : Method := { name := "max", desc := "(II)I", sig := { parameters := [.int, .int], returnType := some .int }, accessFlags := 9, code := some k13c1 }
def k13c2 : Code := { maxStack := 2, maxLocals := 2, code := jdk_29_method_69_code, exceptionTable := #[], attributes := #[] }
def k13m2 : Method := { name := "min", desc := "(II)I", sig := { parameters := [.int, .int], returnType := some .int }, accessFlags := 9, code := some k13c2 }
/-- java/lang/Math -/
def k13 : Class := { plain "java/lang/Math" (some 0) with
  accessFlags := 49
  interfaces := #[]
  cf := some (fileOf pool13 1 #[.nestMembers #[98]] #[{ accessFlags := 2, nameIndex := 7, descriptorIndex := 8, attributes := #[] }, { accessFlags := 9, nameIndex := 198, descriptorIndex := 335, attributes := #[] }, { accessFlags := 9, nameIndex := 201, descriptorIndex := 335, attributes := #[] }] 49 4 #[] #[{ accessFlags := 25, nameIndex := 354, descriptorIndex := 339, attributes := #[] }, { accessFlags := 25, nameIndex := 358, descriptorIndex := 339, attributes := #[] }, { accessFlags := 25, nameIndex := 361, descriptorIndex := 339, attributes := #[] }, { accessFlags := 26, nameIndex := 364, descriptorIndex := 339, attributes := #[] }, { accessFlags := 26, nameIndex := 365, descriptorIndex := 339, attributes := #[] }, { accessFlags := 26, nameIndex := 172, descriptorIndex := 173, attributes := #[] }, { accessFlags := 26, nameIndex := 176, descriptorIndex := 173, attributes := #[] }, { accessFlags := 8, nameIndex := 344, descriptorIndex := 339, attributes := #[] }, { accessFlags := 8, nameIndex := 338, descriptorIndex := 339, attributes := #[] }, { accessFlags := 4120, nameIndex := 245, descriptorIndex := 246, attributes := #[] }])
  fields := #[{ name := "E", type := .double, accessFlags := 25, slot := 0, constantValue := 0 }, { name := "PI", type := .double, accessFlags := 25, slot := 1, constantValue := 0 }, { name := "TAU", type := .double, accessFlags := 25, slot := 2, constantValue := 0 }, { name := "DEGREES_TO_RADIANS", type := .double, accessFlags := 26, slot := 3, constantValue := 0 }, { name := "RADIANS_TO_DEGREES", type := .double, accessFlags := 26, slot := 4, constantValue := 0 }, { name := "negativeZeroFloatBits", type := .long, accessFlags := 26, slot := 5, constantValue := 0 }, { name := "negativeZeroDoubleBits", type := .long, accessFlags := 26, slot := 6, constantValue := 0 }, { name := "twoToTheDoubleScaleUp", type := .double, accessFlags := 8, slot := 7, constantValue := 0 }, { name := "twoToTheDoubleScaleDown", type := .double, accessFlags := 8, slot := 8, constantValue := 0 }, { name := "$assertionsDisabled", type := .boolean, accessFlags := 4120, slot := 9, constantValue := 0 }]
  methods := #[k13m0, k13m1, k13m2]
  instanceTypes := #[]
  staticTypes := #[.double, .double, .double, .double, .double, .long, .long, .double, .double, .boolean]
  resolved := Array.replicate 460 none
  statics := none }

def pool14 : Array CpInfo := pool [(2, .class_ 4), (1, u "java/lang/Object"), (0, u "<init>"), (0, u "()V"), (1, .class_ 10), (1, u "java/lang/System"), (0, u "allowSecurityManager"), (0, u "I"), (16, u "cons"), (0, u "Ljava/io/Console;"), (77, .class_ 110), (1, u "java/lang/System$CallersHolder"), (43, u "initialErrStream"), (0, u "Ljava/io/PrintStream;"), (19, u "security"), (0, u "Ljava/lang/SecurityManager;"), (31, .class_ 209), (0, u "java/lang/System$1"), (7, u "props"), (0, u "Ljava/util/Properties;"), (2, u "lineSeparator"), (0, u "Ljava/lang/String;"), (96, .class_ 321), (1, u "java/lang/System$LoggerFinder"), (5, .class_ 328), (0, u "java/lang/System$Logger"), (67, u "err"), (2, u "out"), (91, u "notSupportedJnuEncoding"), (15, u "in"), (17, u "initialIn"), (0, u "Ljava/io/InputStream;"), (35, u "bootLayer"), (0, u "Ljava/lang/ModuleLayer;"), (99, .class_ 664), (0, u "java/lang/System$2"), (9, u "NEVER"), (2, u "MAYBE"), (49, u "arraycopy"), (0, u "(Ljava/lang/Object;ILjava/lang/Object;II)V"), (72, .class_ 802), (0, u "java/lang/System$Logger$Level")] 31

def k14m0 : Method := { name := "<init>", desc := "()V", sig := { parameters := [], returnType := none }, accessFlags := 2, code := none }
def k14m1 : Method := { name := "arraycopy", desc := "(Ljava/lang/Object;ILjava/lang/Object;II)V", sig := { parameters := [(.object "java/lang/Object"), .int, (.object "java/lang/Object"), .int, .int], returnType := none }, accessFlags := 265, code := none }
/-- java/lang/System -/
def k14 : Class := { plain "java/lang/System" (some 0) with
  accessFlags := 49
  interfaces := #[]
  cf := some (fileOf pool14 8 #[.nestMembers #[319, 327, 801, 108, 663, 208]] #[{ accessFlags := 2, nameIndex := 5, descriptorIndex := 6, attributes := #[] }, { accessFlags := 265, nameIndex := 727, descriptorIndex := 728, attributes := #[] }] 49 2 #[] #[{ accessFlags := 25, nameIndex := 507, descriptorIndex := 526, attributes := #[] }, { accessFlags := 25, nameIndex := 399, descriptorIndex := 155, attributes := #[] }, { accessFlags := 25, nameIndex := 396, descriptorIndex := 155, attributes := #[] }, { accessFlags := 10, nameIndex := 525, descriptorIndex := 526, attributes := #[] }, { accessFlags := 26, nameIndex := 674, descriptorIndex := 12, attributes := #[] }, { accessFlags := 26, nameIndex := 677, descriptorIndex := 12, attributes := #[] }, { accessFlags := 10, nameIndex := 11, descriptorIndex := 12, attributes := #[] }, { accessFlags := 74, nameIndex := 175, descriptorIndex := 176, attributes := #[] }, { accessFlags := 10, nameIndex := 491, descriptorIndex := 222, attributes := #[] }, { accessFlags := 74, nameIndex := 29, descriptorIndex := 30, attributes := #[] }, { accessFlags := 74, nameIndex := 154, descriptorIndex := 155, attributes := #[] }, { accessFlags := 10, nameIndex := 217, descriptorIndex := 218, attributes := #[] }, { accessFlags := 10, nameIndex := 221, descriptorIndex := 222, attributes := #[] }, { accessFlags := 8, nameIndex := 562, descriptorIndex := 563, attributes := #[] }])
  fields := #[{ name := "in", type := (.object "java/io/InputStream"), accessFlags := 25, slot := 0, constantValue := 0 }, { name := "out", type := (.object "java/io/PrintStream"), accessFlags := 25, slot := 1, constantValue := 0 }, { name := "err", type := (.object "java/io/PrintStream"), accessFlags := 25, slot := 2, constantValue := 0 }, { name := "initialIn", type := (.object "java/io/InputStream"), accessFlags := 10, slot := 3, constantValue := 0 }, { name := "NEVER", type := .int, accessFlags := 26, slot := 4, constantValue := 0 }, { name := "MAYBE", type := .int, accessFlags := 26, slot := 5, constantValue := 0 }, { name := "allowSecurityManager", type := .int, accessFlags := 10, slot := 6, constantValue := 0 }, { name := "security", type := (.object "java/lang/SecurityManager"), accessFlags := 74, slot := 7, constantValue := 0 }, { name := "notSupportedJnuEncoding", type := (.object "java/lang/String"), accessFlags := 10, slot := 8, constantValue := 0 }, { name := "cons", type := (.object "java/io/Console"), accessFlags := 74, slot := 9, constantValue := 0 }, { name := "initialErrStream", type := (.object "java/io/PrintStream"), accessFlags := 74, slot := 10, constantValue := 0 }, { name := "props", type := (.object "java/util/Properties"), accessFlags := 10, slot := 11, constantValue := 0 }, { name := "lineSeparator", type := (.object "java/lang/String"), accessFlags := 10, slot := 12, constantValue := 0 }, { name := "bootLayer", type := (.object "java/lang/ModuleLayer"), accessFlags := 8, slot := 13, constantValue := 0 }]
  methods := #[k14m0, k14m1]
  instanceTypes := #[]
  staticTypes := #[(.object "java/io/InputStream"), (.object "java/io/PrintStream"), (.object "java/io/PrintStream"), (.object "java/io/InputStream"), .int, .int, .int, (.object "java/lang/SecurityManager"), (.object "java/lang/String"), (.object "java/io/Console"), (.object "java/io/PrintStream"), (.object "java/util/Properties"), (.object "java/lang/String"), (.object "java/lang/ModuleLayer")]
  resolved := Array.replicate 834 none
  statics := none }

def pool15 : Array CpInfo := pool [(1, .class_ 2), (0, u "java/lang/String"), (1, .class_ 6), (1, u "java/lang/Object"), (0, u "<init>"), (0, u "()V"), (0, .methodref 1 10), (0, .nameAndType 11 12), (0, u "checkIndex"), (0, u "(II)V"), (1, .class_ 16), (1, u "java/lang/StringLatin1"), (21, .methodref 39 40), (0, .class_ 41), (0, .nameAndType 42 43), (0, u "java/lang/Math"), (0, u "min"), (0, u "(II)I"), (9, u "([BI)C"), (34, .methodref 14 89), (0, .nameAndType 90 91), (0, u "canEncode"), (0, u "(I)Z"), (13, u "(C)Z"), (15, u "$assertionsDisabled"), (0, u "Z"), (98, .class_ 223), (1, u "java/lang/StringLatin1$LinesSpliterator"), (28, u "charAt"), (8, u "([BII)I"), (47, u "lastIndexOf"), (80, .class_ 391), (0, u "java/lang/StringLatin1$CharsSpliterator")] 3

def k15m0 : Method := { name := "<init>", desc := "()V", sig := { parameters := [], returnType := none }, accessFlags := 0, code := none }
def k15c1 : Code := { maxStack := 2, maxLocals := 2, code := jdk_43_method_2_code, exceptionTable := #[], attributes := #[] }
def k15m1 : Method := { name := "charAt", desc := "([BI)C", sig := { parameters := [(.array .byte), .int], returnType := some .char }, accessFlags := 9, code := some k15c1 }
def k15c2 : Code := { maxStack := 2, maxLocals := 1, code := jdk_43_method_3_code, exceptionTable := #[], attributes := #[] }
def k15m2 : Method := { name := "canEncode", desc := "(C)Z", sig := { parameters := [.char], returnType := some .boolean }, accessFlags := 9, code := some k15c2 }
def k15c3 : Code := { maxStack := 2, maxLocals := 1, code := jdk_43_method_4_code, exceptionTable := #[], attributes := #[] }
def k15m3 : Method := { name := "canEncode", desc := "(I)Z", sig := { parameters := [.int], returnType := some .boolean }, accessFlags := 9, code := some k15c3 }
def k15c4 : Code := { maxStack := 3, maxLocals := 4, code := jdk_43_method_27_code, exceptionTable := #[], attributes := #[] }
def k15m4 : Method := { name := "lastIndexOf", desc := "([BII)I", sig := { parameters := [(.array .byte), .int, .int], returnType := some .int }, accessFlags := 9, code := some k15c4 }
/-- java/lang/StringLatin1 -/
def k15 : Class := { plain "java/lang/StringLatin1" (some 0) with
  accessFlags := 48
  interfaces := #[]
  cf := some (fileOf pool15 14 #[.nestMembers #[390, 221]] #[{ accessFlags := 0, nameIndex := 7, descriptorIndex := 8, attributes := #[] }, { accessFlags := 9, nameIndex := 252, descriptorIndex := 53, attributes := #[] }, { accessFlags := 9, nameIndex := 90, descriptorIndex := 105, attributes := #[] }, { accessFlags := 9, nameIndex := 90, descriptorIndex := 91, attributes := #[] }, { accessFlags := 9, nameIndex := 309, descriptorIndex := 261, attributes := #[] }] 48 4 #[] #[{ accessFlags := 4120, nameIndex := 121, descriptorIndex := 122, attributes := #[] }])
  fields := #[{ name := "$assertionsDisabled", type := .boolean, accessFlags := 4120, slot := 0, constantValue := 0 }]
  methods := #[k15m0, k15m1, k15m2, k15m3, k15m4]
  instanceTypes := #[]
  staticTypes := #[.boolean]
  resolved := Array.replicate 395 none
  statics := none }

def pool16 : Array CpInfo := pool [(1, .class_ 2), (0, u "java/lang/Cloneable"), (0, .class_ 4), (0, u "java/lang/Object")] 2

/-- java/lang/Cloneable -/
def k16 : Class := { plain "java/lang/Cloneable" (some 0) with
  accessFlags := 1537
  interfaces := #[]
  cf := some (fileOf pool16 1 #[] #[] 1537 3 #[] #[])
  fields := #[]
  methods := #[]
  instanceTypes := #[]
  staticTypes := #[]
  resolved := Array.replicate 7 none
  statics := none }

def pool17 : Array CpInfo := pool [(2, .class_ 4), (1, u "java/lang/Object"), (0, u "<init>"), (0, u "()V"), (17, .class_ 26), (1, u "jdk/internal/util/Preconditions"), (6, u "checkIndex"), (21, .class_ 56), (0, u "jdk/internal/util/Preconditions$4"), (57, .class_ 115), (0, u "jdk/internal/util/Preconditions$1"), (7, u "SIOOBE_FORMATTER"), (0, u "Ljava/util/function/BiFunction;"), (0, .class_ 126), (0, u "jdk/internal/util/Preconditions$2"), (3, u "AIOOBE_FORMATTER"), (0, .class_ 132), (0, u "jdk/internal/util/Preconditions$3"), (3, u "IOOBE_FORMATTER"), (41, u "(IILjava/util/function/BiFunction;)I")] 15

def k17m0 : Method := { name := "<init>", desc := "()V", sig := { parameters := [], returnType := none }, accessFlags := 1, code := none }
def k17c1 : Code := { maxStack := 3, maxLocals := 3, code := jdk_41_method_11_code, exceptionTable := #[], attributes := #[] }
def k17m1 : Method := { name := "checkIndex", desc := "(IILjava/util/function/BiFunction;)I", sig := { parameters := [.int, .int, (.object "java/util/function/BiFunction")], returnType := some .int }, accessFlags := 9, code := some k17c1 }
/-- jdk/internal/util/Preconditions -/
def k17 : Class := { plain "jdk/internal/util/Preconditions" (some 0) with
  accessFlags := 33
  interfaces := #[]
  cf := some (fileOf pool17 24 #[.nestMembers #[55, 131, 125, 114]] #[{ accessFlags := 1, nameIndex := 5, descriptorIndex := 6, attributes := #[] }, { accessFlags := 9, nameIndex := 33, descriptorIndex := 178, attributes := #[] }] 33 2 #[] #[{ accessFlags := 25, nameIndex := 123, descriptorIndex := 124, attributes := #[] }, { accessFlags := 25, nameIndex := 130, descriptorIndex := 124, attributes := #[] }, { accessFlags := 25, nameIndex := 136, descriptorIndex := 124, attributes := #[] }])
  fields := #[{ name := "SIOOBE_FORMATTER", type := (.object "java/util/function/BiFunction"), accessFlags := 25, slot := 0, constantValue := 0 }, { name := "AIOOBE_FORMATTER", type := (.object "java/util/function/BiFunction"), accessFlags := 25, slot := 1, constantValue := 0 }, { name := "IOOBE_FORMATTER", type := (.object "java/util/function/BiFunction"), accessFlags := 25, slot := 2, constantValue := 0 }]
  methods := #[k17m0, k17m1]
  instanceTypes := #[]
  staticTypes := #[(.object "java/util/function/BiFunction"), (.object "java/util/function/BiFunction"), (.object "java/util/function/BiFunction")]
  resolved := Array.replicate 194 none
  statics := some 1 }

def pool18 : Array CpInfo := pool [(9, u "<init>"), (6, .class_ 18), (1, u "java/lang/Object"), (0, u "()V"), (1, .class_ 23), (1, u "jdk/internal/util/ArraysSupport"), (0, u "LOG2_ARRAY_LONG_INDEX_SCALE"), (0, u "I"), (2, u "U"), (0, u "Ljdk/internal/misc/Unsafe;"), (8, u "BIG_ENDIAN"), (0, u "Z"), (8, u "LOG2_BYTE_BIT_SIZE"), (4, u "LOG2_ARRAY_INT_INDEX_SCALE"), (54, u "JLA"), (0, u "Ljdk/internal/access/JavaLangAccess;"), (11, u "LOG2_ARRAY_BOOLEAN_INDEX_SCALE"), (9, u "LOG2_ARRAY_BYTE_INDEX_SCALE"), (5, u "LOG2_ARRAY_CHAR_INDEX_SCALE"), (5, u "LOG2_ARRAY_SHORT_INDEX_SCALE"), (18, u "LOG2_ARRAY_FLOAT_INDEX_SCALE"), (24, u "LOG2_ARRAY_DOUBLE_INDEX_SCALE"), (6, .methodref 195 196), (0, .class_ 197), (0, .nameAndType 198 199), (0, u "java/lang/Math"), (0, u "max"), (0, u "(II)I"), (0, .integer 2147483639), (76, u "T_BOOLEAN"), (2, u "T_CHAR"), (1, u "T_FLOAT"), (1, u "T_DOUBLE"), (1, u "T_BYTE"), (1, u "T_SHORT"), (1, u "T_INT"), (1, u "T_LONG"), (1, u "SOFT_MAX_ARRAY_LENGTH"), (56, u "newLength"), (0, u "(III)I")] 25

def k18m0 : Method := { name := "<init>", desc := "()V", sig := { parameters := [], returnType := none }, accessFlags := 2, code := none }
def k18c1 : Code := { maxStack := 3, maxLocals := 4, code := jdk_48_method_27_code, exceptionTable := #[], attributes := #[] }
def k18m1 : Method := { name := "newLength", desc := "(III)I", sig := { parameters := [.int, .int, .int], returnType := some .int }, accessFlags := 9, code := some k18c1 }
/-- jdk/internal/util/ArraysSupport -/
def k18 : Class := { plain "jdk/internal/util/ArraysSupport" (some 0) with
  accessFlags := 33
  interfaces := #[]
  cf := some (fileOf pool18 21 #[] #[{ accessFlags := 2, nameIndex := 9, descriptorIndex := 19, attributes := #[] }, { accessFlags := 9, nameIndex := 351, descriptorIndex := 352, attributes := #[] }] 33 16 #[] #[{ accessFlags := 24, nameIndex := 28, descriptorIndex := 29, attributes := #[] }, { accessFlags := 26, nameIndex := 38, descriptorIndex := 39, attributes := #[] }, { accessFlags := 25, nameIndex := 121, descriptorIndex := 25, attributes := #[] }, { accessFlags := 25, nameIndex := 131, descriptorIndex := 25, attributes := #[] }, { accessFlags := 25, nameIndex := 137, descriptorIndex := 25, attributes := #[] }, { accessFlags := 25, nameIndex := 143, descriptorIndex := 25, attributes := #[] }, { accessFlags := 25, nameIndex := 53, descriptorIndex := 25, attributes := #[] }, { accessFlags := 25, nameIndex := 24, descriptorIndex := 25, attributes := #[] }, { accessFlags := 25, nameIndex := 162, descriptorIndex := 25, attributes := #[] }, { accessFlags := 25, nameIndex := 187, descriptorIndex := 25, attributes := #[] }, { accessFlags := 26, nameIndex := 48, descriptorIndex := 25, attributes := #[] }, { accessFlags := 25, nameIndex := 277, descriptorIndex := 25, attributes := #[] }, { accessFlags := 25, nameIndex := 280, descriptorIndex := 25, attributes := #[] }, { accessFlags := 25, nameIndex := 282, descriptorIndex := 25, attributes := #[] }, { accessFlags := 25, nameIndex := 284, descriptorIndex := 25, attributes := #[] }, { accessFlags := 25, nameIndex := 286, descriptorIndex := 25, attributes := #[] }, { accessFlags := 25, nameIndex := 288, descriptorIndex := 25, attributes := #[] }, { accessFlags := 25, nameIndex := 290, descriptorIndex := 25, attributes := #[] }, { accessFlags := 25, nameIndex := 292, descriptorIndex := 25, attributes := #[] }, { accessFlags := 26, nameIndex := 108, descriptorIndex := 109, attributes := #[] }, { accessFlags := 25, nameIndex := 294, descriptorIndex := 25, attributes := #[] }])
  fields := #[{ name := "U", type := (.object "jdk/internal/misc/Unsafe"), accessFlags := 24, slot := 0, constantValue := 0 }, { name := "BIG_ENDIAN", type := .boolean, accessFlags := 26, slot := 1, constantValue := 0 }, { name := "LOG2_ARRAY_BOOLEAN_INDEX_SCALE", type := .int, accessFlags := 25, slot := 2, constantValue := 0 }, { name := "LOG2_ARRAY_BYTE_INDEX_SCALE", type := .int, accessFlags := 25, slot := 3, constantValue := 0 }, { name := "LOG2_ARRAY_CHAR_INDEX_SCALE", type := .int, accessFlags := 25, slot := 4, constantValue := 0 }, { name := "LOG2_ARRAY_SHORT_INDEX_SCALE", type := .int, accessFlags := 25, slot := 5, constantValue := 0 }, { name := "LOG2_ARRAY_INT_INDEX_SCALE", type := .int, accessFlags := 25, slot := 6, constantValue := 0 }, { name := "LOG2_ARRAY_LONG_INDEX_SCALE", type := .int, accessFlags := 25, slot := 7, constantValue := 0 }, { name := "LOG2_ARRAY_FLOAT_INDEX_SCALE", type := .int, accessFlags := 25, slot := 8, constantValue := 0 }, { name := "LOG2_ARRAY_DOUBLE_INDEX_SCALE", type := .int, accessFlags := 25, slot := 9, constantValue := 0 }, { name := "LOG2_BYTE_BIT_SIZE", type := .int, accessFlags := 26, slot := 10, constantValue := 0 }, { name := "T_BOOLEAN", type := .int, accessFlags := 25, slot := 11, constantValue := 0 }, { name := "T_CHAR", type := .int, accessFlags := 25, slot := 12, constantValue := 0 }, { name := "T_FLOAT", type := .int, accessFlags := 25, slot := 13, constantValue := 0 }, { name := "T_DOUBLE", type := .int, accessFlags := 25, slot := 14, constantValue := 0 }, { name := "T_BYTE", type := .int, accessFlags := 25, slot := 15, constantValue := 0 }, { name := "T_SHORT", type := .int, accessFlags := 25, slot := 16, constantValue := 0 }, { name := "T_INT", type := .int, accessFlags := 25, slot := 17, constantValue := 0 }, { name := "T_LONG", type := .int, accessFlags := 25, slot := 18, constantValue := 0 }, { name := "JLA", type := (.object "jdk/internal/access/JavaLangAccess"), accessFlags := 26, slot := 19, constantValue := 0 }, { name := "SOFT_MAX_ARRAY_LENGTH", type := .int, accessFlags := 25, slot := 20, constantValue := 0 }]
  methods := #[k18m0, k18m1]
  instanceTypes := #[]
  staticTypes := #[(.object "jdk/internal/misc/Unsafe"), .boolean, .int, .int, .int, .int, .int, .int, .int, .int, .int, .int, .int, .int, .int, .int, .int, .int, .int, (.object "jdk/internal/access/JavaLangAccess"), .int]
  resolved := Array.replicate 378 none
  statics := none }

/-- the primitive byte -/
def k19 : Class := { plain "byte" none with kind := .primitive 'B', accessFlags := 0x411 }
/-- [B -/
def k20 : Class := { plain "[B" (some 0) with kind := .array 19 .byte, interfaces := #[16, 6], accessFlags := 1041 }

/-- the primitive int -/
def k21 : Class := { plain "int" none with kind := .primitive 'I', accessFlags := 0x411 }
/-- [I -/
def k22 : Class := { plain "[I" (some 0) with kind := .array 21 .int, interfaces := #[16, 6], accessFlags := 1041 }

def heap : Heap := #[{ cls := 11, slots := #[.long 0, .int 1, .null, .int 0, .null, .int 0, .int 0], vm := .statics 11 },
  { cls := 17, slots := #[.null, .null, .null], vm := .statics 17 }]
def classes : Array Class := #[k0, k1, k2, k3, k4, k5, k6, k7, k8, k9, k10, k11, k12, k13, k14, k15, k16, k17, k18, k19, k20, k21, k22]
def interned : List (Array UInt16 × Addr) := []
def slotsUsed : Nat := 10
def theMethod : MethodId := ⟨1, 3⟩
def args0 : Array Value := #[.int 2, .int 131, .int 66, .int 4, .int 5]
def aboutOver (below : List Frame) : State where
  vm := { classes := classes, interned := interned.toArray }
  heap := heap
  slotsUsed := slotsUsed
  threads := #[{ frames := .invoking theMethod args0 :: below }]
def below0 : List Frame := [.native { method := ⟨0, 0⟩, args := #[] }]
def about1 : State := aboutOver below0
def p0 : Program := .bare "" "" ""
def e0 : Env := launch0.env 0 0 0
theorem w_frames : about1.frames = Frame.invoking theMethod args0 :: below0 := rfl
set_option maxRecDepth 65536 in
theorem w_args : argsFit about1.vm theMethod args0 = true := by decide +kernel
set_option maxRecDepth 65536 in
theorem w_heap : heapFits about1 = true := by decide +kernel
set_option maxRecDepth 65536 in
theorem w_runnable : about1.curStatus? = some .runnable := by decide +kernel
set_option maxRecDepth 65536 in
theorem w_alone : about1.alone = true := by decide +kernel
set_option maxRecDepth 65536 in
theorem w_named : about1.methodNamed? x = some theMethod := by decide +kernel
set_option maxRecDepth 65536 in
theorem w_hears : about1.hears theMethod below0 = true := by decide +kernel
set_option maxRecDepth 65536 in
theorem w_ripe : about1.ripe theMethod args0 below0 = true := by decide +kernel
theorem w_running : about1.status = .running := rfl
set_option maxRecDepth 65536 in
theorem w_room : about1.hasRoom e0.platform room_1 = true :=
  launch0.hasRoom_least _ room_1 (by decide +kernel) (by decide +kernel) (by decide +kernel) (by decide +kernel) (by decide +kernel) (by decide +kernel)
theorem allAtoms_all (ts : List Jvm.Cond) (a : Array Jvm.Value) (st : Jvm.State) : (allAtoms ts).before a st = ts.all (fun c => c.before a st) := by
  induction ts with
  | nil => rfl
  | cons c t ih =>
    show (Jvm.Cond.and c (allAtoms t)).before a st = _
    rw [Jvm.Cond.before_and, ih, List.all_cons]
def words1 : List Jvm.Cond := Jvm.Cond.code x code maxLocals ret :: tables_1
/-- a 'code' word, met by the world's own term for the bytes: nothing is compared byte by byte -/
theorem code_word {y : MethodName} {bytes : ByteArray} {mx : Nat} {rt : Option FieldType} {a : Array Value} {s : State} {m : MethodId} {meth : Method} {c : Code} (h1 : s.methodNamed? y = some m) (h2 : s.vm.method? m = some meth) (h3 : meth.code = some c) (h4 : c.code = bytes)
    (h5 : (c.maxLocals == mx && c.exceptionTable.isEmpty && decide (c.maxStack ≤ mostOperands) && decide (meth.sig.returnType = rt) && !meth.locks && decide (parseMethodDescriptor y.desc = some meth.sig)) = true) : (Jvm.Cond.code y bytes mx rt).before a s = true := by
  simp only [Bool.and_eq_true, beq_iff_eq, Bool.not_eq_true', decide_eq_true_eq] at h5
  obtain ⟨⟨⟨⟨⟨g1, g2⟩, g3⟩, g4⟩, g5⟩, g6⟩ := h5
  simp [Cond.before, Cond.holds, Cond.value, h1, h2, h3, h4, g1, g2, g3, g4, g5, g6]
def isCode : Jvm.Cond → Bool
  | .code _ _ _ _ => true
  | _ => false
theorem all_split {L : List Jvm.Cond} {P : Jvm.Cond → Bool} (h1 : L.all (fun c => isCode c || P c) = true) (h2 : ∀ c ∈ L.filter isCode, P c = true) : L.all P = true := by
  refine List.all_eq_true.mpr fun c hc => ?_
  have h := List.all_eq_true.mp h1 c hc
  rcases Bool.eq_false_or_eq_true (isCode c) with hi | hi
  · exact h2 c (List.mem_filter.mpr ⟨hc, hi⟩)
  · simpa [hi] using h
set_option maxRecDepth 65536 in
theorem w_c0 : (Jvm.Cond.code x code maxLocals ret).before args0 about1 = true := code_word (m := ⟨1, 3⟩) (meth := k1m3) (c := k1c3) (by decide +kernel) rfl rfl rfl (by decide +kernel)
set_option maxRecDepth 65536 in
theorem w_c1 : (Jvm.Cond.code ({ cls := "com/example/kenning/kenning/PunycodeEncodePinLaw", name := "cp", desc := "(I)I" } : Jvm.MethodName) method_2_code (2 : Nat) (Option.some Jvm.ClassFile.FieldType.int)).before args0 about1 = true := code_word (m := ⟨1, 1⟩) (meth := k1m1) (c := k1c1) (by decide +kernel) rfl rfl rfl (by decide +kernel)
set_option maxRecDepth 65536 in
theorem w_c2 : (Jvm.Cond.code ({ cls := "com/example/kenning/kenning/Punycode", name := "encode", desc := "([I)Ljava/lang/String;" } : Jvm.MethodName) prog_12_method_3_code (17 : Nat) (Option.some (Jvm.ClassFile.FieldType.object "java/lang/String"))).before args0 about1 = true := code_word (m := ⟨2, 2⟩) (meth := k2m2) (c := k2c2) (by decide +kernel) rfl rfl rfl (by decide +kernel)
set_option maxRecDepth 65536 in
theorem w_c3 : (Jvm.Cond.code ({ cls := "java/lang/StringBuilder", name := "<init>", desc := "()V" } : Jvm.MethodName) jdk_67_method_1_code (1 : Nat) (Option.none : Option Jvm.ClassFile.FieldType)).before args0 about1 = true := code_word (m := ⟨8, 0⟩) (meth := k8m0) (c := k8c0) (by decide +kernel) rfl rfl rfl (by decide +kernel)
set_option maxRecDepth 65536 in
theorem w_c4 : (Jvm.Cond.code ({ cls := "java/lang/AbstractStringBuilder", name := "<init>", desc := "(I)V" } : Jvm.MethodName) jdk_68_method_2_code (2 : Nat) (Option.none : Option Jvm.ClassFile.FieldType)).before args0 about1 = true := code_word (m := ⟨5, 1⟩) (meth := k5m1) (c := k5c1) (by decide +kernel) rfl rfl rfl (by decide +kernel)
set_option maxRecDepth 65536 in
theorem w_c5 : (Jvm.Cond.code ({ cls := "java/lang/Object", name := "<init>", desc := "()V" } : Jvm.MethodName) object_method_1_code (1 : Nat) (Option.none : Option Jvm.ClassFile.FieldType)).before args0 about1 = true := code_word (m := ⟨0, 0⟩) (meth := k0m0) (c := k0c0) (by decide +kernel) rfl rfl rfl (by decide +kernel)
set_option maxRecDepth 65536 in
theorem w_c6 : (Jvm.Cond.code ({ cls := "java/lang/StringBuilder", name := "length", desc := "()I" } : Jvm.MethodName) jdk_67_method_93_code (1 : Nat) (Option.some Jvm.ClassFile.FieldType.int)).before args0 about1 = true := code_word (m := ⟨8, 3⟩) (meth := k8m3) (c := k8c3) (by decide +kernel) rfl rfl rfl (by decide +kernel)
set_option maxRecDepth 65536 in
theorem w_c7 : (Jvm.Cond.code ({ cls := "java/lang/AbstractStringBuilder", name := "length", desc := "()I" } : Jvm.MethodName) jdk_68_method_6_code (1 : Nat) (Option.some Jvm.ClassFile.FieldType.int)).before args0 about1 = true := code_word (m := ⟨5, 2⟩) (meth := k5m2) (c := k5c2) (by decide +kernel) rfl rfl rfl (by decide +kernel)
set_option maxRecDepth 65536 in
theorem w_c8 : (Jvm.Cond.code ({ cls := "java/lang/StringBuilder", name := "toString", desc := "()Ljava/lang/String;" } : Jvm.MethodName) jdk_67_method_42_code (1 : Nat) (Option.some (Jvm.ClassFile.FieldType.object "java/lang/String"))).before args0 about1 = true := code_word (m := ⟨8, 2⟩) (meth := k8m2) (c := k8c2) (by decide +kernel) rfl rfl rfl (by decide +kernel)
set_option maxRecDepth 65536 in
theorem w_c9 : (Jvm.Cond.code ({ cls := "java/lang/String", name := "<init>", desc := "(Ljava/lang/StringBuilder;)V" } : Jvm.MethodName) jdk_42_method_53_code (2 : Nat) (Option.none : Option Jvm.ClassFile.FieldType)).before args0 about1 = true := code_word (m := ⟨11, 1⟩) (meth := k11m1) (c := k11c1) (by decide +kernel) rfl rfl rfl (by decide +kernel)
set_option maxRecDepth 65536 in
theorem w_c10 : (Jvm.Cond.code ({ cls := "java/lang/String", name := "<init>", desc := "(Ljava/lang/AbstractStringBuilder;Ljava/lang/Void;)V" } : Jvm.MethodName) jdk_42_method_150_code (5 : Nat) (Option.none : Option Jvm.ClassFile.FieldType)).before args0 about1 = true := code_word (m := ⟨11, 6⟩) (meth := k11m6) (c := k11c6) (by decide +kernel) rfl rfl rfl (by decide +kernel)
set_option maxRecDepth 65536 in
theorem w_c11 : (Jvm.Cond.code ({ cls := "java/lang/AbstractStringBuilder", name := "getValue", desc := "()[B" } : Jvm.MethodName) jdk_68_method_64_code (1 : Nat) (Option.some (Jvm.ClassFile.FieldType.array Jvm.ClassFile.FieldType.byte))).before args0 about1 = true := code_word (m := ⟨5, 6⟩) (meth := k5m6) (c := k5c6) (by decide +kernel) rfl rfl rfl (by decide +kernel)
set_option maxRecDepth 65536 in
theorem w_c12 : (Jvm.Cond.code ({ cls := "java/lang/AbstractStringBuilder", name := "isLatin1", desc := "()Z" } : Jvm.MethodName) jdk_68_method_68_code (1 : Nat) (Option.some Jvm.ClassFile.FieldType.boolean)).before args0 about1 = true := code_word (m := ⟨5, 7⟩) (meth := k5m7) (c := k5c7) (by decide +kernel) rfl rfl rfl (by decide +kernel)
set_option maxRecDepth 65536 in
theorem w_c13 : (Jvm.Cond.code ({ cls := "java/util/Arrays", name := "copyOfRange", desc := "([BII)[B" } : Jvm.MethodName) jdk_65_method_132_code (3 : Nat) (Option.some (Jvm.ClassFile.FieldType.array Jvm.ClassFile.FieldType.byte))).before args0 about1 = true := code_word (m := ⟨12, 4⟩) (meth := k12m4) (c := k12c4) (by decide +kernel) rfl rfl rfl (by decide +kernel)
set_option maxRecDepth 65536 in
theorem w_c14 : (Jvm.Cond.code ({ cls := "java/util/Arrays", name := "copyOfRangeByte", desc := "([BII)[B" } : Jvm.MethodName) jdk_65_method_133_code (5 : Nat) (Option.some (Jvm.ClassFile.FieldType.array Jvm.ClassFile.FieldType.byte))).before args0 about1 = true := code_word (m := ⟨12, 5⟩) (meth := k12m5) (c := k12c5) (by decide +kernel) rfl rfl rfl (by decide +kernel)
set_option maxRecDepth 65536 in
theorem w_c15 : (Jvm.Cond.code ({ cls := "java/util/Arrays", name := "checkLength", desc := "(II)V" } : Jvm.MethodName) jdk_65_method_131_code (2 : Nat) (Option.none : Option Jvm.ClassFile.FieldType)).before args0 about1 = true := code_word (m := ⟨12, 3⟩) (meth := k12m3) (c := k12c3) (by decide +kernel) rfl rfl rfl (by decide +kernel)
set_option maxRecDepth 65536 in
theorem w_c16 : (Jvm.Cond.code ({ cls := "java/lang/Math", name := "min", desc := "(II)I" } : Jvm.MethodName) jdk_29_method_69_code (2 : Nat) (Option.some Jvm.ClassFile.FieldType.int)).before args0 about1 = true := code_word (m := ⟨13, 2⟩) (meth := k13m2) (c := k13c2) (by decide +kernel) rfl rfl rfl (by decide +kernel)
set_option maxRecDepth 65536 in
theorem w_c17 : (Jvm.Cond.code ({ cls := "com/example/kenning/kenning/Punycode", name := "decode", desc := "(Ljava/lang/String;)[I" } : Jvm.MethodName) prog_12_method_2_code (18 : Nat) (Option.some (Jvm.ClassFile.FieldType.array Jvm.ClassFile.FieldType.int))).before args0 about1 = true := code_word (m := ⟨2, 1⟩) (meth := k2m1) (c := k2c1) (by decide +kernel) rfl rfl rfl (by decide +kernel)
set_option maxRecDepth 65536 in
theorem w_c18 : (Jvm.Cond.code ({ cls := "java/lang/String", name := "lastIndexOf", desc := "(I)I" } : Jvm.MethodName) jdk_42_method_82_code (2 : Nat) (Option.some Jvm.ClassFile.FieldType.int)).before args0 about1 = true := code_word (m := ⟨11, 4⟩) (meth := k11m4) (c := k11c4) (by decide +kernel) rfl rfl rfl (by decide +kernel)
set_option maxRecDepth 65536 in
theorem w_c19 : (Jvm.Cond.code ({ cls := "java/lang/String", name := "length", desc := "()I" } : Jvm.MethodName) jdk_42_method_54_code (1 : Nat) (Option.some Jvm.ClassFile.FieldType.int)).before args0 about1 = true := code_word (m := ⟨11, 2⟩) (meth := k11m2) (c := k11c2) (by decide +kernel) rfl rfl rfl (by decide +kernel)
set_option maxRecDepth 65536 in
theorem w_c20 : (Jvm.Cond.code ({ cls := "java/lang/String", name := "coder", desc := "()B" } : Jvm.MethodName) jdk_42_method_152_code (1 : Nat) (Option.some Jvm.ClassFile.FieldType.byte)).before args0 about1 = true := code_word (m := ⟨11, 7⟩) (meth := k11m7) (c := k11c7) (by decide +kernel) rfl rfl rfl (by decide +kernel)
set_option maxRecDepth 65536 in
theorem w_c21 : (Jvm.Cond.code ({ cls := "java/lang/String", name := "lastIndexOf", desc := "(II)I" } : Jvm.MethodName) jdk_42_method_83_code (3 : Nat) (Option.some Jvm.ClassFile.FieldType.int)).before args0 about1 = true := code_word (m := ⟨11, 5⟩) (meth := k11m5) (c := k11c5) (by decide +kernel) rfl rfl rfl (by decide +kernel)
set_option maxRecDepth 65536 in
theorem w_c22 : (Jvm.Cond.code ({ cls := "java/lang/String", name := "isLatin1", desc := "()Z" } : Jvm.MethodName) jdk_42_method_154_code (1 : Nat) (Option.some Jvm.ClassFile.FieldType.boolean)).before args0 about1 = true := code_word (m := ⟨11, 8⟩) (meth := k11m8) (c := k11c8) (by decide +kernel) rfl rfl rfl (by decide +kernel)
set_option maxRecDepth 65536 in
theorem w_c23 : (Jvm.Cond.code ({ cls := "java/lang/StringLatin1", name := "lastIndexOf", desc := "([BII)I" } : Jvm.MethodName) jdk_43_method_27_code (4 : Nat) (Option.some Jvm.ClassFile.FieldType.int)).before args0 about1 = true := code_word (m := ⟨15, 4⟩) (meth := k15m4) (c := k15c4) (by decide +kernel) rfl rfl rfl (by decide +kernel)
set_option maxRecDepth 65536 in
theorem w_c24 : (Jvm.Cond.code ({ cls := "java/lang/StringLatin1", name := "canEncode", desc := "(I)Z" } : Jvm.MethodName) jdk_43_method_4_code (1 : Nat) (Option.some Jvm.ClassFile.FieldType.boolean)).before args0 about1 = true := code_word (m := ⟨15, 3⟩) (meth := k15m3) (c := k15c3) (by decide +kernel) rfl rfl rfl (by decide +kernel)
set_option maxRecDepth 65536 in
theorem w_c25 : (Jvm.Cond.code ({ cls := "java/lang/Math", name := "max", desc := "(II)I" } : Jvm.MethodName) jdk_29_method_65_code (2 : Nat) (Option.some Jvm.ClassFile.FieldType.int)).before args0 about1 = true := code_word (m := ⟨13, 1⟩) (meth := k13m1) (c := k13c1) (by decide +kernel) rfl rfl rfl (by decide +kernel)
set_option maxRecDepth 65536 in
theorem w_c26 : (Jvm.Cond.code ({ cls := "java/util/Arrays", name := "copyOf", desc := "([II)[I" } : Jvm.MethodName) jdk_65_method_123_code (3 : Nat) (Option.some (Jvm.ClassFile.FieldType.array Jvm.ClassFile.FieldType.int))).before args0 about1 = true := code_word (m := ⟨12, 2⟩) (meth := k12m2) (c := k12c2) (by decide +kernel) rfl rfl rfl (by decide +kernel)
set_option maxRecDepth 65536 in
theorem w_c27 : (Jvm.Cond.code ({ cls := "com/example/kenning/kenning/PunycodeEncodePinLaw", name := "same", desc := "([I[II)Z" } : Jvm.MethodName) method_3_code (3 : Nat) (Option.some Jvm.ClassFile.FieldType.boolean)).before args0 about1 = true := code_word (m := ⟨1, 2⟩) (meth := k1m2) (c := k1c2) (by decide +kernel) rfl rfl rfl (by decide +kernel)
set_option maxRecDepth 65536 in
theorem w_c28 : (Jvm.Cond.code ({ cls := "java/lang/StringBuilder", name := "append", desc := "(C)Ljava/lang/StringBuilder;" } : Jvm.MethodName) jdk_67_method_14_code (2 : Nat) (Option.some (Jvm.ClassFile.FieldType.object "java/lang/StringBuilder"))).before args0 about1 = true := code_word (m := ⟨8, 1⟩) (meth := k8m1) (c := k8c1) (by decide +kernel) rfl rfl rfl (by decide +kernel)
set_option maxRecDepth 65536 in
theorem w_c29 : (Jvm.Cond.code ({ cls := "java/lang/AbstractStringBuilder", name := "append", desc := "(C)Ljava/lang/AbstractStringBuilder;" } : Jvm.MethodName) jdk_68_method_31_code (2 : Nat) (Option.some (Jvm.ClassFile.FieldType.object "java/lang/AbstractStringBuilder"))).before args0 about1 = true := code_word (m := ⟨5, 5⟩) (meth := k5m5) (c := k5c5) (by decide +kernel) rfl rfl rfl (by decide +kernel)
set_option maxRecDepth 65536 in
theorem w_c30 : (Jvm.Cond.code ({ cls := "java/lang/AbstractStringBuilder", name := "ensureCapacityInternal", desc := "(I)V" } : Jvm.MethodName) jdk_68_method_9_code (3 : Nat) (Option.none : Option Jvm.ClassFile.FieldType)).before args0 about1 = true := code_word (m := ⟨5, 3⟩) (meth := k5m3) (c := k5c3) (by decide +kernel) rfl rfl rfl (by decide +kernel)
set_option maxRecDepth 65536 in
theorem w_c31 : (Jvm.Cond.code ({ cls := "java/lang/StringLatin1", name := "canEncode", desc := "(C)Z" } : Jvm.MethodName) jdk_43_method_3_code (1 : Nat) (Option.some Jvm.ClassFile.FieldType.boolean)).before args0 about1 = true := code_word (m := ⟨15, 2⟩) (meth := k15m2) (c := k15c2) (by decide +kernel) rfl rfl rfl (by decide +kernel)
set_option maxRecDepth 65536 in
theorem w_c32 : (Jvm.Cond.code ({ cls := "com/example/kenning/kenning/Punycode", name := "threshold", desc := "(II)I" } : Jvm.MethodName) prog_12_method_6_code (2 : Nat) (Option.some Jvm.ClassFile.FieldType.int)).before args0 about1 = true := code_word (m := ⟨2, 5⟩) (meth := k2m5) (c := k2c5) (by decide +kernel) rfl rfl rfl (by decide +kernel)
set_option maxRecDepth 65536 in
theorem w_c33 : (Jvm.Cond.code ({ cls := "com/example/kenning/kenning/Punycode", name := "digitChar", desc := "(J)C" } : Jvm.MethodName) prog_12_method_5_code (2 : Nat) (Option.some Jvm.ClassFile.FieldType.char)).before args0 about1 = true := code_word (m := ⟨2, 4⟩) (meth := k2m4) (c := k2c4) (by decide +kernel) rfl rfl rfl (by decide +kernel)
set_option maxRecDepth 65536 in
theorem w_c34 : (Jvm.Cond.code ({ cls := "com/example/kenning/kenning/Punycode", name := "adapt", desc := "(JIZ)I" } : Jvm.MethodName) prog_12_method_7_code (7 : Nat) (Option.some Jvm.ClassFile.FieldType.int)).before args0 about1 = true := code_word (m := ⟨2, 6⟩) (meth := k2m6) (c := k2c6) (by decide +kernel) rfl rfl rfl (by decide +kernel)
set_option maxRecDepth 65536 in
theorem w_c35 : (Jvm.Cond.code ({ cls := "java/lang/String", name := "charAt", desc := "(I)C" } : Jvm.MethodName) jdk_42_method_56_code (2 : Nat) (Option.some Jvm.ClassFile.FieldType.char)).before args0 about1 = true := code_word (m := ⟨11, 3⟩) (meth := k11m3) (c := k11c3) (by decide +kernel) rfl rfl rfl (by decide +kernel)
set_option maxRecDepth 65536 in
theorem w_c36 : (Jvm.Cond.code ({ cls := "java/lang/StringLatin1", name := "charAt", desc := "([BI)C" } : Jvm.MethodName) jdk_43_method_2_code (2 : Nat) (Option.some Jvm.ClassFile.FieldType.char)).before args0 about1 = true := code_word (m := ⟨15, 1⟩) (meth := k15m1) (c := k15c1) (by decide +kernel) rfl rfl rfl (by decide +kernel)
set_option maxRecDepth 65536 in
theorem w_c37 : (Jvm.Cond.code ({ cls := "java/lang/String", name := "checkIndex", desc := "(II)V" } : Jvm.MethodName) jdk_42_method_155_code (2 : Nat) (Option.none : Option Jvm.ClassFile.FieldType)).before args0 about1 = true := code_word (m := ⟨11, 9⟩) (meth := k11m9) (c := k11c9) (by decide +kernel) rfl rfl rfl (by decide +kernel)
set_option maxRecDepth 65536 in
theorem w_c38 : (Jvm.Cond.code ({ cls := "jdk/internal/util/Preconditions", name := "checkIndex", desc := "(IILjava/util/function/BiFunction;)I" } : Jvm.MethodName) jdk_41_method_11_code (3 : Nat) (Option.some Jvm.ClassFile.FieldType.int)).before args0 about1 = true := code_word (m := ⟨17, 1⟩) (meth := k17m1) (c := k17c1) (by decide +kernel) rfl rfl rfl (by decide +kernel)
set_option maxRecDepth 65536 in
theorem w_c39 : (Jvm.Cond.code ({ cls := "com/example/kenning/kenning/Punycode", name := "digit", desc := "(C)I" } : Jvm.MethodName) prog_12_method_4_code (2 : Nat) (Option.some Jvm.ClassFile.FieldType.int)).before args0 about1 = true := code_word (m := ⟨2, 3⟩) (meth := k2m3) (c := k2c3) (by decide +kernel) rfl rfl rfl (by decide +kernel)
set_option maxRecDepth 65536 in
theorem w_c40 : (Jvm.Cond.code ({ cls := "java/lang/AbstractStringBuilder", name := "newCapacity", desc := "(I)I" } : Jvm.MethodName) jdk_68_method_10_code (6 : Nat) (Option.some Jvm.ClassFile.FieldType.int)).before args0 about1 = true := code_word (m := ⟨5, 4⟩) (meth := k5m4) (c := k5c4) (by decide +kernel) rfl rfl rfl (by decide +kernel)
set_option maxRecDepth 65536 in
theorem w_c41 : (Jvm.Cond.code ({ cls := "jdk/internal/util/ArraysSupport", name := "newLength", desc := "(III)I" } : Jvm.MethodName) jdk_48_method_27_code (4 : Nat) (Option.some Jvm.ClassFile.FieldType.int)).before args0 about1 = true := code_word (m := ⟨18, 1⟩) (meth := k18m1) (c := k18c1) (by decide +kernel) rfl rfl rfl (by decide +kernel)
set_option maxRecDepth 65536 in
theorem w_c42 : (Jvm.Cond.code ({ cls := "java/util/Arrays", name := "copyOf", desc := "([BI)[B" } : Jvm.MethodName) jdk_65_method_121_code (3 : Nat) (Option.some (Jvm.ClassFile.FieldType.array Jvm.ClassFile.FieldType.byte))).before args0 about1 = true := code_word (m := ⟨12, 1⟩) (meth := k12m1) (c := k12c1) (by decide +kernel) rfl rfl rfl (by decide +kernel)
def codes1 : List Jvm.Cond := [Jvm.Cond.code x code maxLocals ret, Jvm.Cond.code ({ cls := "com/example/kenning/kenning/PunycodeEncodePinLaw", name := "cp", desc := "(I)I" } : Jvm.MethodName) method_2_code (2 : Nat) (Option.some Jvm.ClassFile.FieldType.int), Jvm.Cond.code ({ cls := "com/example/kenning/kenning/Punycode", name := "encode", desc := "([I)Ljava/lang/String;" } : Jvm.MethodName) prog_12_method_3_code (17 : Nat) (Option.some (Jvm.ClassFile.FieldType.object "java/lang/String")), Jvm.Cond.code ({ cls := "java/lang/StringBuilder", name := "<init>", desc := "()V" } : Jvm.MethodName) jdk_67_method_1_code (1 : Nat) (Option.none : Option Jvm.ClassFile.FieldType), Jvm.Cond.code ({ cls := "java/lang/AbstractStringBuilder", name := "<init>", desc := "(I)V" } : Jvm.MethodName) jdk_68_method_2_code (2 : Nat) (Option.none : Option Jvm.ClassFile.FieldType), Jvm.Cond.code ({ cls := "java/lang/Object", name := "<init>", desc := "()V" } : Jvm.MethodName) object_method_1_code (1 : Nat) (Option.none : Option Jvm.ClassFile.FieldType), Jvm.Cond.code ({ cls := "java/lang/StringBuilder", name := "length", desc := "()I" } : Jvm.MethodName) jdk_67_method_93_code (1 : Nat) (Option.some Jvm.ClassFile.FieldType.int), Jvm.Cond.code ({ cls := "java/lang/AbstractStringBuilder", name := "length", desc := "()I" } : Jvm.MethodName) jdk_68_method_6_code (1 : Nat) (Option.some Jvm.ClassFile.FieldType.int), Jvm.Cond.code ({ cls := "java/lang/StringBuilder", name := "toString", desc := "()Ljava/lang/String;" } : Jvm.MethodName) jdk_67_method_42_code (1 : Nat) (Option.some (Jvm.ClassFile.FieldType.object "java/lang/String")), Jvm.Cond.code ({ cls := "java/lang/String", name := "<init>", desc := "(Ljava/lang/StringBuilder;)V" } : Jvm.MethodName) jdk_42_method_53_code (2 : Nat) (Option.none : Option Jvm.ClassFile.FieldType), Jvm.Cond.code ({ cls := "java/lang/String", name := "<init>", desc := "(Ljava/lang/AbstractStringBuilder;Ljava/lang/Void;)V" } : Jvm.MethodName) jdk_42_method_150_code (5 : Nat) (Option.none : Option Jvm.ClassFile.FieldType), Jvm.Cond.code ({ cls := "java/lang/AbstractStringBuilder", name := "getValue", desc := "()[B" } : Jvm.MethodName) jdk_68_method_64_code (1 : Nat) (Option.some (Jvm.ClassFile.FieldType.array Jvm.ClassFile.FieldType.byte)), Jvm.Cond.code ({ cls := "java/lang/AbstractStringBuilder", name := "isLatin1", desc := "()Z" } : Jvm.MethodName) jdk_68_method_68_code (1 : Nat) (Option.some Jvm.ClassFile.FieldType.boolean), Jvm.Cond.code ({ cls := "java/util/Arrays", name := "copyOfRange", desc := "([BII)[B" } : Jvm.MethodName) jdk_65_method_132_code (3 : Nat) (Option.some (Jvm.ClassFile.FieldType.array Jvm.ClassFile.FieldType.byte)), Jvm.Cond.code ({ cls := "java/util/Arrays", name := "copyOfRangeByte", desc := "([BII)[B" } : Jvm.MethodName) jdk_65_method_133_code (5 : Nat) (Option.some (Jvm.ClassFile.FieldType.array Jvm.ClassFile.FieldType.byte)), Jvm.Cond.code ({ cls := "java/util/Arrays", name := "checkLength", desc := "(II)V" } : Jvm.MethodName) jdk_65_method_131_code (2 : Nat) (Option.none : Option Jvm.ClassFile.FieldType), Jvm.Cond.code ({ cls := "java/lang/Math", name := "min", desc := "(II)I" } : Jvm.MethodName) jdk_29_method_69_code (2 : Nat) (Option.some Jvm.ClassFile.FieldType.int), Jvm.Cond.code ({ cls := "com/example/kenning/kenning/Punycode", name := "decode", desc := "(Ljava/lang/String;)[I" } : Jvm.MethodName) prog_12_method_2_code (18 : Nat) (Option.some (Jvm.ClassFile.FieldType.array Jvm.ClassFile.FieldType.int)), Jvm.Cond.code ({ cls := "java/lang/String", name := "lastIndexOf", desc := "(I)I" } : Jvm.MethodName) jdk_42_method_82_code (2 : Nat) (Option.some Jvm.ClassFile.FieldType.int), Jvm.Cond.code ({ cls := "java/lang/String", name := "length", desc := "()I" } : Jvm.MethodName) jdk_42_method_54_code (1 : Nat) (Option.some Jvm.ClassFile.FieldType.int), Jvm.Cond.code ({ cls := "java/lang/String", name := "coder", desc := "()B" } : Jvm.MethodName) jdk_42_method_152_code (1 : Nat) (Option.some Jvm.ClassFile.FieldType.byte), Jvm.Cond.code ({ cls := "java/lang/String", name := "lastIndexOf", desc := "(II)I" } : Jvm.MethodName) jdk_42_method_83_code (3 : Nat) (Option.some Jvm.ClassFile.FieldType.int), Jvm.Cond.code ({ cls := "java/lang/String", name := "isLatin1", desc := "()Z" } : Jvm.MethodName) jdk_42_method_154_code (1 : Nat) (Option.some Jvm.ClassFile.FieldType.boolean), Jvm.Cond.code ({ cls := "java/lang/StringLatin1", name := "lastIndexOf", desc := "([BII)I" } : Jvm.MethodName) jdk_43_method_27_code (4 : Nat) (Option.some Jvm.ClassFile.FieldType.int), Jvm.Cond.code ({ cls := "java/lang/StringLatin1", name := "canEncode", desc := "(I)Z" } : Jvm.MethodName) jdk_43_method_4_code (1 : Nat) (Option.some Jvm.ClassFile.FieldType.boolean), Jvm.Cond.code ({ cls := "java/lang/Math", name := "max", desc := "(II)I" } : Jvm.MethodName) jdk_29_method_65_code (2 : Nat) (Option.some Jvm.ClassFile.FieldType.int), Jvm.Cond.code ({ cls := "java/util/Arrays", name := "copyOf", desc := "([II)[I" } : Jvm.MethodName) jdk_65_method_123_code (3 : Nat) (Option.some (Jvm.ClassFile.FieldType.array Jvm.ClassFile.FieldType.int)), Jvm.Cond.code ({ cls := "com/example/kenning/kenning/PunycodeEncodePinLaw", name := "same", desc := "([I[II)Z" } : Jvm.MethodName) method_3_code (3 : Nat) (Option.some Jvm.ClassFile.FieldType.boolean), Jvm.Cond.code ({ cls := "java/lang/StringBuilder", name := "append", desc := "(C)Ljava/lang/StringBuilder;" } : Jvm.MethodName) jdk_67_method_14_code (2 : Nat) (Option.some (Jvm.ClassFile.FieldType.object "java/lang/StringBuilder")), Jvm.Cond.code ({ cls := "java/lang/AbstractStringBuilder", name := "append", desc := "(C)Ljava/lang/AbstractStringBuilder;" } : Jvm.MethodName) jdk_68_method_31_code (2 : Nat) (Option.some (Jvm.ClassFile.FieldType.object "java/lang/AbstractStringBuilder")), Jvm.Cond.code ({ cls := "java/lang/AbstractStringBuilder", name := "ensureCapacityInternal", desc := "(I)V" } : Jvm.MethodName) jdk_68_method_9_code (3 : Nat) (Option.none : Option Jvm.ClassFile.FieldType), Jvm.Cond.code ({ cls := "java/lang/StringLatin1", name := "canEncode", desc := "(C)Z" } : Jvm.MethodName) jdk_43_method_3_code (1 : Nat) (Option.some Jvm.ClassFile.FieldType.boolean), Jvm.Cond.code ({ cls := "com/example/kenning/kenning/Punycode", name := "threshold", desc := "(II)I" } : Jvm.MethodName) prog_12_method_6_code (2 : Nat) (Option.some Jvm.ClassFile.FieldType.int), Jvm.Cond.code ({ cls := "com/example/kenning/kenning/Punycode", name := "digitChar", desc := "(J)C" } : Jvm.MethodName) prog_12_method_5_code (2 : Nat) (Option.some Jvm.ClassFile.FieldType.char), Jvm.Cond.code ({ cls := "com/example/kenning/kenning/Punycode", name := "adapt", desc := "(JIZ)I" } : Jvm.MethodName) prog_12_method_7_code (7 : Nat) (Option.some Jvm.ClassFile.FieldType.int), Jvm.Cond.code ({ cls := "java/lang/String", name := "charAt", desc := "(I)C" } : Jvm.MethodName) jdk_42_method_56_code (2 : Nat) (Option.some Jvm.ClassFile.FieldType.char), Jvm.Cond.code ({ cls := "java/lang/StringLatin1", name := "charAt", desc := "([BI)C" } : Jvm.MethodName) jdk_43_method_2_code (2 : Nat) (Option.some Jvm.ClassFile.FieldType.char), Jvm.Cond.code ({ cls := "java/lang/String", name := "checkIndex", desc := "(II)V" } : Jvm.MethodName) jdk_42_method_155_code (2 : Nat) (Option.none : Option Jvm.ClassFile.FieldType), Jvm.Cond.code ({ cls := "jdk/internal/util/Preconditions", name := "checkIndex", desc := "(IILjava/util/function/BiFunction;)I" } : Jvm.MethodName) jdk_41_method_11_code (3 : Nat) (Option.some Jvm.ClassFile.FieldType.int), Jvm.Cond.code ({ cls := "com/example/kenning/kenning/Punycode", name := "digit", desc := "(C)I" } : Jvm.MethodName) prog_12_method_4_code (2 : Nat) (Option.some Jvm.ClassFile.FieldType.int), Jvm.Cond.code ({ cls := "java/lang/AbstractStringBuilder", name := "newCapacity", desc := "(I)I" } : Jvm.MethodName) jdk_68_method_10_code (6 : Nat) (Option.some Jvm.ClassFile.FieldType.int), Jvm.Cond.code ({ cls := "jdk/internal/util/ArraysSupport", name := "newLength", desc := "(III)I" } : Jvm.MethodName) jdk_48_method_27_code (4 : Nat) (Option.some Jvm.ClassFile.FieldType.int), Jvm.Cond.code ({ cls := "java/util/Arrays", name := "copyOf", desc := "([BI)[B" } : Jvm.MethodName) jdk_65_method_121_code (3 : Nat) (Option.some (Jvm.ClassFile.FieldType.array Jvm.ClassFile.FieldType.byte))]
set_option maxRecDepth 65536 in
theorem codes_eq : words1.filter isCode = codes1 := rfl
theorem w_codes : ∀ c ∈ words1.filter isCode, c.before args0 about1 = true := by
  rw [codes_eq]
  intro c hc
  simp only [codes1, List.mem_cons, List.not_mem_nil, or_false] at hc
  rcases hc with rfl | rfl | rfl | rfl | rfl | rfl | rfl | rfl | rfl | rfl | rfl | rfl | rfl | rfl | rfl | rfl | rfl | rfl | rfl | rfl | rfl | rfl | rfl | rfl | rfl | rfl | rfl | rfl | rfl | rfl | rfl | rfl | rfl | rfl | rfl | rfl | rfl | rfl | rfl | rfl | rfl | rfl | rfl
  · exact w_c0
  · exact w_c1
  · exact w_c2
  · exact w_c3
  · exact w_c4
  · exact w_c5
  · exact w_c6
  · exact w_c7
  · exact w_c8
  · exact w_c9
  · exact w_c10
  · exact w_c11
  · exact w_c12
  · exact w_c13
  · exact w_c14
  · exact w_c15
  · exact w_c16
  · exact w_c17
  · exact w_c18
  · exact w_c19
  · exact w_c20
  · exact w_c21
  · exact w_c22
  · exact w_c23
  · exact w_c24
  · exact w_c25
  · exact w_c26
  · exact w_c27
  · exact w_c28
  · exact w_c29
  · exact w_c30
  · exact w_c31
  · exact w_c32
  · exact w_c33
  · exact w_c34
  · exact w_c35
  · exact w_c36
  · exact w_c37
  · exact w_c38
  · exact w_c39
  · exact w_c40
  · exact w_c41
  · exact w_c42
set_option maxRecDepth 65536 in
theorem w_t1 : (words1.take 24).all (fun c => isCode c || c.before args0 about1) = true := by decide +kernel
set_option maxRecDepth 65536 in
theorem w_t2 : ((words1.drop 24).take 24).all (fun c => isCode c || c.before args0 about1) = true := by decide +kernel
set_option maxRecDepth 65536 in
theorem w_t3 : (((words1.drop 24).drop 24).take 24).all (fun c => isCode c || c.before args0 about1) = true := by decide +kernel
set_option maxRecDepth 65536 in
theorem w_t4 : ((((words1.drop 24).drop 24).drop 24).take 24).all (fun c => isCode c || c.before args0 about1) = true := by decide +kernel
set_option maxRecDepth 65536 in
theorem w_t5 : (((((words1.drop 24).drop 24).drop 24).drop 24).take 24).all (fun c => isCode c || c.before args0 about1) = true := by decide +kernel
set_option maxRecDepth 65536 in
theorem w_t6 : ((((((words1.drop 24).drop 24).drop 24).drop 24).drop 24).take 24).all (fun c => isCode c || c.before args0 about1) = true := by decide +kernel
set_option maxRecDepth 65536 in
theorem w_t7 : (((((((words1.drop 24).drop 24).drop 24).drop 24).drop 24).drop 24).take 24).all (fun c => isCode c || c.before args0 about1) = true := by decide +kernel
set_option maxRecDepth 65536 in
theorem w_t8 : ((((((((words1.drop 24).drop 24).drop 24).drop 24).drop 24).drop 24).drop 24).take 24).all (fun c => isCode c || c.before args0 about1) = true := by decide +kernel
set_option maxRecDepth 65536 in
theorem w_t9 : (((((((((words1.drop 24).drop 24).drop 24).drop 24).drop 24).drop 24).drop 24).drop 24).take 24).all (fun c => isCode c || c.before args0 about1) = true := by decide +kernel
set_option maxRecDepth 65536 in
theorem w_t10 : (((((((((words1.drop 24).drop 24).drop 24).drop 24).drop 24).drop 24).drop 24).drop 24).drop 24).all (fun c => isCode c || c.before args0 about1) = true := by decide +kernel
theorem w_tables : (allAtoms (Jvm.Cond.code x code maxLocals ret :: tables_1)).before args0 about1 = true := by
  rw [allAtoms_all]
  show words1.all (fun c => c.before args0 about1) = true
  refine all_split ?_ w_codes
  rw [← List.take_append_drop 24 words1, List.all_append, w_t1, ← List.take_append_drop 24 (words1.drop 24), List.all_append, w_t2, ← List.take_append_drop 24 ((words1.drop 24).drop 24), List.all_append, w_t3, ← List.take_append_drop 24 (((words1.drop 24).drop 24).drop 24), List.all_append, w_t4, ← List.take_append_drop 24 ((((words1.drop 24).drop 24).drop 24).drop 24), List.all_append, w_t5, ← List.take_append_drop 24 (((((words1.drop 24).drop 24).drop 24).drop 24).drop 24), List.all_append, w_t6, ← List.take_append_drop 24 ((((((words1.drop 24).drop 24).drop 24).drop 24).drop 24).drop 24), List.all_append, w_t7, ← List.take_append_drop 24 (((((((words1.drop 24).drop 24).drop 24).drop 24).drop 24).drop 24).drop 24), List.all_append, w_t8, ← List.take_append_drop 24 ((((((((words1.drop 24).drop 24).drop 24).drop 24).drop 24).drop 24).drop 24).drop 24), List.all_append, w_t9, w_t10]
  rfl
set_option maxRecDepth 65536 in
theorem w_rest : rest_1_c.before args0 about1 = true := by decide +kernel
set_option maxRecDepth 65536 in
theorem w_case : (Jvm.Cond.and given_1 narrow_1).before args0 about1 = true := by decide +kernel
theorem w_applies : (headSpec (Jvm.Cond.code x code maxLocals ret :: tables_1) room_1).applies x e0.platform about1 = true :=
  (Spec.applies_iff w_frames).mpr ⟨w_running, w_runnable, w_alone, w_named, w_hears, w_ripe, w_room, w_tables⟩
theorem atStart : AtStart classFile x code maxLocals ret World_1 tables_1 room_1 Calls_1 rest_1 Pre_1 launch0 p0 e0 about1 theMethod args0 below0 :=
  ⟨lists_1, trivial, launch0.admits_env _ _ _, launch0.least_env, fairChoices_fair.cas, fairChoices_fair.clock, w_frames, w_args, w_heap, w_applies, trivial, w_rest, w_case⟩
end start1
theorem witness_1 : WitnessClaimed_1 := ⟨start1.p0, start1.e0, start1.about1, start1.theMethod, start1.args0, start1.below0, start1.atStart⟩
end Jvm.Pilot.@@N@@
