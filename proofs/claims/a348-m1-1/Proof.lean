import JvmDerived
import JvmDerived.Pilot.@@N@@Statement
import JvmDerived.Pilot.@@N@@Code
set_option linter.unusedVariables false
set_option linter.unusedSimpArgs false
namespace Jvm.RoadKit
open Sem ClassFile Op Lib Jvm.Stand Jvm.Free Jvm.LawKit
section New
variable {p : Program} {l : Launch} {e : Env} {R : Room} {s : State} {m : MethodId} {args : Array Value} {below : List Frame} {meth : Method} {c : Code} {T : State} {locs : List Loc} {cells slots : Nat}
theorem retI (X : Stand p l e R s m args below meth c T locs cells slots) (hx : p.tables.exec = Jvm.exec) {pc : Nat} {Ls : Array Slot} {z : Int32} {rest : List Value} (hret : meth.sig.returnType = some .int) (hd : decode c.code pc = .ok (.ireturn, 1)) {fs : List Frame}
    (hl : ∀ (f : JFrame) (acts : List Action), f.method = m → f.locked = none → f.entered = [] → (doReturn e (T.setTop f) acts (some (.int z))).1 = T.setFrames fs) : Steps p.tables e below (T.setTop (mkF m pc Ls (.int z :: rest))) (T.setFrames fs) := by
  have hm' : T.vm.method? m = some meth := X.method'
  have hn : narrow .int (.int z) = .int z := rfl
  show Steps p.tables e below (T.setTop { method := m, pc := pc, locals := Ls, stack := _ :: rest, locked := none }) _
  jvm_step X.here [X.here.top, hx, hd, hm', hret, hn]
  first | (intro acts; rw [hl _ acts rfl rfl rfl]) | rw [hl _ _ rfl rfl rfl]
  exact Steps.refl _
end New
/-- the run from S ends, with Post of its end -/
def Go (tb : Tables) (e : Env) (below : List Frame) (Post : Outcome → State → Prop) (S : State) : Prop := ∃ s₂ o, Steps tb e below S s₂ ∧ s₂.status = .running ∧ Ended s₂ below o ∧ Post o s₂
theorem Go.step {tb : Tables} {e : Env} {below : List Frame} {Post : Outcome → State → Prop} {S S' : State} (h : ∀ t, Steps tb e below S' t → Steps tb e below S t) (g : Go tb e below Post S') : Go tb e below Post S := by
  obtain ⟨s₂, o, a, b⟩ := g
  exact ⟨s₂, o, h _ a, b⟩
theorem at_of {c : Cell} {vs : List Value} {d v : Value} {j : Int32} (H : Has c vs d) (hin : ¬ (j < 0 ∨ c.slots.size ≤ j.toNatClampNeg)) (e : vs.getD j.toNatClampNeg d = v) : c.slots[j.toNatClampNeg]? = some v := by
  have q : j.toNatClampNeg < c.slots.size := Nat.lt_of_not_le (fun h => hin (Or.inr h))
  rw [H _ q, e]
end Jvm.RoadKit
namespace Jvm.Pilot.@@N@@
open Jvm Jvm.ClassFile Sem Op Lib Jvm.Free Jvm.Stand Jvm.LawKit Jvm.RoadKit Bundle Jvm.Pilot.@@N@@.Jvm.D
abbrev own_W (Z : State) (a0 : Array Value) : Prop := ∀ d ∈ tables_1, d.before a0 Z = true
section Words
variable {Z : State} {a0 : Array Value}
theorem w0 (hw : own_W Z a0) : (Jvm.Cond.constant "com/example/sibyl/sibyl/core/KeyBytesOfPinLaw" (7 : Nat) (2147483647 : Int32)).before a0 Z = true := hw _ (List.mem_of_getElem? (i := 0) rfl)
theorem w1 (hw : own_W Z a0) : (Jvm.Cond.arrayClass Jvm.ClassFile.FieldType.char).before a0 Z = true := hw _ (List.mem_of_getElem? (i := 1) rfl)
theorem w2 (hw : own_W Z a0) : (Jvm.Cond.classLink "com/example/sibyl/sibyl/core/KeyBytesOfPinLaw" (10 : Nat) "java/lang/String").before a0 Z = true := hw _ (List.mem_of_getElem? (i := 2) rfl)
theorem w3 (hw : own_W Z a0) : (Jvm.Cond.instantiable "java/lang/String" (4 : Nat)).before a0 Z = true := hw _ (List.mem_of_getElem? (i := 3) rfl)
theorem w4 (hw : own_W Z a0) : (Jvm.Cond.initialized "java/lang/String").before a0 Z = true := hw _ (List.mem_of_getElem? (i := 4) rfl)
theorem w5 (hw : own_W Z a0) : (Jvm.Cond.methodLink "com/example/sibyl/sibyl/core/KeyBytesOfPinLaw" (12 : Nat) ({ cls := "java/lang/String", name := "<init>", desc := "([C)V" } : Jvm.MethodName)).before a0 Z = true := hw _ (List.mem_of_getElem? (i := 5) rfl)
theorem w6 (hw : own_W Z a0) : (Jvm.Cond.instanceMethod ({ cls := "java/lang/String", name := "<init>", desc := "([C)V" } : Jvm.MethodName)).before a0 Z = true := hw _ (List.mem_of_getElem? (i := 6) rfl)
theorem w7 (hw : own_W Z a0) : (Jvm.Cond.code ({ cls := "java/lang/String", name := "<init>", desc := "([C)V" } : Jvm.MethodName) jdk_42_method_3_code (2 : Nat) (Option.none : Option Jvm.ClassFile.FieldType)).before a0 Z = true := hw _ (List.mem_of_getElem? (i := 7) rfl)
theorem w8 (hw : own_W Z a0) : (Jvm.Cond.methodLink "java/lang/String" (27 : Nat) ({ cls := "java/lang/String", name := "<init>", desc := "([CIILjava/lang/Void;)V" } : Jvm.MethodName)).before a0 Z = true := hw _ (List.mem_of_getElem? (i := 8) rfl)
theorem w9 (hw : own_W Z a0) : (Jvm.Cond.instanceMethod ({ cls := "java/lang/String", name := "<init>", desc := "([CIILjava/lang/Void;)V" } : Jvm.MethodName)).before a0 Z = true := hw _ (List.mem_of_getElem? (i := 9) rfl)
theorem w11 (hw : own_W Z a0) : (Jvm.Cond.code ({ cls := "java/lang/String", name := "<init>", desc := "([CIILjava/lang/Void;)V" } : Jvm.MethodName) jdk_42_method_149_code (6 : Nat) (Option.none : Option Jvm.ClassFile.FieldType)).before a0 Z = true := hw _ (List.mem_of_getElem? (i := 11) rfl)
theorem w12 (hw : own_W Z a0) : (Jvm.Cond.methodLink "java/lang/String" (1 : Nat) ({ cls := "java/lang/Object", name := "<init>", desc := "()V" } : Jvm.MethodName)).before a0 Z = true := hw _ (List.mem_of_getElem? (i := 12) rfl)
theorem w13 (hw : own_W Z a0) : (Jvm.Cond.instanceMethod ({ cls := "java/lang/Object", name := "<init>", desc := "()V" } : Jvm.MethodName)).before a0 Z = true := hw _ (List.mem_of_getElem? (i := 13) rfl)
theorem w14 (hw : own_W Z a0) : (Jvm.Cond.code ({ cls := "java/lang/Object", name := "<init>", desc := "()V" } : Jvm.MethodName) object_method_1_code (1 : Nat) (Option.none : Option Jvm.ClassFile.FieldType)).before a0 Z = true := hw _ (List.mem_of_getElem? (i := 14) rfl)
theorem w15 (hw : own_W Z a0) : (Jvm.Cond.fieldLink "java/lang/String" (38 : Nat) "java/lang/String" "COMPACT_STRINGS" "Z").before a0 Z = true := hw _ (List.mem_of_getElem? (i := 15) rfl)
theorem w16 (hw : own_W Z a0) : (Jvm.Cond.methodLink "java/lang/String" (177 : Nat) ({ cls := "java/lang/StringUTF16", name := "compress", desc := "([CII)[B" } : Jvm.MethodName)).before a0 Z = true := hw _ (List.mem_of_getElem? (i := 16) rfl)
theorem w17 (hw : own_W Z a0) : (Jvm.Cond.static ({ cls := "java/lang/StringUTF16", name := "compress", desc := "([CII)[B" } : Jvm.MethodName)).before a0 Z = true := hw _ (List.mem_of_getElem? (i := 17) rfl)
theorem w18 (hw : own_W Z a0) : (Jvm.Cond.initialized "java/lang/StringUTF16").before a0 Z = true := hw _ (List.mem_of_getElem? (i := 18) rfl)
theorem w19 (hw : own_W Z a0) : (Jvm.Cond.code ({ cls := "java/lang/StringUTF16", name := "compress", desc := "([CII)[B" } : Jvm.MethodName) jdk_52_method_16_code (6 : Nat) (Option.some (Jvm.ClassFile.FieldType.array Jvm.ClassFile.FieldType.byte))).before a0 Z = true := hw _ (List.mem_of_getElem? (i := 19) rfl)
theorem w20 (hw : own_W Z a0) : (Jvm.Cond.arrayClass Jvm.ClassFile.FieldType.byte).before a0 Z = true := hw _ (List.mem_of_getElem? (i := 20) rfl)
theorem w21 (hw : own_W Z a0) : (Jvm.Cond.methodLink "java/lang/StringUTF16" (115 : Nat) ({ cls := "java/lang/StringUTF16", name := "compress", desc := "([CI[BII)I" } : Jvm.MethodName)).before a0 Z = true := hw _ (List.mem_of_getElem? (i := 21) rfl)
theorem w22 (hw : own_W Z a0) : (Jvm.Cond.static ({ cls := "java/lang/StringUTF16", name := "compress", desc := "([CI[BII)I" } : Jvm.MethodName)).before a0 Z = true := hw _ (List.mem_of_getElem? (i := 22) rfl)
theorem w23 (hw : own_W Z a0) : (Jvm.Cond.code ({ cls := "java/lang/StringUTF16", name := "compress", desc := "([CI[BII)I" } : Jvm.MethodName) jdk_52_method_21_code (7 : Nat) (Option.some Jvm.ClassFile.FieldType.int)).before a0 Z = true := hw _ (List.mem_of_getElem? (i := 23) rfl)
theorem w24 (hw : own_W Z a0) : (Jvm.Cond.methodLink "java/lang/String" (47 : Nat) ({ cls := "java/lang/StringUTF16", name := "coderFromArrayLen", desc := "([BI)B" } : Jvm.MethodName)).before a0 Z = true := hw _ (List.mem_of_getElem? (i := 24) rfl)
theorem w25 (hw : own_W Z a0) : (Jvm.Cond.static ({ cls := "java/lang/StringUTF16", name := "coderFromArrayLen", desc := "([BI)B" } : Jvm.MethodName)).before a0 Z = true := hw _ (List.mem_of_getElem? (i := 25) rfl)
theorem w26 (hw : own_W Z a0) : (Jvm.Cond.code ({ cls := "java/lang/StringUTF16", name := "coderFromArrayLen", desc := "([BI)B" } : Jvm.MethodName) jdk_52_method_15_code (2 : Nat) (Option.some Jvm.ClassFile.FieldType.byte)).before a0 Z = true := hw _ (List.mem_of_getElem? (i := 26) rfl)
theorem w27 (hw : own_W Z a0) : (Jvm.Cond.fieldLink "java/lang/String" (15 : Nat) "java/lang/String" "coder" "B").before a0 Z = true := hw _ (List.mem_of_getElem? (i := 27) rfl)
theorem w28 (hw : own_W Z a0) : (Jvm.Cond.laysFinal "java/lang/String" "java/lang/String" "coder" "B").before a0 Z = true := hw _ (List.mem_of_getElem? (i := 28) rfl)
theorem w29 (hw : own_W Z a0) : (Jvm.Cond.fieldLink "java/lang/String" (9 : Nat) "java/lang/String" "value" "[B").before a0 Z = true := hw _ (List.mem_of_getElem? (i := 29) rfl)
theorem w30 (hw : own_W Z a0) : (Jvm.Cond.laysFinal "java/lang/String" "java/lang/String" "value" "[B").before a0 Z = true := hw _ (List.mem_of_getElem? (i := 30) rfl)
theorem w31 (hw : own_W Z a0) : (Jvm.Cond.methodLink "com/example/sibyl/sibyl/core/KeyBytesOfPinLaw" (15 : Nat) ({ cls := "com/example/sibyl/sibyl/core/KeyBytesOfPinLaw", name := "isHigh", desc := "(C)Z" } : Jvm.MethodName)).before a0 Z = true := hw _ (List.mem_of_getElem? (i := 31) rfl)
theorem w32 (hw : own_W Z a0) : (Jvm.Cond.static ({ cls := "com/example/sibyl/sibyl/core/KeyBytesOfPinLaw", name := "isHigh", desc := "(C)Z" } : Jvm.MethodName)).before a0 Z = true := hw _ (List.mem_of_getElem? (i := 32) rfl)
theorem w33 (hw : own_W Z a0) : (Jvm.Cond.initialized "com/example/sibyl/sibyl/core/KeyBytesOfPinLaw").before a0 Z = true := hw _ (List.mem_of_getElem? (i := 33) rfl)
theorem w34 (hw : own_W Z a0) : (Jvm.Cond.code ({ cls := "com/example/sibyl/sibyl/core/KeyBytesOfPinLaw", name := "isHigh", desc := "(C)Z" } : Jvm.MethodName) method_3_code (1 : Nat) (Option.some Jvm.ClassFile.FieldType.boolean)).before a0 Z = true := hw _ (List.mem_of_getElem? (i := 34) rfl)
theorem w35 (hw : own_W Z a0) : (Jvm.Cond.constant "com/example/sibyl/sibyl/core/KeyBytesOfPinLaw" (8 : Nat) (55296 : Int32)).before a0 Z = true := hw _ (List.mem_of_getElem? (i := 35) rfl)
theorem w36 (hw : own_W Z a0) : (Jvm.Cond.methodLink "com/example/sibyl/sibyl/core/KeyBytesOfPinLaw" (28 : Nat) ({ cls := "com/example/sibyl/sibyl/core/KeyBytesOfPinLaw", name := "unit", desc := "([BIC)I" } : Jvm.MethodName)).before a0 Z = true := hw _ (List.mem_of_getElem? (i := 36) rfl)
theorem w37 (hw : own_W Z a0) : (Jvm.Cond.static ({ cls := "com/example/sibyl/sibyl/core/KeyBytesOfPinLaw", name := "unit", desc := "([BIC)I" } : Jvm.MethodName)).before a0 Z = true := hw _ (List.mem_of_getElem? (i := 37) rfl)
theorem w38 (hw : own_W Z a0) : (Jvm.Cond.code ({ cls := "com/example/sibyl/sibyl/core/KeyBytesOfPinLaw", name := "unit", desc := "([BIC)I" } : Jvm.MethodName) method_5_code (4 : Nat) (Option.some Jvm.ClassFile.FieldType.int)).before a0 Z = true := hw _ (List.mem_of_getElem? (i := 38) rfl)
theorem w39 (hw : own_W Z a0) : (Jvm.Cond.methodLink "com/example/sibyl/sibyl/core/KeyBytesOfPinLaw" (32 : Nat) ({ cls := "com/example/sibyl/sibyl/core/KeyBytes", name := "of", desc := "(Ljava/lang/String;)[B" } : Jvm.MethodName)).before a0 Z = true := hw _ (List.mem_of_getElem? (i := 39) rfl)
theorem w40 (hw : own_W Z a0) : (Jvm.Cond.static ({ cls := "com/example/sibyl/sibyl/core/KeyBytes", name := "of", desc := "(Ljava/lang/String;)[B" } : Jvm.MethodName)).before a0 Z = true := hw _ (List.mem_of_getElem? (i := 40) rfl)
theorem w41 (hw : own_W Z a0) : (Jvm.Cond.initialized "com/example/sibyl/sibyl/core/KeyBytes").before a0 Z = true := hw _ (List.mem_of_getElem? (i := 41) rfl)
theorem w42 (hw : own_W Z a0) : (Jvm.Cond.code ({ cls := "com/example/sibyl/sibyl/core/KeyBytes", name := "of", desc := "(Ljava/lang/String;)[B" } : Jvm.MethodName) prog_21_method_2_code (1 : Nat) (Option.some (Jvm.ClassFile.FieldType.array Jvm.ClassFile.FieldType.byte))).before a0 Z = true := hw _ (List.mem_of_getElem? (i := 42) rfl)
theorem w43 (hw : own_W Z a0) : (Jvm.Cond.fieldLink "com/example/sibyl/sibyl/core/KeyBytes" (7 : Nat) "java/nio/charset/StandardCharsets" "UTF_8" "Ljava/nio/charset/Charset;").before a0 Z = true := hw _ (List.mem_of_getElem? (i := 43) rfl)
theorem w45 (hw : own_W Z a0) : (Jvm.Cond.methodLink "com/example/sibyl/sibyl/core/KeyBytes" (13 : Nat) ({ cls := "java/lang/String", name := "getBytes", desc := "(Ljava/nio/charset/Charset;)[B" } : Jvm.MethodName)).before a0 Z = true := hw _ (List.mem_of_getElem? (i := 45) rfl)
theorem w46 (hw : own_W Z a0) : (Jvm.Cond.declares ({ cls := "java/lang/String", name := "getBytes", desc := "(Ljava/nio/charset/Charset;)[B" } : Jvm.MethodName)).before a0 Z = true := hw _ (List.mem_of_getElem? (i := 46) rfl)
theorem w47 (hw : own_W Z a0) : (Jvm.Cond.instanceMethod ({ cls := "java/lang/String", name := "getBytes", desc := "(Ljava/nio/charset/Charset;)[B" } : Jvm.MethodName)).before a0 Z = true := hw _ (List.mem_of_getElem? (i := 47) rfl)
theorem w48 (hw : own_W Z a0) : (Jvm.Cond.selects "java/lang/String" ({ cls := "java/lang/String", name := "getBytes", desc := "(Ljava/nio/charset/Charset;)[B" } : Jvm.MethodName) ({ cls := "java/lang/String", name := "getBytes", desc := "(Ljava/nio/charset/Charset;)[B" } : Jvm.MethodName)).before a0 Z = true := hw _ (List.mem_of_getElem? (i := 48) rfl)
theorem w49 (hw : own_W Z a0) : (Jvm.Cond.code ({ cls := "java/lang/String", name := "getBytes", desc := "(Ljava/nio/charset/Charset;)[B" } : Jvm.MethodName) jdk_42_method_64_code (2 : Nat) (Option.some (Jvm.ClassFile.FieldType.array Jvm.ClassFile.FieldType.byte))).before a0 Z = true := hw _ (List.mem_of_getElem? (i := 49) rfl)
theorem w50 (hw : own_W Z a0) : (Jvm.Cond.methodLink "java/lang/String" (335 : Nat) ({ cls := "java/lang/String", name := "coder", desc := "()B" } : Jvm.MethodName)).before a0 Z = true := hw _ (List.mem_of_getElem? (i := 50) rfl)
theorem w51 (hw : own_W Z a0) : (Jvm.Cond.declares ({ cls := "java/lang/String", name := "coder", desc := "()B" } : Jvm.MethodName)).before a0 Z = true := hw _ (List.mem_of_getElem? (i := 51) rfl)
theorem w52 (hw : own_W Z a0) : (Jvm.Cond.instanceMethod ({ cls := "java/lang/String", name := "coder", desc := "()B" } : Jvm.MethodName)).before a0 Z = true := hw _ (List.mem_of_getElem? (i := 52) rfl)
theorem w53 (hw : own_W Z a0) : (Jvm.Cond.selects "java/lang/String" ({ cls := "java/lang/String", name := "coder", desc := "()B" } : Jvm.MethodName) ({ cls := "java/lang/String", name := "coder", desc := "()B" } : Jvm.MethodName)).before a0 Z = true := hw _ (List.mem_of_getElem? (i := 53) rfl)
theorem w54 (hw : own_W Z a0) : (Jvm.Cond.code ({ cls := "java/lang/String", name := "coder", desc := "()B" } : Jvm.MethodName) jdk_42_method_152_code (1 : Nat) (Option.some Jvm.ClassFile.FieldType.byte)).before a0 Z = true := hw _ (List.mem_of_getElem? (i := 54) rfl)
theorem w55 (hw : own_W Z a0) : (Jvm.Cond.methodLink "java/lang/String" (535 : Nat) ({ cls := "java/lang/String", name := "encode", desc := "(Ljava/nio/charset/Charset;B[B)[B" } : Jvm.MethodName)).before a0 Z = true := hw _ (List.mem_of_getElem? (i := 55) rfl)
theorem w56 (hw : own_W Z a0) : (Jvm.Cond.static ({ cls := "java/lang/String", name := "encode", desc := "(Ljava/nio/charset/Charset;B[B)[B" } : Jvm.MethodName)).before a0 Z = true := hw _ (List.mem_of_getElem? (i := 56) rfl)
theorem w57 (hw : own_W Z a0) : (Jvm.Cond.code ({ cls := "java/lang/String", name := "encode", desc := "(Ljava/nio/charset/Charset;B[B)[B" } : Jvm.MethodName) jdk_42_method_18_code (3 : Nat) (Option.some (Jvm.ClassFile.FieldType.array Jvm.ClassFile.FieldType.byte))).before a0 Z = true := hw _ (List.mem_of_getElem? (i := 57) rfl)
theorem w58 (hw : own_W Z a0) : (Jvm.Cond.fieldLink "java/lang/String" (86 : Nat) "sun/nio/cs/UTF_8" "INSTANCE" "Lsun/nio/cs/UTF_8;").before a0 Z = true := hw _ (List.mem_of_getElem? (i := 58) rfl)
theorem w60 (hw : own_W Z a0) : (Jvm.Cond.methodLink "java/lang/String" (252 : Nat) ({ cls := "java/lang/String", name := "encodeUTF8", desc := "(B[BZ)[B" } : Jvm.MethodName)).before a0 Z = true := hw _ (List.mem_of_getElem? (i := 60) rfl)
theorem w61 (hw : own_W Z a0) : (Jvm.Cond.static ({ cls := "java/lang/String", name := "encodeUTF8", desc := "(B[BZ)[B" } : Jvm.MethodName)).before a0 Z = true := hw _ (List.mem_of_getElem? (i := 61) rfl)
theorem w62 (hw : own_W Z a0) : (Jvm.Cond.code ({ cls := "java/lang/String", name := "encodeUTF8", desc := "(B[BZ)[B" } : Jvm.MethodName) jdk_42_method_46_code (9 : Nat) (Option.some (Jvm.ClassFile.FieldType.array Jvm.ClassFile.FieldType.byte))).before a0 Z = true := hw _ (List.mem_of_getElem? (i := 62) rfl)
theorem w63 (hw : own_W Z a0) : (Jvm.Cond.methodLink "java/lang/String" (128 : Nat) ({ cls := "java/lang/StringCoding", name := "hasNegatives", desc := "([BII)Z" } : Jvm.MethodName)).before a0 Z = true := hw _ (List.mem_of_getElem? (i := 63) rfl)
theorem w64 (hw : own_W Z a0) : (Jvm.Cond.static ({ cls := "java/lang/StringCoding", name := "hasNegatives", desc := "([BII)Z" } : Jvm.MethodName)).before a0 Z = true := hw _ (List.mem_of_getElem? (i := 64) rfl)
theorem w65 (hw : own_W Z a0) : (Jvm.Cond.initialized "java/lang/StringCoding").before a0 Z = true := hw _ (List.mem_of_getElem? (i := 65) rfl)
theorem w66 (hw : own_W Z a0) : (Jvm.Cond.code ({ cls := "java/lang/StringCoding", name := "hasNegatives", desc := "([BII)Z" } : Jvm.MethodName) jdk_123_method_2_code (3 : Nat) (Option.some Jvm.ClassFile.FieldType.boolean)).before a0 Z = true := hw _ (List.mem_of_getElem? (i := 66) rfl)
theorem w67 (hw : own_W Z a0) : (Jvm.Cond.methodLink "java/lang/StringCoding" (7 : Nat) ({ cls := "java/lang/StringCoding", name := "countPositives", desc := "([BII)I" } : Jvm.MethodName)).before a0 Z = true := hw _ (List.mem_of_getElem? (i := 67) rfl)
theorem w68 (hw : own_W Z a0) : (Jvm.Cond.static ({ cls := "java/lang/StringCoding", name := "countPositives", desc := "([BII)I" } : Jvm.MethodName)).before a0 Z = true := hw _ (List.mem_of_getElem? (i := 68) rfl)
theorem w69 (hw : own_W Z a0) : (Jvm.Cond.code ({ cls := "java/lang/StringCoding", name := "countPositives", desc := "([BII)I" } : Jvm.MethodName) jdk_123_method_3_code (5 : Nat) (Option.some Jvm.ClassFile.FieldType.int)).before a0 Z = true := hw _ (List.mem_of_getElem? (i := 69) rfl)
theorem w70 (hw : own_W Z a0) : (Jvm.Cond.methodLink "java/lang/String" (279 : Nat) ({ cls := "[B", name := "clone", desc := "()Ljava/lang/Object;" } : Jvm.MethodName)).before a0 Z = true := hw _ (List.mem_of_getElem? (i := 70) rfl)
theorem w71 (hw : own_W Z a0) : (Jvm.Cond.sameMethod "[B" "java/lang/Object" "clone" "()Ljava/lang/Object;").before a0 Z = true := hw _ (List.mem_of_getElem? (i := 71) rfl)
theorem w73 (hw : own_W Z a0) : (Jvm.Cond.instanceMethod ({ cls := "java/lang/Object", name := "clone", desc := "()Ljava/lang/Object;" } : Jvm.MethodName)).before a0 Z = true := hw _ (List.mem_of_getElem? (i := 73) rfl)
theorem w74 (hw : own_W Z a0) : (Jvm.Cond.selects "[B" ({ cls := "[B", name := "clone", desc := "()Ljava/lang/Object;" } : Jvm.MethodName) ({ cls := "java/lang/Object", name := "clone", desc := "()Ljava/lang/Object;" } : Jvm.MethodName)).before a0 Z = true := hw _ (List.mem_of_getElem? (i := 74) rfl)
theorem w75 (hw : own_W Z a0) : (Jvm.Cond.native ({ cls := "java/lang/Object", name := "clone", desc := "()Ljava/lang/Object;" } : Jvm.MethodName)).before a0 Z = true := hw _ (List.mem_of_getElem? (i := 75) rfl)
theorem w76 (hw : own_W Z a0) : (Jvm.Cond.castable "[B" "java/lang/Cloneable").before a0 Z = true := hw _ (List.mem_of_getElem? (i := 76) rfl)
theorem w77 (hw : own_W Z a0) : (Jvm.Cond.classLink "java/lang/String" (280 : Nat) "[B").before a0 Z = true := hw _ (List.mem_of_getElem? (i := 77) rfl)
theorem w79 (hw : own_W Z a0) : (Jvm.Cond.methodLink "com/example/sibyl/sibyl/core/KeyBytesOfPinLaw" (38 : Nat) ({ cls := "com/example/sibyl/sibyl/core/KeyBytesOfPinLaw", name := "eq", desc := "([B[BI)Z" } : Jvm.MethodName)).before a0 Z = true := hw _ (List.mem_of_getElem? (i := 79) rfl)
theorem w80 (hw : own_W Z a0) : (Jvm.Cond.static ({ cls := "com/example/sibyl/sibyl/core/KeyBytesOfPinLaw", name := "eq", desc := "([B[BI)Z" } : Jvm.MethodName)).before a0 Z = true := hw _ (List.mem_of_getElem? (i := 80) rfl)
theorem w81 (hw : own_W Z a0) : (Jvm.Cond.code ({ cls := "com/example/sibyl/sibyl/core/KeyBytesOfPinLaw", name := "eq", desc := "([B[BI)Z" } : Jvm.MethodName) method_7_code (3 : Nat) (Option.some Jvm.ClassFile.FieldType.boolean)).before a0 Z = true := hw _ (List.mem_of_getElem? (i := 81) rfl)
theorem w82 (hw : own_W Z a0) : (Jvm.Cond.stringLink "java/lang/String" (7 : Nat) "").before a0 Z = true := hw _ (List.mem_of_getElem? (i := 82) rfl)
theorem w85 (hw : own_W Z a0) : (Jvm.Cond.constant "com/example/sibyl/sibyl/core/KeyBytesOfPinLaw" (9 : Nat) (56320 : Int32)).before a0 Z = true := hw _ (List.mem_of_getElem? (i := 85) rfl)
theorem w86 (hw : own_W Z a0) : (Jvm.Cond.methodLink "java/lang/StringUTF16" (119 : Nat) ({ cls := "java/lang/StringUTF16", name := "toBytes", desc := "([CII)[B" } : Jvm.MethodName)).before a0 Z = true := hw _ (List.mem_of_getElem? (i := 86) rfl)
theorem w87 (hw : own_W Z a0) : (Jvm.Cond.static ({ cls := "java/lang/StringUTF16", name := "toBytes", desc := "([CII)[B" } : Jvm.MethodName)).before a0 Z = true := hw _ (List.mem_of_getElem? (i := 87) rfl)
theorem w88 (hw : own_W Z a0) : (Jvm.Cond.code ({ cls := "java/lang/StringUTF16", name := "toBytes", desc := "([CII)[B" } : Jvm.MethodName) jdk_52_method_14_code (5 : Nat) (Option.some (Jvm.ClassFile.FieldType.array Jvm.ClassFile.FieldType.byte))).before a0 Z = true := hw _ (List.mem_of_getElem? (i := 88) rfl)
theorem w89 (hw : own_W Z a0) : (Jvm.Cond.methodLink "java/lang/StringUTF16" (107 : Nat) ({ cls := "java/lang/StringUTF16", name := "newBytesFor", desc := "(I)[B" } : Jvm.MethodName)).before a0 Z = true := hw _ (List.mem_of_getElem? (i := 89) rfl)
theorem w90 (hw : own_W Z a0) : (Jvm.Cond.static ({ cls := "java/lang/StringUTF16", name := "newBytesFor", desc := "(I)[B" } : Jvm.MethodName)).before a0 Z = true := hw _ (List.mem_of_getElem? (i := 90) rfl)
theorem w91 (hw : own_W Z a0) : (Jvm.Cond.code ({ cls := "java/lang/StringUTF16", name := "newBytesFor", desc := "(I)[B" } : Jvm.MethodName) jdk_52_method_2_code (1 : Nat) (Option.some (Jvm.ClassFile.FieldType.array Jvm.ClassFile.FieldType.byte))).before a0 Z = true := hw _ (List.mem_of_getElem? (i := 91) rfl)
theorem w92 (hw : own_W Z a0) : (Jvm.Cond.methodLink "java/lang/StringUTF16" (11 : Nat) ({ cls := "java/lang/StringUTF16", name := "newBytesLength", desc := "(I)I" } : Jvm.MethodName)).before a0 Z = true := hw _ (List.mem_of_getElem? (i := 92) rfl)
theorem w93 (hw : own_W Z a0) : (Jvm.Cond.static ({ cls := "java/lang/StringUTF16", name := "newBytesLength", desc := "(I)I" } : Jvm.MethodName)).before a0 Z = true := hw _ (List.mem_of_getElem? (i := 93) rfl)
theorem w94 (hw : own_W Z a0) : (Jvm.Cond.code ({ cls := "java/lang/StringUTF16", name := "newBytesLength", desc := "(I)I" } : Jvm.MethodName) jdk_52_method_3_code (1 : Nat) (Option.some Jvm.ClassFile.FieldType.int)).before a0 Z = true := hw _ (List.mem_of_getElem? (i := 94) rfl)
theorem w95 (hw : own_W Z a0) : (Jvm.Cond.constant "java/lang/StringUTF16" (20 : Nat) (1073741823 : Int32)).before a0 Z = true := hw _ (List.mem_of_getElem? (i := 95) rfl)
theorem w96 (hw : own_W Z a0) : (Jvm.Cond.methodLink "java/lang/StringUTF16" (111 : Nat) ({ cls := "java/lang/StringUTF16", name := "putChar", desc := "([BII)V" } : Jvm.MethodName)).before a0 Z = true := hw _ (List.mem_of_getElem? (i := 96) rfl)
theorem w97 (hw : own_W Z a0) : (Jvm.Cond.static ({ cls := "java/lang/StringUTF16", name := "putChar", desc := "([BII)V" } : Jvm.MethodName)).before a0 Z = true := hw _ (List.mem_of_getElem? (i := 97) rfl)
theorem w98 (hw : own_W Z a0) : (Jvm.Cond.code ({ cls := "java/lang/StringUTF16", name := "putChar", desc := "([BII)V" } : Jvm.MethodName) jdk_52_method_4_code (3 : Nat) (Option.none : Option Jvm.ClassFile.FieldType)).before a0 Z = true := hw _ (List.mem_of_getElem? (i := 98) rfl)
theorem w99 (hw : own_W Z a0) : (Jvm.Cond.fieldLink "java/lang/StringUTF16" (44 : Nat) "java/lang/StringUTF16" "$assertionsDisabled" "Z").before a0 Z = true := hw _ (List.mem_of_getElem? (i := 99) rfl)
theorem w100 (hw : own_W Z a0) : (Jvm.Cond.fieldLink "java/lang/StringUTF16" (59 : Nat) "java/lang/StringUTF16" "HI_BYTE_SHIFT" "I").before a0 Z = true := hw _ (List.mem_of_getElem? (i := 100) rfl)
theorem w101 (hw : own_W Z a0) : (Jvm.Cond.fieldLink "java/lang/StringUTF16" (63 : Nat) "java/lang/StringUTF16" "LO_BYTE_SHIFT" "I").before a0 Z = true := hw _ (List.mem_of_getElem? (i := 101) rfl)
theorem w102 (hw : own_W Z a0) : (Jvm.Cond.methodLink "java/lang/StringUTF16" (71 : Nat) ({ cls := "java/lang/StringUTF16", name := "getChar", desc := "([BI)C" } : Jvm.MethodName)).before a0 Z = true := hw _ (List.mem_of_getElem? (i := 102) rfl)
theorem w103 (hw : own_W Z a0) : (Jvm.Cond.static ({ cls := "java/lang/StringUTF16", name := "getChar", desc := "([BI)C" } : Jvm.MethodName)).before a0 Z = true := hw _ (List.mem_of_getElem? (i := 103) rfl)
theorem w104 (hw : own_W Z a0) : (Jvm.Cond.code ({ cls := "java/lang/StringUTF16", name := "getChar", desc := "([BI)C" } : Jvm.MethodName) jdk_52_method_5_code (2 : Nat) (Option.some Jvm.ClassFile.FieldType.char)).before a0 Z = true := hw _ (List.mem_of_getElem? (i := 104) rfl)
theorem w105 (hw : own_W Z a0) : (Jvm.Cond.constant "com/example/sibyl/sibyl/core/KeyBytesOfPinLaw" (43 : Nat) (57343 : Int32)).before a0 Z = true := hw _ (List.mem_of_getElem? (i := 105) rfl)
theorem w106 (hw : own_W Z a0) : (Jvm.Cond.methodLink "java/lang/String" (473 : Nat) ({ cls := "java/lang/String", name := "encodeUTF8_UTF16", desc := "([BZ)[B" } : Jvm.MethodName)).before a0 Z = true := hw _ (List.mem_of_getElem? (i := 106) rfl)
theorem w107 (hw : own_W Z a0) : (Jvm.Cond.static ({ cls := "java/lang/String", name := "encodeUTF8_UTF16", desc := "([BZ)[B" } : Jvm.MethodName)).before a0 Z = true := hw _ (List.mem_of_getElem? (i := 107) rfl)
theorem w108 (hw : own_W Z a0) : (Jvm.Cond.code ({ cls := "java/lang/String", name := "encodeUTF8_UTF16", desc := "([BZ)[B" } : Jvm.MethodName) jdk_42_method_47_code (9 : Nat) (Option.some (Jvm.ClassFile.FieldType.array Jvm.ClassFile.FieldType.byte))).before a0 Z = true := hw _ (List.mem_of_getElem? (i := 108) rfl)
theorem w109 (hw : own_W Z a0) : (Jvm.Cond.methodLink "java/lang/String" (360 : Nat) ({ cls := "java/lang/StringUTF16", name := "getChar", desc := "([BI)C" } : Jvm.MethodName)).before a0 Z = true := hw _ (List.mem_of_getElem? (i := 109) rfl)
theorem w110 (hw : own_W Z a0) : (Jvm.Cond.methodLink "java/lang/String" (404 : Nat) ({ cls := "java/lang/Character", name := "isSurrogate", desc := "(C)Z" } : Jvm.MethodName)).before a0 Z = true := hw _ (List.mem_of_getElem? (i := 110) rfl)
theorem w111 (hw : own_W Z a0) : (Jvm.Cond.static ({ cls := "java/lang/Character", name := "isSurrogate", desc := "(C)Z" } : Jvm.MethodName)).before a0 Z = true := hw _ (List.mem_of_getElem? (i := 111) rfl)
theorem w112 (hw : own_W Z a0) : (Jvm.Cond.initialized "java/lang/Character").before a0 Z = true := hw _ (List.mem_of_getElem? (i := 112) rfl)
theorem w113 (hw : own_W Z a0) : (Jvm.Cond.code ({ cls := "java/lang/Character", name := "isSurrogate", desc := "(C)Z" } : Jvm.MethodName) jdk_89_method_16_code (1 : Nat) (Option.some Jvm.ClassFile.FieldType.boolean)).before a0 Z = true := hw _ (List.mem_of_getElem? (i := 113) rfl)
theorem w114 (hw : own_W Z a0) : (Jvm.Cond.constant "java/lang/Character" (75 : Nat) (55296 : Int32)).before a0 Z = true := hw _ (List.mem_of_getElem? (i := 114) rfl)
theorem w115 (hw : own_W Z a0) : (Jvm.Cond.constant "java/lang/Character" (77 : Nat) (57344 : Int32)).before a0 Z = true := hw _ (List.mem_of_getElem? (i := 115) rfl)
theorem w116 (hw : own_W Z a0) : (Jvm.Cond.methodLink "java/lang/String" (364 : Nat) ({ cls := "java/lang/Character", name := "isHighSurrogate", desc := "(C)Z" } : Jvm.MethodName)).before a0 Z = true := hw _ (List.mem_of_getElem? (i := 116) rfl)
theorem w117 (hw : own_W Z a0) : (Jvm.Cond.static ({ cls := "java/lang/Character", name := "isHighSurrogate", desc := "(C)Z" } : Jvm.MethodName)).before a0 Z = true := hw _ (List.mem_of_getElem? (i := 117) rfl)
theorem w118 (hw : own_W Z a0) : (Jvm.Cond.code ({ cls := "java/lang/Character", name := "isHighSurrogate", desc := "(C)Z" } : Jvm.MethodName) jdk_89_method_14_code (1 : Nat) (Option.some Jvm.ClassFile.FieldType.boolean)).before a0 Z = true := hw _ (List.mem_of_getElem? (i := 118) rfl)
theorem w119 (hw : own_W Z a0) : (Jvm.Cond.constant "java/lang/Character" (76 : Nat) (56320 : Int32)).before a0 Z = true := hw _ (List.mem_of_getElem? (i := 119) rfl)
theorem w120 (hw : own_W Z a0) : (Jvm.Cond.methodLink "java/lang/String" (102 : Nat) ({ cls := "java/util/Arrays", name := "copyOf", desc := "([BI)[B" } : Jvm.MethodName)).before a0 Z = true := hw _ (List.mem_of_getElem? (i := 120) rfl)
theorem w121 (hw : own_W Z a0) : (Jvm.Cond.static ({ cls := "java/util/Arrays", name := "copyOf", desc := "([BI)[B" } : Jvm.MethodName)).before a0 Z = true := hw _ (List.mem_of_getElem? (i := 121) rfl)
theorem w122 (hw : own_W Z a0) : (Jvm.Cond.initialized "java/util/Arrays").before a0 Z = true := hw _ (List.mem_of_getElem? (i := 122) rfl)
theorem w123 (hw : own_W Z a0) : (Jvm.Cond.code ({ cls := "java/util/Arrays", name := "copyOf", desc := "([BI)[B" } : Jvm.MethodName) jdk_65_method_121_code (3 : Nat) (Option.some (Jvm.ClassFile.FieldType.array Jvm.ClassFile.FieldType.byte))).before a0 Z = true := hw _ (List.mem_of_getElem? (i := 123) rfl)
theorem w124 (hw : own_W Z a0) : (Jvm.Cond.methodLink "java/util/Arrays" (304 : Nat) ({ cls := "java/lang/Math", name := "min", desc := "(II)I" } : Jvm.MethodName)).before a0 Z = true := hw _ (List.mem_of_getElem? (i := 124) rfl)
theorem w125 (hw : own_W Z a0) : (Jvm.Cond.static ({ cls := "java/lang/Math", name := "min", desc := "(II)I" } : Jvm.MethodName)).before a0 Z = true := hw _ (List.mem_of_getElem? (i := 125) rfl)
theorem w126 (hw : own_W Z a0) : (Jvm.Cond.initialized "java/lang/Math").before a0 Z = true := hw _ (List.mem_of_getElem? (i := 126) rfl)
theorem w127 (hw : own_W Z a0) : (Jvm.Cond.code ({ cls := "java/lang/Math", name := "min", desc := "(II)I" } : Jvm.MethodName) jdk_29_method_69_code (2 : Nat) (Option.some Jvm.ClassFile.FieldType.int)).before a0 Z = true := hw _ (List.mem_of_getElem? (i := 127) rfl)
theorem w128 (hw : own_W Z a0) : (Jvm.Cond.methodLink "java/util/Arrays" (150 : Nat) ({ cls := "java/lang/System", name := "arraycopy", desc := "(Ljava/lang/Object;ILjava/lang/Object;II)V" } : Jvm.MethodName)).before a0 Z = true := hw _ (List.mem_of_getElem? (i := 128) rfl)
theorem w129 (hw : own_W Z a0) : (Jvm.Cond.static ({ cls := "java/lang/System", name := "arraycopy", desc := "(Ljava/lang/Object;ILjava/lang/Object;II)V" } : Jvm.MethodName)).before a0 Z = true := hw _ (List.mem_of_getElem? (i := 129) rfl)
theorem w130 (hw : own_W Z a0) : (Jvm.Cond.initialized "java/lang/System").before a0 Z = true := hw _ (List.mem_of_getElem? (i := 130) rfl)
theorem w131 (hw : own_W Z a0) : (Jvm.Cond.native ({ cls := "java/lang/System", name := "arraycopy", desc := "(Ljava/lang/Object;ILjava/lang/Object;II)V" } : Jvm.MethodName)).before a0 Z = true := hw _ (List.mem_of_getElem? (i := 131) rfl)
theorem w132 (hw : own_W Z a0) : (Jvm.Cond.constant "com/example/sibyl/sibyl/core/KeyBytesOfPinLaw" (42 : Nat) (56319 : Int32)).before a0 Z = true := hw _ (List.mem_of_getElem? (i := 132) rfl)
theorem w133 (hw : own_W Z a0) : (Jvm.Cond.methodLink "com/example/sibyl/sibyl/core/KeyBytesOfPinLaw" (21 : Nat) ({ cls := "com/example/sibyl/sibyl/core/KeyBytesOfPinLaw", name := "isLow", desc := "(C)Z" } : Jvm.MethodName)).before a0 Z = true := hw _ (List.mem_of_getElem? (i := 133) rfl)
theorem w134 (hw : own_W Z a0) : (Jvm.Cond.static ({ cls := "com/example/sibyl/sibyl/core/KeyBytesOfPinLaw", name := "isLow", desc := "(C)Z" } : Jvm.MethodName)).before a0 Z = true := hw _ (List.mem_of_getElem? (i := 134) rfl)
theorem w135 (hw : own_W Z a0) : (Jvm.Cond.code ({ cls := "com/example/sibyl/sibyl/core/KeyBytesOfPinLaw", name := "isLow", desc := "(C)Z" } : Jvm.MethodName) method_4_code (1 : Nat) (Option.some Jvm.ClassFile.FieldType.boolean)).before a0 Z = true := hw _ (List.mem_of_getElem? (i := 135) rfl)
theorem w136 (hw : own_W Z a0) : (Jvm.Cond.methodLink "com/example/sibyl/sibyl/core/KeyBytesOfPinLaw" (24 : Nat) ({ cls := "com/example/sibyl/sibyl/core/KeyBytesOfPinLaw", name := "pair", desc := "([BCC)I" } : Jvm.MethodName)).before a0 Z = true := hw _ (List.mem_of_getElem? (i := 136) rfl)
theorem w137 (hw : own_W Z a0) : (Jvm.Cond.static ({ cls := "com/example/sibyl/sibyl/core/KeyBytesOfPinLaw", name := "pair", desc := "([BCC)I" } : Jvm.MethodName)).before a0 Z = true := hw _ (List.mem_of_getElem? (i := 137) rfl)
theorem w138 (hw : own_W Z a0) : (Jvm.Cond.code ({ cls := "com/example/sibyl/sibyl/core/KeyBytesOfPinLaw", name := "pair", desc := "([BCC)I" } : Jvm.MethodName) method_6_code (4 : Nat) (Option.some Jvm.ClassFile.FieldType.int)).before a0 Z = true := hw _ (List.mem_of_getElem? (i := 138) rfl)
theorem w139 (hw : own_W Z a0) : (Jvm.Cond.constant "com/example/sibyl/sibyl/core/KeyBytesOfPinLaw" (44 : Nat) (65536 : Int32)).before a0 Z = true := hw _ (List.mem_of_getElem? (i := 139) rfl)
theorem w140 (hw : own_W Z a0) : (Jvm.Cond.methodLink "java/lang/String" (370 : Nat) ({ cls := "java/lang/Character", name := "isLowSurrogate", desc := "(C)Z" } : Jvm.MethodName)).before a0 Z = true := hw _ (List.mem_of_getElem? (i := 140) rfl)
theorem w141 (hw : own_W Z a0) : (Jvm.Cond.static ({ cls := "java/lang/Character", name := "isLowSurrogate", desc := "(C)Z" } : Jvm.MethodName)).before a0 Z = true := hw _ (List.mem_of_getElem? (i := 141) rfl)
theorem w142 (hw : own_W Z a0) : (Jvm.Cond.code ({ cls := "java/lang/Character", name := "isLowSurrogate", desc := "(C)Z" } : Jvm.MethodName) jdk_89_method_15_code (1 : Nat) (Option.some Jvm.ClassFile.FieldType.boolean)).before a0 Z = true := hw _ (List.mem_of_getElem? (i := 142) rfl)
theorem w143 (hw : own_W Z a0) : (Jvm.Cond.methodLink "java/lang/String" (477 : Nat) ({ cls := "java/lang/Character", name := "toCodePoint", desc := "(CC)I" } : Jvm.MethodName)).before a0 Z = true := hw _ (List.mem_of_getElem? (i := 143) rfl)
theorem w144 (hw : own_W Z a0) : (Jvm.Cond.static ({ cls := "java/lang/Character", name := "toCodePoint", desc := "(CC)I" } : Jvm.MethodName)).before a0 Z = true := hw _ (List.mem_of_getElem? (i := 144) rfl)
theorem w145 (hw : own_W Z a0) : (Jvm.Cond.code ({ cls := "java/lang/Character", name := "toCodePoint", desc := "(CC)I" } : Jvm.MethodName) jdk_89_method_19_code (2 : Nat) (Option.some Jvm.ClassFile.FieldType.int)).before a0 Z = true := hw _ (List.mem_of_getElem? (i := 145) rfl)
theorem w146 (hw : own_W Z a0) : (Jvm.Cond.constant "java/lang/Character" (85 : Nat) (-56613888 : Int32)).before a0 Z = true := hw _ (List.mem_of_getElem? (i := 146) rfl)
theorem w147 (hw : own_W Z a0) : (Jvm.Cond.methodLink "java/lang/String" (60 : Nat) ({ cls := "java/lang/StringUTF16", name := "newBytesFor", desc := "(I)[B" } : Jvm.MethodName)).before a0 Z = true := hw _ (List.mem_of_getElem? (i := 147) rfl)
end Words
abbrev Y0 : MethodName := (⟨"java/lang/Math", "min", "(II)I"⟩ : MethodName)
abbrev Y1 : MethodName := (⟨"java/util/Arrays", "copyOf", "([BI)[B"⟩ : MethodName)
abbrev Y2 : MethodName := (⟨"java/lang/Character", "isSurrogate", "(C)Z"⟩ : MethodName)
abbrev Y3 : MethodName := (⟨"java/lang/Character", "isHighSurrogate", "(C)Z"⟩ : MethodName)
abbrev Y4 : MethodName := (⟨"java/lang/Character", "isLowSurrogate", "(C)Z"⟩ : MethodName)
abbrev Y5 : MethodName := (⟨"com/example/sibyl/sibyl/core/KeyBytesOfPinLaw", "isHigh", "(C)Z"⟩ : MethodName)
abbrev Y6 : MethodName := (⟨"com/example/sibyl/sibyl/core/KeyBytesOfPinLaw", "isLow", "(C)Z"⟩ : MethodName)
abbrev Y7 : MethodName := (⟨"java/lang/Character", "toCodePoint", "(CC)I"⟩ : MethodName)
abbrev Y8 : MethodName := (⟨"java/lang/StringCoding", "countPositives", "([BII)I"⟩ : MethodName)
abbrev Y9 : MethodName := (⟨"java/lang/StringCoding", "hasNegatives", "([BII)Z"⟩ : MethodName)
abbrev Y10 : MethodName := (⟨"java/lang/StringUTF16", "newBytesLength", "(I)I"⟩ : MethodName)
abbrev Y11 : MethodName := (⟨"java/lang/StringUTF16", "newBytesFor", "(I)[B"⟩ : MethodName)
abbrev Y12 : MethodName := (⟨"java/lang/StringUTF16", "getChar", "([BI)C"⟩ : MethodName)
abbrev Y13 : MethodName := (⟨"java/lang/String", "encodeUTF8_UTF16", "([BZ)[B"⟩ : MethodName)
abbrev Y14 : MethodName := (⟨"java/lang/String", "encodeUTF8", "(B[BZ)[B"⟩ : MethodName)
abbrev Y15 : MethodName := (⟨"java/lang/String", "encode", "(Ljava/nio/charset/Charset;B[B)[B"⟩ : MethodName)
abbrev Y16 : MethodName := (⟨"java/lang/String", "coder", "()B"⟩ : MethodName)
abbrev Y17 : MethodName := (⟨"java/lang/String", "getBytes", "(Ljava/nio/charset/Charset;)[B"⟩ : MethodName)
abbrev Y18 : MethodName := (⟨"com/example/sibyl/sibyl/core/KeyBytes", "of", "(Ljava/lang/String;)[B"⟩ : MethodName)
abbrev Y19 : MethodName := (⟨"com/example/sibyl/sibyl/core/KeyBytesOfPinLaw", "unit", "([BIC)I"⟩ : MethodName)
abbrev Y20 : MethodName := (⟨"com/example/sibyl/sibyl/core/KeyBytesOfPinLaw", "pair", "([BCC)I"⟩ : MethodName)
abbrev Y21 : MethodName := (⟨"com/example/sibyl/sibyl/core/KeyBytesOfPinLaw", "eq", "([B[BI)Z"⟩ : MethodName)
abbrev Y22 : MethodName := (⟨"java/lang/String", "<init>", "([CIILjava/lang/Void;)V"⟩ : MethodName)
abbrev Y23 : MethodName := (⟨"java/lang/String", "<init>", "([C)V"⟩ : MethodName)
abbrev Y24 : MethodName := (⟨"java/lang/StringUTF16", "compress", "([CI[BII)I"⟩ : MethodName)
abbrev Y25 : MethodName := (⟨"java/lang/StringUTF16", "putChar", "([BII)V"⟩ : MethodName)
abbrev Y26 : MethodName := (⟨"java/lang/StringUTF16", "toBytes", "([CII)[B"⟩ : MethodName)
abbrev Y27 : MethodName := (⟨"java/lang/StringUTF16", "compress", "([CII)[B"⟩ : MethodName)
abbrev Y28 : MethodName := (⟨"java/lang/StringUTF16", "coderFromArrayLen", "([BI)B"⟩ : MethodName)
abbrev vI (x : Int32) : Slot := .val (.int x)
abbrev vR (x : Addr) : Slot := .val (.ref x)
abbrev uS : Slot := .unset
abbrev Rm0 : Room := ({ frames := 0, cells := 0, slots := 0, locals := 0 } : Room)
abbrev Rm1 : Room := ({ frames := 1, cells := 1, slots := 6, locals := 18 } : Room)
abbrev Rm2 : Room := ({ frames := 1, cells := 0, slots := 0, locals := 16 } : Room)
abbrev Rm3 : Room := ({ frames := 1, cells := 1, slots := 2, locals := 12 } : Room)
abbrev Rm4 : Room := ({ frames := 1, cells := 1, slots := 4, locals := 12 } : Room)
abbrev Rm5 : Room := ({ frames := 2, cells := 2, slots := 9, locals := 32 } : Room)
abbrev Rm6 : Room := ({ frames := 2, cells := 2, slots := 12, locals := 32 } : Room)
abbrev Rm7 : Room := ({ frames := 3, cells := 2, slots := 12, locals := 52 } : Room)
abbrev Rm8 : Room := ({ frames := 4, cells := 2, slots := 12, locals := 72 } : Room)
abbrev Rm9 : Room := ({ frames := 5, cells := 2, slots := 12, locals := 86 } : Room)
abbrev Rm10 : Room := ({ frames := 6, cells := 2, slots := 12, locals := 99 } : Room)
abbrev Rm11 : Room := ({ frames := 1, cells := 4, slots := 8, locals := 12 } : Room)
abbrev Rm12 : Room := ({ frames := 2, cells := 4, slots := 8, locals := 29 } : Room)
abbrev Rm13 : Room := ({ frames := 2, cells := 1, slots := 2, locals := 24 } : Room)
abbrev Rm14 : Room := ({ frames := 3, cells := 2, slots := 3, locals := 40 } : Room)
abbrev Rm15 : Room := ({ frames := 4, cells := 2, slots := 3, locals := 57 } : Room)
abbrev Rm16 : Room := ({ frames := 1, cells := 1, slots := 1, locals := 18 } : Room)
abbrev Rm17 : Room := ({ frames := 2, cells := 1, slots := 1, locals := 35 } : Room)
abbrev Rm18 : Room := ({ frames := 5, cells := 2, slots := 3, locals := 74 } : Room)
abbrev Rm19 : Room := ({ frames := 2, cells := 1, slots := 4, locals := 24 } : Room)
abbrev Rm20 : Room := ({ frames := 3, cells := 2, slots := 6, locals := 40 } : Room)
abbrev Rm21 : Room := ({ frames := 4, cells := 2, slots := 6, locals := 57 } : Room)
abbrev Rm22 : Room := ({ frames := 1, cells := 1, slots := 2, locals := 18 } : Room)
abbrev Rm23 : Room := ({ frames := 2, cells := 1, slots := 2, locals := 35 } : Room)
abbrev Rm24 : Room := ({ frames := 5, cells := 2, slots := 6, locals := 74 } : Room)
abbrev dC0 (n : Nat) (i : Instr × Nat) : Prop := decode jdk_29_method_69_code n = .ok i
abbrev dC1 (n : Nat) (i : Instr × Nat) : Prop := decode jdk_65_method_121_code n = .ok i
abbrev dC2 (n : Nat) (i : Instr × Nat) : Prop := decode jdk_89_method_16_code n = .ok i
abbrev dC3 (n : Nat) (i : Instr × Nat) : Prop := decode jdk_89_method_14_code n = .ok i
abbrev dC4 (n : Nat) (i : Instr × Nat) : Prop := decode jdk_89_method_15_code n = .ok i
abbrev dC5 (n : Nat) (i : Instr × Nat) : Prop := decode method_3_code n = .ok i
abbrev dC6 (n : Nat) (i : Instr × Nat) : Prop := decode method_4_code n = .ok i
abbrev dC7 (n : Nat) (i : Instr × Nat) : Prop := decode jdk_89_method_19_code n = .ok i
abbrev dC8 (n : Nat) (i : Instr × Nat) : Prop := decode jdk_123_method_3_code n = .ok i
abbrev dC9 (n : Nat) (i : Instr × Nat) : Prop := decode jdk_123_method_2_code n = .ok i
abbrev dC10 (n : Nat) (i : Instr × Nat) : Prop := decode jdk_52_method_3_code n = .ok i
abbrev dC11 (n : Nat) (i : Instr × Nat) : Prop := decode jdk_52_method_2_code n = .ok i
abbrev dC12 (n : Nat) (i : Instr × Nat) : Prop := decode jdk_52_method_5_code n = .ok i
abbrev dC13 (n : Nat) (i : Instr × Nat) : Prop := decode jdk_42_method_47_code n = .ok i
abbrev dC14 (n : Nat) (i : Instr × Nat) : Prop := decode jdk_42_method_46_code n = .ok i
abbrev dC15 (n : Nat) (i : Instr × Nat) : Prop := decode jdk_42_method_18_code n = .ok i
abbrev dC16 (n : Nat) (i : Instr × Nat) : Prop := decode jdk_42_method_152_code n = .ok i
abbrev dC17 (n : Nat) (i : Instr × Nat) : Prop := decode jdk_42_method_64_code n = .ok i
abbrev dC18 (n : Nat) (i : Instr × Nat) : Prop := decode prog_21_method_2_code n = .ok i
abbrev dC19 (n : Nat) (i : Instr × Nat) : Prop := decode method_5_code n = .ok i
abbrev dC20 (n : Nat) (i : Instr × Nat) : Prop := decode method_6_code n = .ok i
abbrev dC21 (n : Nat) (i : Instr × Nat) : Prop := decode method_7_code n = .ok i
abbrev dC22 (n : Nat) (i : Instr × Nat) : Prop := decode jdk_42_method_149_code n = .ok i
abbrev dC23 (n : Nat) (i : Instr × Nat) : Prop := decode jdk_42_method_3_code n = .ok i
abbrev dC24 (n : Nat) (i : Instr × Nat) : Prop := decode jdk_52_method_21_code n = .ok i
abbrev dC25 (n : Nat) (i : Instr × Nat) : Prop := decode jdk_52_method_4_code n = .ok i
abbrev dC26 (n : Nat) (i : Instr × Nat) : Prop := decode jdk_52_method_14_code n = .ok i
abbrev dC27 (n : Nat) (i : Instr × Nat) : Prop := decode jdk_52_method_16_code n = .ok i
abbrev dC28 (n : Nat) (i : Instr × Nat) : Prop := decode jdk_52_method_15_code n = .ok i
theorem own_wS {Z : State} {a0 : Array Value} (hw : ∀ d ∈ tables_1, d.before a0 Z = true) : ∀ a ∈ Bundle.stringAtoms, a.before a0 Z = true := fun d hd => by
  simp only [Bundle.stringAtoms, List.mem_cons, List.not_mem_nil, or_false] at hd
  rcases hd with rfl | rfl | rfl | rfl | rfl | rfl | rfl
  · exact hw _ (List.mem_of_getElem? (i := 4) rfl)
  · exact hw _ (List.mem_of_getElem? (i := 3) rfl)
  · exact hw _ (List.mem_of_getElem? (i := 20) rfl)
  · exact hw _ (List.mem_of_getElem? (i := 30) rfl)
  · exact hw _ (List.mem_of_getElem? (i := 28) rfl)
  · exact hw _ (List.mem_of_getElem? (i := 83) rfl)
  · exact hw _ (List.mem_of_getElem? (i := 84) rfl)
def own_EL : List (String × Nat) := [("java/lang/String", 7)]
theorem own_EW {Z : State} {a0 : Array Value} (hw : ∀ d ∈ tables_1, d.before a0 Z = true) : EW Z a0 own_EL := (EW.cons (w82 hw) (by decide) EW.nil)
section HeldX
variable {p : Program} {l : Launch} {e : Env} {R : Room} {s : State} {m : MethodId} {args : Array Value} {below : List Frame} {Z : State} {a0 : Array Value} {EL : List (String × Nat)} {h : Heap} {vm0 : Vm}
/-- the library's backOfSH, for a callee that writes cells which may not be a literal's: it is told so -/
theorem backOfSHx {y : MethodName} {bytes : ByteArray} {maxL : Nat} {ret : Option FieldType} {rm : Room} {len W : Nat} {as' : Array Value} {Q : Option Value → Heap → List Loc → Prop} {ws : List Addr}
    (hM : MetFree l y (head1 [Jvm.Cond.code y bytes maxL ret] rm) (fun a U => a = as' ∧ Z.Warmed39 U.vm ∧ U.heap = h ∧ CHv Z EL U.vm h ∧ ∀ x ∈ ws, Safe Z EL U.vm h x) (fun _ _ _ _ _ => True) (fun _ U o U' => ∃ v L, o = .returned v ∧ Q v U'.heap L ∧ CHr Z EL U.vm U.heap U'.vm U'.heap ∧ ReturnedEndW U o U' L rm.cells rm.slots))
    (hZ : Z.Warmed39 vm0) (wc : (Jvm.Cond.code y bytes maxL ret).before a0 Z = true) (wz : (Jvm.Cond.initialized y.cls).before a0 Z = true) (hf : rm.frames + 1 ≤ R.frames) (hl : W + (maxL + 11) + rm.locals ≤ R.locals) (hEL : EW Z a0 EL) (H : CHv Z EL vm0 h) (hs : ∀ x ∈ ws, x < h.size ∧ Safe Z EL vm0 h x) :
    BackS l R p e below (s.setVm vm0) args y len W (fun A a => a = as' ∧ A.U.heap = h ∧ A.cells + rm.cells ≤ R.cells ∧ A.slots + rm.slots ≤ R.slots)
      (fun A _ v B => ∃ L, Q v B.U.heap L ∧ B.locs = A.locs ++ L ∧ B.cells = A.cells + rm.cells ∧ B.slots = A.slots + rm.slots ∧ CHr Z EL vm0 h B.U.vm B.U.heap) :=
  BackS.of_freeW (bytes := bytes) (maxL := maxL) (ret := ret) (E := fun _ first o t L k n => k = rm.cells ∧ n = rm.slots ∧ (∃ v, o = .returned v ∧ Q v t.heap L) ∧ CHr Z EL first.vm first.heap t.vm t.heap) hM hf hl
    (fun m meth c A a Y hp => have hU : Z.Warmed39 A.U.vm := wtrans (s := s.setVm vm0) hZ Y.warmed
      ⟨by show (Jvm.Cond.and _ .tt).before a A.U = true; rw [Cond.before_and, mv hU wc]; rfl, mv hU wc, mv hU wz, hp.2.2.1, hp.2.2.2⟩)
    (fun m meth c A a g mk Y hp => ⟨hp.1, wtrans (s := s.setVm vm0) hZ Y.warmed, hp.2.1, (CHv.at Y hZ hEL H).1, fun x hx => (CHv.at Y hZ hEL H).safe (hs x hx).1 (hs x hx).2⟩) (fun _ _ _ _ _ _ _ _ _ => trivial)
    (fun _ _ _ _ ⟨v, L, h1, h2, h3, h4⟩ => ⟨L, _, _, h4, rfl, rfl, ⟨v, h1, h2⟩, h3⟩)
    (fun m meth c A a g mk v t L k n Y hp _ _ ⟨e1, e2, ⟨v', e3, e4⟩, e5⟩ => by
      cases e3; subst e1 e2
      refine ⟨L, e4, rfl, rfl, rfl, (CHv.at Y hZ hEL H).trans ?_⟩
      rw [← hp.2.1]; exact e5)
end HeldX
def own_by (x : Int32) : Int32 := x.toInt8.toInt32
def own_lo (c : Int32) : Int32 := own_by (c >>> ((0 : Int32) &&& 31))
def own_hi (c : Int32) : Int32 := own_by (c >>> ((8 : Int32) &&& 31))
def own_R (c : Int32) : Prop := ¬ c < 0 ∧ ¬ (65535 : Int32) < c
theorem own_R' {c : Int32} (h : own_R c) : 0 ≤ c.toInt ∧ c.toInt ≤ 65535 := by
  obtain ⟨h1, h2⟩ := h
  have e0 : (0 : Int32).toInt = 0 := by decide
  have e1 : (65535 : Int32).toInt = 65535 := by decide
  rw [Int32.lt_iff_toInt_lt] at h1 h2
  omega
theorem own_Rc (x : Int32) : own_R (x.toUInt32.toUInt16.toUInt32.toInt32) := by
  have h := c_i2c x
  have e0 : (0 : Int32).toInt = 0 := by decide
  have e1 : (65535 : Int32).toInt = 65535 := by decide
  refine ⟨?_, ?_⟩ <;> rw [Int32.lt_iff_toInt_lt] <;> omega
theorem own_bb (x : Int32) : (own_by x).toInt8.toInt32 = own_by x := by
  have q1 := c_i2b x
  have q2 := c_i2b (own_by x)
  have e : own_by x = x.toInt8.toInt32 := rfl
  rw [← e] at q1
  rw [← Int32.toInt_inj]
  omega
theorem own_bl (c : Int32) : (own_lo c).toInt8.toInt32 = own_lo c := own_bb _
theorem own_bh (c : Int32) : (own_hi c).toInt8.toInt32 = own_hi c := own_bb _
theorem own_cc {c : Int32} (h : own_R c) : c.toUInt32.toUInt16.toUInt32.toInt32 = c := by
  have h' := own_R' h
  have q := c_i2c c
  rw [← Int32.toInt_inj]
  omega
theorem own_gc {c : Int32} (h : own_R c) : (((own_lo c &&& (255 : Int32)) <<< ((0 : Int32) &&& 31)) ||| ((own_hi c &&& (255 : Int32)) <<< ((8 : Int32) &&& 31))).toUInt32.toUInt16.toUInt32.toInt32 = c := by
  have h' := own_R' h
  have a1 := c_ishr c 0 0 (by decide)
  have a2 := c_ishr c 8 8 (by decide)
  have b1 := c_i2b (c >>> ((0 : Int32) &&& 31))
  have b2 := c_i2b (c >>> ((8 : Int32) &&& 31))
  have m1 := c_mask (own_lo c) 255 8 (by decide) (by decide)
  have m2 := c_mask (own_hi c) 255 8 (by decide) (by decide)
  have s1 := c_ishl (own_lo c &&& (255 : Int32)) 0 0 (by decide)
  have s2 := c_ishl (own_hi c &&& (255 : Int32)) 8 8 (by decide)
  have r1 := rng32 ((own_lo c &&& (255 : Int32)) <<< ((0 : Int32) &&& 31))
  have r2 := rng32 ((own_hi c &&& (255 : Int32)) <<< ((8 : Int32) &&& 31))
  have e1 : own_lo c = (c >>> ((0 : Int32) &&& 31)).toInt8.toInt32 := rfl
  have e2 : own_hi c = (c >>> ((8 : Int32) &&& 31)).toInt8.toInt32 := rfl
  rw [← e1] at b1
  rw [← e2] at b2
  generalize hx : (own_lo c &&& (255 : Int32)) <<< ((0 : Int32) &&& 31) = x at *
  generalize hy : (own_hi c &&& (255 : Int32)) <<< ((8 : Int32) &&& 31) = y at *
  have o := c_or y x 8 (by decide) 256 rfl
  have cm : x ||| y = y ||| x := Int32.or_comm x y
  rw [cm]
  have q := c_i2c (y ||| x)
  have r3 := rng32 (y ||| x)
  rw [← Int32.toInt_inj]
  simp only [Nat.reducePow] at *
  omega
/-- the bytes of one unit -/
def own_su (c : Int32) : Int32 := if c < (55296 : Int32) then 0 else if c < (57344 : Int32) then 1 else 0
def own_hs (c : Int32) : Int32 := if c < (55296 : Int32) then 0 else if c < (56320 : Int32) then 1 else 0
def own_ls (c : Int32) : Int32 := if c < (56320 : Int32) then 0 else if c < (57344 : Int32) then 1 else 0
def own_u (c : Int32) : List Int32 :=
  if c < (128 : Int32) then [own_by c]
  else if c < (2048 : Int32) then [own_by ((192 : Int32) ||| (c >>> ((6 : Int32) &&& 31))), own_by ((128 : Int32) ||| (c &&& (63 : Int32)))]
  else if own_su c = 0 then [own_by ((224 : Int32) ||| (c >>> ((12 : Int32) &&& 31))), own_by ((128 : Int32) ||| ((c >>> ((6 : Int32) &&& 31)) &&& (63 : Int32))), own_by ((128 : Int32) ||| (c &&& (63 : Int32)))]
  else [(63 : Int32)]
def own_cp (c d : Int32) : Int32 := (((c <<< ((10 : Int32) &&& 31)) + d) + (-56613888 : Int32))
def own_p (c d : Int32) : List Int32 := [own_by ((240 : Int32) ||| (own_cp c d >>> ((18 : Int32) &&& 31))), own_by ((128 : Int32) ||| ((own_cp c d >>> ((12 : Int32) &&& 31)) &&& (63 : Int32))), own_by ((128 : Int32) ||| ((own_cp c d >>> ((6 : Int32) &&& 31)) &&& (63 : Int32))), own_by ((128 : Int32) ||| (own_cp c d &&& (63 : Int32)))]
def own_e2 (c d : Int32) : List Int32 := if own_hs c = 0 then own_u c ++ own_u d else if own_ls d = 0 then own_u c ++ own_u d else own_p c d
def own_len (l : List Int32) : Int32 := l.length.toInt32
theorem own_hsR {c : Int32} (h : ¬ own_hs c = 0) : 55296 ≤ c.toInt ∧ c.toInt < 56320 := by
  unfold own_hs at h
  have e1 : (55296 : Int32).toInt = 55296 := by decide
  have e2 : (56320 : Int32).toInt = 56320 := by decide
  by_cases q1 : c < (55296 : Int32)
  · simp [q1] at h
  · by_cases q2 : c < (56320 : Int32)
    · rw [Int32.lt_iff_toInt_lt] at q1 q2; omega
    · simp [q1, q2] at h
theorem own_lsR {c : Int32} (h : ¬ own_ls c = 0) : 56320 ≤ c.toInt ∧ c.toInt < 57344 := by
  unfold own_ls at h
  have e1 : (57344 : Int32).toInt = 57344 := by decide
  have e2 : (56320 : Int32).toInt = 56320 := by decide
  by_cases q1 : c < (56320 : Int32)
  · simp [q1] at h
  · by_cases q2 : c < (57344 : Int32)
    · rw [Int32.lt_iff_toInt_lt] at q1 q2; omega
    · simp [q1, q2] at h
theorem own_hs_lt {c : Int32} (h : c < (2048 : Int32)) : own_hs c = 0 := by
  unfold own_hs
  rw [if_pos]
  have e1 : (55296 : Int32).toInt = 55296 := by decide
  have e2 : (2048 : Int32).toInt = 2048 := by decide
  rw [Int32.lt_iff_toInt_lt] at h ⊢; omega
theorem own_hs_a {c : Int32} (h : c < (128 : Int32)) : own_hs c = 0 := own_hs_lt (by
  have e1 : (128 : Int32).toInt = 128 := by decide
  have e2 : (2048 : Int32).toInt = 2048 := by decide
  rw [Int32.lt_iff_toInt_lt] at h ⊢; omega)
theorem own_hs_su {c : Int32} (h : own_su c = 0) : own_hs c = 0 := by
  apply Classical.byContradiction
  intro q
  have r := own_hsR q
  unfold own_su at h
  have e1 : (55296 : Int32).toInt = 55296 := by decide
  have e2 : (57344 : Int32).toInt = 57344 := by decide
  rw [if_neg (by rw [Int32.lt_iff_toInt_lt]; omega), if_pos (by rw [Int32.lt_iff_toInt_lt]; omega)] at h
  exact absurd h (by decide)
theorem own_cpn {c d : Int32} (h : ¬ own_hs c = 0) (h2 : ¬ own_ls d = 0) : ¬ own_cp c d < 0 := by
  have r1 := own_hsR h
  have r2 := own_lsR h2
  have a := c_ishl c 10 10 (by decide)
  have b := c_iadd (c <<< ((10 : Int32) &&& 31)) d
  have e := c_iadd ((c <<< ((10 : Int32) &&& 31)) + d) (-56613888)
  have t := rng32 ((c <<< ((10 : Int32) &&& 31)) + d + (-56613888))
  have e0 : (0 : Int32).toInt = 0 := by decide
  have e1 : (-56613888 : Int32).toInt = -56613888 := by decide
  unfold own_cp
  rw [Int32.lt_iff_toInt_lt]
  simp only [Nat.reducePow] at *
  omega
theorem own_cpe {c d : Int32} (h : ¬ own_hs c = 0) (h2 : ¬ own_ls d = 0) : (((65536 : Int32) + ((c - (55296 : Int32)) <<< ((10 : Int32) &&& 31))) + (d - (56320 : Int32))) = own_cp c d := by
  have r1 := own_hsR h
  have r2 := own_lsR h2
  have a := c_ishl c 10 10 (by decide)
  have b := c_iadd (c <<< ((10 : Int32) &&& 31)) d
  have e := c_iadd ((c <<< ((10 : Int32) &&& 31)) + d) (-56613888)
  have t := rng32 ((c <<< ((10 : Int32) &&& 31)) + d + (-56613888))
  have e0 : (0 : Int32).toInt = 0 := by decide
  have e1 : (-56613888 : Int32).toInt = -56613888 := by decide
  have e2 : (65536 : Int32).toInt = 65536 := by decide
  have e3 : (55296 : Int32).toInt = 55296 := by decide
  have e4 : (56320 : Int32).toInt = 56320 := by decide
  have f1 := c_isub c 55296
  have f2 := c_isub d 56320
  have g := c_ishl (c - (55296 : Int32)) 10 10 (by decide)
  have i1 := c_iadd (65536 : Int32) ((c - (55296 : Int32)) <<< ((10 : Int32) &&& 31))
  have i2 := c_iadd ((65536 : Int32) + ((c - (55296 : Int32)) <<< ((10 : Int32) &&& 31))) (d - (56320 : Int32))
  have t2 := rng32 (((65536 : Int32) + ((c - (55296 : Int32)) <<< ((10 : Int32) &&& 31))) + (d - (56320 : Int32)))
  unfold own_cp
  rw [← Int32.toInt_inj]
  simp only [Nat.reducePow] at *
  omega
def own_L (c : Int32) : Prop := ¬ c < 0 ∧ ¬ (255 : Int32) < c
theorem own_L' {c : Int32} (h : own_L c) : 0 ≤ c.toInt ∧ c.toInt ≤ 255 := by
  obtain ⟨h1, h2⟩ := h
  have e0 : (0 : Int32).toInt = 0 := by decide
  have e1 : (255 : Int32).toInt = 255 := by decide
  rw [Int32.lt_iff_toInt_lt] at h1 h2
  omega
theorem own_ng {c : Int32} (h : own_L c) (q : own_by c < 0) : ¬ c < (128 : Int32) ∧ c < (2048 : Int32) := by
  have h' := own_L' h
  have b := c_i2b c
  have e : own_by c = c.toInt8.toInt32 := rfl
  rw [← e] at b
  have e0 : (0 : Int32).toInt = 0 := by decide
  have e1 : (128 : Int32).toInt = 128 := by decide
  have e2 : (2048 : Int32).toInt = 2048 := by decide
  rw [Int32.lt_iff_toInt_lt] at q ⊢
  rw [Int32.lt_iff_toInt_lt]
  omega
theorem own_ps {c : Int32} (h : own_L c) (q : ¬ own_by c < 0) : c < (128 : Int32) := by
  have h' := own_L' h
  have b := c_i2b c
  have e : own_by c = c.toInt8.toInt32 := rfl
  rw [← e] at b
  have e0 : (0 : Int32).toInt = 0 := by decide
  have e1 : (128 : Int32).toInt = 128 := by decide
  rw [Int32.lt_iff_toInt_lt] at q ⊢
  omega
theorem own_l255 {c : Int32} (h : own_L c) : (own_by c &&& (255 : Int32)) = c := by
  have h' := own_L' h
  have b := c_i2b c
  have e : own_by c = c.toInt8.toInt32 := rfl
  rw [← e] at b
  have m := c_mask (own_by c) 255 8 (by decide) (by decide)
  rw [← Int32.toInt_inj]
  simp only [Nat.reducePow] at *
  omega
theorem own_l63 (c : Int32) : (own_by c &&& (63 : Int32)) = (c &&& (63 : Int32)) := by
  have b := c_i2b c
  have e : own_by c = c.toInt8.toInt32 := rfl
  rw [← e] at b
  have m := c_mask (own_by c) 63 6 (by decide) (by decide)
  have m2 := c_mask c 63 6 (by decide) (by decide)
  rw [← Int32.toInt_inj]
  simp only [Nat.reducePow] at *
  omega
theorem own_hsL {c : Int32} (h : own_L c) : own_hs c = 0 := own_hs_lt (by
  have h' := own_L' h
  have e2 : (2048 : Int32).toInt = 2048 := by decide
  rw [Int32.lt_iff_toInt_lt]; omega)
def own_cp1 (v0 : Int32) : Int32 := if v0 < 0 then 0 else 1
def own_cp2 (v0 v1 : Int32) : Int32 := if v0 < 0 then 0 else if v1 < 0 then 1 else 2
def own_hn1 (v0 : Int32) : Int32 := if v0 < 0 then 1 else 0
def own_hn2 (v0 v1 : Int32) : Int32 := if v0 < 0 then 1 else if v1 < 0 then 1 else 0
theorem own_hn1t {v0 : Int32} (h : own_cp1 v0 = 1) : own_hn1 v0 = 0 := by unfold own_cp1 own_hn1 at *; split at h <;> simp_all
theorem own_hn1f {v0 : Int32} (h : ¬ own_cp1 v0 = 1) : own_hn1 v0 = 1 := by unfold own_cp1 own_hn1 at *; split at h <;> simp_all
theorem own_hn2t {v0 v1 : Int32} (h : own_cp2 v0 v1 = 2) : own_hn2 v0 v1 = 0 := by
  unfold own_cp2 own_hn2 at *
  by_cases q1 : v0 < 0
  · rw [if_pos q1] at h; exact absurd h (by decide)
  · rw [if_neg q1] at h ⊢
    by_cases q2 : v1 < 0
    · rw [if_pos q2] at h; exact absurd h (by decide)
    · rw [if_neg q2]
theorem own_hn2f {v0 v1 : Int32} (h : ¬ own_cp2 v0 v1 = 2) : own_hn2 v0 v1 = 1 := by
  unfold own_cp2 own_hn2 at *
  by_cases q1 : v0 < 0
  · rw [if_pos q1]
  · rw [if_neg q1] at h ⊢
    by_cases q2 : v1 < 0
    · rw [if_pos q2]
    · rw [if_neg q2] at h; exact absurd rfl h
theorem own_hn1z {v0 : Int32} (h : own_hn1 v0 = 0) : ¬ v0 < 0 := by unfold own_hn1 at h; split at h <;> simp_all
theorem own_hn2z {v0 v1 : Int32} (h : own_hn2 v0 v1 = 0) : ¬ v0 < 0 ∧ ¬ v1 < 0 := by
  unfold own_hn2 at *
  by_cases q1 : v0 < 0
  · rw [if_pos q1] at h; exact absurd h (by decide)
  · rw [if_neg q1] at h
    by_cases q2 : v1 < 0
    · rw [if_pos q2] at h; exact absurd h (by decide)
    · exact ⟨q1, q2⟩
theorem own_arv_more {Z : State} {h : Heap} {b : Addr} {k : ClassId} {ty : FieldType} {z : Int32} {vs vs' : List Value} {d : Value} (F : Arv Z h b k ty z vs d) (q : ∀ i, i < z.toNatClampNeg → vs'.getD i d = vs.getD i d) : Arv Z h b k ty z vs' d := by
  obtain ⟨c, A, r1, r2, r3, H, G⟩ := F
  exact ⟨c, A, r1, r2, r3, fun i hi => by rw [q i (by rw [← r2]; exact hi)]; exact H i hi, fun i hi => by rw [q i (by rw [← r2]; exact hi)]; exact G i hi⟩
theorem own_getD (bs : List Int32) (i : Nat) : (bs.map Value.int).getD i (.int 0) = .int (bs.getD i 0) := by
  simp only [List.getD_eq_getElem?_getD, List.getElem?_map]
  cases bs[i]? <;> rfl
theorem own_m3 (x : Int32) : ((x &&& (2147483647 : Int32)) % (3 : Int32)) = 0 ∨ ((x &&& (2147483647 : Int32)) % (3 : Int32)) = 1 ∨ ((x &&& (2147483647 : Int32)) % (3 : Int32)) = 2 := by
  have h := c_mask x 2147483647 31 (by decide) (by decide)
  have h2 := (c_irem (x &&& (2147483647 : Int32)) 3 3 (by decide)).1 (by omega)
  have e0 : (0 : Int32).toInt = 0 := by decide
  have e1 : (1 : Int32).toInt = 1 := by decide
  have e2 : (2 : Int32).toInt = 2 := by decide
  simp only [← Int32.toInt_inj]
  omega
theorem own_t1 {c : Int32} (h : (56319 : Int32) < c) : ¬ c < (56320 : Int32) := by
  have e1 : (56319 : Int32).toInt = 56319 := by decide
  have e2 : (56320 : Int32).toInt = 56320 := by decide
  rw [Int32.lt_iff_toInt_lt] at *; omega
theorem own_f1 {c : Int32} (h : ¬ (56319 : Int32) < c) : c < (56320 : Int32) := by
  have e1 : (56319 : Int32).toInt = 56319 := by decide
  have e2 : (56320 : Int32).toInt = 56320 := by decide
  rw [Int32.lt_iff_toInt_lt] at *; omega
theorem own_t2 {c : Int32} (h : (57343 : Int32) < c) : ¬ c < (57344 : Int32) := by
  have e1 : (57343 : Int32).toInt = 57343 := by decide
  have e2 : (57344 : Int32).toInt = 57344 := by decide
  rw [Int32.lt_iff_toInt_lt] at *; omega
theorem own_f2 {c : Int32} (h : ¬ (57343 : Int32) < c) : c < (57344 : Int32) := by
  have e1 : (57343 : Int32).toInt = 57343 := by decide
  have e2 : (57344 : Int32).toInt = 57344 := by decide
  rw [Int32.lt_iff_toInt_lt] at *; omega
theorem own_eqR {args : Array Value} {s : State} {t t' : Term} {a : Addr} (h : (Jvm.Cond.eq t t').value args s none s [] = some true) (e : t.eval args s none [] s = some (.ref a)) : t'.eval args s none [] s = some (.ref a) := by
  simp only [Cond.value, e] at h
  cases ht : t'.eval args s none [] s with
  | none => simp [ht] at h
  | some x =>
    rw [ht] at h
    cases x <;> simp at h
    rw [h]
theorem own_lenA (l m : List Int32) : own_len l + own_len m = own_len (l ++ m) := by
  unfold own_len
  rw [List.length_append]
  exact (Int32.ofNat_add _ _).symm
theorem own_len1 (l : List Int32) (y : Int32) : own_len l + (1 : Int32) = own_len (l ++ [y]) := own_lenA l [y]
theorem own_len2 (l : List Int32) (x y : Int32) : own_len l + (2 : Int32) = own_len (l ++ [x] ++ [y]) := by
  rw [List.append_assoc]; exact own_lenA l [x, y]
theorem own_ix {l : List Int32} (h : l.length ≤ 100) : (own_len l).toNatClampNeg = l.length ∧ (own_len l).toInt = l.length := by
  have e : (own_len l).toInt = l.length := by
    unfold own_len
    exact len_toInt (Nat.lt_of_le_of_lt h (by decide))
  refine ⟨?_, e⟩
  simp only [Int32.toNatClampNeg, e]
  rfl
theorem own_in {l : List Int32} {z : Int32} {sz n : Nat} (S : sz = z.toNatClampNeg) (hz : z.toNatClampNeg = n) (hn : n ≤ 100) (h : l.length < n) : ¬ (own_len l < 0 ∨ sz ≤ (own_len l).toNatClampNeg) := by
  have q := own_ix (l := l) (by omega)
  have e0 : (0 : Int32).toInt = 0 := by decide
  rintro (r | r)
  · rw [Int32.lt_iff_toInt_lt] at r; omega
  · omega
theorem own_push {Z : State} {h h' : Heap} {a : Addr} {k : ClassId} {z : Int32} {l : List Int32} {j : Nat} {x y : Int32} (F : Arv Z h a k .byte z (l.map Value.int) (.int 0)) (hj : j = l.length) (W : Wr h h' a j (.int (nar .byte x))) (e : x.toInt8.toInt32 = y) (hl : l.length ≤ 100) : Arv Z h' a k .byte z ((l ++ [y]).map Value.int) (.int 0) := by
  have F2 : Arv Z h a k .byte z (l.map Value.int ++ [.int 0]) (.int 0) := own_arv_more F fun i hi => by
    simp only [List.getD_eq_getElem?_getD]
    by_cases q : i < (l.map Value.int).length
    · rw [List.getElem?_append_left q]
    · rw [List.getElem?_append_right (Nat.le_of_not_lt q), List.getElem?_eq_none (Nat.le_of_not_lt q)]
      cases i - (l.map Value.int).length <;> rfl
  obtain ⟨c, A, q1, S, q3, H, G⟩ := F2
  have ex : (own_len l).toNatClampNeg = j := by rw [hj]; exact (own_ix hl).1
  have R := Arv.set (j := own_len l) A q1 S q3 H G (fits_nar_byte x) (by rw [ex]; exact W) l.length (by rw [ex, hj]) (by simp)
  have es : (l.map Value.int ++ [Value.int 0]).set l.length (Value.int (nar .byte x)) = (l ++ [y]).map Value.int := by
    have e' : nar .byte x = y := e
    rw [e', List.map_append, List.set_append_right _ _ (by simp)]
    simp
  exact es ▸ R
theorem own_rep {Z : State} {h : Heap} {a : Addr} {k : ClassId} {z : Int32} (F : Arv Z h a k .byte z (([] : List Int32).map Value.int) (.int 0)) (n : Nat) : Arv Z h a k .byte z (List.replicate n (.int 0)) (.int 0) := own_arv_more F fun i hi => by
  simp only [List.getD_eq_getElem?_getD, List.getElem?_replicate]
  split <;> rfl
theorem own_cpl {Z : State} {h : Heap} {a : Addr} {k : ClassId} {l : List Int32} {vd : List Value} (hl : l.length ≤ 100) (F : Arv Z h a k .byte (own_len l) (vd.take (0 : Int32).toNatClampNeg ++ ((List.range (own_len l).toNatClampNeg).map fun i => (l.map Value.int).getD ((0 : Int32).toNatClampNeg + i) (.int 0)) ++ vd.drop ((0 : Int32).toNatClampNeg + (own_len l).toNatClampNeg)) (.int 0)) : Arv Z h a k .byte (own_len l) (l.map Value.int) (.int 0) := own_arv_more F fun i hi => by
  have z0 : (0 : Int32).toNatClampNeg = 0 := by decide
  rw [z0, List.take_zero, List.nil_append]
  simp only [List.getD_eq_getElem?_getD, Nat.zero_add]
  rw [List.getElem?_append_left (by simpa using hi)]
  have e : ((List.range (own_len l).toNatClampNeg).map fun i => (l.map Value.int)[i]?.getD (Value.int 0))[i]? = some ((l.map Value.int)[i]?.getD (Value.int 0)) := by
    rw [List.getElem?_map, List.getElem?_range hi]; rfl
  rw [e]; rfl
theorem own_len3 (l : List Int32) (x y z : Int32) : own_len l + (3 : Int32) = own_len (l ++ [x] ++ [y] ++ [z]) := by
  rw [List.append_assoc, List.append_assoc]; exact own_lenA l [x, y, z]
theorem own_lt {l : List Int32} {z : Int32} {n : Nat} (hz : z.toInt = n) (h : l.length ≤ n) (hn : n ≤ 100) (q : ¬ own_len l = z) : own_len l < z := by
  have e := (own_ix (l := l) (by omega)).2
  rw [← Int32.toInt_inj] at q
  rw [Int32.lt_iff_toInt_lt]
  omega
theorem own_neq {a b : Int32} (h : a < b) : ¬ a = b := fun q => by
  subst q
  exact absurd h (by rw [Int32.lt_iff_toInt_lt]; omega)
theorem own_nn0 {l : List Int32} (h : l.length ≤ 6) : ¬ own_len l < 0 := by
  have e := (own_ix (l := l) (by omega)).2
  have e0 : (0 : Int32).toInt = 0 := by decide
  rw [Int32.lt_iff_toInt_lt]; omega
theorem own_cap6 {l : List Int32} (h : l.length ≤ 6) : (own_len l).toNatClampNeg ≤ 6 := by
  rw [(own_ix (l := l) (by omega)).1]; exact h
theorem own_h4 {l : List Int32} {z : Int32} (h : l.length ≤ 6) (q : own_len l < z) : (0 : Int32).toNatClampNeg + (own_len l).toNatClampNeg ≤ z.toNatClampNeg := by
  have z0 : (0 : Int32).toNatClampNeg = 0 := by decide
  have e := own_ix (l := l) (by omega)
  rw [Int32.lt_iff_toInt_lt] at q
  rw [z0, Nat.zero_add, e.1]
  simp only [Int32.toNatClampNeg]
  omega
theorem own_h5 (x : Nat) : (0 : Int32).toNatClampNeg + x ≤ x := by
  have z0 : (0 : Int32).toNatClampNeg = 0 := by decide
  omega
theorem own_h6 (x : Nat) (v : Value) : (0 : Int32).toNatClampNeg + x ≤ (List.replicate x v).length := by
  rw [List.length_replicate]; exact own_h5 x
/-- a booked literal's array is a "[B" -/
theorem own_litB {Z s : State} {a0 : Array Value} {EL : List (String × Nat)} {own text : String} {index : Nat} {vm : Vm} {h : Heap} {a b : Addr} {cid : ClassId} (hZ : Z.Warmed39 vm) (w : (Cond.stringLink own index text).before a0 Z = true) (hmem : (own, index) ∈ EL) (H : CHv Z EL vm h) (hL : Lit (s.setVm vm) own index a) (hf : vm.findClass own = some cid) (F : Fld Z h a "java/lang/String" "value" "[B" (.ref b)) : Exa Z h b "[B" := by
  have hal : Z.vm.Alike vm := hZ.alike
  have w2 : (Cond.stringLink own index text).before a0 (Wst Z vm h) = true := mvS (s := { Z with heap := h }) hZ w
  obtain ⟨k, cf, i, units, g1, g2, g3, g4, -⟩ := Cond.stringLink_spec (s := Wst Z vm h) hf w2
  have g1 : vm.classes[cid]? = some k := g1
  have hr : k.resolved[index]? = some (some (.string a)) := by
    have q : (s.setVm vm).resolvedAt? own index = some (.string a) := hL
    simp [State.resolvedAt?, hf, g1] at q
    cases e : k.resolved[index]? with
    | none => rw [e] at q; cases q
    | some o =>
      rw [e] at q
      cases o with
      | none => cases q
      | some r => simpa using q
  obtain ⟨q, rfl, G⟩ := SlB.of (H _ hmem units a ⟨cid, k, cf, i, hf, g1, g2, g3, g4, Or.inl hr⟩)
  have hd := G.hd
  obtain ⟨cS, ⟨⟨s1, -, -, ⟨cv, kv, iv, s4, -⟩, -, -, -, s8, -, -, s11, -⟩, -⟩, -, hB, -⟩ := G
  obtain ⟨cell, c2, k2, i2, f2, t1, t2, -, -, -, -, t7⟩ := F
  obtain ⟨k3, t3, -⟩ := State.fieldFound?_setVm (s := ({ Z with heap := h } : State)) (vm' := vm) hal (show ({ Z with heap := h } : State).fieldFound? _ _ _ = _ from t2)
  have e4 := (show (Wst Z vm h).fieldFound? _ _ _ = _ from t3).symm.trans s4
  simp only [Option.some.injEq, Prod.mk.injEq] at e4
  cases (show h[q.sa]? = some q.sC from s1).symm.trans t1
  rw [e4.2.2.2] at t7
  have e5 : q.sd = b := by
    have e6 := s8.symm.trans t7
    simpa using e6
  subst e5
  have hBZ : Z.vm.findClass "[B" = some q.SA.cls := by rw [← hal.findClass]; exact hB
  obtain ⟨kb, hkb, -⟩ := Vm.findClass_spec hBZ
  obtain ⟨hst, k9, hk9, comp, hkind⟩ := s11
  obtain ⟨kb', hkb', ekb⟩ := hal.2.2 _ _ hkb
  have ek9 : k9 = kb' := Option.some.inj ((show vm.classes[q.SA.cls]? = some k9 from hk9).symm.trans hkb')
  have hkz : kb.kind = .array comp .byte := by rw [ek9, ekb] at hkind; exact hkind
  refine ⟨q.SA, kb, hd, hBZ, hkb, ?_, fun ho => by rw [hkz] at ho; cases ho⟩
  cases e : q.SA.vm <;> first | rfl | exact absurd e (hst _)
theorem own_adB : "[" ++ (newarray.typeOf .byte).toString = "[B" := by decide +kernel
theorem own_sta_keep0 {Z : State} {h h' : Heap} {C n d : String} {v : Value} (F : Sta Z h C n d v) (Kp : Keep h h' []) : Sta Z h' C n d v := by
  obtain ⟨cf, i, k, f, st, cell, h1, h2, h3, h4, h5, h6, h7⟩ := F
  exact ⟨cf, i, k, f, st, cell, h1, h2, h3, h4, Kp.2.1 st cell h5 (by simp), h6, h7⟩
theorem own_sta_keep {Z : State} {h h' : Heap} {C n d K : String} {v : Value} {a : Addr} (F : Sta Z h C n d v) (E : Exa Z h a K) (Kp : Keep h h' [a]) : Sta Z h' C n d v := by
  obtain ⟨cf, i, k, f, st, cell, h1, h2, h3, h4, h5, h6, h7⟩ := F
  refine ⟨cf, i, k, f, st, cell, h1, h2, h3, h4, Kp.2.1 st cell h5 ?_, h6, h7⟩
  intro q
  cases List.mem_singleton.mp q
  obtain ⟨c', k', e1, _, _, e4, _⟩ := E
  cases h5.symm.trans e1
  rw [h6] at e4
  cases e4
theorem own_uA {c : Int32} (h : c < (128 : Int32)) : own_u c = [own_by c] := by unfold own_u; rw [if_pos h]
theorem own_uB {c : Int32} (h : ¬ c < (128 : Int32)) (h2 : c < (2048 : Int32)) : own_u c = [own_by ((192 : Int32) ||| (c >>> ((6 : Int32) &&& 31))), own_by ((128 : Int32) ||| (c &&& (63 : Int32)))] := by unfold own_u; rw [if_neg h, if_pos h2]
theorem own_uC {c : Int32} (h : ¬ c < (128 : Int32)) (h2 : ¬ c < (2048 : Int32)) (h3 : own_su c = 0) : own_u c = [own_by ((224 : Int32) ||| (c >>> ((12 : Int32) &&& 31))), own_by ((128 : Int32) ||| ((c >>> ((6 : Int32) &&& 31)) &&& (63 : Int32))), own_by ((128 : Int32) ||| (c &&& (63 : Int32)))] := by unfold own_u; rw [if_neg h, if_neg h2, if_pos h3]
theorem own_uS {c : Int32} (h : ¬ c < (128 : Int32)) (h2 : ¬ c < (2048 : Int32)) (h3 : ¬ own_su c = 0) : own_u c = [(63 : Int32)] := by unfold own_u; rw [if_neg h, if_neg h2, if_neg h3]
theorem own_e2a {c d : Int32} (h : own_hs c = 0) : own_e2 c d = own_u c ++ own_u d := by unfold own_e2; rw [if_pos h]
theorem own_e2b {c d : Int32} (h : own_ls d = 0) : own_e2 c d = own_u c ++ own_u d := by unfold own_e2; rw [if_pos h]; split <;> rfl
theorem own_e2p {c d : Int32} (h : ¬ own_hs c = 0) (h2 : ¬ own_ls d = 0) : own_e2 c d = own_p c d := by unfold own_e2; rw [if_neg h, if_neg h2]
theorem own_su1 {c : Int32} (h : c < (55296 : Int32)) : own_su c = 0 := by unfold own_su; rw [if_pos h]
theorem own_su2 {c : Int32} (h : ¬ c < (55296 : Int32)) (h2 : (57343 : Int32) < c) : own_su c = 0 := by unfold own_su; rw [if_neg h, if_neg (own_t2 h2)]
theorem own_su3 {c : Int32} (h : ¬ c < (55296 : Int32)) (h2 : ¬ (57343 : Int32) < c) : ¬ own_su c = 0 := by unfold own_su; rw [if_neg h, if_pos (own_f2 h2)]; decide
theorem own_suA {c : Int32} (h : own_su c = 0) (h2 : ¬ c < (55296 : Int32)) : (57343 : Int32) < c := Classical.byContradiction fun q => own_su3 h2 q h
theorem own_suB {c : Int32} (h : ¬ own_su c = 0) : ¬ c < (55296 : Int32) := fun q => h (own_su1 q)
theorem own_suC {c : Int32} (h : ¬ own_su c = 0) : ¬ (57343 : Int32) < c := fun q => h (own_su2 (own_suB h) q)
theorem own_hsS {c : Int32} (h : ¬ own_hs c = 0) : ¬ c < (128 : Int32) ∧ ¬ c < (2048 : Int32) ∧ ¬ own_su c = 0 := ⟨fun q => h (own_hs_a q), fun q => h (own_hs_lt q), fun q => h (own_hs_su q)⟩
theorem own_L2 {c : Int32} (h : own_L c) : c < (2048 : Int32) := by
  have h' := own_L' h
  have e2 : (2048 : Int32).toInt = 2048 := by decide
  rw [Int32.lt_iff_toInt_lt]; omega
theorem own_u3 (c : Int32) : ([] ++ own_u c : List Int32).length ≤ 3 := by
  rw [List.nil_append]
  unfold own_u
  split
  · exact (by decide : 1 ≤ 3)
  · split
    · exact (by decide : 2 ≤ 3)
    · split
      · exact (by decide : 3 ≤ 3)
      · exact (by decide : 1 ≤ 3)
theorem own_inb {j n : Int32} {sz : Nat} (S : sz = n.toNatClampNeg) (h0 : ¬ j < 0) (h : j < n) : ¬ (j < 0 ∨ sz ≤ j.toNatClampNeg) := by
  have e0 : (0 : Int32).toInt = 0 := by decide
  rintro (q | q)
  · exact h0 q
  · rw [Int32.lt_iff_toInt_lt] at h0 h
    rw [S] at q
    simp only [Int32.toNatClampNeg] at q
    omega
/-- b holds, under the coder cd, a text whose UTF-8 bytes are l -/
def own_enc (Z : State) (h : Heap) (b : Addr) (cd : Int32) (l : List Int32) : Prop := Exa Z h b "[B" ∧ ∃ k : ClassId,
  (cd = 0 ∧ l = [] ∧ Arv Z h b k .byte (0 : Int32) [] (.int 0)) ∨
  (cd = 0 ∧ ∃ c0, own_L c0 ∧ l = own_u c0 ∧ Arv Z h b k .byte (1 : Int32) [(.int (own_by c0))] (.int 0)) ∨
  (cd = 0 ∧ ∃ c0 c1, own_L c0 ∧ own_L c1 ∧ l = own_e2 c0 c1 ∧ Arv Z h b k .byte (2 : Int32) [(.int (own_by c0)), (.int (own_by c1))] (.int 0)) ∨
  (cd = 1 ∧ ∃ c0, own_R c0 ∧ l = own_u c0 ∧ Arv Z h b k .byte (2 : Int32) [(.int (own_lo c0)), (.int (own_hi c0))] (.int 0)) ∨
  (cd = 1 ∧ ∃ c0 c1, own_R c0 ∧ own_R c1 ∧ l = own_e2 c0 c1 ∧ Arv Z h b k .byte (4 : Int32) [(.int (own_lo c0)), (.int (own_hi c0)), (.int (own_lo c1)), (.int (own_hi c1))] (.int 0))
theorem own_enc.map {Z : State} {h h' : Heap} {b : Addr} {cd : Int32} {l : List Int32} (F : own_enc Z h b cd l) (e : Exa Z h b "[B" → Exa Z h' b "[B") (g : ∀ {k : ClassId} {z : Int32} {vs : List Value}, Arv Z h b k .byte z vs (.int 0) → Arv Z h' b k .byte z vs (.int 0)) : own_enc Z h' b cd l := by
  obtain ⟨e1, k, r⟩ := F
  refine ⟨e e1, k, ?_⟩
  rcases r with ⟨a1, a2, a3⟩ | ⟨a1, c0, a2, a3, a4⟩ | ⟨a1, c0, c1, a2, a3, a4, a5⟩ | ⟨a1, c0, a2, a3, a4⟩ | ⟨a1, c0, c1, a2, a3, a4, a5⟩
  · exact Or.inl ⟨a1, a2, g a3⟩
  · exact Or.inr (Or.inl ⟨a1, c0, a2, a3, g a4⟩)
  · exact Or.inr (Or.inr (Or.inl ⟨a1, c0, c1, a2, a3, a4, g a5⟩))
  · exact Or.inr (Or.inr (Or.inr (Or.inl ⟨a1, c0, a2, a3, g a4⟩)))
  · exact Or.inr (Or.inr (Or.inr (Or.inr ⟨a1, c0, c1, a2, a3, a4, g a5⟩)))
theorem own_enc.ext {Z : State} {h h' : Heap} {b : Addr} {cd : Int32} {l : List Int32} (F : own_enc Z h b cd l) (E : Ext h h') : own_enc Z h' b cd l := F.map (fun q => q.ext E) (fun q => q.ext E)
theorem own_enc.wr {Z : State} {h h' : Heap} {b a : Addr} {cd : Int32} {l : List Int32} {sl : Nat} {v : Value} (F : own_enc Z h b cd l) (W : Wr h h' a sl v) (n : b ≠ a) : own_enc Z h' b cd l := F.map (fun q => q.wr W) (fun q => q.other W n)
theorem own_enc.keep {Z : State} {h h' : Heap} {b : Addr} {cd : Int32} {l : List Int32} {ws : List Addr} (F : own_enc Z h b cd l) (K : Keep h h' ws) (n : b ∉ ws) : own_enc Z h' b cd l := F.map (fun q => q.keep K) (fun q => q.keep K n)
theorem own_enc.cd {Z : State} {h : Heap} {b : Addr} {cd : Int32} {l : List Int32} (F : own_enc Z h b cd l) : cd = 0 ∨ cd = 1 := by
  obtain ⟨_, k, r⟩ := F
  rcases r with ⟨a1, _⟩ | ⟨a1, _⟩ | ⟨a1, _⟩ | ⟨a1, _⟩ | ⟨a1, _⟩
  · exact Or.inl a1
  · exact Or.inl a1
  · exact Or.inl a1
  · exact Or.inr a1
  · exact Or.inr a1
theorem own_nb {cd : Int32} (h : cd = 0 ∨ cd = 1) : nar .byte cd = cd := by rcases h with rfl | rfl <;> decide
theorem d26_0 : dC0 0 (.iload_n 0, 1) := by decide +kernel
theorem d26_1 : dC0 1 (.iload_n 1, 1) := by decide +kernel
theorem d26_2 : dC0 2 (.if_icmp .gt 7, 3) := by decide +kernel
theorem d26_9 : dC0 9 (.iload_n 1, 1) := by decide +kernel
theorem d26_10 : dC0 10 (.ireturn, 1) := by decide +kernel
theorem ef_rmmin (m : MethodId) (lx : Int32) (kx : Int32) : entryFrame m #[(.int lx), (.int kx)] 2 = mkF m 0 #[vI lx, vI kx] [] := by first | (simp [entryFrame, mkF, argsToLocals, Value.category]; done) | rfl
def Qrmmin (Z : State) (lx : Int32) (kx : Int32) (h0 : Heap) (n0 : Nat) (v : Option Value) (h : Heap) (L : List Loc) : Prop := v = some (.int kx) ∧ Fr n0 L ∧ h = h0
set_option maxRecDepth 65536 in
set_option maxHeartbeats 40000000 in
theorem rmmin (l : Launch) (Z : State) (a0 : Array Value) (hw : ∀ d ∈ tables_1, d.before a0 Z = true) (ws : List Jvm.Cond) (lx : Int32) (kx : Int32) (h0 : Heap) (n0 : Nat) (Z0 : n0 ≤ h0.size) (hm : kx < lx) :
    MetFree l Y0 (head1 (Jvm.Cond.code Y0 jdk_29_method_69_code 2 (some .int) :: ws) Rm0) (fun a U => a = #[(.int lx), (.int kx)] ∧ Z.Warmed39 U.vm ∧ U.heap = h0) (fun _ _ _ _ _ => True) (fun _ U o U' => ∃ v L, o = .returned v ∧ Qrmmin Z lx kx h0 n0 v U'.heap L ∧ FrameEnd U o U' L Rm0.cells Rm0.slots) := by
 refine MetFree.of_bodySF (Jvm.Free.JP.mathPlain rfl (by decide +kernel)) hisR ?_
 intro p e s m args below meth c s₁ Bd hml0 hP hK
 obtain ⟨rfl, hZ, hh⟩ := hP
 have hx := Bd.exec
 have hby := Bd.bytes
 have hml : c.maxLocals = 2 := hml0
 have hown : s.vm.findClass "java/lang/Math" = some m.cls := findClass_of_methodNamed Bd.named
 have hnm := (name_of_methodNamed Bd.named Bd.method).1
 have X0 : Stand p l e Rm0 s m #[(.int lx), (.int kx)] below meth c s₁ [] 0 0 := Stand.of_body Bd
 have e0 : s₁.heap = h0 := by rw [← hh, Bd.state]; rfl
 have N0 := Fr.nil n0
 show Go p.tables e below (fun o U' => ∃ v L, o = .returned v ∧ Qrmmin Z lx kx h0 n0 v U'.heap L ∧ FrameEnd s o U' L Rm0.cells Rm0.slots) _
 refine Go.step (fun t kt => castTop (ef_rmmin m lx kx) kt) ?_
 show Go p.tables e below _ (s₁.setTop (mkF m 0 #[vI lx, vI kx] []))
 refine Go.step (fun _ kt => XS.iloadN X0.here hx rfl (hb hby d26_0) rfl (XS.iloadN X0.here hx rfl (hb hby d26_1) rfl (XS.icmpYes X0.here hx rfl (pc0 := 2) (pc' := 9) rfl (hb hby d26_2) rfl (tlt hm).2.2.1 (by decide) (by decide) (XS.iloadN X0.here hx rfl (hb hby d26_9) rfl kt)))) ?_
 show Go p.tables e below _ (s₁.setTop (mkF m 10 #[vI lx, vI kx] [(.int kx)]))
 obtain ⟨fs, hr, hrun, hended, hW, hsame⟩ := X0.leave (v := some (.int kx)) (fun h => by rw [Bd.returns] at h; cases h)
 refine ⟨_, _, retI X0 hx Bd.returns (hb hby d26_10) hr, hrun, hended, _, _, rfl, ?_, ⟨_, rfl⟩, hW, hsame.mono (by decide) (by decide)⟩
 show Qrmmin Z lx kx h0 n0 _ s₁.heap _
 rw [e0]
 refine ⟨?_, N0, rfl⟩
 rfl
theorem pd_0 : parseMethodDescriptor "(II)I" = some ⟨[.int, .int], some .int⟩ := by decide +kernel
theorem pn_0 : plainName "java/util/Arrays" = true := by first | (simp [plainName, overriddenIn]; done) | decide +kernel
theorem d25_0 : dC1 0 (.iload_n 1, 1) := by decide +kernel
theorem d25_1 : dC1 1 (.aload_n 0, 1) := by decide +kernel
theorem d25_2 : dC1 2 (.arraylength, 1) := by decide +kernel
theorem d25_3 : dC1 3 (.if_icmp .ne 11, 3) := by decide +kernel
theorem d25_14 : dC1 14 (.iload_n 1, 1) := by decide +kernel
theorem d25_15 : dC1 15 (.newarray .byte, 2) := by decide +kernel
theorem d25_17 : dC1 17 (.astore_n 2, 1) := by decide +kernel
theorem d25_18 : dC1 18 (.aload_n 0, 1) := by decide +kernel
theorem d25_19 : dC1 19 (.iconst 0, 1) := by decide +kernel
theorem d25_20 : dC1 20 (.aload_n 2, 1) := by decide +kernel
theorem d25_21 : dC1 21 (.iconst 0, 1) := by decide +kernel
theorem d25_22 : dC1 22 (.aload_n 0, 1) := by decide +kernel
theorem d25_23 : dC1 23 (.arraylength, 1) := by decide +kernel
theorem d25_24 : dC1 24 (.iload_n 1, 1) := by decide +kernel
theorem d25_25 : dC1 25 (.invokestatic 304, 3) := by decide +kernel
theorem d25_28 : dC1 28 (.invokestatic 150, 3) := by decide +kernel
theorem d25_31 : dC1 31 (.aload_n 2, 1) := by decide +kernel
theorem d25_32 : dC1 32 (.areturn, 1) := by decide +kernel
theorem ef_rmcopy (m : MethodId) (a1 : Addr) (k1 : ClassId) (lx : Int32) (bs : List Int32) : entryFrame m #[(.ref a1), (.int (own_len bs))] 3 = mkF m 0 #[vR a1, vI (own_len bs), uS] [] := by first | (simp [entryFrame, mkF, argsToLocals, Value.category]; done) | rfl
def Qrmcopy (Z : State) (a1 : Addr) (k1 : ClassId) (lx : Int32) (bs : List Int32) (h0 : Heap) (n0 : Nat) (v : Option Value) (h : Heap) (L : List Loc) : Prop := ∃ r : Addr, ∃ kr : ClassId, v = some (.ref r) ∧ Fr n0 L ∧ Keep h0 h [] ∧ Exa Z h r "[B" ∧ Arv Z h r kr .byte (own_len bs) (bs.map Value.int) (.int 0) ∧ n0 ≤ r ∧ h0.size ≤ r
set_option maxRecDepth 65536 in
set_option maxHeartbeats 40000000 in
theorem rmcopy (l : Launch) (Z : State) (a0 : Array Value) (hw : ∀ d ∈ tables_1, d.before a0 Z = true) (ws : List Jvm.Cond) (a1 : Addr) (k1 : ClassId) (lx : Int32) (bs : List Int32) (h0 : Heap) (n0 : Nat) (Z0 : n0 ≤ h0.size) (V1 : Arv Z h0 a1 k1 .byte lx (bs.map Value.int) (.int 0)) (hb6 : bs.length ≤ 6) (hlt : own_len bs < lx) :
    MetFree l Y1 (head1 (Jvm.Cond.code Y1 jdk_65_method_121_code 3 (some (.array .byte)) :: ws) Rm1) (fun a U => a = #[(.ref a1), (.int (own_len bs))] ∧ Z.Warmed39 U.vm ∧ U.heap = h0) (fun _ _ _ _ _ => True) (fun _ U o U' => ∃ v L, o = .returned v ∧ Qrmcopy Z a1 k1 lx bs h0 n0 v U'.heap L ∧ FrameEnd U o U' L Rm1.cells Rm1.slots) := by
 refine MetFree.of_bodySF (plainFor_of_name pn_0) hisR ?_
 intro p e s m args below meth c s₁ Bd hml0 hP hK
 obtain ⟨rfl, hZ, hh⟩ := hP
 have hx := Bd.exec
 have hby := Bd.bytes
 have hml : c.maxLocals = 3 := hml0
 have hown : s.vm.findClass "java/util/Arrays" = some m.cls := findClass_of_methodNamed Bd.named
 have hnm := (name_of_methodNamed Bd.named Bd.method).1
 have X0 : Stand p l e Rm1 s m #[(.ref a1), (.int (own_len bs))] below meth c s₁ [] 0 0 := Stand.of_body Bd
 have e0 : s₁.heap = h0 := by rw [← hh, Bd.state]; rfl
 have N0 := Fr.nil n0
 show Go p.tables e below (fun o U' => ∃ v L, o = .returned v ∧ Qrmcopy Z a1 k1 lx bs h0 n0 v U'.heap L ∧ FrameEnd s o U' L Rm1.cells Rm1.slots) _
 refine Go.step (fun t kt => castTop (ef_rmcopy m a1 k1 lx bs) kt) ?_
 show Go p.tables e below _ (s₁.setTop (mkF m 0 #[vR a1, vI (own_len bs), uS] []))
 have K101 : Keep h0 h0 [] := (Keep.refl h0 [])
 refine Go.step (fun _ kt => XS.iloadN X0.here hx rfl (hb hby d25_0) rfl (XS.aloadN X0.here hx rfl (hb hby d25_1) rfl rfl kt)) ?_
 obtain ⟨cl102, Ar102, qa102, Sa102, Na102, Ha102, Ga102⟩ := (id V1)
 refine Go.step (X0.arraylength hx (by rw [e0]; exact Ar102.1) (State.isArrayOf_alike hZ.alike Ar102.2.1) (g := (mkF m 2 #[vR a1, vI (own_len bs), uS] [(.ref a1), (.int (own_len bs))])) rfl rfl (hb hby d25_2)) ?_
 rw [len_of Sa102 Na102]
 show Go p.tables e below _ (s₁.setTop (mkF m 3 #[vR a1, vI (own_len bs), uS] [(.int lx), (.int (own_len bs))]))
 refine Go.step (fun _ kt => XS.icmpYes X0.here hx rfl (pc0 := 3) (pc' := 14) rfl (hb hby d25_3) rfl (feq (own_neq hlt)).2 (by decide) (by decide) (XS.iloadN X0.here hx rfl (hb hby d25_14) rfl kt)) ?_
 obtain ⟨T103, h103, k103, X103, e103, E103, A103, Ex103, st103⟩ := newPE (aty := .byte) X0 hx hZ (w20 hw) e0 (g := (mkF m 15 #[vR a1, vI (own_len bs), uS] [(.int (own_len bs))])) rfl (hb hby d25_15) rfl (own_nn0 hb6) (cap := 6) (own_cap6 hb6) (by decide) (by decide) (by decide) (ad := "[B") own_adB
 obtain ⟨b103, g103⟩ : ∃ z, z = h0.size := ⟨_, rfl⟩
 rw [← g103] at A103 Ex103 st103
 refine Go.step st103 ?_
 have ne_a1_b103 : a1 ≠ b103 := Nat.ne_of_lt (Nat.lt_of_lt_of_le V1.lt (Nat.le_of_eq g103.symm))
 have g_b103 : n0 ≤ b103 := Nat.le_trans Z0 (Nat.le_of_eq g103.symm)
 have sz_b103 : h0.size ≤ b103 := Nat.le_trans K101.1 (Nat.le_of_eq g103.symm)
 have F104 := (V1.ext E103)
 have Z105 : n0 ≤ h103.size := (Nat.le_trans Z0 E103.1)
 have K106 : Keep h0 h103 [] := (K101.ext E103)
 have V107 : Arv Z h103 b103 k103 .byte (own_len bs) (([] : List Int32).map Value.int) (.int 0) := Arv.new A103 (own_nn0 hb6)
 show Go p.tables e below _ (T103.setTop (mkF m 17 #[vR a1, vI (own_len bs), uS] [(.ref b103)]))
 refine Go.step (fun _ kt => XS.astoreN X103.here hx rfl (hb hby d25_17) rfl rfl (l' := #[vR a1, vI (own_len bs), vR b103]) rfl (XS.aloadN X103.here hx rfl (hb hby d25_18) rfl rfl (XS.iconst X103.here hx rfl (hb hby d25_19) (XS.aloadN X103.here hx rfl (hb hby d25_20) rfl rfl (XS.iconst X103.here hx rfl (hb hby d25_21) (XS.aloadN X103.here hx rfl (hb hby d25_22) rfl rfl kt)))))) ?_
 show Go p.tables e below _ (T103.setTop (mkF m 23 #[vR a1, vI (own_len bs), vR b103] [(.ref a1), (.int 0), (.ref b103), (.int 0), (.ref a1)]))
 obtain ⟨cl108, Ar108, qa108, Sa108, Na108, Ha108, Ga108⟩ := (id F104)
 refine Go.step (X103.arraylength hx (by rw [e103]; exact Ar108.1) (State.isArrayOf_alike hZ.alike Ar108.2.1) (g := (mkF m 23 #[vR a1, vI (own_len bs), vR b103] [(.ref a1), (.int 0), (.ref b103), (.int 0), (.ref a1)])) rfl rfl (hb hby d25_23)) ?_
 rw [len_of Sa108 Na108]
 show Go p.tables e below _ (T103.setTop (mkF m 24 #[vR a1, vI (own_len bs), vR b103] [(.int lx), (.int 0), (.ref b103), (.int 0), (.ref a1)]))
 refine Go.step (fun _ kt => XS.iloadN X103.here hx rfl (hb hby d25_24) rfl kt) ?_
 obtain ⟨_, _, ⟨T110, L110, k110, n110⟩, -, X110, ⟨Lc110, hQ110, l110, y110, z110⟩, st110⟩ := Jvm.LawKit.callS X103 hx (y := Y0) hown (mvT hZ (w124 hw)) (mvT hZ (w125 hw)) (mvT hZ (w126 hw)) (mvT hZ (w127 hw)) (by decide) (backOf (W := 4) (rmmin l Z a0 hw [] lx (own_len bs)  h103 n0 Z105  hlt) hZ (w127 hw) (w126 hw) (by decide) (by decide)) (g := (mkF m 25 #[vR a1, vI (own_len bs), vR b103] [(.int (own_len bs)), (.int lx), (.int 0), (.ref b103), (.int 0), (.ref a1)])) rfl hml.symm (argsL := [(.int lx), (.int (own_len bs))]) (rest := [(.int 0), (.ref b103), (.int 0), (.ref a1)]) (lenOf pd_0 rfl) rfl (Nat.le_of_eq rfl) (hb hby d25_25) (fun _ _ => ⟨rfl, e103, (by decide : 1 + 0 ≤ _), (by decide : 6 + 0 ≤ _)⟩)
 dsimp only [Pt.U, Pt.locs, Pt.cells, Pt.slots] at X110 l110 y110 z110 st110 hQ110
 subst l110 y110 z110
 obtain ⟨rfl, N110q, eh110⟩ := hQ110
 have N110 := Fr.app N0 N110q
 refine Go.step st110 ?_
 obtain ⟨T111, h111, L111, X111, e111, N111, Kq111, V111, st111⟩ := cpA X110 hx hZ hown (w128 hw) (w131 hw) (w129 hw) (w130 hw) eh110 F104 (own_rep V107 (own_len bs).toNatClampNeg) (Or.inl ⟨rfl, rfl⟩) (by decide) (by decide) (own_nn0 hb6) (own_h4 hb6 hlt) (own_h5 _) rfl (own_h6 _ _) N110 g_b103 (g := (mkF m 28 #[vR a1, vI (own_len bs), vR b103] [(.int (own_len bs)), (.int 0), (.ref b103), (.int 0), (.ref a1)])) rfl hml.symm rfl (hb hby d25_28) (by decide) (W := 0) (Nat.le_of_eq rfl) (by decide)
 refine Go.step st111 ?_
 have F112 := (F104.keep Kq111 (fun q => ne_a1_b103 (List.mem_singleton.mp q)))
 have F113 := (Ex103.keep Kq111)
 have Z114 : n0 ≤ h111.size := (Nat.le_trans Z105 Kq111.1)
 have K115 : Keep h0 h111 [] := (K106.trans Kq111 (by intro x hx; cases List.mem_singleton.mp hx; exact (Or.inr sz_b103)))
 have Vc116 : Arv Z h111 b103 k103 .byte (own_len bs) (bs.map Value.int) (.int 0) := own_cpl (Nat.le_trans hb6 (by decide)) V111
 show Go p.tables e below _ (T111.setTop (mkF m 31 #[vR a1, vI (own_len bs), vR b103] []))
 refine Go.step (fun _ kt => XS.aloadN X111.here hx rfl (hb hby d25_31) rfl rfl kt) ?_
 show Go p.tables e below _ (T111.setTop (mkF m 32 #[vR a1, vI (own_len bs), vR b103] [(.ref b103)]))
 obtain ⟨fs, hr, hrun, hended, hW, hsame⟩ := X111.leave (v := some (.ref b103)) (fun h => by rw [Bd.returns] at h; cases h)
 refine ⟨_, _, retOut X111 hx Bd.returns rfl (Or.inr (Or.inr (Or.inr (Or.inr ⟨rfl, rfl, rfl⟩)))) (hb hby d25_32) hr, hrun, hended, _, _, rfl, ?_, ⟨_, rfl⟩, hW, hsame.mono (by decide) (by decide)⟩
 show Qrmcopy Z a1 k1 lx bs h0 n0 _ T111.heap _
 rw [e111]
 refine ⟨b103, k103, ?_, N111, K115, F113, Vc116, g_b103, sz_b103⟩
 rfl
theorem pn_1 : plainName "java/lang/Character" = true := by first | (simp [plainName, overriddenIn]; done) | decide +kernel
theorem d23_0 : dC2 0 (.iload_n 0, 1) := by decide +kernel
theorem d23_1 : dC2 1 (.ldc 75, 2) := by decide +kernel
theorem d23_3 : dC2 3 (.if_icmp .lt 13, 3) := by decide +kernel
theorem d23_6 : dC2 6 (.iload_n 0, 1) := by decide +kernel
theorem d23_7 : dC2 7 (.ldc 77, 2) := by decide +kernel
theorem d23_9 : dC2 9 (.if_icmp .ge 7, 3) := by decide +kernel
theorem d23_12 : dC2 12 (.iconst 1, 1) := by decide +kernel
theorem d23_13 : dC2 13 (.goto 4, 3) := by decide +kernel
theorem d23_16 : dC2 16 (.iconst 0, 1) := by decide +kernel
theorem d23_17 : dC2 17 (.ireturn, 1) := by decide +kernel
theorem ef_rmis (m : MethodId) (cx : Int32) : entryFrame m #[(.int cx)] 1 = mkF m 0 #[vI cx] [] := by first | (simp [entryFrame, mkF, argsToLocals, Value.category]; done) | rfl
def Qrmis (Z : State) (cx : Int32) (h0 : Heap) (n0 : Nat) (v : Option Value) (h : Heap) (L : List Loc) : Prop := v = some (.int (own_su cx)) ∧ Fr n0 L ∧ h = h0
set_option maxRecDepth 65536 in
set_option maxHeartbeats 40000000 in
theorem rmis (l : Launch) (Z : State) (a0 : Array Value) (hw : ∀ d ∈ tables_1, d.before a0 Z = true) (ws : List Jvm.Cond) (cx : Int32) (h0 : Heap) (n0 : Nat) (Z0 : n0 ≤ h0.size) :
    MetFree l Y2 (head1 (Jvm.Cond.code Y2 jdk_89_method_16_code 1 (some .boolean) :: ws) Rm0) (fun a U => a = #[(.int cx)] ∧ Z.Warmed39 U.vm ∧ U.heap = h0) (fun _ _ _ _ _ => True) (fun _ U o U' => ∃ v L, o = .returned v ∧ Qrmis Z cx h0 n0 v U'.heap L ∧ FrameEnd U o U' L Rm0.cells Rm0.slots) := by
 refine MetFree.of_bodySF (plainFor_of_name pn_1) hisR ?_
 intro p e s m args below meth c s₁ Bd hml0 hP hK
 obtain ⟨rfl, hZ, hh⟩ := hP
 have hx := Bd.exec
 have hby := Bd.bytes
 have hml : c.maxLocals = 1 := hml0
 have hown : s.vm.findClass "java/lang/Character" = some m.cls := findClass_of_methodNamed Bd.named
 have hnm := (name_of_methodNamed Bd.named Bd.method).1
 have X0 : Stand p l e Rm0 s m #[(.int cx)] below meth c s₁ [] 0 0 := Stand.of_body Bd
 have e0 : s₁.heap = h0 := by rw [← hh, Bd.state]; rfl
 have N0 := Fr.nil n0
 show Go p.tables e below (fun o U' => ∃ v L, o = .returned v ∧ Qrmis Z cx h0 n0 v U'.heap L ∧ FrameEnd s o U' L Rm0.cells Rm0.slots) _
 refine Go.step (fun t kt => castTop (ef_rmis m cx) kt) ?_
 show Go p.tables e below _ (s₁.setTop (mkF m 0 #[vI cx] []))
 refine Go.step (fun _ kt => XS.iloadN X0.here hx rfl (hb hby d23_0) rfl kt) ?_
 refine Go.step (X0.ldcInt hx hown (mvT hZ (w114 hw)) (g := (mkF m 1 #[vI cx] [(.int cx)])) rfl (hb hby d23_1)) ?_
 show Go p.tables e below _ (s₁.setTop (mkF m 3 #[vI cx] [(.int 55296), (.int cx)]))
 by_cases hc3_101 : cx < (55296 : Int32)
 ·refine Go.step (fun _ kt => XS.icmpYes X0.here hx rfl (pc0 := 3) (pc' := 16) rfl (hb hby d23_3) rfl (tlt hc3_101).1 (by decide) (by decide) (XS.iconst X0.here hx rfl (hb hby d23_16) kt)) ?_
  show Go p.tables e below _ (s₁.setTop (mkF m 17 #[vI cx] [(.int 0)]))
  obtain ⟨fs, hr, hrun, hended, hW, hsame⟩ := X0.leave (v := some (.int 0)) (fun h => by rw [Bd.returns] at h; cases h)
  refine ⟨_, _, retN X0 hx (t := .boolean) Bd.returns (by simp) (hb hby d23_17) hr, hrun, hended, _, _, rfl, ?_, ⟨_, rfl⟩, hW, hsame.mono (by decide) (by decide)⟩
  show Qrmis Z cx h0 n0 _ s₁.heap _
  rw [e0]
  refine ⟨?_, N0, rfl⟩
  have q : own_su cx = (0 : Int32) := by unfold own_su; rw [if_pos hc3_101]
  rw [q]
 ·refine Go.step (fun _ kt => XS.icmpNo X0.here hx rfl (hb hby d23_3) rfl (flt hc3_101).1 (XS.iloadN X0.here hx rfl (hb hby d23_6) rfl kt)) ?_
  refine Go.step (X0.ldcInt hx hown (mvT hZ (w115 hw)) (g := (mkF m 7 #[vI cx] [(.int cx)])) rfl (hb hby d23_7)) ?_
  show Go p.tables e below _ (s₁.setTop (mkF m 9 #[vI cx] [(.int 57344), (.int cx)]))
  by_cases hc9_102 : cx < (57344 : Int32)
  ·refine Go.step (fun _ kt => XS.icmpNo X0.here hx rfl (hb hby d23_9) rfl (tlt hc9_102).2.1 (XS.iconst X0.here hx rfl (hb hby d23_12) (XS.goto X0.here hx rfl (pc0 := 13) (pc' := 17) rfl (hb hby d23_13) (by decide) (by decide) kt))) ?_
   show Go p.tables e below _ (s₁.setTop (mkF m 17 #[vI cx] [(.int 1)]))
   obtain ⟨fs, hr, hrun, hended, hW, hsame⟩ := X0.leave (v := some (.int 1)) (fun h => by rw [Bd.returns] at h; cases h)
   refine ⟨_, _, retN X0 hx (t := .boolean) Bd.returns (by simp) (hb hby d23_17) hr, hrun, hended, _, _, rfl, ?_, ⟨_, rfl⟩, hW, hsame.mono (by decide) (by decide)⟩
   show Qrmis Z cx h0 n0 _ s₁.heap _
   rw [e0]
   refine ⟨?_, N0, rfl⟩
   have q : own_su cx = (1 : Int32) := by unfold own_su; rw [if_neg hc3_101, if_pos hc9_102]
   rw [q]
  ·refine Go.step (fun _ kt => XS.icmpYes X0.here hx rfl (pc0 := 9) (pc' := 16) rfl (hb hby d23_9) rfl (flt hc9_102).2.1 (by decide) (by decide) (XS.iconst X0.here hx rfl (hb hby d23_16) kt)) ?_
   show Go p.tables e below _ (s₁.setTop (mkF m 17 #[vI cx] [(.int 0)]))
   obtain ⟨fs, hr, hrun, hended, hW, hsame⟩ := X0.leave (v := some (.int 0)) (fun h => by rw [Bd.returns] at h; cases h)
   refine ⟨_, _, retN X0 hx (t := .boolean) Bd.returns (by simp) (hb hby d23_17) hr, hrun, hended, _, _, rfl, ?_, ⟨_, rfl⟩, hW, hsame.mono (by decide) (by decide)⟩
   show Qrmis Z cx h0 n0 _ s₁.heap _
   rw [e0]
   refine ⟨?_, N0, rfl⟩
   have q : own_su cx = (0 : Int32) := by unfold own_su; rw [if_neg hc3_101, if_neg hc9_102]
   rw [q]
theorem d24_0 : dC3 0 (.iload_n 0, 1) := by decide +kernel
theorem d24_1 : dC3 1 (.ldc 75, 2) := by decide +kernel
theorem d24_3 : dC3 3 (.if_icmp .lt 13, 3) := by decide +kernel
theorem d24_6 : dC3 6 (.iload_n 0, 1) := by decide +kernel
theorem d24_7 : dC3 7 (.ldc 76, 2) := by decide +kernel
theorem d24_9 : dC3 9 (.if_icmp .ge 7, 3) := by decide +kernel
theorem d24_12 : dC3 12 (.iconst 1, 1) := by decide +kernel
theorem d24_13 : dC3 13 (.goto 4, 3) := by decide +kernel
theorem d24_16 : dC3 16 (.iconst 0, 1) := by decide +kernel
theorem d24_17 : dC3 17 (.ireturn, 1) := by decide +kernel
theorem ef_rmih (m : MethodId) (cx : Int32) : entryFrame m #[(.int cx)] 1 = mkF m 0 #[vI cx] [] := by first | (simp [entryFrame, mkF, argsToLocals, Value.category]; done) | rfl
def Qrmih (Z : State) (cx : Int32) (h0 : Heap) (n0 : Nat) (v : Option Value) (h : Heap) (L : List Loc) : Prop := v = some (.int (own_hs cx)) ∧ Fr n0 L ∧ h = h0
set_option maxRecDepth 65536 in
set_option maxHeartbeats 40000000 in
theorem rmih (l : Launch) (Z : State) (a0 : Array Value) (hw : ∀ d ∈ tables_1, d.before a0 Z = true) (ws : List Jvm.Cond) (cx : Int32) (h0 : Heap) (n0 : Nat) (Z0 : n0 ≤ h0.size) :
    MetFree l Y3 (head1 (Jvm.Cond.code Y3 jdk_89_method_14_code 1 (some .boolean) :: ws) Rm0) (fun a U => a = #[(.int cx)] ∧ Z.Warmed39 U.vm ∧ U.heap = h0) (fun _ _ _ _ _ => True) (fun _ U o U' => ∃ v L, o = .returned v ∧ Qrmih Z cx h0 n0 v U'.heap L ∧ FrameEnd U o U' L Rm0.cells Rm0.slots) := by
 refine MetFree.of_bodySF (plainFor_of_name pn_1) hisR ?_
 intro p e s m args below meth c s₁ Bd hml0 hP hK
 obtain ⟨rfl, hZ, hh⟩ := hP
 have hx := Bd.exec
 have hby := Bd.bytes
 have hml : c.maxLocals = 1 := hml0
 have hown : s.vm.findClass "java/lang/Character" = some m.cls := findClass_of_methodNamed Bd.named
 have hnm := (name_of_methodNamed Bd.named Bd.method).1
 have X0 : Stand p l e Rm0 s m #[(.int cx)] below meth c s₁ [] 0 0 := Stand.of_body Bd
 have e0 : s₁.heap = h0 := by rw [← hh, Bd.state]; rfl
 have N0 := Fr.nil n0
 show Go p.tables e below (fun o U' => ∃ v L, o = .returned v ∧ Qrmih Z cx h0 n0 v U'.heap L ∧ FrameEnd s o U' L Rm0.cells Rm0.slots) _
 refine Go.step (fun t kt => castTop (ef_rmih m cx) kt) ?_
 show Go p.tables e below _ (s₁.setTop (mkF m 0 #[vI cx] []))
 refine Go.step (fun _ kt => XS.iloadN X0.here hx rfl (hb hby d24_0) rfl kt) ?_
 refine Go.step (X0.ldcInt hx hown (mvT hZ (w114 hw)) (g := (mkF m 1 #[vI cx] [(.int cx)])) rfl (hb hby d24_1)) ?_
 show Go p.tables e below _ (s₁.setTop (mkF m 3 #[vI cx] [(.int 55296), (.int cx)]))
 by_cases hc3_101 : cx < (55296 : Int32)
 ·refine Go.step (fun _ kt => XS.icmpYes X0.here hx rfl (pc0 := 3) (pc' := 16) rfl (hb hby d24_3) rfl (tlt hc3_101).1 (by decide) (by decide) (XS.iconst X0.here hx rfl (hb hby d24_16) kt)) ?_
  show Go p.tables e below _ (s₁.setTop (mkF m 17 #[vI cx] [(.int 0)]))
  obtain ⟨fs, hr, hrun, hended, hW, hsame⟩ := X0.leave (v := some (.int 0)) (fun h => by rw [Bd.returns] at h; cases h)
  refine ⟨_, _, retN X0 hx (t := .boolean) Bd.returns (by simp) (hb hby d24_17) hr, hrun, hended, _, _, rfl, ?_, ⟨_, rfl⟩, hW, hsame.mono (by decide) (by decide)⟩
  show Qrmih Z cx h0 n0 _ s₁.heap _
  rw [e0]
  refine ⟨?_, N0, rfl⟩
  have q : own_hs cx = (0 : Int32) := by unfold own_hs; rw [if_pos hc3_101]
  rw [q]
 ·refine Go.step (fun _ kt => XS.icmpNo X0.here hx rfl (hb hby d24_3) rfl (flt hc3_101).1 (XS.iloadN X0.here hx rfl (hb hby d24_6) rfl kt)) ?_
  refine Go.step (X0.ldcInt hx hown (mvT hZ (w119 hw)) (g := (mkF m 7 #[vI cx] [(.int cx)])) rfl (hb hby d24_7)) ?_
  show Go p.tables e below _ (s₁.setTop (mkF m 9 #[vI cx] [(.int 56320), (.int cx)]))
  by_cases hc9_102 : cx < (56320 : Int32)
  ·refine Go.step (fun _ kt => XS.icmpNo X0.here hx rfl (hb hby d24_9) rfl (tlt hc9_102).2.1 (XS.iconst X0.here hx rfl (hb hby d24_12) (XS.goto X0.here hx rfl (pc0 := 13) (pc' := 17) rfl (hb hby d24_13) (by decide) (by decide) kt))) ?_
   show Go p.tables e below _ (s₁.setTop (mkF m 17 #[vI cx] [(.int 1)]))
   obtain ⟨fs, hr, hrun, hended, hW, hsame⟩ := X0.leave (v := some (.int 1)) (fun h => by rw [Bd.returns] at h; cases h)
   refine ⟨_, _, retN X0 hx (t := .boolean) Bd.returns (by simp) (hb hby d24_17) hr, hrun, hended, _, _, rfl, ?_, ⟨_, rfl⟩, hW, hsame.mono (by decide) (by decide)⟩
   show Qrmih Z cx h0 n0 _ s₁.heap _
   rw [e0]
   refine ⟨?_, N0, rfl⟩
   have q : own_hs cx = (1 : Int32) := by unfold own_hs; rw [if_neg hc3_101, if_pos hc9_102]
   rw [q]
  ·refine Go.step (fun _ kt => XS.icmpYes X0.here hx rfl (pc0 := 9) (pc' := 16) rfl (hb hby d24_9) rfl (flt hc9_102).2.1 (by decide) (by decide) (XS.iconst X0.here hx rfl (hb hby d24_16) kt)) ?_
   show Go p.tables e below _ (s₁.setTop (mkF m 17 #[vI cx] [(.int 0)]))
   obtain ⟨fs, hr, hrun, hended, hW, hsame⟩ := X0.leave (v := some (.int 0)) (fun h => by rw [Bd.returns] at h; cases h)
   refine ⟨_, _, retN X0 hx (t := .boolean) Bd.returns (by simp) (hb hby d24_17) hr, hrun, hended, _, _, rfl, ?_, ⟨_, rfl⟩, hW, hsame.mono (by decide) (by decide)⟩
   show Qrmih Z cx h0 n0 _ s₁.heap _
   rw [e0]
   refine ⟨?_, N0, rfl⟩
   have q : own_hs cx = (0 : Int32) := by unfold own_hs; rw [if_neg hc3_101, if_neg hc9_102]
   rw [q]
theorem d29_0 : dC4 0 (.iload_n 0, 1) := by decide +kernel
theorem d29_1 : dC4 1 (.ldc 76, 2) := by decide +kernel
theorem d29_3 : dC4 3 (.if_icmp .lt 13, 3) := by decide +kernel
theorem d29_6 : dC4 6 (.iload_n 0, 1) := by decide +kernel
theorem d29_7 : dC4 7 (.ldc 77, 2) := by decide +kernel
theorem d29_9 : dC4 9 (.if_icmp .ge 7, 3) := by decide +kernel
theorem d29_12 : dC4 12 (.iconst 1, 1) := by decide +kernel
theorem d29_13 : dC4 13 (.goto 4, 3) := by decide +kernel
theorem d29_16 : dC4 16 (.iconst 0, 1) := by decide +kernel
theorem d29_17 : dC4 17 (.ireturn, 1) := by decide +kernel
theorem ef_rmil (m : MethodId) (cx : Int32) : entryFrame m #[(.int cx)] 1 = mkF m 0 #[vI cx] [] := by first | (simp [entryFrame, mkF, argsToLocals, Value.category]; done) | rfl
def Qrmil (Z : State) (cx : Int32) (h0 : Heap) (n0 : Nat) (v : Option Value) (h : Heap) (L : List Loc) : Prop := v = some (.int (own_ls cx)) ∧ Fr n0 L ∧ h = h0
set_option maxRecDepth 65536 in
set_option maxHeartbeats 40000000 in
theorem rmil (l : Launch) (Z : State) (a0 : Array Value) (hw : ∀ d ∈ tables_1, d.before a0 Z = true) (ws : List Jvm.Cond) (cx : Int32) (h0 : Heap) (n0 : Nat) (Z0 : n0 ≤ h0.size) :
    MetFree l Y4 (head1 (Jvm.Cond.code Y4 jdk_89_method_15_code 1 (some .boolean) :: ws) Rm0) (fun a U => a = #[(.int cx)] ∧ Z.Warmed39 U.vm ∧ U.heap = h0) (fun _ _ _ _ _ => True) (fun _ U o U' => ∃ v L, o = .returned v ∧ Qrmil Z cx h0 n0 v U'.heap L ∧ FrameEnd U o U' L Rm0.cells Rm0.slots) := by
 refine MetFree.of_bodySF (plainFor_of_name pn_1) hisR ?_
 intro p e s m args below meth c s₁ Bd hml0 hP hK
 obtain ⟨rfl, hZ, hh⟩ := hP
 have hx := Bd.exec
 have hby := Bd.bytes
 have hml : c.maxLocals = 1 := hml0
 have hown : s.vm.findClass "java/lang/Character" = some m.cls := findClass_of_methodNamed Bd.named
 have hnm := (name_of_methodNamed Bd.named Bd.method).1
 have X0 : Stand p l e Rm0 s m #[(.int cx)] below meth c s₁ [] 0 0 := Stand.of_body Bd
 have e0 : s₁.heap = h0 := by rw [← hh, Bd.state]; rfl
 have N0 := Fr.nil n0
 show Go p.tables e below (fun o U' => ∃ v L, o = .returned v ∧ Qrmil Z cx h0 n0 v U'.heap L ∧ FrameEnd s o U' L Rm0.cells Rm0.slots) _
 refine Go.step (fun t kt => castTop (ef_rmil m cx) kt) ?_
 show Go p.tables e below _ (s₁.setTop (mkF m 0 #[vI cx] []))
 refine Go.step (fun _ kt => XS.iloadN X0.here hx rfl (hb hby d29_0) rfl kt) ?_
 refine Go.step (X0.ldcInt hx hown (mvT hZ (w119 hw)) (g := (mkF m 1 #[vI cx] [(.int cx)])) rfl (hb hby d29_1)) ?_
 show Go p.tables e below _ (s₁.setTop (mkF m 3 #[vI cx] [(.int 56320), (.int cx)]))
 by_cases hc3_101 : cx < (56320 : Int32)
 ·refine Go.step (fun _ kt => XS.icmpYes X0.here hx rfl (pc0 := 3) (pc' := 16) rfl (hb hby d29_3) rfl (tlt hc3_101).1 (by decide) (by decide) (XS.iconst X0.here hx rfl (hb hby d29_16) kt)) ?_
  show Go p.tables e below _ (s₁.setTop (mkF m 17 #[vI cx] [(.int 0)]))
  obtain ⟨fs, hr, hrun, hended, hW, hsame⟩ := X0.leave (v := some (.int 0)) (fun h => by rw [Bd.returns] at h; cases h)
  refine ⟨_, _, retN X0 hx (t := .boolean) Bd.returns (by simp) (hb hby d29_17) hr, hrun, hended, _, _, rfl, ?_, ⟨_, rfl⟩, hW, hsame.mono (by decide) (by decide)⟩
  show Qrmil Z cx h0 n0 _ s₁.heap _
  rw [e0]
  refine ⟨?_, N0, rfl⟩
  have q : own_ls cx = (0 : Int32) := by unfold own_ls; rw [if_pos hc3_101]
  rw [q]
 ·refine Go.step (fun _ kt => XS.icmpNo X0.here hx rfl (hb hby d29_3) rfl (flt hc3_101).1 (XS.iloadN X0.here hx rfl (hb hby d29_6) rfl kt)) ?_
  refine Go.step (X0.ldcInt hx hown (mvT hZ (w115 hw)) (g := (mkF m 7 #[vI cx] [(.int cx)])) rfl (hb hby d29_7)) ?_
  show Go p.tables e below _ (s₁.setTop (mkF m 9 #[vI cx] [(.int 57344), (.int cx)]))
  by_cases hc9_102 : cx < (57344 : Int32)
  ·refine Go.step (fun _ kt => XS.icmpNo X0.here hx rfl (hb hby d29_9) rfl (tlt hc9_102).2.1 (XS.iconst X0.here hx rfl (hb hby d29_12) (XS.goto X0.here hx rfl (pc0 := 13) (pc' := 17) rfl (hb hby d29_13) (by decide) (by decide) kt))) ?_
   show Go p.tables e below _ (s₁.setTop (mkF m 17 #[vI cx] [(.int 1)]))
   obtain ⟨fs, hr, hrun, hended, hW, hsame⟩ := X0.leave (v := some (.int 1)) (fun h => by rw [Bd.returns] at h; cases h)
   refine ⟨_, _, retN X0 hx (t := .boolean) Bd.returns (by simp) (hb hby d29_17) hr, hrun, hended, _, _, rfl, ?_, ⟨_, rfl⟩, hW, hsame.mono (by decide) (by decide)⟩
   show Qrmil Z cx h0 n0 _ s₁.heap _
   rw [e0]
   refine ⟨?_, N0, rfl⟩
   have q : own_ls cx = (1 : Int32) := by unfold own_ls; rw [if_neg hc3_101, if_pos hc9_102]
   rw [q]
  ·refine Go.step (fun _ kt => XS.icmpYes X0.here hx rfl (pc0 := 9) (pc' := 16) rfl (hb hby d29_9) rfl (flt hc9_102).2.1 (by decide) (by decide) (XS.iconst X0.here hx rfl (hb hby d29_16) kt)) ?_
   show Go p.tables e below _ (s₁.setTop (mkF m 17 #[vI cx] [(.int 0)]))
   obtain ⟨fs, hr, hrun, hended, hW, hsame⟩ := X0.leave (v := some (.int 0)) (fun h => by rw [Bd.returns] at h; cases h)
   refine ⟨_, _, retN X0 hx (t := .boolean) Bd.returns (by simp) (hb hby d29_17) hr, hrun, hended, _, _, rfl, ?_, ⟨_, rfl⟩, hW, hsame.mono (by decide) (by decide)⟩
   show Qrmil Z cx h0 n0 _ s₁.heap _
   rw [e0]
   refine ⟨?_, N0, rfl⟩
   have q : own_ls cx = (0 : Int32) := by unfold own_ls; rw [if_neg hc3_101, if_neg hc9_102]
   rw [q]
theorem pn_2 : plainName "com/example/sibyl/sibyl/core/KeyBytesOfPinLaw" = true := by first | (simp [plainName, overriddenIn]; done) | decide +kernel
theorem d7_0 : dC5 0 (.iload_n 0, 1) := by decide +kernel
theorem d7_1 : dC5 1 (.ldc 8, 2) := by decide +kernel
theorem d7_3 : dC5 3 (.if_icmp .lt 13, 3) := by decide +kernel
theorem d7_6 : dC5 6 (.iload_n 0, 1) := by decide +kernel
theorem d7_7 : dC5 7 (.ldc 42, 2) := by decide +kernel
theorem d7_9 : dC5 9 (.if_icmp .gt 7, 3) := by decide +kernel
theorem d7_12 : dC5 12 (.iconst 1, 1) := by decide +kernel
theorem d7_13 : dC5 13 (.goto 4, 3) := by decide +kernel
theorem d7_16 : dC5 16 (.iconst 0, 1) := by decide +kernel
theorem d7_17 : dC5 17 (.ireturn, 1) := by decide +kernel
theorem ef_rmhigh (m : MethodId) (cx : Int32) : entryFrame m #[(.int cx)] 1 = mkF m 0 #[vI cx] [] := by first | (simp [entryFrame, mkF, argsToLocals, Value.category]; done) | rfl
def Qrmhigh (Z : State) (cx : Int32) (h0 : Heap) (n0 : Nat) (v : Option Value) (h : Heap) (L : List Loc) : Prop := v = some (.int (own_hs cx)) ∧ Fr n0 L ∧ h = h0
set_option maxRecDepth 65536 in
set_option maxHeartbeats 40000000 in
theorem rmhigh (l : Launch) (Z : State) (a0 : Array Value) (hw : ∀ d ∈ tables_1, d.before a0 Z = true) (ws : List Jvm.Cond) (cx : Int32) (h0 : Heap) (n0 : Nat) (Z0 : n0 ≤ h0.size) :
    MetFree l Y5 (head1 (Jvm.Cond.code Y5 method_3_code 1 (some .boolean) :: ws) Rm0) (fun a U => a = #[(.int cx)] ∧ Z.Warmed39 U.vm ∧ U.heap = h0) (fun _ _ _ _ _ => True) (fun _ U o U' => ∃ v L, o = .returned v ∧ Qrmhigh Z cx h0 n0 v U'.heap L ∧ FrameEnd U o U' L Rm0.cells Rm0.slots) := by
 refine MetFree.of_bodySF (plainFor_of_name pn_2) hisR ?_
 intro p e s m args below meth c s₁ Bd hml0 hP hK
 obtain ⟨rfl, hZ, hh⟩ := hP
 have hx := Bd.exec
 have hby := Bd.bytes
 have hml : c.maxLocals = 1 := hml0
 have hown : s.vm.findClass "com/example/sibyl/sibyl/core/KeyBytesOfPinLaw" = some m.cls := findClass_of_methodNamed Bd.named
 have hnm := (name_of_methodNamed Bd.named Bd.method).1
 have X0 : Stand p l e Rm0 s m #[(.int cx)] below meth c s₁ [] 0 0 := Stand.of_body Bd
 have e0 : s₁.heap = h0 := by rw [← hh, Bd.state]; rfl
 have N0 := Fr.nil n0
 show Go p.tables e below (fun o U' => ∃ v L, o = .returned v ∧ Qrmhigh Z cx h0 n0 v U'.heap L ∧ FrameEnd s o U' L Rm0.cells Rm0.slots) _
 refine Go.step (fun t kt => castTop (ef_rmhigh m cx) kt) ?_
 show Go p.tables e below _ (s₁.setTop (mkF m 0 #[vI cx] []))
 refine Go.step (fun _ kt => XS.iloadN X0.here hx rfl (hb hby d7_0) rfl kt) ?_
 refine Go.step (X0.ldcInt hx hown (mvT hZ (w35 hw)) (g := (mkF m 1 #[vI cx] [(.int cx)])) rfl (hb hby d7_1)) ?_
 show Go p.tables e below _ (s₁.setTop (mkF m 3 #[vI cx] [(.int 55296), (.int cx)]))
 by_cases hc3_101 : cx < (55296 : Int32)
 ·refine Go.step (fun _ kt => XS.icmpYes X0.here hx rfl (pc0 := 3) (pc' := 16) rfl (hb hby d7_3) rfl (tlt hc3_101).1 (by decide) (by decide) (XS.iconst X0.here hx rfl (hb hby d7_16) kt)) ?_
  show Go p.tables e below _ (s₁.setTop (mkF m 17 #[vI cx] [(.int 0)]))
  obtain ⟨fs, hr, hrun, hended, hW, hsame⟩ := X0.leave (v := some (.int 0)) (fun h => by rw [Bd.returns] at h; cases h)
  refine ⟨_, _, retN X0 hx (t := .boolean) Bd.returns (by simp) (hb hby d7_17) hr, hrun, hended, _, _, rfl, ?_, ⟨_, rfl⟩, hW, hsame.mono (by decide) (by decide)⟩
  show Qrmhigh Z cx h0 n0 _ s₁.heap _
  rw [e0]
  refine ⟨?_, N0, rfl⟩
  have q : own_hs cx = (0 : Int32) := by unfold own_hs; rw [if_pos hc3_101]
  rw [q]
 ·refine Go.step (fun _ kt => XS.icmpNo X0.here hx rfl (hb hby d7_3) rfl (flt hc3_101).1 (XS.iloadN X0.here hx rfl (hb hby d7_6) rfl kt)) ?_
  refine Go.step (X0.ldcInt hx hown (mvT hZ (w132 hw)) (g := (mkF m 7 #[vI cx] [(.int cx)])) rfl (hb hby d7_7)) ?_
  show Go p.tables e below _ (s₁.setTop (mkF m 9 #[vI cx] [(.int 56319), (.int cx)]))
  by_cases hc9_102 : (56319 : Int32) < cx
  ·refine Go.step (fun _ kt => XS.icmpYes X0.here hx rfl (pc0 := 9) (pc' := 16) rfl (hb hby d7_9) rfl (tlt hc9_102).2.2.1 (by decide) (by decide) (XS.iconst X0.here hx rfl (hb hby d7_16) kt)) ?_
   show Go p.tables e below _ (s₁.setTop (mkF m 17 #[vI cx] [(.int 0)]))
   obtain ⟨fs, hr, hrun, hended, hW, hsame⟩ := X0.leave (v := some (.int 0)) (fun h => by rw [Bd.returns] at h; cases h)
   refine ⟨_, _, retN X0 hx (t := .boolean) Bd.returns (by simp) (hb hby d7_17) hr, hrun, hended, _, _, rfl, ?_, ⟨_, rfl⟩, hW, hsame.mono (by decide) (by decide)⟩
   show Qrmhigh Z cx h0 n0 _ s₁.heap _
   rw [e0]
   refine ⟨?_, N0, rfl⟩
   have q : own_hs cx = (0 : Int32) := by unfold own_hs; rw [if_neg hc3_101, if_neg (own_t1 hc9_102)]
   rw [q]
  ·refine Go.step (fun _ kt => XS.icmpNo X0.here hx rfl (hb hby d7_9) rfl (flt hc9_102).2.2.1 (XS.iconst X0.here hx rfl (hb hby d7_12) (XS.goto X0.here hx rfl (pc0 := 13) (pc' := 17) rfl (hb hby d7_13) (by decide) (by decide) kt))) ?_
   show Go p.tables e below _ (s₁.setTop (mkF m 17 #[vI cx] [(.int 1)]))
   obtain ⟨fs, hr, hrun, hended, hW, hsame⟩ := X0.leave (v := some (.int 1)) (fun h => by rw [Bd.returns] at h; cases h)
   refine ⟨_, _, retN X0 hx (t := .boolean) Bd.returns (by simp) (hb hby d7_17) hr, hrun, hended, _, _, rfl, ?_, ⟨_, rfl⟩, hW, hsame.mono (by decide) (by decide)⟩
   show Qrmhigh Z cx h0 n0 _ s₁.heap _
   rw [e0]
   refine ⟨?_, N0, rfl⟩
   have q : own_hs cx = (1 : Int32) := by unfold own_hs; rw [if_neg hc3_101, if_pos (own_f1 hc9_102)]
   rw [q]
theorem d27_0 : dC6 0 (.iload_n 0, 1) := by decide +kernel
theorem d27_1 : dC6 1 (.ldc 9, 2) := by decide +kernel
theorem d27_3 : dC6 3 (.if_icmp .lt 13, 3) := by decide +kernel
theorem d27_6 : dC6 6 (.iload_n 0, 1) := by decide +kernel
theorem d27_7 : dC6 7 (.ldc 43, 2) := by decide +kernel
theorem d27_9 : dC6 9 (.if_icmp .gt 7, 3) := by decide +kernel
theorem d27_12 : dC6 12 (.iconst 1, 1) := by decide +kernel
theorem d27_13 : dC6 13 (.goto 4, 3) := by decide +kernel
theorem d27_16 : dC6 16 (.iconst 0, 1) := by decide +kernel
theorem d27_17 : dC6 17 (.ireturn, 1) := by decide +kernel
theorem ef_rmlow (m : MethodId) (cx : Int32) : entryFrame m #[(.int cx)] 1 = mkF m 0 #[vI cx] [] := by first | (simp [entryFrame, mkF, argsToLocals, Value.category]; done) | rfl
def Qrmlow (Z : State) (cx : Int32) (h0 : Heap) (n0 : Nat) (v : Option Value) (h : Heap) (L : List Loc) : Prop := v = some (.int (own_ls cx)) ∧ Fr n0 L ∧ h = h0
set_option maxRecDepth 65536 in
set_option maxHeartbeats 40000000 in
theorem rmlow (l : Launch) (Z : State) (a0 : Array Value) (hw : ∀ d ∈ tables_1, d.before a0 Z = true) (ws : List Jvm.Cond) (cx : Int32) (h0 : Heap) (n0 : Nat) (Z0 : n0 ≤ h0.size) :
    MetFree l Y6 (head1 (Jvm.Cond.code Y6 method_4_code 1 (some .boolean) :: ws) Rm0) (fun a U => a = #[(.int cx)] ∧ Z.Warmed39 U.vm ∧ U.heap = h0) (fun _ _ _ _ _ => True) (fun _ U o U' => ∃ v L, o = .returned v ∧ Qrmlow Z cx h0 n0 v U'.heap L ∧ FrameEnd U o U' L Rm0.cells Rm0.slots) := by
 refine MetFree.of_bodySF (plainFor_of_name pn_2) hisR ?_
 intro p e s m args below meth c s₁ Bd hml0 hP hK
 obtain ⟨rfl, hZ, hh⟩ := hP
 have hx := Bd.exec
 have hby := Bd.bytes
 have hml : c.maxLocals = 1 := hml0
 have hown : s.vm.findClass "com/example/sibyl/sibyl/core/KeyBytesOfPinLaw" = some m.cls := findClass_of_methodNamed Bd.named
 have hnm := (name_of_methodNamed Bd.named Bd.method).1
 have X0 : Stand p l e Rm0 s m #[(.int cx)] below meth c s₁ [] 0 0 := Stand.of_body Bd
 have e0 : s₁.heap = h0 := by rw [← hh, Bd.state]; rfl
 have N0 := Fr.nil n0
 show Go p.tables e below (fun o U' => ∃ v L, o = .returned v ∧ Qrmlow Z cx h0 n0 v U'.heap L ∧ FrameEnd s o U' L Rm0.cells Rm0.slots) _
 refine Go.step (fun t kt => castTop (ef_rmlow m cx) kt) ?_
 show Go p.tables e below _ (s₁.setTop (mkF m 0 #[vI cx] []))
 refine Go.step (fun _ kt => XS.iloadN X0.here hx rfl (hb hby d27_0) rfl kt) ?_
 refine Go.step (X0.ldcInt hx hown (mvT hZ (w85 hw)) (g := (mkF m 1 #[vI cx] [(.int cx)])) rfl (hb hby d27_1)) ?_
 show Go p.tables e below _ (s₁.setTop (mkF m 3 #[vI cx] [(.int 56320), (.int cx)]))
 by_cases hc3_101 : cx < (56320 : Int32)
 ·refine Go.step (fun _ kt => XS.icmpYes X0.here hx rfl (pc0 := 3) (pc' := 16) rfl (hb hby d27_3) rfl (tlt hc3_101).1 (by decide) (by decide) (XS.iconst X0.here hx rfl (hb hby d27_16) kt)) ?_
  show Go p.tables e below _ (s₁.setTop (mkF m 17 #[vI cx] [(.int 0)]))
  obtain ⟨fs, hr, hrun, hended, hW, hsame⟩ := X0.leave (v := some (.int 0)) (fun h => by rw [Bd.returns] at h; cases h)
  refine ⟨_, _, retN X0 hx (t := .boolean) Bd.returns (by simp) (hb hby d27_17) hr, hrun, hended, _, _, rfl, ?_, ⟨_, rfl⟩, hW, hsame.mono (by decide) (by decide)⟩
  show Qrmlow Z cx h0 n0 _ s₁.heap _
  rw [e0]
  refine ⟨?_, N0, rfl⟩
  have q : own_ls cx = (0 : Int32) := by unfold own_ls; rw [if_pos hc3_101]
  rw [q]
 ·refine Go.step (fun _ kt => XS.icmpNo X0.here hx rfl (hb hby d27_3) rfl (flt hc3_101).1 (XS.iloadN X0.here hx rfl (hb hby d27_6) rfl kt)) ?_
  refine Go.step (X0.ldcInt hx hown (mvT hZ (w105 hw)) (g := (mkF m 7 #[vI cx] [(.int cx)])) rfl (hb hby d27_7)) ?_
  show Go p.tables e below _ (s₁.setTop (mkF m 9 #[vI cx] [(.int 57343), (.int cx)]))
  by_cases hc9_102 : (57343 : Int32) < cx
  ·refine Go.step (fun _ kt => XS.icmpYes X0.here hx rfl (pc0 := 9) (pc' := 16) rfl (hb hby d27_9) rfl (tlt hc9_102).2.2.1 (by decide) (by decide) (XS.iconst X0.here hx rfl (hb hby d27_16) kt)) ?_
   show Go p.tables e below _ (s₁.setTop (mkF m 17 #[vI cx] [(.int 0)]))
   obtain ⟨fs, hr, hrun, hended, hW, hsame⟩ := X0.leave (v := some (.int 0)) (fun h => by rw [Bd.returns] at h; cases h)
   refine ⟨_, _, retN X0 hx (t := .boolean) Bd.returns (by simp) (hb hby d27_17) hr, hrun, hended, _, _, rfl, ?_, ⟨_, rfl⟩, hW, hsame.mono (by decide) (by decide)⟩
   show Qrmlow Z cx h0 n0 _ s₁.heap _
   rw [e0]
   refine ⟨?_, N0, rfl⟩
   have q : own_ls cx = (0 : Int32) := by unfold own_ls; rw [if_neg hc3_101, if_neg (own_t2 hc9_102)]
   rw [q]
  ·refine Go.step (fun _ kt => XS.icmpNo X0.here hx rfl (hb hby d27_9) rfl (flt hc9_102).2.2.1 (XS.iconst X0.here hx rfl (hb hby d27_12) (XS.goto X0.here hx rfl (pc0 := 13) (pc' := 17) rfl (hb hby d27_13) (by decide) (by decide) kt))) ?_
   show Go p.tables e below _ (s₁.setTop (mkF m 17 #[vI cx] [(.int 1)]))
   obtain ⟨fs, hr, hrun, hended, hW, hsame⟩ := X0.leave (v := some (.int 1)) (fun h => by rw [Bd.returns] at h; cases h)
   refine ⟨_, _, retN X0 hx (t := .boolean) Bd.returns (by simp) (hb hby d27_17) hr, hrun, hended, _, _, rfl, ?_, ⟨_, rfl⟩, hW, hsame.mono (by decide) (by decide)⟩
   show Qrmlow Z cx h0 n0 _ s₁.heap _
   rw [e0]
   refine ⟨?_, N0, rfl⟩
   have q : own_ls cx = (1 : Int32) := by unfold own_ls; rw [if_neg hc3_101, if_pos (own_f2 hc9_102)]
   rw [q]
theorem d30_0 : dC7 0 (.iload_n 0, 1) := by decide +kernel
theorem d30_1 : dC7 1 (.bipush 10, 2) := by decide +kernel
theorem d30_3 : dC7 3 (.ishl, 1) := by decide +kernel
theorem d30_4 : dC7 4 (.iload_n 1, 1) := by decide +kernel
theorem d30_5 : dC7 5 (.iadd, 1) := by decide +kernel
theorem d30_6 : dC7 6 (.ldc 85, 2) := by decide +kernel
theorem d30_8 : dC7 8 (.iadd, 1) := by decide +kernel
theorem d30_9 : dC7 9 (.ireturn, 1) := by decide +kernel
theorem ef_rmtc (m : MethodId) (c0 : Int32) (c1 : Int32) : entryFrame m #[(.int c0), (.int c1)] 2 = mkF m 0 #[vI c0, vI c1] [] := by first | (simp [entryFrame, mkF, argsToLocals, Value.category]; done) | rfl
def Qrmtc (Z : State) (c0 : Int32) (c1 : Int32) (h0 : Heap) (n0 : Nat) (v : Option Value) (h : Heap) (L : List Loc) : Prop := v = some (.int (own_cp c0 c1)) ∧ Fr n0 L ∧ h = h0
set_option maxRecDepth 65536 in
set_option maxHeartbeats 40000000 in
theorem rmtc (l : Launch) (Z : State) (a0 : Array Value) (hw : ∀ d ∈ tables_1, d.before a0 Z = true) (ws : List Jvm.Cond) (c0 : Int32) (c1 : Int32) (h0 : Heap) (n0 : Nat) (Z0 : n0 ≤ h0.size) :
    MetFree l Y7 (head1 (Jvm.Cond.code Y7 jdk_89_method_19_code 2 (some .int) :: ws) Rm0) (fun a U => a = #[(.int c0), (.int c1)] ∧ Z.Warmed39 U.vm ∧ U.heap = h0) (fun _ _ _ _ _ => True) (fun _ U o U' => ∃ v L, o = .returned v ∧ Qrmtc Z c0 c1 h0 n0 v U'.heap L ∧ FrameEnd U o U' L Rm0.cells Rm0.slots) := by
 refine MetFree.of_bodySF (plainFor_of_name pn_1) hisR ?_
 intro p e s m args below meth c s₁ Bd hml0 hP hK
 obtain ⟨rfl, hZ, hh⟩ := hP
 have hx := Bd.exec
 have hby := Bd.bytes
 have hml : c.maxLocals = 2 := hml0
 have hown : s.vm.findClass "java/lang/Character" = some m.cls := findClass_of_methodNamed Bd.named
 have hnm := (name_of_methodNamed Bd.named Bd.method).1
 have X0 : Stand p l e Rm0 s m #[(.int c0), (.int c1)] below meth c s₁ [] 0 0 := Stand.of_body Bd
 have e0 : s₁.heap = h0 := by rw [← hh, Bd.state]; rfl
 have N0 := Fr.nil n0
 show Go p.tables e below (fun o U' => ∃ v L, o = .returned v ∧ Qrmtc Z c0 c1 h0 n0 v U'.heap L ∧ FrameEnd s o U' L Rm0.cells Rm0.slots) _
 refine Go.step (fun t kt => castTop (ef_rmtc m c0 c1) kt) ?_
 show Go p.tables e below _ (s₁.setTop (mkF m 0 #[vI c0, vI c1] []))
 refine Go.step (fun _ kt => XS.iloadN X0.here hx rfl (hb hby d30_0) rfl (XS.bipush X0.here hx rfl (hb hby d30_1) (XS.ishl X0.here hx rfl (hb hby d30_3) rfl (XS.iloadN X0.here hx rfl (hb hby d30_4) rfl (XS.iadd X0.here hx rfl (hb hby d30_5) rfl kt))))) ?_
 refine Go.step (X0.ldcInt hx hown (mvT hZ (w146 hw)) (g := (mkF m 6 #[vI c0, vI c1] [(.int ((c0 <<< ((10 : Int32) &&& 31)) + c1))])) rfl (hb hby d30_6)) ?_
 show Go p.tables e below _ (s₁.setTop (mkF m 8 #[vI c0, vI c1] [(.int (-56613888 : Int32)), (.int ((c0 <<< ((10 : Int32) &&& 31)) + c1))]))
 refine Go.step (fun _ kt => XS.iadd X0.here hx rfl (hb hby d30_8) rfl kt) ?_
 show Go p.tables e below _ (s₁.setTop (mkF m 9 #[vI c0, vI c1] [(.int (((c0 <<< ((10 : Int32) &&& 31)) + c1) + (-56613888 : Int32)))]))
 obtain ⟨fs, hr, hrun, hended, hW, hsame⟩ := X0.leave (v := some (.int (((c0 <<< ((10 : Int32) &&& 31)) + c1) + (-56613888 : Int32)))) (fun h => by rw [Bd.returns] at h; cases h)
 refine ⟨_, _, retI X0 hx Bd.returns (hb hby d30_9) hr, hrun, hended, _, _, rfl, ?_, ⟨_, rfl⟩, hW, hsame.mono (by decide) (by decide)⟩
 show Qrmtc Z c0 c1 h0 n0 _ s₁.heap _
 rw [e0]
 refine ⟨?_, N0, rfl⟩
 rfl
theorem pn_3 : plainName "java/lang/StringCoding" = true := by first | (simp [plainName, overriddenIn]; done) | decide +kernel
theorem d15_0 : dC8 0 (.iload_n 1, 1) := by decide +kernel
theorem d15_1 : dC8 1 (.iload_n 2, 1) := by decide +kernel
theorem d15_2 : dC8 2 (.iadd, 1) := by decide +kernel
theorem d15_3 : dC8 3 (.istore_n 3, 1) := by decide +kernel
theorem d15_4 : dC8 4 (.iload_n 1, 1) := by decide +kernel
theorem d15_5 : dC8 5 (.istore 4, 2) := by decide +kernel
theorem d15_7 : dC8 7 (.iload 4, 2) := by decide +kernel
theorem d15_9 : dC8 9 (.iload_n 3, 1) := by decide +kernel
theorem d15_10 : dC8 10 (.if_icmp .ge 21, 3) := by decide +kernel
theorem d15_31 : dC8 31 (.iload_n 2, 1) := by decide +kernel
theorem d15_32 : dC8 32 (.ireturn, 1) := by decide +kernel
theorem ef_rmcp0 (m : MethodId) (a1 : Addr) (k1 : ClassId) : entryFrame m #[(.ref a1), (.int 0), (.int 0)] 5 = mkF m 0 #[vR a1, vI 0, vI 0, uS, uS] [] := by first | (simp [entryFrame, mkF, argsToLocals, Value.category]; done) | rfl
def Qrmcp0 (Z : State) (a1 : Addr) (k1 : ClassId) (h0 : Heap) (n0 : Nat) (v : Option Value) (h : Heap) (L : List Loc) : Prop := v = some (.int 0) ∧ Fr n0 L ∧ h = h0
set_option maxRecDepth 65536 in
set_option maxHeartbeats 40000000 in
theorem rmcp0 (l : Launch) (Z : State) (a0 : Array Value) (hw : ∀ d ∈ tables_1, d.before a0 Z = true) (ws : List Jvm.Cond) (a1 : Addr) (k1 : ClassId) (h0 : Heap) (n0 : Nat) (Z0 : n0 ≤ h0.size) (V1 : Arv Z h0 a1 k1 .byte (0 : Int32) [] (.int 0)) :
    MetFree l Y8 (head1 (Jvm.Cond.code Y8 jdk_123_method_3_code 5 (some .int) :: ws) Rm0) (fun a U => a = #[(.ref a1), (.int 0), (.int 0)] ∧ Z.Warmed39 U.vm ∧ U.heap = h0) (fun _ _ _ _ _ => True) (fun _ U o U' => ∃ v L, o = .returned v ∧ Qrmcp0 Z a1 k1 h0 n0 v U'.heap L ∧ FrameEnd U o U' L Rm0.cells Rm0.slots) := by
 refine MetFree.of_bodySF (plainFor_of_name pn_3) hisR ?_
 intro p e s m args below meth c s₁ Bd hml0 hP hK
 obtain ⟨rfl, hZ, hh⟩ := hP
 have hx := Bd.exec
 have hby := Bd.bytes
 have hml : c.maxLocals = 5 := hml0
 have hown : s.vm.findClass "java/lang/StringCoding" = some m.cls := findClass_of_methodNamed Bd.named
 have hnm := (name_of_methodNamed Bd.named Bd.method).1
 have X0 : Stand p l e Rm0 s m #[(.ref a1), (.int 0), (.int 0)] below meth c s₁ [] 0 0 := Stand.of_body Bd
 have e0 : s₁.heap = h0 := by rw [← hh, Bd.state]; rfl
 have N0 := Fr.nil n0
 show Go p.tables e below (fun o U' => ∃ v L, o = .returned v ∧ Qrmcp0 Z a1 k1 h0 n0 v U'.heap L ∧ FrameEnd s o U' L Rm0.cells Rm0.slots) _
 refine Go.step (fun t kt => castTop (ef_rmcp0 m a1 k1) kt) ?_
 show Go p.tables e below _ (s₁.setTop (mkF m 0 #[vR a1, vI 0, vI 0, uS, uS] []))
 refine Go.step (fun _ kt => XS.iloadN X0.here hx rfl (hb hby d15_0) rfl (XS.iloadN X0.here hx rfl (hb hby d15_1) rfl (XS.iadd X0.here hx rfl (hb hby d15_2) rfl kt))) ?_
 show Go p.tables e below _ (s₁.setTop (mkF m 3 #[vR a1, vI 0, vI 0, uS, uS] [(.int ((0 : Int32) + (0 : Int32)))]))
 have q101 : ((0 : Int32) + (0 : Int32)) = (0 : Int32) := by decide
 rw [q101]
 show Go p.tables e below _ (s₁.setTop (mkF m 3 #[vR a1, vI 0, vI 0, uS, uS] [(.int 0)]))
 refine Go.step (fun _ kt => XS.istoreN X0.here hx rfl (hb hby d15_3) rfl (l' := #[vR a1, vI 0, vI 0, vI 0, uS]) rfl (XS.iloadN X0.here hx rfl (hb hby d15_4) rfl (XS.istore X0.here hx rfl (hb hby d15_5) rfl (l' := #[vR a1, vI 0, vI 0, vI 0, vI 0]) rfl (XS.iload X0.here hx rfl (hb hby d15_7) rfl (XS.iloadN X0.here hx rfl (hb hby d15_9) rfl (XS.icmpYes X0.here hx rfl (pc0 := 10) (pc' := 31) rfl (hb hby d15_10) rfl (flt (by decide : ¬ ((0 : Int32) < (0 : Int32)))).2.1 (by decide) (by decide) (XS.iloadN X0.here hx rfl (hb hby d15_31) rfl kt))))))) ?_
 show Go p.tables e below _ (s₁.setTop (mkF m 32 #[vR a1, vI 0, vI 0, vI 0, vI 0] [(.int 0)]))
 obtain ⟨fs, hr, hrun, hended, hW, hsame⟩ := X0.leave (v := some (.int 0)) (fun h => by rw [Bd.returns] at h; cases h)
 refine ⟨_, _, retI X0 hx Bd.returns (hb hby d15_32) hr, hrun, hended, _, _, rfl, ?_, ⟨_, rfl⟩, hW, hsame.mono (by decide) (by decide)⟩
 show Qrmcp0 Z a1 k1 h0 n0 _ s₁.heap _
 rw [e0]
 refine ⟨?_, N0, rfl⟩
 rfl
theorem pd_1 : parseMethodDescriptor "([BII)I" = some ⟨[(.array .byte), .int, .int], some .int⟩ := by decide +kernel
theorem d14_0 : dC9 0 (.aload_n 0, 1) := by decide +kernel
theorem d14_1 : dC9 1 (.iload_n 1, 1) := by decide +kernel
theorem d14_2 : dC9 2 (.iload_n 2, 1) := by decide +kernel
theorem d14_3 : dC9 3 (.invokestatic 7, 3) := by decide +kernel
theorem d14_6 : dC9 6 (.iload_n 2, 1) := by decide +kernel
theorem d14_7 : dC9 7 (.if_icmp .eq 7, 3) := by decide +kernel
theorem d14_14 : dC9 14 (.iconst 0, 1) := by decide +kernel
theorem d14_15 : dC9 15 (.ireturn, 1) := by decide +kernel
theorem ef_rmhn0 (m : MethodId) (a1 : Addr) (k1 : ClassId) : entryFrame m #[(.ref a1), (.int 0), (.int 0)] 3 = mkF m 0 #[vR a1, vI 0, vI 0] [] := by first | (simp [entryFrame, mkF, argsToLocals, Value.category]; done) | rfl
def Qrmhn0 (Z : State) (a1 : Addr) (k1 : ClassId) (h0 : Heap) (n0 : Nat) (v : Option Value) (h : Heap) (L : List Loc) : Prop := v = some (.int 0) ∧ Fr n0 L ∧ h = h0
set_option maxRecDepth 65536 in
set_option maxHeartbeats 40000000 in
theorem rmhn0 (l : Launch) (Z : State) (a0 : Array Value) (hw : ∀ d ∈ tables_1, d.before a0 Z = true) (ws : List Jvm.Cond) (a1 : Addr) (k1 : ClassId) (h0 : Heap) (n0 : Nat) (Z0 : n0 ≤ h0.size) (V1 : Arv Z h0 a1 k1 .byte (0 : Int32) [] (.int 0)) :
    MetFree l Y9 (head1 (Jvm.Cond.code Y9 jdk_123_method_2_code 3 (some .boolean) :: ws) Rm2) (fun a U => a = #[(.ref a1), (.int 0), (.int 0)] ∧ Z.Warmed39 U.vm ∧ U.heap = h0) (fun _ _ _ _ _ => True) (fun _ U o U' => ∃ v L, o = .returned v ∧ Qrmhn0 Z a1 k1 h0 n0 v U'.heap L ∧ FrameEnd U o U' L Rm2.cells Rm2.slots) := by
 refine MetFree.of_bodySF (plainFor_of_name pn_3) hisR ?_
 intro p e s m args below meth c s₁ Bd hml0 hP hK
 obtain ⟨rfl, hZ, hh⟩ := hP
 have hx := Bd.exec
 have hby := Bd.bytes
 have hml : c.maxLocals = 3 := hml0
 have hown : s.vm.findClass "java/lang/StringCoding" = some m.cls := findClass_of_methodNamed Bd.named
 have hnm := (name_of_methodNamed Bd.named Bd.method).1
 have X0 : Stand p l e Rm2 s m #[(.ref a1), (.int 0), (.int 0)] below meth c s₁ [] 0 0 := Stand.of_body Bd
 have e0 : s₁.heap = h0 := by rw [← hh, Bd.state]; rfl
 have N0 := Fr.nil n0
 show Go p.tables e below (fun o U' => ∃ v L, o = .returned v ∧ Qrmhn0 Z a1 k1 h0 n0 v U'.heap L ∧ FrameEnd s o U' L Rm2.cells Rm2.slots) _
 refine Go.step (fun t kt => castTop (ef_rmhn0 m a1 k1) kt) ?_
 show Go p.tables e below _ (s₁.setTop (mkF m 0 #[vR a1, vI 0, vI 0] []))
 refine Go.step (fun _ kt => XS.aloadN X0.here hx rfl (hb hby d14_0) rfl rfl (XS.iloadN X0.here hx rfl (hb hby d14_1) rfl (XS.iloadN X0.here hx rfl (hb hby d14_2) rfl kt))) ?_
 obtain ⟨_, _, ⟨T101, L101, k101, n101⟩, -, X101, ⟨Lc101, hQ101, l101, y101, z101⟩, st101⟩ := Jvm.LawKit.callS X0 hx (y := Y8) hown (mvT hZ (w67 hw)) (mvT hZ (w68 hw)) (mvT hZ (w65 hw)) (mvT hZ (w69 hw)) (by decide) (backOf (W := 0) (rmcp0 l Z a0 hw [] a1 k1 h0 n0 Z0 V1 ) hZ (w69 hw) (w65 hw) (by decide) (by decide)) (g := (mkF m 3 #[vR a1, vI 0, vI 0] [(.int 0), (.int 0), (.ref a1)])) rfl hml.symm (argsL := [(.ref a1), (.int 0), (.int 0)]) (rest := []) (lenOf pd_1 rfl) rfl (Nat.le_of_eq rfl) (hb hby d14_3) (fun _ _ => ⟨rfl, e0, (by decide : 0 + 0 ≤ _), (by decide : 0 + 0 ≤ _)⟩)
 dsimp only [Pt.U, Pt.locs, Pt.cells, Pt.slots] at X101 l101 y101 z101 st101 hQ101
 subst l101 y101 z101
 obtain ⟨rfl, N101q, eh101⟩ := hQ101
 have N101 := Fr.app N0 N101q
 refine Go.step st101 ?_
 show Go p.tables e below _ (T101.setTop (mkF m 6 #[vR a1, vI 0, vI 0] [(.int 0)]))
 refine Go.step (fun _ kt => XS.iloadN X101.here hx rfl (hb hby d14_6) rfl (XS.icmpYes X101.here hx rfl (pc0 := 7) (pc' := 14) rfl (hb hby d14_7) rfl (teq (by decide : (0 : Int32) = (0 : Int32))).1 (by decide) (by decide) (XS.iconst X101.here hx rfl (hb hby d14_14) kt))) ?_
 show Go p.tables e below _ (T101.setTop (mkF m 15 #[vR a1, vI 0, vI 0] [(.int 0)]))
 obtain ⟨fs, hr, hrun, hended, hW, hsame⟩ := X101.leave (v := some (.int 0)) (fun h => by rw [Bd.returns] at h; cases h)
 refine ⟨_, _, retN X101 hx (t := .boolean) Bd.returns (by simp) (hb hby d14_15) hr, hrun, hended, _, _, rfl, ?_, ⟨_, rfl⟩, hW, hsame.mono (by decide) (by decide)⟩
 show Qrmhn0 Z a1 k1 h0 n0 _ T101.heap _
 rw [eh101]
 refine ⟨?_, N101, rfl⟩
 rfl
theorem pd_2 : parseMethodDescriptor "([BII)Z" = some ⟨[(.array .byte), .int, .int], some .boolean⟩ := by decide +kernel
theorem d15_13 : dC8 13 (.aload_n 0, 1) := by decide +kernel
theorem d15_14 : dC8 14 (.iload 4, 2) := by decide +kernel
theorem d15_16 : dC8 16 (.baload, 1) := by decide +kernel
theorem d15_17 : dC8 17 (.ifCond .ge 8, 3) := by decide +kernel
theorem d15_20 : dC8 20 (.iload 4, 2) := by decide +kernel
theorem d15_22 : dC8 22 (.iload_n 1, 1) := by decide +kernel
theorem d15_23 : dC8 23 (.isub, 1) := by decide +kernel
theorem d15_24 : dC8 24 (.ireturn, 1) := by decide +kernel
theorem d15_25 : dC8 25 (.iinc 4 1, 3) := by decide +kernel
theorem d15_28 : dC8 28 (.goto (-21), 3) := by decide +kernel
theorem ef_rmcp1 (m : MethodId) (a1 : Addr) (k1 : ClassId) (v0 : Int32) : entryFrame m #[(.ref a1), (.int 0), (.int 1)] 5 = mkF m 0 #[vR a1, vI 0, vI 1, uS, uS] [] := by first | (simp [entryFrame, mkF, argsToLocals, Value.category]; done) | rfl
def Qrmcp1 (Z : State) (a1 : Addr) (k1 : ClassId) (v0 : Int32) (h0 : Heap) (n0 : Nat) (v : Option Value) (h : Heap) (L : List Loc) : Prop := v = some (.int (own_cp1 v0)) ∧ Fr n0 L ∧ h = h0
set_option maxRecDepth 65536 in
set_option maxHeartbeats 40000000 in
theorem rmcp1 (l : Launch) (Z : State) (a0 : Array Value) (hw : ∀ d ∈ tables_1, d.before a0 Z = true) (ws : List Jvm.Cond) (a1 : Addr) (k1 : ClassId) (v0 : Int32) (h0 : Heap) (n0 : Nat) (Z0 : n0 ≤ h0.size) (V1 : Arv Z h0 a1 k1 .byte (1 : Int32) [(.int v0)] (.int 0)) :
    MetFree l Y8 (head1 (Jvm.Cond.code Y8 jdk_123_method_3_code 5 (some .int) :: ws) Rm0) (fun a U => a = #[(.ref a1), (.int 0), (.int 1)] ∧ Z.Warmed39 U.vm ∧ U.heap = h0) (fun _ _ _ _ _ => True) (fun _ U o U' => ∃ v L, o = .returned v ∧ Qrmcp1 Z a1 k1 v0 h0 n0 v U'.heap L ∧ FrameEnd U o U' L Rm0.cells Rm0.slots) := by
 refine MetFree.of_bodySF (plainFor_of_name pn_3) hisR ?_
 intro p e s m args below meth c s₁ Bd hml0 hP hK
 obtain ⟨rfl, hZ, hh⟩ := hP
 have hx := Bd.exec
 have hby := Bd.bytes
 have hml : c.maxLocals = 5 := hml0
 have hown : s.vm.findClass "java/lang/StringCoding" = some m.cls := findClass_of_methodNamed Bd.named
 have hnm := (name_of_methodNamed Bd.named Bd.method).1
 have X0 : Stand p l e Rm0 s m #[(.ref a1), (.int 0), (.int 1)] below meth c s₁ [] 0 0 := Stand.of_body Bd
 have e0 : s₁.heap = h0 := by rw [← hh, Bd.state]; rfl
 have N0 := Fr.nil n0
 show Go p.tables e below (fun o U' => ∃ v L, o = .returned v ∧ Qrmcp1 Z a1 k1 v0 h0 n0 v U'.heap L ∧ FrameEnd s o U' L Rm0.cells Rm0.slots) _
 refine Go.step (fun t kt => castTop (ef_rmcp1 m a1 k1 v0) kt) ?_
 show Go p.tables e below _ (s₁.setTop (mkF m 0 #[vR a1, vI 0, vI 1, uS, uS] []))
 refine Go.step (fun _ kt => XS.iloadN X0.here hx rfl (hb hby d15_0) rfl (XS.iloadN X0.here hx rfl (hb hby d15_1) rfl (XS.iadd X0.here hx rfl (hb hby d15_2) rfl kt))) ?_
 show Go p.tables e below _ (s₁.setTop (mkF m 3 #[vR a1, vI 0, vI 1, uS, uS] [(.int ((0 : Int32) + (1 : Int32)))]))
 have q101 : ((0 : Int32) + (1 : Int32)) = (1 : Int32) := by decide
 rw [q101]
 show Go p.tables e below _ (s₁.setTop (mkF m 3 #[vR a1, vI 0, vI 1, uS, uS] [(.int 1)]))
 refine Go.step (fun _ kt => XS.istoreN X0.here hx rfl (hb hby d15_3) rfl (l' := #[vR a1, vI 0, vI 1, vI 1, uS]) rfl (XS.iloadN X0.here hx rfl (hb hby d15_4) rfl (XS.istore X0.here hx rfl (hb hby d15_5) rfl (l' := #[vR a1, vI 0, vI 1, vI 1, vI 0]) rfl (XS.iload X0.here hx rfl (hb hby d15_7) rfl (XS.iloadN X0.here hx rfl (hb hby d15_9) rfl (XS.icmpNo X0.here hx rfl (hb hby d15_10) rfl (tlt (by decide : (0 : Int32) < (1 : Int32))).2.1 (XS.aloadN X0.here hx rfl (hb hby d15_13) rfl rfl (XS.iload X0.here hx rfl (hb hby d15_14) rfl kt)))))))) ?_
 show Go p.tables e below _ (s₁.setTop (mkF m 16 #[vR a1, vI 0, vI 1, vI 1, vI 0] [(.int 0), (.ref a1)]))
 obtain ⟨cl102, Ar102, qa102, Sa102, Na102, Ha102, Ga102⟩ := (id V1)
 have hin102 : ¬ ((0 : Int32) < 0 ∨ cl102.slots.size ≤ ((0 : Int32)).toNatClampNeg) := inb_of Sa102 ⟨by decide, by decide⟩
 have hat102 : cl102.slots[((0 : Int32)).toNatClampNeg]? = some (.int v0) := at_of Ha102 hin102 rfl
 refine Go.step (X0.baloadBytes hx (j := (0 : Int32)) (v := (.int v0)) (by rw [e0]; exact Ar102.1) (State.isArrayOf_alike hZ.alike Ar102.2.1) Ar102.2.2 hin102 hat102 (g := (mkF m 16 #[vR a1, vI 0, vI 1, vI 1, vI 0] [(.int 0), (.ref a1)])) rfl rfl (hb hby d15_16)) ?_
 show Go p.tables e below _ (s₁.setTop (mkF m 17 #[vR a1, vI 0, vI 1, vI 1, vI 0] [(.int v0)]))
 by_cases hc17_103 : v0 < (0 : Int32)
 ·refine Go.step (fun _ kt => XS.ifNo X0.here hx rfl (hb hby d15_17) rfl ((if0 _ _).trans (tlt hc17_103).2.1) (XS.iload X0.here hx rfl (hb hby d15_20) rfl (XS.iloadN X0.here hx rfl (hb hby d15_22) rfl (XS.isub X0.here hx rfl (hb hby d15_23) rfl kt)))) ?_
  show Go p.tables e below _ (s₁.setTop (mkF m 24 #[vR a1, vI 0, vI 1, vI 1, vI 0] [(.int ((0 : Int32) - (0 : Int32)))]))
  have q104 : ((0 : Int32) - (0 : Int32)) = (0 : Int32) := by decide
  rw [q104]
  show Go p.tables e below _ (s₁.setTop (mkF m 24 #[vR a1, vI 0, vI 1, vI 1, vI 0] [(.int 0)]))
  obtain ⟨fs, hr, hrun, hended, hW, hsame⟩ := X0.leave (v := some (.int 0)) (fun h => by rw [Bd.returns] at h; cases h)
  refine ⟨_, _, retI X0 hx Bd.returns (hb hby d15_24) hr, hrun, hended, _, _, rfl, ?_, ⟨_, rfl⟩, hW, hsame.mono (by decide) (by decide)⟩
  show Qrmcp1 Z a1 k1 v0 h0 n0 _ s₁.heap _
  rw [e0]
  refine ⟨?_, N0, rfl⟩
  have q : own_cp1 v0 = (0 : Int32) := by unfold own_cp1; rw [if_pos hc17_103]
  rw [q]
 ·refine Go.step (fun _ kt => XS.ifYes X0.here hx rfl (pc0 := 17) (pc' := 25) rfl (hb hby d15_17) rfl ((if0 _ _).trans (flt hc17_103).2.1) (by decide) (by decide) (XS.iinc X0.here hx rfl (hb hby d15_25) rfl (l' := #[vR a1, vI 0, vI 1, vI 1, vI ((0 : Int32) + (1 : Int32))]) rfl kt)) ?_
  show Go p.tables e below _ (s₁.setTop (mkF m 28 #[vR a1, vI 0, vI 1, vI 1, vI ((0 : Int32) + (1 : Int32))] []))
  have q105 : ((0 : Int32) + (1 : Int32)) = (1 : Int32) := by decide
  rw [q105]
  show Go p.tables e below _ (s₁.setTop (mkF m 28 #[vR a1, vI 0, vI 1, vI 1, vI 1] []))
  refine Go.step (fun _ kt => XS.goto X0.here hx rfl (pc0 := 28) (pc' := 7) rfl (hb hby d15_28) (by decide) (by decide) (XS.iload X0.here hx rfl (hb hby d15_7) rfl (XS.iloadN X0.here hx rfl (hb hby d15_9) rfl (XS.icmpYes X0.here hx rfl (pc0 := 10) (pc' := 31) rfl (hb hby d15_10) rfl (flt (by decide : ¬ ((1 : Int32) < (1 : Int32)))).2.1 (by decide) (by decide) (XS.iloadN X0.here hx rfl (hb hby d15_31) rfl kt))))) ?_
  show Go p.tables e below _ (s₁.setTop (mkF m 32 #[vR a1, vI 0, vI 1, vI 1, vI 1] [(.int 1)]))
  obtain ⟨fs, hr, hrun, hended, hW, hsame⟩ := X0.leave (v := some (.int 1)) (fun h => by rw [Bd.returns] at h; cases h)
  refine ⟨_, _, retI X0 hx Bd.returns (hb hby d15_32) hr, hrun, hended, _, _, rfl, ?_, ⟨_, rfl⟩, hW, hsame.mono (by decide) (by decide)⟩
  show Qrmcp1 Z a1 k1 v0 h0 n0 _ s₁.heap _
  rw [e0]
  refine ⟨?_, N0, rfl⟩
  have q : own_cp1 v0 = (1 : Int32) := by unfold own_cp1; rw [if_neg hc17_103]
  rw [q]
theorem d14_10 : dC9 10 (.iconst 1, 1) := by decide +kernel
theorem d14_11 : dC9 11 (.goto 4, 3) := by decide +kernel
theorem ef_rmhn1 (m : MethodId) (a1 : Addr) (k1 : ClassId) (v0 : Int32) : entryFrame m #[(.ref a1), (.int 0), (.int 1)] 3 = mkF m 0 #[vR a1, vI 0, vI 1] [] := by first | (simp [entryFrame, mkF, argsToLocals, Value.category]; done) | rfl
def Qrmhn1 (Z : State) (a1 : Addr) (k1 : ClassId) (v0 : Int32) (h0 : Heap) (n0 : Nat) (v : Option Value) (h : Heap) (L : List Loc) : Prop := v = some (.int (own_hn1 v0)) ∧ Fr n0 L ∧ h = h0
set_option maxRecDepth 65536 in
set_option maxHeartbeats 40000000 in
theorem rmhn1 (l : Launch) (Z : State) (a0 : Array Value) (hw : ∀ d ∈ tables_1, d.before a0 Z = true) (ws : List Jvm.Cond) (a1 : Addr) (k1 : ClassId) (v0 : Int32) (h0 : Heap) (n0 : Nat) (Z0 : n0 ≤ h0.size) (V1 : Arv Z h0 a1 k1 .byte (1 : Int32) [(.int v0)] (.int 0)) :
    MetFree l Y9 (head1 (Jvm.Cond.code Y9 jdk_123_method_2_code 3 (some .boolean) :: ws) Rm2) (fun a U => a = #[(.ref a1), (.int 0), (.int 1)] ∧ Z.Warmed39 U.vm ∧ U.heap = h0) (fun _ _ _ _ _ => True) (fun _ U o U' => ∃ v L, o = .returned v ∧ Qrmhn1 Z a1 k1 v0 h0 n0 v U'.heap L ∧ FrameEnd U o U' L Rm2.cells Rm2.slots) := by
 refine MetFree.of_bodySF (plainFor_of_name pn_3) hisR ?_
 intro p e s m args below meth c s₁ Bd hml0 hP hK
 obtain ⟨rfl, hZ, hh⟩ := hP
 have hx := Bd.exec
 have hby := Bd.bytes
 have hml : c.maxLocals = 3 := hml0
 have hown : s.vm.findClass "java/lang/StringCoding" = some m.cls := findClass_of_methodNamed Bd.named
 have hnm := (name_of_methodNamed Bd.named Bd.method).1
 have X0 : Stand p l e Rm2 s m #[(.ref a1), (.int 0), (.int 1)] below meth c s₁ [] 0 0 := Stand.of_body Bd
 have e0 : s₁.heap = h0 := by rw [← hh, Bd.state]; rfl
 have N0 := Fr.nil n0
 show Go p.tables e below (fun o U' => ∃ v L, o = .returned v ∧ Qrmhn1 Z a1 k1 v0 h0 n0 v U'.heap L ∧ FrameEnd s o U' L Rm2.cells Rm2.slots) _
 refine Go.step (fun t kt => castTop (ef_rmhn1 m a1 k1 v0) kt) ?_
 show Go p.tables e below _ (s₁.setTop (mkF m 0 #[vR a1, vI 0, vI 1] []))
 refine Go.step (fun _ kt => XS.aloadN X0.here hx rfl (hb hby d14_0) rfl rfl (XS.iloadN X0.here hx rfl (hb hby d14_1) rfl (XS.iloadN X0.here hx rfl (hb hby d14_2) rfl kt))) ?_
 obtain ⟨_, _, ⟨T101, L101, k101, n101⟩, -, X101, ⟨Lc101, hQ101, l101, y101, z101⟩, st101⟩ := Jvm.LawKit.callS X0 hx (y := Y8) hown (mvT hZ (w67 hw)) (mvT hZ (w68 hw)) (mvT hZ (w65 hw)) (mvT hZ (w69 hw)) (by decide) (backOf (W := 0) (rmcp1 l Z a0 hw [] a1 k1 v0 h0 n0 Z0 V1 ) hZ (w69 hw) (w65 hw) (by decide) (by decide)) (g := (mkF m 3 #[vR a1, vI 0, vI 1] [(.int 1), (.int 0), (.ref a1)])) rfl hml.symm (argsL := [(.ref a1), (.int 0), (.int 1)]) (rest := []) (lenOf pd_1 rfl) rfl (Nat.le_of_eq rfl) (hb hby d14_3) (fun _ _ => ⟨rfl, e0, (by decide : 0 + 0 ≤ _), (by decide : 0 + 0 ≤ _)⟩)
 dsimp only [Pt.U, Pt.locs, Pt.cells, Pt.slots] at X101 l101 y101 z101 st101 hQ101
 subst l101 y101 z101
 obtain ⟨rfl, N101q, eh101⟩ := hQ101
 have N101 := Fr.app N0 N101q
 refine Go.step st101 ?_
 show Go p.tables e below _ (T101.setTop (mkF m 6 #[vR a1, vI 0, vI 1] [(.int (own_cp1 v0))]))
 refine Go.step (fun _ kt => XS.iloadN X101.here hx rfl (hb hby d14_6) rfl kt) ?_
 show Go p.tables e below _ (T101.setTop (mkF m 7 #[vR a1, vI 0, vI 1] [(.int 1), (.int (own_cp1 v0))]))
 by_cases hc7_102 : (own_cp1 v0) = (1 : Int32)
 ·refine Go.step (fun _ kt => XS.icmpYes X101.here hx rfl (pc0 := 7) (pc' := 14) rfl (hb hby d14_7) rfl (teq hc7_102).1 (by decide) (by decide) (XS.iconst X101.here hx rfl (hb hby d14_14) kt)) ?_
  show Go p.tables e below _ (T101.setTop (mkF m 15 #[vR a1, vI 0, vI 1] [(.int 0)]))
  obtain ⟨fs, hr, hrun, hended, hW, hsame⟩ := X101.leave (v := some (.int 0)) (fun h => by rw [Bd.returns] at h; cases h)
  refine ⟨_, _, retN X101 hx (t := .boolean) Bd.returns (by simp) (hb hby d14_15) hr, hrun, hended, _, _, rfl, ?_, ⟨_, rfl⟩, hW, hsame.mono (by decide) (by decide)⟩
  show Qrmhn1 Z a1 k1 v0 h0 n0 _ T101.heap _
  rw [eh101]
  refine ⟨?_, N101, rfl⟩
  rw [own_hn1t hc7_102]
 ·refine Go.step (fun _ kt => XS.icmpNo X101.here hx rfl (hb hby d14_7) rfl (feq hc7_102).1 (XS.iconst X101.here hx rfl (hb hby d14_10) (XS.goto X101.here hx rfl (pc0 := 11) (pc' := 15) rfl (hb hby d14_11) (by decide) (by decide) kt))) ?_
  show Go p.tables e below _ (T101.setTop (mkF m 15 #[vR a1, vI 0, vI 1] [(.int 1)]))
  obtain ⟨fs, hr, hrun, hended, hW, hsame⟩ := X101.leave (v := some (.int 1)) (fun h => by rw [Bd.returns] at h; cases h)
  refine ⟨_, _, retN X101 hx (t := .boolean) Bd.returns (by simp) (hb hby d14_15) hr, hrun, hended, _, _, rfl, ?_, ⟨_, rfl⟩, hW, hsame.mono (by decide) (by decide)⟩
  show Qrmhn1 Z a1 k1 v0 h0 n0 _ T101.heap _
  rw [eh101]
  refine ⟨?_, N101, rfl⟩
  rw [own_hn1f hc7_102]
theorem pn_4 : plainName "java/lang/StringUTF16" = true := by first | (simp [plainName, overriddenIn]; done) | decide +kernel
theorem d19_0 : dC10 0 (.iload_n 0, 1) := by decide +kernel
theorem d19_1 : dC10 1 (.ifCond .ge 11, 3) := by decide +kernel
theorem d19_12 : dC10 12 (.iload_n 0, 1) := by decide +kernel
theorem d19_13 : dC10 13 (.ldc 20, 2) := by decide +kernel
theorem d19_15 : dC10 15 (.if_icmp .lt 40, 3) := by decide +kernel
theorem d19_55 : dC10 55 (.iload_n 0, 1) := by decide +kernel
theorem d19_56 : dC10 56 (.iconst 1, 1) := by decide +kernel
theorem d19_57 : dC10 57 (.ishl, 1) := by decide +kernel
theorem d19_58 : dC10 58 (.ireturn, 1) := by decide +kernel
theorem ef_rmnl1 (m : MethodId)  : entryFrame m #[(.int 1)] 1 = mkF m 0 #[vI 1] [] := by first | (simp [entryFrame, mkF, argsToLocals, Value.category]; done) | rfl
def Qrmnl1 (Z : State)  (h0 : Heap) (n0 : Nat) (v : Option Value) (h : Heap) (L : List Loc) : Prop := v = some (.int 2) ∧ Fr n0 L ∧ h = h0
set_option maxRecDepth 65536 in
set_option maxHeartbeats 40000000 in
theorem rmnl1 (l : Launch) (Z : State) (a0 : Array Value) (hw : ∀ d ∈ tables_1, d.before a0 Z = true) (ws : List Jvm.Cond)  (h0 : Heap) (n0 : Nat) (Z0 : n0 ≤ h0.size) :
    MetFree l Y10 (head1 (Jvm.Cond.code Y10 jdk_52_method_3_code 1 (some .int) :: ws) Rm0) (fun a U => a = #[(.int 1)] ∧ Z.Warmed39 U.vm ∧ U.heap = h0) (fun _ _ _ _ _ => True) (fun _ U o U' => ∃ v L, o = .returned v ∧ Qrmnl1 Z  h0 n0 v U'.heap L ∧ FrameEnd U o U' L Rm0.cells Rm0.slots) := by
 refine MetFree.of_bodySF (plainFor_of_name pn_4) hisR ?_
 intro p e s m args below meth c s₁ Bd hml0 hP hK
 obtain ⟨rfl, hZ, hh⟩ := hP
 have hx := Bd.exec
 have hby := Bd.bytes
 have hml : c.maxLocals = 1 := hml0
 have hown : s.vm.findClass "java/lang/StringUTF16" = some m.cls := findClass_of_methodNamed Bd.named
 have hnm := (name_of_methodNamed Bd.named Bd.method).1
 have X0 : Stand p l e Rm0 s m #[(.int 1)] below meth c s₁ [] 0 0 := Stand.of_body Bd
 have e0 : s₁.heap = h0 := by rw [← hh, Bd.state]; rfl
 have N0 := Fr.nil n0
 show Go p.tables e below (fun o U' => ∃ v L, o = .returned v ∧ Qrmnl1 Z  h0 n0 v U'.heap L ∧ FrameEnd s o U' L Rm0.cells Rm0.slots) _
 refine Go.step (fun t kt => castTop (ef_rmnl1 m ) kt) ?_
 show Go p.tables e below _ (s₁.setTop (mkF m 0 #[vI 1] []))
 refine Go.step (fun _ kt => XS.iloadN X0.here hx rfl (hb hby d19_0) rfl (XS.ifYes X0.here hx rfl (pc0 := 1) (pc' := 12) rfl (hb hby d19_1) rfl ((if0 _ _).trans (flt (by decide : ¬ ((1 : Int32) < (0 : Int32)))).2.1) (by decide) (by decide) (XS.iloadN X0.here hx rfl (hb hby d19_12) rfl kt))) ?_
 show Go p.tables e below _ (s₁.setTop (mkF m 13 #[vI 1] [(.int 1)]))
 refine Go.step (X0.ldcInt hx hown (mvT hZ (w95 hw)) (g := (mkF m 13 #[vI 1] [(.int 1)])) rfl (hb hby d19_13)) ?_
 show Go p.tables e below _ (s₁.setTop (mkF m 15 #[vI 1] [(.int 1073741823), (.int 1)]))
 refine Go.step (fun _ kt => XS.icmpYes X0.here hx rfl (pc0 := 15) (pc' := 55) rfl (hb hby d19_15) rfl (tlt (by decide : (1 : Int32) < (1073741823 : Int32))).1 (by decide) (by decide) (XS.iloadN X0.here hx rfl (hb hby d19_55) rfl (XS.iconst X0.here hx rfl (hb hby d19_56) (XS.ishl X0.here hx rfl (hb hby d19_57) rfl kt)))) ?_
 show Go p.tables e below _ (s₁.setTop (mkF m 58 #[vI 1] [(.int ((1 : Int32) <<< ((1 : Int32) &&& 31)))]))
 have q101 : ((1 : Int32) <<< ((1 : Int32) &&& 31)) = (2 : Int32) := by decide
 rw [q101]
 show Go p.tables e below _ (s₁.setTop (mkF m 58 #[vI 1] [(.int 2)]))
 obtain ⟨fs, hr, hrun, hended, hW, hsame⟩ := X0.leave (v := some (.int 2)) (fun h => by rw [Bd.returns] at h; cases h)
 refine ⟨_, _, retI X0 hx Bd.returns (hb hby d19_58) hr, hrun, hended, _, _, rfl, ?_, ⟨_, rfl⟩, hW, hsame.mono (by decide) (by decide)⟩
 show Qrmnl1 Z  h0 n0 _ s₁.heap _
 rw [e0]
 refine ⟨?_, N0, rfl⟩
 rfl
theorem pd_3 : parseMethodDescriptor "(I)I" = some ⟨[.int], some .int⟩ := by decide +kernel
theorem d18_0 : dC11 0 (.iload_n 0, 1) := by decide +kernel
theorem d18_1 : dC11 1 (.invokestatic 11, 3) := by decide +kernel
theorem d18_4 : dC11 4 (.newarray .byte, 2) := by decide +kernel
theorem d18_6 : dC11 6 (.areturn, 1) := by decide +kernel
theorem ef_rmnf1_L (m : MethodId)  : entryFrame m #[(.int 1)] 1 = mkF m 0 #[vI 1] [] := by first | (simp [entryFrame, mkF, argsToLocals, Value.category]; done) | rfl
def Qrmnf1_L (Z : State)  (h0 : Heap) (n0 : Nat) (v : Option Value) (h : Heap) (L : List Loc) : Prop := ∃ r : Addr, ∃ kr : ClassId, v = some (.ref r) ∧ Fr n0 L ∧ Keep h0 h [] ∧ Exa Z h r "[B" ∧ Arv Z h r kr .byte (2 : Int32) (([] : List Int32).map Value.int) (.int 0) ∧ n0 ≤ r ∧ h0.size ≤ r
set_option maxRecDepth 65536 in
set_option maxHeartbeats 40000000 in
theorem rmnf1_L (l : Launch) (Z : State) (a0 : Array Value) (hw : ∀ d ∈ tables_1, d.before a0 Z = true) (ws : List Jvm.Cond)  (h0 : Heap) (n0 : Nat) (Z0 : n0 ≤ h0.size) :
    MetFree l Y11 (head1 (Jvm.Cond.code Y11 jdk_52_method_2_code 1 (some (.array .byte)) :: ws) Rm3) (fun a U => a = #[(.int 1)] ∧ Z.Warmed39 U.vm ∧ U.heap = h0) (fun _ _ _ _ _ => True) (fun _ U o U' => ∃ v L, o = .returned v ∧ Qrmnf1_L Z  h0 n0 v U'.heap L ∧ FrameEnd U o U' L Rm3.cells Rm3.slots) := by
 refine MetFree.of_bodySF (plainFor_of_name pn_4) hisR ?_
 intro p e s m args below meth c s₁ Bd hml0 hP hK
 obtain ⟨rfl, hZ, hh⟩ := hP
 have hx := Bd.exec
 have hby := Bd.bytes
 have hml : c.maxLocals = 1 := hml0
 have hown : s.vm.findClass "java/lang/StringUTF16" = some m.cls := findClass_of_methodNamed Bd.named
 have hnm := (name_of_methodNamed Bd.named Bd.method).1
 have X0 : Stand p l e Rm3 s m #[(.int 1)] below meth c s₁ [] 0 0 := Stand.of_body Bd
 have e0 : s₁.heap = h0 := by rw [← hh, Bd.state]; rfl
 have N0 := Fr.nil n0
 show Go p.tables e below (fun o U' => ∃ v L, o = .returned v ∧ Qrmnf1_L Z  h0 n0 v U'.heap L ∧ FrameEnd s o U' L Rm3.cells Rm3.slots) _
 refine Go.step (fun t kt => castTop (ef_rmnf1_L m ) kt) ?_
 show Go p.tables e below _ (s₁.setTop (mkF m 0 #[vI 1] []))
 have K101 : Keep h0 h0 [] := (Keep.refl h0 [])
 refine Go.step (fun _ kt => XS.iloadN X0.here hx rfl (hb hby d18_0) rfl kt) ?_
 obtain ⟨_, _, ⟨T102, L102, k102, n102⟩, -, X102, ⟨Lc102, hQ102, l102, y102, z102⟩, st102⟩ := Jvm.LawKit.callS X0 hx (y := Y10) hown (mvT hZ (w92 hw)) (mvT hZ (w93 hw)) (mvT hZ (w18 hw)) (mvT hZ (w94 hw)) (by decide) (backOf (W := 0) (rmnl1 l Z a0 hw []   h0 n0 Z0  ) hZ (w94 hw) (w18 hw) (by decide) (by decide)) (g := (mkF m 1 #[vI 1] [(.int 1)])) rfl hml.symm (argsL := [(.int 1)]) (rest := []) (lenOf pd_3 rfl) rfl (Nat.le_of_eq rfl) (hb hby d18_1) (fun _ _ => ⟨rfl, e0, (by decide : 0 + 0 ≤ _), (by decide : 0 + 0 ≤ _)⟩)
 dsimp only [Pt.U, Pt.locs, Pt.cells, Pt.slots] at X102 l102 y102 z102 st102 hQ102
 subst l102 y102 z102
 obtain ⟨rfl, N102q, eh102⟩ := hQ102
 have N102 := Fr.app N0 N102q
 refine Go.step st102 ?_
 obtain ⟨T103, h103, k103, X103, e103, E103, A103, Ex103, st103⟩ := newPE (aty := .byte) X102 hx hZ (w20 hw) eh102 (g := (mkF m 4 #[vI 1] [(.int 2)])) rfl (hb hby d18_4) rfl (by decide) (cap := 2) (by decide) (by decide) (by decide) (by decide) (ad := "[B") own_adB
 obtain ⟨b103, g103⟩ : ∃ z, z = h0.size := ⟨_, rfl⟩
 rw [← g103] at A103 Ex103 st103
 refine Go.step st103 ?_
 have g_b103 : n0 ≤ b103 := Nat.le_trans Z0 (Nat.le_of_eq g103.symm)
 have sz_b103 : h0.size ≤ b103 := Nat.le_trans K101.1 (Nat.le_of_eq g103.symm)
 have Z104 : n0 ≤ h103.size := (Nat.le_trans Z0 E103.1)
 have K105 : Keep h0 h103 [] := (K101.ext E103)
 have V106 : Arv Z h103 b103 k103 .byte (2 : Int32) (([] : List Int32).map Value.int) (.int 0) := Arv.new A103 (by decide)
 show Go p.tables e below _ (T103.setTop (mkF m 6 #[vI 1] [(.ref b103)]))
 obtain ⟨fs, hr, hrun, hended, hW, hsame⟩ := X103.leave (v := some (.ref b103)) (fun h => by rw [Bd.returns] at h; cases h)
 refine ⟨_, _, retOut X103 hx Bd.returns rfl (Or.inr (Or.inr (Or.inr (Or.inr ⟨rfl, rfl, rfl⟩)))) (hb hby d18_6) hr, hrun, hended, _, _, rfl, ?_, ⟨_, rfl⟩, hW, hsame.mono (by decide) (by decide)⟩
 show Qrmnf1_L Z  h0 n0 _ T103.heap _
 rw [e103]
 refine ⟨b103, k103, ?_, N102, K105, Ex103, V106, g_b103, sz_b103⟩
 rfl
theorem pd_4 : parseMethodDescriptor "(I)[B" = some ⟨[.int], some (.array .byte)⟩ := by decide +kernel
theorem pd_5 : parseMethodDescriptor "([BI)[B" = some ⟨[(.array .byte), .int], some (.array .byte)⟩ := by decide +kernel
theorem ef_rmcp2 (m : MethodId) (a1 : Addr) (k1 : ClassId) (v0 : Int32) (v1 : Int32) : entryFrame m #[(.ref a1), (.int 0), (.int 2)] 5 = mkF m 0 #[vR a1, vI 0, vI 2, uS, uS] [] := by first | (simp [entryFrame, mkF, argsToLocals, Value.category]; done) | rfl
def Qrmcp2 (Z : State) (a1 : Addr) (k1 : ClassId) (v0 : Int32) (v1 : Int32) (h0 : Heap) (n0 : Nat) (v : Option Value) (h : Heap) (L : List Loc) : Prop := v = some (.int (own_cp2 v0 v1)) ∧ Fr n0 L ∧ h = h0
set_option maxRecDepth 65536 in
set_option maxHeartbeats 40000000 in
theorem rmcp2 (l : Launch) (Z : State) (a0 : Array Value) (hw : ∀ d ∈ tables_1, d.before a0 Z = true) (ws : List Jvm.Cond) (a1 : Addr) (k1 : ClassId) (v0 : Int32) (v1 : Int32) (h0 : Heap) (n0 : Nat) (Z0 : n0 ≤ h0.size) (V1 : Arv Z h0 a1 k1 .byte (2 : Int32) [(.int v0), (.int v1)] (.int 0)) :
    MetFree l Y8 (head1 (Jvm.Cond.code Y8 jdk_123_method_3_code 5 (some .int) :: ws) Rm0) (fun a U => a = #[(.ref a1), (.int 0), (.int 2)] ∧ Z.Warmed39 U.vm ∧ U.heap = h0) (fun _ _ _ _ _ => True) (fun _ U o U' => ∃ v L, o = .returned v ∧ Qrmcp2 Z a1 k1 v0 v1 h0 n0 v U'.heap L ∧ FrameEnd U o U' L Rm0.cells Rm0.slots) := by
 refine MetFree.of_bodySF (plainFor_of_name pn_3) hisR ?_
 intro p e s m args below meth c s₁ Bd hml0 hP hK
 obtain ⟨rfl, hZ, hh⟩ := hP
 have hx := Bd.exec
 have hby := Bd.bytes
 have hml : c.maxLocals = 5 := hml0
 have hown : s.vm.findClass "java/lang/StringCoding" = some m.cls := findClass_of_methodNamed Bd.named
 have hnm := (name_of_methodNamed Bd.named Bd.method).1
 have X0 : Stand p l e Rm0 s m #[(.ref a1), (.int 0), (.int 2)] below meth c s₁ [] 0 0 := Stand.of_body Bd
 have e0 : s₁.heap = h0 := by rw [← hh, Bd.state]; rfl
 have N0 := Fr.nil n0
 show Go p.tables e below (fun o U' => ∃ v L, o = .returned v ∧ Qrmcp2 Z a1 k1 v0 v1 h0 n0 v U'.heap L ∧ FrameEnd s o U' L Rm0.cells Rm0.slots) _
 refine Go.step (fun t kt => castTop (ef_rmcp2 m a1 k1 v0 v1) kt) ?_
 show Go p.tables e below _ (s₁.setTop (mkF m 0 #[vR a1, vI 0, vI 2, uS, uS] []))
 refine Go.step (fun _ kt => XS.iloadN X0.here hx rfl (hb hby d15_0) rfl (XS.iloadN X0.here hx rfl (hb hby d15_1) rfl (XS.iadd X0.here hx rfl (hb hby d15_2) rfl kt))) ?_
 show Go p.tables e below _ (s₁.setTop (mkF m 3 #[vR a1, vI 0, vI 2, uS, uS] [(.int ((0 : Int32) + (2 : Int32)))]))
 have q101 : ((0 : Int32) + (2 : Int32)) = (2 : Int32) := by decide
 rw [q101]
 show Go p.tables e below _ (s₁.setTop (mkF m 3 #[vR a1, vI 0, vI 2, uS, uS] [(.int 2)]))
 refine Go.step (fun _ kt => XS.istoreN X0.here hx rfl (hb hby d15_3) rfl (l' := #[vR a1, vI 0, vI 2, vI 2, uS]) rfl (XS.iloadN X0.here hx rfl (hb hby d15_4) rfl (XS.istore X0.here hx rfl (hb hby d15_5) rfl (l' := #[vR a1, vI 0, vI 2, vI 2, vI 0]) rfl (XS.iload X0.here hx rfl (hb hby d15_7) rfl (XS.iloadN X0.here hx rfl (hb hby d15_9) rfl (XS.icmpNo X0.here hx rfl (hb hby d15_10) rfl (tlt (by decide : (0 : Int32) < (2 : Int32))).2.1 (XS.aloadN X0.here hx rfl (hb hby d15_13) rfl rfl (XS.iload X0.here hx rfl (hb hby d15_14) rfl kt)))))))) ?_
 show Go p.tables e below _ (s₁.setTop (mkF m 16 #[vR a1, vI 0, vI 2, vI 2, vI 0] [(.int 0), (.ref a1)]))
 obtain ⟨cl102, Ar102, qa102, Sa102, Na102, Ha102, Ga102⟩ := (id V1)
 have hin102 : ¬ ((0 : Int32) < 0 ∨ cl102.slots.size ≤ ((0 : Int32)).toNatClampNeg) := inb_of Sa102 ⟨by decide, by decide⟩
 have hat102 : cl102.slots[((0 : Int32)).toNatClampNeg]? = some (.int v0) := at_of Ha102 hin102 rfl
 refine Go.step (X0.baloadBytes hx (j := (0 : Int32)) (v := (.int v0)) (by rw [e0]; exact Ar102.1) (State.isArrayOf_alike hZ.alike Ar102.2.1) Ar102.2.2 hin102 hat102 (g := (mkF m 16 #[vR a1, vI 0, vI 2, vI 2, vI 0] [(.int 0), (.ref a1)])) rfl rfl (hb hby d15_16)) ?_
 show Go p.tables e below _ (s₁.setTop (mkF m 17 #[vR a1, vI 0, vI 2, vI 2, vI 0] [(.int v0)]))
 by_cases hc17_103 : v0 < (0 : Int32)
 ·refine Go.step (fun _ kt => XS.ifNo X0.here hx rfl (hb hby d15_17) rfl ((if0 _ _).trans (tlt hc17_103).2.1) (XS.iload X0.here hx rfl (hb hby d15_20) rfl (XS.iloadN X0.here hx rfl (hb hby d15_22) rfl (XS.isub X0.here hx rfl (hb hby d15_23) rfl kt)))) ?_
  show Go p.tables e below _ (s₁.setTop (mkF m 24 #[vR a1, vI 0, vI 2, vI 2, vI 0] [(.int ((0 : Int32) - (0 : Int32)))]))
  have q104 : ((0 : Int32) - (0 : Int32)) = (0 : Int32) := by decide
  rw [q104]
  show Go p.tables e below _ (s₁.setTop (mkF m 24 #[vR a1, vI 0, vI 2, vI 2, vI 0] [(.int 0)]))
  obtain ⟨fs, hr, hrun, hended, hW, hsame⟩ := X0.leave (v := some (.int 0)) (fun h => by rw [Bd.returns] at h; cases h)
  refine ⟨_, _, retI X0 hx Bd.returns (hb hby d15_24) hr, hrun, hended, _, _, rfl, ?_, ⟨_, rfl⟩, hW, hsame.mono (by decide) (by decide)⟩
  show Qrmcp2 Z a1 k1 v0 v1 h0 n0 _ s₁.heap _
  rw [e0]
  refine ⟨?_, N0, rfl⟩
  have q : own_cp2 v0 v1 = (0 : Int32) := by unfold own_cp2; rw [if_pos hc17_103]
  rw [q]
 ·refine Go.step (fun _ kt => XS.ifYes X0.here hx rfl (pc0 := 17) (pc' := 25) rfl (hb hby d15_17) rfl ((if0 _ _).trans (flt hc17_103).2.1) (by decide) (by decide) (XS.iinc X0.here hx rfl (hb hby d15_25) rfl (l' := #[vR a1, vI 0, vI 2, vI 2, vI ((0 : Int32) + (1 : Int32))]) rfl kt)) ?_
  show Go p.tables e below _ (s₁.setTop (mkF m 28 #[vR a1, vI 0, vI 2, vI 2, vI ((0 : Int32) + (1 : Int32))] []))
  have q105 : ((0 : Int32) + (1 : Int32)) = (1 : Int32) := by decide
  rw [q105]
  show Go p.tables e below _ (s₁.setTop (mkF m 28 #[vR a1, vI 0, vI 2, vI 2, vI 1] []))
  refine Go.step (fun _ kt => XS.goto X0.here hx rfl (pc0 := 28) (pc' := 7) rfl (hb hby d15_28) (by decide) (by decide) (XS.iload X0.here hx rfl (hb hby d15_7) rfl (XS.iloadN X0.here hx rfl (hb hby d15_9) rfl (XS.icmpNo X0.here hx rfl (hb hby d15_10) rfl (tlt (by decide : (1 : Int32) < (2 : Int32))).2.1 (XS.aloadN X0.here hx rfl (hb hby d15_13) rfl rfl (XS.iload X0.here hx rfl (hb hby d15_14) rfl kt)))))) ?_
  show Go p.tables e below _ (s₁.setTop (mkF m 16 #[vR a1, vI 0, vI 2, vI 2, vI 1] [(.int 1), (.ref a1)]))
  obtain ⟨cl106, Ar106, qa106, Sa106, Na106, Ha106, Ga106⟩ := (id V1)
  have hin106 : ¬ ((1 : Int32) < 0 ∨ cl106.slots.size ≤ ((1 : Int32)).toNatClampNeg) := inb_of Sa106 ⟨by decide, by decide⟩
  have hat106 : cl106.slots[((1 : Int32)).toNatClampNeg]? = some (.int v1) := at_of Ha106 hin106 rfl
  refine Go.step (X0.baloadBytes hx (j := (1 : Int32)) (v := (.int v1)) (by rw [e0]; exact Ar106.1) (State.isArrayOf_alike hZ.alike Ar106.2.1) Ar106.2.2 hin106 hat106 (g := (mkF m 16 #[vR a1, vI 0, vI 2, vI 2, vI 1] [(.int 1), (.ref a1)])) rfl rfl (hb hby d15_16)) ?_
  show Go p.tables e below _ (s₁.setTop (mkF m 17 #[vR a1, vI 0, vI 2, vI 2, vI 1] [(.int v1)]))
  by_cases hc17_107 : v1 < (0 : Int32)
  ·refine Go.step (fun _ kt => XS.ifNo X0.here hx rfl (hb hby d15_17) rfl ((if0 _ _).trans (tlt hc17_107).2.1) (XS.iload X0.here hx rfl (hb hby d15_20) rfl (XS.iloadN X0.here hx rfl (hb hby d15_22) rfl (XS.isub X0.here hx rfl (hb hby d15_23) rfl kt)))) ?_
   show Go p.tables e below _ (s₁.setTop (mkF m 24 #[vR a1, vI 0, vI 2, vI 2, vI 1] [(.int ((1 : Int32) - (0 : Int32)))]))
   have q108 : ((1 : Int32) - (0 : Int32)) = (1 : Int32) := by decide
   rw [q108]
   show Go p.tables e below _ (s₁.setTop (mkF m 24 #[vR a1, vI 0, vI 2, vI 2, vI 1] [(.int 1)]))
   obtain ⟨fs, hr, hrun, hended, hW, hsame⟩ := X0.leave (v := some (.int 1)) (fun h => by rw [Bd.returns] at h; cases h)
   refine ⟨_, _, retI X0 hx Bd.returns (hb hby d15_24) hr, hrun, hended, _, _, rfl, ?_, ⟨_, rfl⟩, hW, hsame.mono (by decide) (by decide)⟩
   show Qrmcp2 Z a1 k1 v0 v1 h0 n0 _ s₁.heap _
   rw [e0]
   refine ⟨?_, N0, rfl⟩
   have q : own_cp2 v0 v1 = (1 : Int32) := by unfold own_cp2; rw [if_neg hc17_103, if_pos hc17_107]
   rw [q]
  ·refine Go.step (fun _ kt => XS.ifYes X0.here hx rfl (pc0 := 17) (pc' := 25) rfl (hb hby d15_17) rfl ((if0 _ _).trans (flt hc17_107).2.1) (by decide) (by decide) (XS.iinc X0.here hx rfl (hb hby d15_25) rfl (l' := #[vR a1, vI 0, vI 2, vI 2, vI ((1 : Int32) + (1 : Int32))]) rfl kt)) ?_
   show Go p.tables e below _ (s₁.setTop (mkF m 28 #[vR a1, vI 0, vI 2, vI 2, vI ((1 : Int32) + (1 : Int32))] []))
   have q109 : ((1 : Int32) + (1 : Int32)) = (2 : Int32) := by decide
   rw [q109]
   show Go p.tables e below _ (s₁.setTop (mkF m 28 #[vR a1, vI 0, vI 2, vI 2, vI 2] []))
   refine Go.step (fun _ kt => XS.goto X0.here hx rfl (pc0 := 28) (pc' := 7) rfl (hb hby d15_28) (by decide) (by decide) (XS.iload X0.here hx rfl (hb hby d15_7) rfl (XS.iloadN X0.here hx rfl (hb hby d15_9) rfl (XS.icmpYes X0.here hx rfl (pc0 := 10) (pc' := 31) rfl (hb hby d15_10) rfl (flt (by decide : ¬ ((2 : Int32) < (2 : Int32)))).2.1 (by decide) (by decide) (XS.iloadN X0.here hx rfl (hb hby d15_31) rfl kt))))) ?_
   show Go p.tables e below _ (s₁.setTop (mkF m 32 #[vR a1, vI 0, vI 2, vI 2, vI 2] [(.int 2)]))
   obtain ⟨fs, hr, hrun, hended, hW, hsame⟩ := X0.leave (v := some (.int 2)) (fun h => by rw [Bd.returns] at h; cases h)
   refine ⟨_, _, retI X0 hx Bd.returns (hb hby d15_32) hr, hrun, hended, _, _, rfl, ?_, ⟨_, rfl⟩, hW, hsame.mono (by decide) (by decide)⟩
   show Qrmcp2 Z a1 k1 v0 v1 h0 n0 _ s₁.heap _
   rw [e0]
   refine ⟨?_, N0, rfl⟩
   have q : own_cp2 v0 v1 = (2 : Int32) := by unfold own_cp2; rw [if_neg hc17_103, if_neg hc17_107]
   rw [q]
theorem ef_rmhn2 (m : MethodId) (a1 : Addr) (k1 : ClassId) (v0 : Int32) (v1 : Int32) : entryFrame m #[(.ref a1), (.int 0), (.int 2)] 3 = mkF m 0 #[vR a1, vI 0, vI 2] [] := by first | (simp [entryFrame, mkF, argsToLocals, Value.category]; done) | rfl
def Qrmhn2 (Z : State) (a1 : Addr) (k1 : ClassId) (v0 : Int32) (v1 : Int32) (h0 : Heap) (n0 : Nat) (v : Option Value) (h : Heap) (L : List Loc) : Prop := v = some (.int (own_hn2 v0 v1)) ∧ Fr n0 L ∧ h = h0
set_option maxRecDepth 65536 in
set_option maxHeartbeats 40000000 in
theorem rmhn2 (l : Launch) (Z : State) (a0 : Array Value) (hw : ∀ d ∈ tables_1, d.before a0 Z = true) (ws : List Jvm.Cond) (a1 : Addr) (k1 : ClassId) (v0 : Int32) (v1 : Int32) (h0 : Heap) (n0 : Nat) (Z0 : n0 ≤ h0.size) (V1 : Arv Z h0 a1 k1 .byte (2 : Int32) [(.int v0), (.int v1)] (.int 0)) :
    MetFree l Y9 (head1 (Jvm.Cond.code Y9 jdk_123_method_2_code 3 (some .boolean) :: ws) Rm2) (fun a U => a = #[(.ref a1), (.int 0), (.int 2)] ∧ Z.Warmed39 U.vm ∧ U.heap = h0) (fun _ _ _ _ _ => True) (fun _ U o U' => ∃ v L, o = .returned v ∧ Qrmhn2 Z a1 k1 v0 v1 h0 n0 v U'.heap L ∧ FrameEnd U o U' L Rm2.cells Rm2.slots) := by
 refine MetFree.of_bodySF (plainFor_of_name pn_3) hisR ?_
 intro p e s m args below meth c s₁ Bd hml0 hP hK
 obtain ⟨rfl, hZ, hh⟩ := hP
 have hx := Bd.exec
 have hby := Bd.bytes
 have hml : c.maxLocals = 3 := hml0
 have hown : s.vm.findClass "java/lang/StringCoding" = some m.cls := findClass_of_methodNamed Bd.named
 have hnm := (name_of_methodNamed Bd.named Bd.method).1
 have X0 : Stand p l e Rm2 s m #[(.ref a1), (.int 0), (.int 2)] below meth c s₁ [] 0 0 := Stand.of_body Bd
 have e0 : s₁.heap = h0 := by rw [← hh, Bd.state]; rfl
 have N0 := Fr.nil n0
 show Go p.tables e below (fun o U' => ∃ v L, o = .returned v ∧ Qrmhn2 Z a1 k1 v0 v1 h0 n0 v U'.heap L ∧ FrameEnd s o U' L Rm2.cells Rm2.slots) _
 refine Go.step (fun t kt => castTop (ef_rmhn2 m a1 k1 v0 v1) kt) ?_
 show Go p.tables e below _ (s₁.setTop (mkF m 0 #[vR a1, vI 0, vI 2] []))
 refine Go.step (fun _ kt => XS.aloadN X0.here hx rfl (hb hby d14_0) rfl rfl (XS.iloadN X0.here hx rfl (hb hby d14_1) rfl (XS.iloadN X0.here hx rfl (hb hby d14_2) rfl kt))) ?_
 obtain ⟨_, _, ⟨T101, L101, k101, n101⟩, -, X101, ⟨Lc101, hQ101, l101, y101, z101⟩, st101⟩ := Jvm.LawKit.callS X0 hx (y := Y8) hown (mvT hZ (w67 hw)) (mvT hZ (w68 hw)) (mvT hZ (w65 hw)) (mvT hZ (w69 hw)) (by decide) (backOf (W := 0) (rmcp2 l Z a0 hw [] a1 k1 v0 v1 h0 n0 Z0 V1 ) hZ (w69 hw) (w65 hw) (by decide) (by decide)) (g := (mkF m 3 #[vR a1, vI 0, vI 2] [(.int 2), (.int 0), (.ref a1)])) rfl hml.symm (argsL := [(.ref a1), (.int 0), (.int 2)]) (rest := []) (lenOf pd_1 rfl) rfl (Nat.le_of_eq rfl) (hb hby d14_3) (fun _ _ => ⟨rfl, e0, (by decide : 0 + 0 ≤ _), (by decide : 0 + 0 ≤ _)⟩)
 dsimp only [Pt.U, Pt.locs, Pt.cells, Pt.slots] at X101 l101 y101 z101 st101 hQ101
 subst l101 y101 z101
 obtain ⟨rfl, N101q, eh101⟩ := hQ101
 have N101 := Fr.app N0 N101q
 refine Go.step st101 ?_
 show Go p.tables e below _ (T101.setTop (mkF m 6 #[vR a1, vI 0, vI 2] [(.int (own_cp2 v0 v1))]))
 refine Go.step (fun _ kt => XS.iloadN X101.here hx rfl (hb hby d14_6) rfl kt) ?_
 show Go p.tables e below _ (T101.setTop (mkF m 7 #[vR a1, vI 0, vI 2] [(.int 2), (.int (own_cp2 v0 v1))]))
 by_cases hc7_102 : (own_cp2 v0 v1) = (2 : Int32)
 ·refine Go.step (fun _ kt => XS.icmpYes X101.here hx rfl (pc0 := 7) (pc' := 14) rfl (hb hby d14_7) rfl (teq hc7_102).1 (by decide) (by decide) (XS.iconst X101.here hx rfl (hb hby d14_14) kt)) ?_
  show Go p.tables e below _ (T101.setTop (mkF m 15 #[vR a1, vI 0, vI 2] [(.int 0)]))
  obtain ⟨fs, hr, hrun, hended, hW, hsame⟩ := X101.leave (v := some (.int 0)) (fun h => by rw [Bd.returns] at h; cases h)
  refine ⟨_, _, retN X101 hx (t := .boolean) Bd.returns (by simp) (hb hby d14_15) hr, hrun, hended, _, _, rfl, ?_, ⟨_, rfl⟩, hW, hsame.mono (by decide) (by decide)⟩
  show Qrmhn2 Z a1 k1 v0 v1 h0 n0 _ T101.heap _
  rw [eh101]
  refine ⟨?_, N101, rfl⟩
  rw [own_hn2t hc7_102]
 ·refine Go.step (fun _ kt => XS.icmpNo X101.here hx rfl (hb hby d14_7) rfl (feq hc7_102).1 (XS.iconst X101.here hx rfl (hb hby d14_10) (XS.goto X101.here hx rfl (pc0 := 11) (pc' := 15) rfl (hb hby d14_11) (by decide) (by decide) kt))) ?_
  show Go p.tables e below _ (T101.setTop (mkF m 15 #[vR a1, vI 0, vI 2] [(.int 1)]))
  obtain ⟨fs, hr, hrun, hended, hW, hsame⟩ := X101.leave (v := some (.int 1)) (fun h => by rw [Bd.returns] at h; cases h)
  refine ⟨_, _, retN X101 hx (t := .boolean) Bd.returns (by simp) (hb hby d14_15) hr, hrun, hended, _, _, rfl, ?_, ⟨_, rfl⟩, hW, hsame.mono (by decide) (by decide)⟩
  show Qrmhn2 Z a1 k1 v0 v1 h0 n0 _ T101.heap _
  rw [eh101]
  refine ⟨?_, N101, rfl⟩
  rw [own_hn2f hc7_102]
theorem ef_rmnl2 (m : MethodId)  : entryFrame m #[(.int 2)] 1 = mkF m 0 #[vI 2] [] := by first | (simp [entryFrame, mkF, argsToLocals, Value.category]; done) | rfl
def Qrmnl2 (Z : State)  (h0 : Heap) (n0 : Nat) (v : Option Value) (h : Heap) (L : List Loc) : Prop := v = some (.int 4) ∧ Fr n0 L ∧ h = h0
set_option maxRecDepth 65536 in
set_option maxHeartbeats 40000000 in
theorem rmnl2 (l : Launch) (Z : State) (a0 : Array Value) (hw : ∀ d ∈ tables_1, d.before a0 Z = true) (ws : List Jvm.Cond)  (h0 : Heap) (n0 : Nat) (Z0 : n0 ≤ h0.size) :
    MetFree l Y10 (head1 (Jvm.Cond.code Y10 jdk_52_method_3_code 1 (some .int) :: ws) Rm0) (fun a U => a = #[(.int 2)] ∧ Z.Warmed39 U.vm ∧ U.heap = h0) (fun _ _ _ _ _ => True) (fun _ U o U' => ∃ v L, o = .returned v ∧ Qrmnl2 Z  h0 n0 v U'.heap L ∧ FrameEnd U o U' L Rm0.cells Rm0.slots) := by
 refine MetFree.of_bodySF (plainFor_of_name pn_4) hisR ?_
 intro p e s m args below meth c s₁ Bd hml0 hP hK
 obtain ⟨rfl, hZ, hh⟩ := hP
 have hx := Bd.exec
 have hby := Bd.bytes
 have hml : c.maxLocals = 1 := hml0
 have hown : s.vm.findClass "java/lang/StringUTF16" = some m.cls := findClass_of_methodNamed Bd.named
 have hnm := (name_of_methodNamed Bd.named Bd.method).1
 have X0 : Stand p l e Rm0 s m #[(.int 2)] below meth c s₁ [] 0 0 := Stand.of_body Bd
 have e0 : s₁.heap = h0 := by rw [← hh, Bd.state]; rfl
 have N0 := Fr.nil n0
 show Go p.tables e below (fun o U' => ∃ v L, o = .returned v ∧ Qrmnl2 Z  h0 n0 v U'.heap L ∧ FrameEnd s o U' L Rm0.cells Rm0.slots) _
 refine Go.step (fun t kt => castTop (ef_rmnl2 m ) kt) ?_
 show Go p.tables e below _ (s₁.setTop (mkF m 0 #[vI 2] []))
 refine Go.step (fun _ kt => XS.iloadN X0.here hx rfl (hb hby d19_0) rfl (XS.ifYes X0.here hx rfl (pc0 := 1) (pc' := 12) rfl (hb hby d19_1) rfl ((if0 _ _).trans (flt (by decide : ¬ ((2 : Int32) < (0 : Int32)))).2.1) (by decide) (by decide) (XS.iloadN X0.here hx rfl (hb hby d19_12) rfl kt))) ?_
 show Go p.tables e below _ (s₁.setTop (mkF m 13 #[vI 2] [(.int 2)]))
 refine Go.step (X0.ldcInt hx hown (mvT hZ (w95 hw)) (g := (mkF m 13 #[vI 2] [(.int 2)])) rfl (hb hby d19_13)) ?_
 show Go p.tables e below _ (s₁.setTop (mkF m 15 #[vI 2] [(.int 1073741823), (.int 2)]))
 refine Go.step (fun _ kt => XS.icmpYes X0.here hx rfl (pc0 := 15) (pc' := 55) rfl (hb hby d19_15) rfl (tlt (by decide : (2 : Int32) < (1073741823 : Int32))).1 (by decide) (by decide) (XS.iloadN X0.here hx rfl (hb hby d19_55) rfl (XS.iconst X0.here hx rfl (hb hby d19_56) (XS.ishl X0.here hx rfl (hb hby d19_57) rfl kt)))) ?_
 show Go p.tables e below _ (s₁.setTop (mkF m 58 #[vI 2] [(.int ((2 : Int32) <<< ((1 : Int32) &&& 31)))]))
 have q101 : ((2 : Int32) <<< ((1 : Int32) &&& 31)) = (4 : Int32) := by decide
 rw [q101]
 show Go p.tables e below _ (s₁.setTop (mkF m 58 #[vI 2] [(.int 4)]))
 obtain ⟨fs, hr, hrun, hended, hW, hsame⟩ := X0.leave (v := some (.int 4)) (fun h => by rw [Bd.returns] at h; cases h)
 refine ⟨_, _, retI X0 hx Bd.returns (hb hby d19_58) hr, hrun, hended, _, _, rfl, ?_, ⟨_, rfl⟩, hW, hsame.mono (by decide) (by decide)⟩
 show Qrmnl2 Z  h0 n0 _ s₁.heap _
 rw [e0]
 refine ⟨?_, N0, rfl⟩
 rfl
theorem ef_rmnf2_L (m : MethodId)  : entryFrame m #[(.int 2)] 1 = mkF m 0 #[vI 2] [] := by first | (simp [entryFrame, mkF, argsToLocals, Value.category]; done) | rfl
def Qrmnf2_L (Z : State)  (h0 : Heap) (n0 : Nat) (v : Option Value) (h : Heap) (L : List Loc) : Prop := ∃ r : Addr, ∃ kr : ClassId, v = some (.ref r) ∧ Fr n0 L ∧ Keep h0 h [] ∧ Exa Z h r "[B" ∧ Arv Z h r kr .byte (4 : Int32) (([] : List Int32).map Value.int) (.int 0) ∧ n0 ≤ r ∧ h0.size ≤ r
set_option maxRecDepth 65536 in
set_option maxHeartbeats 40000000 in
theorem rmnf2_L (l : Launch) (Z : State) (a0 : Array Value) (hw : ∀ d ∈ tables_1, d.before a0 Z = true) (ws : List Jvm.Cond)  (h0 : Heap) (n0 : Nat) (Z0 : n0 ≤ h0.size) :
    MetFree l Y11 (head1 (Jvm.Cond.code Y11 jdk_52_method_2_code 1 (some (.array .byte)) :: ws) Rm4) (fun a U => a = #[(.int 2)] ∧ Z.Warmed39 U.vm ∧ U.heap = h0) (fun _ _ _ _ _ => True) (fun _ U o U' => ∃ v L, o = .returned v ∧ Qrmnf2_L Z  h0 n0 v U'.heap L ∧ FrameEnd U o U' L Rm4.cells Rm4.slots) := by
 refine MetFree.of_bodySF (plainFor_of_name pn_4) hisR ?_
 intro p e s m args below meth c s₁ Bd hml0 hP hK
 obtain ⟨rfl, hZ, hh⟩ := hP
 have hx := Bd.exec
 have hby := Bd.bytes
 have hml : c.maxLocals = 1 := hml0
 have hown : s.vm.findClass "java/lang/StringUTF16" = some m.cls := findClass_of_methodNamed Bd.named
 have hnm := (name_of_methodNamed Bd.named Bd.method).1
 have X0 : Stand p l e Rm4 s m #[(.int 2)] below meth c s₁ [] 0 0 := Stand.of_body Bd
 have e0 : s₁.heap = h0 := by rw [← hh, Bd.state]; rfl
 have N0 := Fr.nil n0
 show Go p.tables e below (fun o U' => ∃ v L, o = .returned v ∧ Qrmnf2_L Z  h0 n0 v U'.heap L ∧ FrameEnd s o U' L Rm4.cells Rm4.slots) _
 refine Go.step (fun t kt => castTop (ef_rmnf2_L m ) kt) ?_
 show Go p.tables e below _ (s₁.setTop (mkF m 0 #[vI 2] []))
 have K101 : Keep h0 h0 [] := (Keep.refl h0 [])
 refine Go.step (fun _ kt => XS.iloadN X0.here hx rfl (hb hby d18_0) rfl kt) ?_
 obtain ⟨_, _, ⟨T102, L102, k102, n102⟩, -, X102, ⟨Lc102, hQ102, l102, y102, z102⟩, st102⟩ := Jvm.LawKit.callS X0 hx (y := Y10) hown (mvT hZ (w92 hw)) (mvT hZ (w93 hw)) (mvT hZ (w18 hw)) (mvT hZ (w94 hw)) (by decide) (backOf (W := 0) (rmnl2 l Z a0 hw []   h0 n0 Z0  ) hZ (w94 hw) (w18 hw) (by decide) (by decide)) (g := (mkF m 1 #[vI 2] [(.int 2)])) rfl hml.symm (argsL := [(.int 2)]) (rest := []) (lenOf pd_3 rfl) rfl (Nat.le_of_eq rfl) (hb hby d18_1) (fun _ _ => ⟨rfl, e0, (by decide : 0 + 0 ≤ _), (by decide : 0 + 0 ≤ _)⟩)
 dsimp only [Pt.U, Pt.locs, Pt.cells, Pt.slots] at X102 l102 y102 z102 st102 hQ102
 subst l102 y102 z102
 obtain ⟨rfl, N102q, eh102⟩ := hQ102
 have N102 := Fr.app N0 N102q
 refine Go.step st102 ?_
 obtain ⟨T103, h103, k103, X103, e103, E103, A103, Ex103, st103⟩ := newPE (aty := .byte) X102 hx hZ (w20 hw) eh102 (g := (mkF m 4 #[vI 2] [(.int 4)])) rfl (hb hby d18_4) rfl (by decide) (cap := 4) (by decide) (by decide) (by decide) (by decide) (ad := "[B") own_adB
 obtain ⟨b103, g103⟩ : ∃ z, z = h0.size := ⟨_, rfl⟩
 rw [← g103] at A103 Ex103 st103
 refine Go.step st103 ?_
 have g_b103 : n0 ≤ b103 := Nat.le_trans Z0 (Nat.le_of_eq g103.symm)
 have sz_b103 : h0.size ≤ b103 := Nat.le_trans K101.1 (Nat.le_of_eq g103.symm)
 have Z104 : n0 ≤ h103.size := (Nat.le_trans Z0 E103.1)
 have K105 : Keep h0 h103 [] := (K101.ext E103)
 have V106 : Arv Z h103 b103 k103 .byte (4 : Int32) (([] : List Int32).map Value.int) (.int 0) := Arv.new A103 (by decide)
 show Go p.tables e below _ (T103.setTop (mkF m 6 #[vI 2] [(.ref b103)]))
 obtain ⟨fs, hr, hrun, hended, hW, hsame⟩ := X103.leave (v := some (.ref b103)) (fun h => by rw [Bd.returns] at h; cases h)
 refine ⟨_, _, retOut X103 hx Bd.returns rfl (Or.inr (Or.inr (Or.inr (Or.inr ⟨rfl, rfl, rfl⟩)))) (hb hby d18_6) hr, hrun, hended, _, _, rfl, ?_, ⟨_, rfl⟩, hW, hsame.mono (by decide) (by decide)⟩
 show Qrmnf2_L Z  h0 n0 _ T103.heap _
 rw [e103]
 refine ⟨b103, k103, ?_, N102, K105, Ex103, V106, g_b103, sz_b103⟩
 rfl
theorem d21_0 : dC12 0 (.getstatic 44, 3) := by decide +kernel
theorem d21_3 : dC12 3 (.ifCond .ne 25, 3) := by decide +kernel
theorem d21_28 : dC12 28 (.iload_n 1, 1) := by decide +kernel
theorem d21_29 : dC12 29 (.iconst 1, 1) := by decide +kernel
theorem d21_30 : dC12 30 (.ishl, 1) := by decide +kernel
theorem d21_31 : dC12 31 (.istore_n 1, 1) := by decide +kernel
theorem d21_32 : dC12 32 (.aload_n 0, 1) := by decide +kernel
theorem d21_33 : dC12 33 (.iload_n 1, 1) := by decide +kernel
theorem d21_34 : dC12 34 (.iinc 1 1, 3) := by decide +kernel
theorem d21_37 : dC12 37 (.baload, 1) := by decide +kernel
theorem d21_38 : dC12 38 (.sipush 255, 3) := by decide +kernel
theorem d21_41 : dC12 41 (.iand, 1) := by decide +kernel
theorem d21_42 : dC12 42 (.getstatic 59, 3) := by decide +kernel
theorem d21_45 : dC12 45 (.ishl, 1) := by decide +kernel
theorem d21_46 : dC12 46 (.aload_n 0, 1) := by decide +kernel
theorem d21_47 : dC12 47 (.iload_n 1, 1) := by decide +kernel
theorem d21_48 : dC12 48 (.baload, 1) := by decide +kernel
theorem d21_49 : dC12 49 (.sipush 255, 3) := by decide +kernel
theorem d21_52 : dC12 52 (.iand, 1) := by decide +kernel
theorem d21_53 : dC12 53 (.getstatic 63, 3) := by decide +kernel
theorem d21_56 : dC12 56 (.ishl, 1) := by decide +kernel
theorem d21_57 : dC12 57 (.ior, 1) := by decide +kernel
theorem d21_58 : dC12 58 (.i2c, 1) := by decide +kernel
theorem d21_59 : dC12 59 (.ireturn, 1) := by decide +kernel
theorem ef_rmgc1_0 (m : MethodId) (a1 : Addr) (k1 : ClassId) (c0 : Int32) : entryFrame m #[(.ref a1), (.int 0)] 2 = mkF m 0 #[vR a1, vI 0] [] := by first | (simp [entryFrame, mkF, argsToLocals, Value.category]; done) | rfl
def Qrmgc1_0 (Z : State) (a1 : Addr) (k1 : ClassId) (c0 : Int32) (h0 : Heap) (n0 : Nat) (v : Option Value) (h : Heap) (L : List Loc) : Prop := v = some (.int c0) ∧ Fr n0 L ∧ h = h0
set_option maxRecDepth 65536 in
set_option maxHeartbeats 40000000 in
theorem rmgc1_0 (l : Launch) (Z : State) (a0 : Array Value) (hw : ∀ d ∈ tables_1, d.before a0 Z = true) (ws : List Jvm.Cond) (a1 : Addr) (k1 : ClassId) (c0 : Int32) (h0 : Heap) (n0 : Nat) (Z0 : n0 ≤ h0.size) (V1 : Arv Z h0 a1 k1 .byte (2 : Int32) [(.int (own_lo c0)), (.int (own_hi c0))] (.int 0)) (S_ad : Sta Z h0 "java/lang/StringUTF16" "$assertionsDisabled" "Z" (.int 1)) (S_hi : Sta Z h0 "java/lang/StringUTF16" "HI_BYTE_SHIFT" "I" (.int 0)) (S_lo : Sta Z h0 "java/lang/StringUTF16" "LO_BYTE_SHIFT" "I" (.int 8)) (hR0 : own_R c0) :
    MetFree l Y12 (head1 (Jvm.Cond.code Y12 jdk_52_method_5_code 2 (some .char) :: ws) Rm0) (fun a U => a = #[(.ref a1), (.int 0)] ∧ Z.Warmed39 U.vm ∧ U.heap = h0) (fun _ _ _ _ _ => True) (fun _ U o U' => ∃ v L, o = .returned v ∧ Qrmgc1_0 Z a1 k1 c0 h0 n0 v U'.heap L ∧ FrameEnd U o U' L Rm0.cells Rm0.slots) := by
 refine MetFree.of_bodySF (plainFor_of_name pn_4) hisR ?_
 intro p e s m args below meth c s₁ Bd hml0 hP hK
 obtain ⟨rfl, hZ, hh⟩ := hP
 have hx := Bd.exec
 have hby := Bd.bytes
 have hml : c.maxLocals = 2 := hml0
 have hown : s.vm.findClass "java/lang/StringUTF16" = some m.cls := findClass_of_methodNamed Bd.named
 have hnm := (name_of_methodNamed Bd.named Bd.method).1
 have X0 : Stand p l e Rm0 s m #[(.ref a1), (.int 0)] below meth c s₁ [] 0 0 := Stand.of_body Bd
 have e0 : s₁.heap = h0 := by rw [← hh, Bd.state]; rfl
 have N0 := Fr.nil n0
 show Go p.tables e below (fun o U' => ∃ v L, o = .returned v ∧ Qrmgc1_0 Z a1 k1 c0 h0 n0 v U'.heap L ∧ FrameEnd s o U' L Rm0.cells Rm0.slots) _
 refine Go.step (fun t kt => castTop (ef_rmgc1_0 m a1 k1 c0) kt) ?_
 obtain ⟨T101, X101, e101, st101⟩ := getS2 X0 hx hZ hown (host := "") (Or.inl (w99 hw)) Via.refl e0 S_ad (g := (mkF m 0 #[vR a1, vI 0] [])) rfl (hb hby d21_0)
 refine Go.step st101 ?_
 show Go p.tables e below _ (T101.setTop (mkF m 3 #[vR a1, vI 0] [(.int 1)]))
 refine Go.step (fun _ kt => XS.ifYes X101.here hx rfl (pc0 := 3) (pc' := 28) rfl (hb hby d21_3) rfl ((if0 _ _).trans (feq (by decide : ¬ ((1 : Int32) = (0 : Int32)))).2) (by decide) (by decide) (XS.iloadN X101.here hx rfl (hb hby d21_28) rfl (XS.iconst X101.here hx rfl (hb hby d21_29) (XS.ishl X101.here hx rfl (hb hby d21_30) rfl kt)))) ?_
 show Go p.tables e below _ (T101.setTop (mkF m 31 #[vR a1, vI 0] [(.int ((0 : Int32) <<< ((1 : Int32) &&& 31)))]))
 have q102 : ((0 : Int32) <<< ((1 : Int32) &&& 31)) = (0 : Int32) := by decide
 rw [q102]
 show Go p.tables e below _ (T101.setTop (mkF m 31 #[vR a1, vI 0] [(.int 0)]))
 refine Go.step (fun _ kt => XS.istoreN X101.here hx rfl (hb hby d21_31) rfl (l' := #[vR a1, vI 0]) rfl (XS.aloadN X101.here hx rfl (hb hby d21_32) rfl rfl (XS.iloadN X101.here hx rfl (hb hby d21_33) rfl (XS.iinc X101.here hx rfl (hb hby d21_34) rfl (l' := #[vR a1, vI ((0 : Int32) + (1 : Int32))]) rfl kt)))) ?_
 show Go p.tables e below _ (T101.setTop (mkF m 37 #[vR a1, vI ((0 : Int32) + (1 : Int32))] [(.int 0), (.ref a1)]))
 have q103 : ((0 : Int32) + (1 : Int32)) = (1 : Int32) := by decide
 rw [q103]
 obtain ⟨cl104, Ar104, qa104, Sa104, Na104, Ha104, Ga104⟩ := (id V1)
 have hin104 : ¬ ((0 : Int32) < 0 ∨ cl104.slots.size ≤ ((0 : Int32)).toNatClampNeg) := inb_of Sa104 ⟨by decide, by decide⟩
 have hat104 : cl104.slots[((0 : Int32)).toNatClampNeg]? = some (.int (own_lo c0)) := at_of Ha104 hin104 rfl
 refine Go.step (X101.baloadBytes hx (j := (0 : Int32)) (v := (.int (own_lo c0))) (by rw [e101]; exact Ar104.1) (State.isArrayOf_alike hZ.alike Ar104.2.1) Ar104.2.2 hin104 hat104 (g := (mkF m 37 #[vR a1, vI 1] [(.int 0), (.ref a1)])) rfl rfl (hb hby d21_37)) ?_
 show Go p.tables e below _ (T101.setTop (mkF m 38 #[vR a1, vI 1] [(.int (own_lo c0))]))
 refine Go.step (fun _ kt => XS.sipush X101.here hx rfl (hb hby d21_38) (XS.iand X101.here hx rfl (hb hby d21_41) rfl kt)) ?_
 obtain ⟨T105, X105, e105, st105⟩ := getS2 X101 hx hZ hown (host := "") (Or.inl (w100 hw)) Via.refl e101 S_hi (g := (mkF m 42 #[vR a1, vI 1] [(.int ((own_lo c0) &&& (255 : Int32)))])) rfl (hb hby d21_42)
 refine Go.step st105 ?_
 show Go p.tables e below _ (T105.setTop (mkF m 45 #[vR a1, vI 1] [(.int 0), (.int ((own_lo c0) &&& (255 : Int32)))]))
 refine Go.step (fun _ kt => XS.ishl X105.here hx rfl (hb hby d21_45) rfl (XS.aloadN X105.here hx rfl (hb hby d21_46) rfl rfl (XS.iloadN X105.here hx rfl (hb hby d21_47) rfl kt))) ?_
 obtain ⟨cl106, Ar106, qa106, Sa106, Na106, Ha106, Ga106⟩ := (id V1)
 have hin106 : ¬ ((1 : Int32) < 0 ∨ cl106.slots.size ≤ ((1 : Int32)).toNatClampNeg) := inb_of Sa106 ⟨by decide, by decide⟩
 have hat106 : cl106.slots[((1 : Int32)).toNatClampNeg]? = some (.int (own_hi c0)) := at_of Ha106 hin106 rfl
 refine Go.step (X105.baloadBytes hx (j := (1 : Int32)) (v := (.int (own_hi c0))) (by rw [e105]; exact Ar106.1) (State.isArrayOf_alike hZ.alike Ar106.2.1) Ar106.2.2 hin106 hat106 (g := (mkF m 48 #[vR a1, vI 1] [(.int 1), (.ref a1), (.int (((own_lo c0) &&& (255 : Int32)) <<< ((0 : Int32) &&& 31)))])) rfl rfl (hb hby d21_48)) ?_
 show Go p.tables e below _ (T105.setTop (mkF m 49 #[vR a1, vI 1] [(.int (own_hi c0)), (.int (((own_lo c0) &&& (255 : Int32)) <<< ((0 : Int32) &&& 31)))]))
 refine Go.step (fun _ kt => XS.sipush X105.here hx rfl (hb hby d21_49) (XS.iand X105.here hx rfl (hb hby d21_52) rfl kt)) ?_
 obtain ⟨T107, X107, e107, st107⟩ := getS2 X105 hx hZ hown (host := "") (Or.inl (w101 hw)) Via.refl e105 S_lo (g := (mkF m 53 #[vR a1, vI 1] [(.int ((own_hi c0) &&& (255 : Int32))), (.int (((own_lo c0) &&& (255 : Int32)) <<< ((0 : Int32) &&& 31)))])) rfl (hb hby d21_53)
 refine Go.step st107 ?_
 show Go p.tables e below _ (T107.setTop (mkF m 56 #[vR a1, vI 1] [(.int 8), (.int ((own_hi c0) &&& (255 : Int32))), (.int (((own_lo c0) &&& (255 : Int32)) <<< ((0 : Int32) &&& 31)))]))
 refine Go.step (fun _ kt => XS.ishl X107.here hx rfl (hb hby d21_56) rfl (XS.ior X107.here hx rfl (hb hby d21_57) rfl (XS.i2c X107.here hx rfl (hb hby d21_58) rfl kt))) ?_
 show Go p.tables e below _ (T107.setTop (mkF m 59 #[vR a1, vI 1] [(.int (((((own_lo c0) &&& (255 : Int32)) <<< ((0 : Int32) &&& 31)) ||| (((own_hi c0) &&& (255 : Int32)) <<< ((8 : Int32) &&& 31))).toUInt32.toUInt16.toUInt32.toInt32))]))
 have q108 : (((((own_lo c0) &&& (255 : Int32)) <<< ((0 : Int32) &&& 31)) ||| (((own_hi c0) &&& (255 : Int32)) <<< ((8 : Int32) &&& 31))).toUInt32.toUInt16.toUInt32.toInt32) = c0 := own_gc hR0
 rw [q108]
 show Go p.tables e below _ (T107.setTop (mkF m 59 #[vR a1, vI 1] [(.int c0)]))
 obtain ⟨fs, hr, hrun, hended, hW, hsame⟩ := X107.leave (v := some (.int (nar .char c0))) (fun h => by rw [Bd.returns] at h; cases h)
 refine ⟨_, _, retN X107 hx (t := .char) Bd.returns (by simp) (hb hby d21_59) hr, hrun, hended, _, _, rfl, ?_, ⟨_, rfl⟩, hW, hsame.mono (by decide) (by decide)⟩
 show Qrmgc1_0 Z a1 k1 c0 h0 n0 _ T107.heap _
 rw [e107]
 refine ⟨?_, N0, rfl⟩
 have q : nar .char c0 = c0 := own_cc hR0
 rw [q]
theorem pd_6 : parseMethodDescriptor "([BI)C" = some ⟨[(.array .byte), .int], some .char⟩ := by decide +kernel
theorem pd_7 : parseMethodDescriptor "(C)Z" = some ⟨[.char], some .boolean⟩ := by decide +kernel
theorem pn_5 : plainName "java/lang/String" = true := by first | (simp [plainName, overriddenIn]; done) | decide +kernel
theorem d22_0 : dC13 0 (.iconst 0, 1) := by decide +kernel
theorem d22_1 : dC13 1 (.istore_n 2, 1) := by decide +kernel
theorem d22_2 : dC13 2 (.iconst 0, 1) := by decide +kernel
theorem d22_3 : dC13 3 (.istore_n 3, 1) := by decide +kernel
theorem d22_4 : dC13 4 (.aload_n 0, 1) := by decide +kernel
theorem d22_5 : dC13 5 (.arraylength, 1) := by decide +kernel
theorem d22_6 : dC13 6 (.iconst 1, 1) := by decide +kernel
theorem d22_7 : dC13 7 (.ishr, 1) := by decide +kernel
theorem d22_8 : dC13 8 (.istore 4, 2) := by decide +kernel
theorem d22_10 : dC13 10 (.iload 4, 2) := by decide +kernel
theorem d22_12 : dC13 12 (.iconst 3, 1) := by decide +kernel
theorem d22_13 : dC13 13 (.imul, 1) := by decide +kernel
theorem d22_14 : dC13 14 (.newarray .byte, 2) := by decide +kernel
theorem d22_16 : dC13 16 (.astore 5, 2) := by decide +kernel
theorem d22_18 : dC13 18 (.iload_n 3, 1) := by decide +kernel
theorem d22_19 : dC13 19 (.iload 4, 2) := by decide +kernel
theorem d22_21 : dC13 21 (.if_icmp .ge 37, 3) := by decide +kernel
theorem d22_24 : dC13 24 (.aload_n 0, 1) := by decide +kernel
theorem d22_25 : dC13 25 (.iload_n 3, 1) := by decide +kernel
theorem d22_26 : dC13 26 (.invokestatic 360, 3) := by decide +kernel
theorem d22_29 : dC13 29 (.istore 6, 2) := by decide +kernel
theorem d22_31 : dC13 31 (.iload 6, 2) := by decide +kernel
theorem d22_33 : dC13 33 (.sipush 128, 3) := by decide +kernel
theorem d22_36 : dC13 36 (.if_icmp .lt 6, 3) := by decide +kernel
theorem d22_39 : dC13 39 (.goto 19, 3) := by decide +kernel
theorem d22_42 : dC13 42 (.aload 5, 2) := by decide +kernel
theorem d22_44 : dC13 44 (.iload_n 2, 1) := by decide +kernel
theorem d22_45 : dC13 45 (.iinc 2 1, 3) := by decide +kernel
theorem d22_48 : dC13 48 (.iload 6, 2) := by decide +kernel
theorem d22_50 : dC13 50 (.i2b, 1) := by decide +kernel
theorem d22_51 : dC13 51 (.bastore, 1) := by decide +kernel
theorem d22_52 : dC13 52 (.iinc 3 1, 3) := by decide +kernel
theorem d22_55 : dC13 55 (.goto (-37), 3) := by decide +kernel
theorem d22_58 : dC13 58 (.iload_n 3, 1) := by decide +kernel
theorem d22_59 : dC13 59 (.iload 4, 2) := by decide +kernel
theorem d22_61 : dC13 61 (.if_icmp .ge 294, 3) := by decide +kernel
theorem d22_64 : dC13 64 (.aload_n 0, 1) := by decide +kernel
theorem d22_65 : dC13 65 (.iload_n 3, 1) := by decide +kernel
theorem d22_66 : dC13 66 (.iinc 3 1, 3) := by decide +kernel
theorem d22_69 : dC13 69 (.invokestatic 360, 3) := by decide +kernel
theorem d22_72 : dC13 72 (.istore 6, 2) := by decide +kernel
theorem d22_74 : dC13 74 (.iload 6, 2) := by decide +kernel
theorem d22_76 : dC13 76 (.sipush 128, 3) := by decide +kernel
theorem d22_79 : dC13 79 (.if_icmp .ge 16, 3) := by decide +kernel
theorem d22_95 : dC13 95 (.iload 6, 2) := by decide +kernel
theorem d22_97 : dC13 97 (.sipush 2048, 3) := by decide +kernel
theorem d22_100 : dC13 100 (.if_icmp .ge 40, 3) := by decide +kernel
theorem d22_103 : dC13 103 (.aload 5, 2) := by decide +kernel
theorem d22_105 : dC13 105 (.iload_n 2, 1) := by decide +kernel
theorem d22_106 : dC13 106 (.iinc 2 1, 3) := by decide +kernel
theorem d22_109 : dC13 109 (.sipush 192, 3) := by decide +kernel
theorem d22_112 : dC13 112 (.iload 6, 2) := by decide +kernel
theorem d22_114 : dC13 114 (.bipush 6, 2) := by decide +kernel
theorem d22_116 : dC13 116 (.ishr, 1) := by decide +kernel
theorem d22_117 : dC13 117 (.ior, 1) := by decide +kernel
theorem d22_118 : dC13 118 (.i2b, 1) := by decide +kernel
theorem d22_119 : dC13 119 (.bastore, 1) := by decide +kernel
theorem d22_120 : dC13 120 (.aload 5, 2) := by decide +kernel
theorem d22_122 : dC13 122 (.iload_n 2, 1) := by decide +kernel
theorem d22_123 : dC13 123 (.iinc 2 1, 3) := by decide +kernel
theorem d22_126 : dC13 126 (.sipush 128, 3) := by decide +kernel
theorem d22_129 : dC13 129 (.iload 6, 2) := by decide +kernel
theorem d22_131 : dC13 131 (.bipush 63, 2) := by decide +kernel
theorem d22_133 : dC13 133 (.iand, 1) := by decide +kernel
theorem d22_134 : dC13 134 (.ior, 1) := by decide +kernel
theorem d22_135 : dC13 135 (.i2b, 1) := by decide +kernel
theorem d22_136 : dC13 136 (.bastore, 1) := by decide +kernel
theorem d22_137 : dC13 137 (.goto 215, 3) := by decide +kernel
theorem d22_140 : dC13 140 (.iload 6, 2) := by decide +kernel
theorem d22_142 : dC13 142 (.invokestatic 404, 3) := by decide +kernel
theorem d22_145 : dC13 145 (.ifCond .eq 153, 3) := by decide +kernel
theorem d22_148 : dC13 148 (.iconst (-1), 1) := by decide +kernel
theorem d22_149 : dC13 149 (.istore 7, 2) := by decide +kernel
theorem d22_151 : dC13 151 (.iload 6, 2) := by decide +kernel
theorem d22_153 : dC13 153 (.invokestatic 364, 3) := by decide +kernel
theorem d22_156 : dC13 156 (.ifCond .eq 32, 3) := by decide +kernel
theorem d22_159 : dC13 159 (.iload_n 3, 1) := by decide +kernel
theorem d22_160 : dC13 160 (.iload 4, 2) := by decide +kernel
theorem d22_162 : dC13 162 (.if_icmp .ge 26, 3) := by decide +kernel
theorem d22_188 : dC13 188 (.iload 7, 2) := by decide +kernel
theorem d22_190 : dC13 190 (.ifCond .ge 28, 3) := by decide +kernel
theorem d22_193 : dC13 193 (.iload_n 1, 1) := by decide +kernel
theorem d22_194 : dC13 194 (.ifCond .eq 15, 3) := by decide +kernel
theorem d22_197 : dC13 197 (.aload 5, 2) := by decide +kernel
theorem d22_199 : dC13 199 (.iload_n 2, 1) := by decide +kernel
theorem d22_200 : dC13 200 (.iinc 2 1, 3) := by decide +kernel
theorem d22_203 : dC13 203 (.bipush 63, 2) := by decide +kernel
theorem d22_205 : dC13 205 (.bastore, 1) := by decide +kernel
theorem d22_206 : dC13 206 (.goto 89, 3) := by decide +kernel
theorem d22_295 : dC13 295 (.goto 57, 3) := by decide +kernel
theorem d22_298 : dC13 298 (.aload 5, 2) := by decide +kernel
theorem d22_300 : dC13 300 (.iload_n 2, 1) := by decide +kernel
theorem d22_301 : dC13 301 (.iinc 2 1, 3) := by decide +kernel
theorem d22_304 : dC13 304 (.sipush 224, 3) := by decide +kernel
theorem d22_307 : dC13 307 (.iload 6, 2) := by decide +kernel
theorem d22_309 : dC13 309 (.bipush 12, 2) := by decide +kernel
theorem d22_311 : dC13 311 (.ishr, 1) := by decide +kernel
theorem d22_312 : dC13 312 (.ior, 1) := by decide +kernel
theorem d22_313 : dC13 313 (.i2b, 1) := by decide +kernel
theorem d22_314 : dC13 314 (.bastore, 1) := by decide +kernel
theorem d22_315 : dC13 315 (.aload 5, 2) := by decide +kernel
theorem d22_317 : dC13 317 (.iload_n 2, 1) := by decide +kernel
theorem d22_318 : dC13 318 (.iinc 2 1, 3) := by decide +kernel
theorem d22_321 : dC13 321 (.sipush 128, 3) := by decide +kernel
theorem d22_324 : dC13 324 (.iload 6, 2) := by decide +kernel
theorem d22_326 : dC13 326 (.bipush 6, 2) := by decide +kernel
theorem d22_328 : dC13 328 (.ishr, 1) := by decide +kernel
theorem d22_329 : dC13 329 (.bipush 63, 2) := by decide +kernel
theorem d22_331 : dC13 331 (.iand, 1) := by decide +kernel
theorem d22_332 : dC13 332 (.ior, 1) := by decide +kernel
theorem d22_333 : dC13 333 (.i2b, 1) := by decide +kernel
theorem d22_334 : dC13 334 (.bastore, 1) := by decide +kernel
theorem d22_335 : dC13 335 (.aload 5, 2) := by decide +kernel
theorem d22_337 : dC13 337 (.iload_n 2, 1) := by decide +kernel
theorem d22_338 : dC13 338 (.iinc 2 1, 3) := by decide +kernel
theorem d22_341 : dC13 341 (.sipush 128, 3) := by decide +kernel
theorem d22_344 : dC13 344 (.iload 6, 2) := by decide +kernel
theorem d22_346 : dC13 346 (.bipush 63, 2) := by decide +kernel
theorem d22_348 : dC13 348 (.iand, 1) := by decide +kernel
theorem d22_349 : dC13 349 (.ior, 1) := by decide +kernel
theorem d22_350 : dC13 350 (.i2b, 1) := by decide +kernel
theorem d22_351 : dC13 351 (.bastore, 1) := by decide +kernel
theorem d22_352 : dC13 352 (.goto (-294), 3) := by decide +kernel
theorem d22_355 : dC13 355 (.iload_n 2, 1) := by decide +kernel
theorem d22_356 : dC13 356 (.aload 5, 2) := by decide +kernel
theorem d22_358 : dC13 358 (.arraylength, 1) := by decide +kernel
theorem d22_359 : dC13 359 (.if_icmp .ne 6, 3) := by decide +kernel
theorem d22_362 : dC13 362 (.aload 5, 2) := by decide +kernel
theorem d22_364 : dC13 364 (.areturn, 1) := by decide +kernel
theorem d22_365 : dC13 365 (.aload 5, 2) := by decide +kernel
theorem d22_367 : dC13 367 (.iload_n 2, 1) := by decide +kernel
theorem d22_368 : dC13 368 (.invokestatic 102, 3) := by decide +kernel
theorem d22_371 : dC13 371 (.areturn, 1) := by decide +kernel
theorem ef_rme161 (m : MethodId) (a1 : Addr) (k1 : ClassId) (c0 : Int32) : entryFrame m #[(.ref a1), (.int 1)] 9 = mkF m 0 #[vR a1, vI 1, uS, uS, uS, uS, uS, uS, uS] [] := by first | (simp [entryFrame, mkF, argsToLocals, Value.category]; done) | rfl
def Qrme161 (Z : State) (a1 : Addr) (k1 : ClassId) (c0 : Int32) (h0 : Heap) (n0 : Nat) (v : Option Value) (h : Heap) (L : List Loc) : Prop := ∃ r : Addr, ∃ kr : ClassId, v = some (.ref r) ∧ Fr n0 L ∧ Keep h0 h [] ∧ Exa Z h r "[B" ∧ Arv Z h r kr .byte (own_len (own_u c0)) ((own_u c0).map Value.int) (.int 0) ∧ n0 ≤ r ∧ h0.size ≤ r
set_option maxRecDepth 65536 in
set_option maxHeartbeats 40000000 in
theorem rme161 (l : Launch) (Z : State) (a0 : Array Value) (hw : ∀ d ∈ tables_1, d.before a0 Z = true) (ws : List Jvm.Cond) (a1 : Addr) (k1 : ClassId) (c0 : Int32) (h0 : Heap) (n0 : Nat) (Z0 : n0 ≤ h0.size) (V1 : Arv Z h0 a1 k1 .byte (2 : Int32) [(.int (own_lo c0)), (.int (own_hi c0))] (.int 0)) (S_ad : Sta Z h0 "java/lang/StringUTF16" "$assertionsDisabled" "Z" (.int 1)) (S_hi : Sta Z h0 "java/lang/StringUTF16" "HI_BYTE_SHIFT" "I" (.int 0)) (S_lo : Sta Z h0 "java/lang/StringUTF16" "LO_BYTE_SHIFT" "I" (.int 8)) (hR0 : own_R c0) :
    MetFree l Y13 (head1 (Jvm.Cond.code Y13 jdk_42_method_47_code 9 (some (.array .byte)) :: ws) Rm5) (fun a U => a = #[(.ref a1), (.int 1)] ∧ Z.Warmed39 U.vm ∧ U.heap = h0) (fun _ _ _ _ _ => True) (fun _ U o U' => ∃ v L, o = .returned v ∧ Qrme161 Z a1 k1 c0 h0 n0 v U'.heap L ∧ FrameEnd U o U' L Rm5.cells Rm5.slots) := by
 refine MetFree.of_bodySF (plainFor_of_name pn_5) hisR ?_
 intro p e s m args below meth c s₁ Bd hml0 hP hK
 obtain ⟨rfl, hZ, hh⟩ := hP
 have hx := Bd.exec
 have hby := Bd.bytes
 have hml : c.maxLocals = 9 := hml0
 have hown : s.vm.findClass "java/lang/String" = some m.cls := findClass_of_methodNamed Bd.named
 have hnm := (name_of_methodNamed Bd.named Bd.method).1
 have X0 : Stand p l e Rm5 s m #[(.ref a1), (.int 1)] below meth c s₁ [] 0 0 := Stand.of_body Bd
 have e0 : s₁.heap = h0 := by rw [← hh, Bd.state]; rfl
 have N0 := Fr.nil n0
 show Go p.tables e below (fun o U' => ∃ v L, o = .returned v ∧ Qrme161 Z a1 k1 c0 h0 n0 v U'.heap L ∧ FrameEnd s o U' L Rm5.cells Rm5.slots) _
 refine Go.step (fun t kt => castTop (ef_rme161 m a1 k1 c0) kt) ?_
 show Go p.tables e below _ (s₁.setTop (mkF m 0 #[vR a1, vI 1, uS, uS, uS, uS, uS, uS, uS] []))
 have K101 : Keep h0 h0 [] := (Keep.refl h0 [])
 refine Go.step (fun _ kt => XS.iconst X0.here hx rfl (hb hby d22_0) (XS.istoreN X0.here hx rfl (hb hby d22_1) rfl (l' := #[vR a1, vI 1, vI 0, uS, uS, uS, uS, uS, uS]) rfl (XS.iconst X0.here hx rfl (hb hby d22_2) (XS.istoreN X0.here hx rfl (hb hby d22_3) rfl (l' := #[vR a1, vI 1, vI 0, vI 0, uS, uS, uS, uS, uS]) rfl (XS.aloadN X0.here hx rfl (hb hby d22_4) rfl rfl kt))))) ?_
 show Go p.tables e below _ (s₁.setTop (mkF m 5 #[vR a1, vI 1, vI 0, vI 0, uS, uS, uS, uS, uS] [(.ref a1)]))
 obtain ⟨cl102, Ar102, qa102, Sa102, Na102, Ha102, Ga102⟩ := (id V1)
 refine Go.step (X0.arraylength hx (by rw [e0]; exact Ar102.1) (State.isArrayOf_alike hZ.alike Ar102.2.1) (g := (mkF m 5 #[vR a1, vI 1, vI 0, vI 0, uS, uS, uS, uS, uS] [(.ref a1)])) rfl rfl (hb hby d22_5)) ?_
 rw [len_of Sa102 Na102]
 show Go p.tables e below _ (s₁.setTop (mkF m 6 #[vR a1, vI 1, vI 0, vI 0, uS, uS, uS, uS, uS] [(.int 2)]))
 refine Go.step (fun _ kt => XS.iconst X0.here hx rfl (hb hby d22_6) (XS.ishr X0.here hx rfl (hb hby d22_7) rfl kt)) ?_
 show Go p.tables e below _ (s₁.setTop (mkF m 8 #[vR a1, vI 1, vI 0, vI 0, uS, uS, uS, uS, uS] [(.int ((2 : Int32) >>> ((1 : Int32) &&& 31)))]))
 have q103 : ((2 : Int32) >>> ((1 : Int32) &&& 31)) = (1 : Int32) := by decide
 rw [q103]
 show Go p.tables e below _ (s₁.setTop (mkF m 8 #[vR a1, vI 1, vI 0, vI 0, uS, uS, uS, uS, uS] [(.int 1)]))
 refine Go.step (fun _ kt => XS.istore X0.here hx rfl (hb hby d22_8) rfl (l' := #[vR a1, vI 1, vI 0, vI 0, vI 1, uS, uS, uS, uS]) rfl (XS.iload X0.here hx rfl (hb hby d22_10) rfl (XS.iconst X0.here hx rfl (hb hby d22_12) (XS.imul X0.here hx rfl (hb hby d22_13) rfl kt)))) ?_
 show Go p.tables e below _ (s₁.setTop (mkF m 14 #[vR a1, vI 1, vI 0, vI 0, vI 1, uS, uS, uS, uS] [(.int ((1 : Int32) * (3 : Int32)))]))
 have q104 : ((1 : Int32) * (3 : Int32)) = (3 : Int32) := by decide
 rw [q104]
 obtain ⟨T105, h105, k105, X105, e105, E105, A105, Ex105, st105⟩ := newPE (aty := .byte) X0 hx hZ (w20 hw) e0 (g := (mkF m 14 #[vR a1, vI 1, vI 0, vI 0, vI 1, uS, uS, uS, uS] [(.int 3)])) rfl (hb hby d22_14) rfl (by decide) (cap := 3) (by decide) (by decide) (by decide) (by decide) (ad := "[B") own_adB
 obtain ⟨b105, g105⟩ : ∃ z, z = h0.size := ⟨_, rfl⟩
 rw [← g105] at A105 Ex105 st105
 refine Go.step st105 ?_
 have ne_a1_b105 : a1 ≠ b105 := Nat.ne_of_lt (Nat.lt_of_lt_of_le V1.lt (Nat.le_of_eq g105.symm))
 have g_b105 : n0 ≤ b105 := Nat.le_trans Z0 (Nat.le_of_eq g105.symm)
 have sz_b105 : h0.size ≤ b105 := Nat.le_trans K101.1 (Nat.le_of_eq g105.symm)
 have F106 := (V1.ext E105)
 have F107 := (S_ad.ext E105)
 have F108 := (S_hi.ext E105)
 have F109 := (S_lo.ext E105)
 have Z110 : n0 ≤ h105.size := (Nat.le_trans Z0 E105.1)
 have K111 : Keep h0 h105 [] := (K101.ext E105)
 have V112 : Arv Z h105 b105 k105 .byte (3 : Int32) (([] : List Int32).map Value.int) (.int 0) := Arv.new A105 (by decide)
 show Go p.tables e below _ (T105.setTop (mkF m 16 #[vR a1, vI 1, vI 0, vI 0, vI 1, uS, uS, uS, uS] [(.ref b105)]))
 refine Go.step (fun _ kt => XS.astore X105.here hx rfl (hb hby d22_16) rfl rfl (l' := #[vR a1, vI 1, vI 0, vI 0, vI 1, vR b105, uS, uS, uS]) rfl kt) ?_
 show Go p.tables e below _ (T105.setTop (mkF m 18 #[vR a1, vI 1, vI (own_len ([] : List Int32)), vI 0, vI 1, vR b105, uS, uS, uS] []))
 have G355g113 : ∀ (B : List Int32) (s6 : Slot) (s7 : Slot) (s8 : Slot) (hE : (own_u c0) = B) (hB : B.length ≤ 3) (h_s6 : s6 = .unset ∨ ∃ y, s6 = vI y) (h_s7 : s7 = .unset ∨ ∃ y, s7 = vI y) (h_s8 : s8 = .unset ∨ ∃ y, s8 = vI y) (Tg113 : State) (Hg113 : Heap) (Lg113 : List Loc) (Xg113 : Stand p l e Rm5 s m #[(.ref a1), (.int 1)] below meth c Tg113 Lg113 1 3) (eg113 : Tg113.heap = Hg113) (Ng113 : Fr n0 Lg113) (Zg113 : n0 ≤ Hg113.size) (Kg113 : Keep h0 Hg113 []) (Fg113_0 : Arv Z Hg113 b105 k105 .byte (3 : Int32) (B.map Value.int) (.int 0)) (Fg113_1 : Exa Z Hg113 b105 "[B"), Go p.tables e below (fun o U' => ∃ v L, o = .returned v ∧ Qrme161 Z a1 k1 c0 h0 n0 v U'.heap L ∧ FrameEnd s o U' L Rm5.cells Rm5.slots) (Tg113.setTop (mkF m 355 #[vR a1, vI 1, vI (own_len B), vI 1, vI 1, vR b105, s6, s7, s8] [])) := by
  intro B s6 s7 s8 hE hB h_s6 h_s7 h_s8 Tg113 Hg113 Lg113 Xg113 eg113 Ng113 Zg113 Kg113 Fg113_0 Fg113_1
  show Go p.tables e below _ (Tg113.setTop (mkF m 355 #[vR a1, vI 1, vI (own_len B), vI 1, vI 1, vR b105, s6, s7, s8] []))
  refine Go.step (fun _ kt => XS.iloadN Xg113.here hx rfl (hb hby d22_355) rfl (XS.aload Xg113.here hx rfl (hb hby d22_356) rfl rfl kt)) ?_
  obtain ⟨cl114, Ar114, qa114, Sa114, Na114, Ha114, Ga114⟩ := (id Fg113_0)
  refine Go.step (Xg113.arraylength hx (by rw [eg113]; exact Ar114.1) (State.isArrayOf_alike hZ.alike Ar114.2.1) (g := (mkF m 358 #[vR a1, vI 1, vI (own_len B), vI 1, vI 1, vR b105, s6, s7, s8] [(.ref b105), (.int (own_len B))])) rfl rfl (hb hby d22_358)) ?_
  rw [len_of Sa114 Na114]
  show Go p.tables e below _ (Tg113.setTop (mkF m 359 #[vR a1, vI 1, vI (own_len B), vI 1, vI 1, vR b105, s6, s7, s8] [(.int 3), (.int (own_len B))]))
  by_cases hc359_115 : (own_len B) = (3 : Int32)
  ·refine Go.step (fun _ kt => XS.icmpNo Xg113.here hx rfl (hb hby d22_359) rfl (teq hc359_115).2 (XS.aload Xg113.here hx rfl (hb hby d22_362) rfl rfl kt)) ?_
   show Go p.tables e below _ (Tg113.setTop (mkF m 364 #[vR a1, vI 1, vI (own_len B), vI 1, vI 1, vR b105, s6, s7, s8] [(.ref b105)]))
   have Vl116 : Arv Z Hg113 b105 k105 .byte (own_len (own_u c0)) ((own_u c0).map Value.int) (.int 0) := by rw [hE]; have q1 := Fg113_0; rw [← hc359_115] at q1; exact q1
   obtain ⟨fs, hr, hrun, hended, hW, hsame⟩ := Xg113.leave (v := some (.ref b105)) (fun h => by rw [Bd.returns] at h; cases h)
   refine ⟨_, _, retOut Xg113 hx Bd.returns rfl (Or.inr (Or.inr (Or.inr (Or.inr ⟨rfl, rfl, rfl⟩)))) (hb hby d22_364) hr, hrun, hended, _, _, rfl, ?_, ⟨_, rfl⟩, hW, hsame.mono (by decide) (by decide)⟩
   show Qrme161 Z a1 k1 c0 h0 n0 _ Tg113.heap _
   rw [eg113]
   refine ⟨b105, k105, ?_, Ng113, Kg113, Fg113_1, Vl116, g_b105, sz_b105⟩
   rfl
  ·refine Go.step (fun _ kt => XS.icmpYes Xg113.here hx rfl (pc0 := 359) (pc' := 365) rfl (hb hby d22_359) rfl (feq hc359_115).2 (by decide) (by decide) (XS.aload Xg113.here hx rfl (hb hby d22_365) rfl rfl (XS.iloadN Xg113.here hx rfl (hb hby d22_367) rfl kt))) ?_
   show Go p.tables e below _ (Tg113.setTop (mkF m 368 #[vR a1, vI 1, vI (own_len B), vI 1, vI 1, vR b105, s6, s7, s8] [(.int (own_len B)), (.ref b105)]))
   obtain ⟨_, _, ⟨T117, L117, k117, n117⟩, -, X117, ⟨Lc117, hQ117, l117, y117, z117⟩, st117⟩ := Jvm.LawKit.callS Xg113 hx (y := Y1) hown (mvT hZ (w120 hw)) (mvT hZ (w121 hw)) (mvT hZ (w122 hw)) (mvT hZ (w123 hw)) (by decide) (backOf (W := 0) (rmcopy l Z a0 hw [] b105 k105 (3 : Int32) B Hg113 n0 Zg113 Fg113_0 (Nat.le_trans hB (by decide)) (own_lt (n := 3) (by decide) hB (by decide) hc359_115)) hZ (w123 hw) (w122 hw) (by decide) (by decide)) (g := (mkF m 368 #[vR a1, vI 1, vI (own_len B), vI 1, vI 1, vR b105, s6, s7, s8] [(.int (own_len B)), (.ref b105)])) rfl hml.symm (argsL := [(.ref b105), (.int (own_len B))]) (rest := []) (lenOf pd_5 rfl) rfl (Nat.le_of_eq rfl) (hb hby d22_368) (fun _ _ => ⟨rfl, eg113, (by decide : 1 + 1 ≤ _), (by decide : 3 + 6 ≤ _)⟩)
   dsimp only [Pt.U, Pt.locs, Pt.cells, Pt.slots] at X117 l117 y117 z117 st117 hQ117
   subst l117 y117 z117
   obtain ⟨b117r, b117kr, rfl, N117q, Kq117, P118, P119, g_b117r, szq_b117r⟩ := hQ117
   have ne_b105_b117r : b105 ≠ b117r := Nat.ne_of_lt (Nat.lt_of_lt_of_le Fg113_0.lt szq_b117r)
   have sz_b117r : h0.size ≤ b117r := Nat.le_trans Kg113.1 szq_b117r
   have F120 := (Fg113_0.keep Kq117 (by simp))
   have F121 := (Fg113_1.keep Kq117)
   have Z122 : n0 ≤ T117.heap.size := (Nat.le_trans Zg113 Kq117.1)
   have K123 : Keep h0 T117.heap [] := (Kg113.trans Kq117 (by intro x hx; cases hx))
   have N117 := Fr.app Ng113 N117q
   refine Go.step st117 ?_
   show Go p.tables e below _ (T117.setTop (mkF m 371 #[vR a1, vI 1, vI (own_len B), vI 1, vI 1, vR b105, s6, s7, s8] [(.ref b117r)]))
   have Vl124 : Arv Z T117.heap b117r b117kr .byte (own_len (own_u c0)) ((own_u c0).map Value.int) (.int 0) := by rw [hE]; exact P119
   obtain ⟨fs, hr, hrun, hended, hW, hsame⟩ := X117.leave (v := some (.ref b117r)) (fun h => by rw [Bd.returns] at h; cases h)
   refine ⟨_, _, retOut X117 hx Bd.returns rfl (Or.inr (Or.inr (Or.inr (Or.inr ⟨rfl, rfl, rfl⟩)))) (hb hby d22_371) hr, hrun, hended, _, _, rfl, ?_, ⟨_, rfl⟩, hW, hsame.mono (by decide) (by decide)⟩
   show Qrme161 Z a1 k1 c0 h0 n0 _ T117.heap _
   refine ⟨b117r, b117kr, ?_, N117, K123, P118, Vl124, g_b117r, sz_b117r⟩
   rfl
 refine Go.step (fun _ kt => XS.iloadN X105.here hx rfl (hb hby d22_18) rfl (XS.iload X105.here hx rfl (hb hby d22_19) rfl (XS.icmpNo X105.here hx rfl (hb hby d22_21) rfl (tlt (by decide : (0 : Int32) < (1 : Int32))).2.1 (XS.aloadN X105.here hx rfl (hb hby d22_24) rfl rfl (XS.iloadN X105.here hx rfl (hb hby d22_25) rfl kt))))) ?_
 show Go p.tables e below _ (T105.setTop (mkF m 26 #[vR a1, vI 1, vI (own_len ([] : List Int32)), vI 0, vI 1, vR b105, uS, uS, uS] [(.int 0), (.ref a1)]))
 obtain ⟨_, _, ⟨T125, L125, k125, n125⟩, -, X125, ⟨Lc125, hQ125, l125, y125, z125⟩, st125⟩ := Jvm.LawKit.callS X105 hx (y := Y12) hown (mvT hZ (w109 hw)) (mvT hZ (w103 hw)) (mvT hZ (w18 hw)) (mvT hZ (w104 hw)) (by decide) (backOf (W := 0) (rmgc1_0 l Z a0 hw [] a1 k1 c0 h105 n0 Z110 F106 F107 F108 F109 hR0) hZ (w104 hw) (w18 hw) (by decide) (by decide)) (g := (mkF m 26 #[vR a1, vI 1, vI (own_len ([] : List Int32)), vI 0, vI 1, vR b105, uS, uS, uS] [(.int 0), (.ref a1)])) rfl hml.symm (argsL := [(.ref a1), (.int 0)]) (rest := []) (lenOf pd_6 rfl) rfl (Nat.le_of_eq rfl) (hb hby d22_26) (fun _ _ => ⟨rfl, e105, (by decide : 1 + 0 ≤ _), (by decide : 3 + 0 ≤ _)⟩)
 dsimp only [Pt.U, Pt.locs, Pt.cells, Pt.slots] at X125 l125 y125 z125 st125 hQ125
 subst l125 y125 z125
 obtain ⟨rfl, N125q, eh125⟩ := hQ125
 have N125 := Fr.app N0 N125q
 refine Go.step st125 ?_
 show Go p.tables e below _ (T125.setTop (mkF m 29 #[vR a1, vI 1, vI (own_len ([] : List Int32)), vI 0, vI 1, vR b105, uS, uS, uS] [(.int c0)]))
 refine Go.step (fun _ kt => XS.istore X125.here hx rfl (hb hby d22_29) rfl (l' := #[vR a1, vI 1, vI (own_len ([] : List Int32)), vI 0, vI 1, vR b105, vI c0, uS, uS]) rfl (XS.iload X125.here hx rfl (hb hby d22_31) rfl (XS.sipush X125.here hx rfl (hb hby d22_33) kt))) ?_
 show Go p.tables e below _ (T125.setTop (mkF m 36 #[vR a1, vI 1, vI (own_len ([] : List Int32)), vI 0, vI 1, vR b105, vI c0, uS, uS] [(.int 128), (.int c0)]))
 by_cases hc36_126 : c0 < (128 : Int32)
 ·refine Go.step (fun _ kt => XS.icmpYes X125.here hx rfl (pc0 := 36) (pc' := 42) rfl (hb hby d22_36) rfl (tlt hc36_126).1 (by decide) (by decide) (XS.aload X125.here hx rfl (hb hby d22_42) rfl rfl (XS.iloadN X125.here hx rfl (hb hby d22_44) rfl (XS.iinc X125.here hx rfl (hb hby d22_45) rfl (l' := #[vR a1, vI 1, vI ((own_len ([] : List Int32)) + (1 : Int32)), vI 0, vI 1, vR b105, vI c0, uS, uS]) rfl (XS.iload X125.here hx rfl (hb hby d22_48) rfl (XS.i2b X125.here hx rfl (hb hby d22_50) rfl kt)))))) ?_
  show Go p.tables e below _ (T125.setTop (mkF m 51 #[vR a1, vI 1, vI ((own_len ([] : List Int32)) + (1 : Int32)), vI 0, vI 1, vR b105, vI c0, uS, uS] [(.int (c0.toInt8.toInt32)), (.int (own_len ([] : List Int32))), (.ref b105)]))
  have q127 : (c0.toInt8.toInt32) = (own_by c0) := rfl
  rw [q127]
  obtain ⟨cl128, Ar128, qa128, Sa128, Na128, Ha128, Ga128⟩ := (id V112)
  obtain ⟨T128, h128, X128, e128, W128, st128⟩ := stB X125 hx hZ eh125 Ar128 (j := (own_len ([] : List Int32))) (own_in Sa128 (n := 3) (by decide) (by decide) (by first | omega | decide | (simp only [List.length_append, List.length_cons, List.length_nil]; omega))) (g := (mkF m 51 #[vR a1, vI 1, vI ((own_len ([] : List Int32)) + (1 : Int32)), vI 0, vI 1, vR b105, vI c0, uS, uS] [(.int (own_by c0)), (.int (own_len ([] : List Int32))), (.ref b105)])) rfl rfl (hb hby d22_51)
  refine Go.step st128 ?_
  have V129 := own_push (y := (own_by c0)) V112 (own_ix (by first | omega | decide | (simp only [List.length_append, List.length_cons, List.length_nil]; omega))).1 W128 (own_bb _) (by first | omega | decide | (simp only [List.length_append, List.length_cons, List.length_nil]; omega))
  have N128 := Fr.snoc X128 N125 g_b105
  have F130 := (F106.other W128 ne_a1_b105)
  have F131 := (F107.wr W128)
  have F132 := (F108.wr W128)
  have F133 := (F109.wr W128)
  have F134 := (Ex105.wr W128)
  have Z135 : n0 ≤ h128.size := (Nat.le_trans Z110 (Nat.le_of_eq W128.size.symm))
  have K136 : Keep h0 h128 [] := (K111.wr W128 (Or.inr sz_b105))
  show Go p.tables e below _ (T128.setTop (mkF m 52 #[vR a1, vI 1, vI ((own_len ([] : List Int32)) + (1 : Int32)), vI 0, vI 1, vR b105, vI c0, uS, uS] []))
  rw [own_len1 ([] : List Int32) (own_by c0)]
  show Go p.tables e below _ (T128.setTop (mkF m 52 #[vR a1, vI 1, vI (own_len (([] : List Int32) ++ [(own_by c0)])), vI 0, vI 1, vR b105, vI c0, uS, uS] []))
  refine Go.step (fun _ kt => XS.iinc X128.here hx rfl (hb hby d22_52) rfl (l' := #[vR a1, vI 1, vI (own_len (([] : List Int32) ++ [(own_by c0)])), vI ((0 : Int32) + (1 : Int32)), vI 1, vR b105, vI c0, uS, uS]) rfl kt) ?_
  show Go p.tables e below _ (T128.setTop (mkF m 55 #[vR a1, vI 1, vI (own_len (([] : List Int32) ++ [(own_by c0)])), vI ((0 : Int32) + (1 : Int32)), vI 1, vR b105, vI c0, uS, uS] []))
  have q137 : ((0 : Int32) + (1 : Int32)) = (1 : Int32) := by decide
  rw [q137]
  show Go p.tables e below _ (T128.setTop (mkF m 55 #[vR a1, vI 1, vI (own_len (([] : List Int32) ++ [(own_by c0)])), vI 1, vI 1, vR b105, vI c0, uS, uS] []))
  refine Go.step (fun _ kt => XS.goto X128.here hx rfl (pc0 := 55) (pc' := 18) rfl (hb hby d22_55) (by decide) (by decide) (XS.iloadN X128.here hx rfl (hb hby d22_18) rfl (XS.iload X128.here hx rfl (hb hby d22_19) rfl (XS.icmpYes X128.here hx rfl (pc0 := 21) (pc' := 58) rfl (hb hby d22_21) rfl (flt (by decide : ¬ ((1 : Int32) < (1 : Int32)))).2.1 (by decide) (by decide) (XS.iloadN X128.here hx rfl (hb hby d22_58) rfl (XS.iload X128.here hx rfl (hb hby d22_59) rfl (XS.icmpYes X128.here hx rfl (pc0 := 61) (pc' := 355) rfl (hb hby d22_61) rfl (flt (by decide : ¬ ((1 : Int32) < (1 : Int32)))).2.1 (by decide) (by decide) kt))))))) ?_
  show Go p.tables e below _ (T128.setTop (mkF m 355 #[vR a1, vI 1, vI (own_len (([] : List Int32) ++ [(own_by c0)])), vI 1, vI 1, vR b105, vI c0, uS, uS] []))
  exact G355g113 _ _ _ _ (by rw [own_uA hc36_126]; try rfl) (by first | omega | decide | (simp only [List.length_append, List.length_cons, List.length_nil]; omega)) (Or.inr ⟨_, rfl⟩) (Or.inl rfl) (Or.inl rfl) _ _ _ (X128.more (by decide) (by decide)) e128 N128 Z135 K136 V129 F134
 ·refine Go.step (fun _ kt => XS.icmpNo X125.here hx rfl (hb hby d22_36) rfl (flt hc36_126).1 (XS.goto X125.here hx rfl (pc0 := 39) (pc' := 58) rfl (hb hby d22_39) (by decide) (by decide) (XS.iloadN X125.here hx rfl (hb hby d22_58) rfl (XS.iload X125.here hx rfl (hb hby d22_59) rfl (XS.icmpNo X125.here hx rfl (hb hby d22_61) rfl (tlt (by decide : (0 : Int32) < (1 : Int32))).2.1 (XS.aloadN X125.here hx rfl (hb hby d22_64) rfl rfl (XS.iloadN X125.here hx rfl (hb hby d22_65) rfl (XS.iinc X125.here hx rfl (hb hby d22_66) rfl (l' := #[vR a1, vI 1, vI (own_len ([] : List Int32)), vI ((0 : Int32) + (1 : Int32)), vI 1, vR b105, vI c0, uS, uS]) rfl kt)))))))) ?_
  show Go p.tables e below _ (T125.setTop (mkF m 69 #[vR a1, vI 1, vI (own_len ([] : List Int32)), vI ((0 : Int32) + (1 : Int32)), vI 1, vR b105, vI c0, uS, uS] [(.int 0), (.ref a1)]))
  have q138 : ((0 : Int32) + (1 : Int32)) = (1 : Int32) := by decide
  rw [q138]
  obtain ⟨_, _, ⟨T139, L139, k139, n139⟩, -, X139, ⟨Lc139, hQ139, l139, y139, z139⟩, st139⟩ := Jvm.LawKit.callS X125 hx (y := Y12) hown (mvT hZ (w109 hw)) (mvT hZ (w103 hw)) (mvT hZ (w18 hw)) (mvT hZ (w104 hw)) (by decide) (backOf (W := 0) (rmgc1_0 l Z a0 hw [] a1 k1 c0 h105 n0 Z110 F106 F107 F108 F109 hR0) hZ (w104 hw) (w18 hw) (by decide) (by decide)) (g := (mkF m 69 #[vR a1, vI 1, vI (own_len ([] : List Int32)), vI 1, vI 1, vR b105, vI c0, uS, uS] [(.int 0), (.ref a1)])) rfl hml.symm (argsL := [(.ref a1), (.int 0)]) (rest := []) (lenOf pd_6 rfl) rfl (Nat.le_of_eq rfl) (hb hby d22_69) (fun _ _ => ⟨rfl, eh125, (by decide : 1 + 0 ≤ _), (by decide : 3 + 0 ≤ _)⟩)
  dsimp only [Pt.U, Pt.locs, Pt.cells, Pt.slots] at X139 l139 y139 z139 st139 hQ139
  subst l139 y139 z139
  obtain ⟨rfl, N139q, eh139⟩ := hQ139
  have N139 := Fr.app N125 N139q
  refine Go.step st139 ?_
  show Go p.tables e below _ (T139.setTop (mkF m 72 #[vR a1, vI 1, vI (own_len ([] : List Int32)), vI 1, vI 1, vR b105, vI c0, uS, uS] [(.int c0)]))
  refine Go.step (fun _ kt => XS.istore X139.here hx rfl (hb hby d22_72) rfl (l' := #[vR a1, vI 1, vI (own_len ([] : List Int32)), vI 1, vI 1, vR b105, vI c0, uS, uS]) rfl (XS.iload X139.here hx rfl (hb hby d22_74) rfl (XS.sipush X139.here hx rfl (hb hby d22_76) (XS.icmpYes X139.here hx rfl (pc0 := 79) (pc' := 95) rfl (hb hby d22_79) rfl (flt hc36_126).2.1 (by decide) (by decide) (XS.iload X139.here hx rfl (hb hby d22_95) rfl (XS.sipush X139.here hx rfl (hb hby d22_97) kt)))))) ?_
  show Go p.tables e below _ (T139.setTop (mkF m 100 #[vR a1, vI 1, vI (own_len ([] : List Int32)), vI 1, vI 1, vR b105, vI c0, uS, uS] [(.int 2048), (.int c0)]))
  by_cases hc100_140 : c0 < (2048 : Int32)
  ·refine Go.step (fun _ kt => XS.icmpNo X139.here hx rfl (hb hby d22_100) rfl (tlt hc100_140).2.1 (XS.aload X139.here hx rfl (hb hby d22_103) rfl rfl (XS.iloadN X139.here hx rfl (hb hby d22_105) rfl (XS.iinc X139.here hx rfl (hb hby d22_106) rfl (l' := #[vR a1, vI 1, vI ((own_len ([] : List Int32)) + (1 : Int32)), vI 1, vI 1, vR b105, vI c0, uS, uS]) rfl (XS.sipush X139.here hx rfl (hb hby d22_109) (XS.iload X139.here hx rfl (hb hby d22_112) rfl (XS.bipush X139.here hx rfl (hb hby d22_114) (XS.ishr X139.here hx rfl (hb hby d22_116) rfl (XS.ior X139.here hx rfl (hb hby d22_117) rfl (XS.i2b X139.here hx rfl (hb hby d22_118) rfl kt)))))))))) ?_
   show Go p.tables e below _ (T139.setTop (mkF m 119 #[vR a1, vI 1, vI ((own_len ([] : List Int32)) + (1 : Int32)), vI 1, vI 1, vR b105, vI c0, uS, uS] [(.int (((192 : Int32) ||| (c0 >>> ((6 : Int32) &&& 31))).toInt8.toInt32)), (.int (own_len ([] : List Int32))), (.ref b105)]))
   have q141 : (((192 : Int32) ||| (c0 >>> ((6 : Int32) &&& 31))).toInt8.toInt32) = (own_by ((192 : Int32) ||| (c0 >>> ((6 : Int32) &&& 31)))) := rfl
   rw [q141]
   obtain ⟨cl142, Ar142, qa142, Sa142, Na142, Ha142, Ga142⟩ := (id V112)
   obtain ⟨T142, h142, X142, e142, W142, st142⟩ := stB X139 hx hZ eh139 Ar142 (j := (own_len ([] : List Int32))) (own_in Sa142 (n := 3) (by decide) (by decide) (by first | omega | decide | (simp only [List.length_append, List.length_cons, List.length_nil]; omega))) (g := (mkF m 119 #[vR a1, vI 1, vI ((own_len ([] : List Int32)) + (1 : Int32)), vI 1, vI 1, vR b105, vI c0, uS, uS] [(.int (own_by ((192 : Int32) ||| (c0 >>> ((6 : Int32) &&& 31))))), (.int (own_len ([] : List Int32))), (.ref b105)])) rfl rfl (hb hby d22_119)
   refine Go.step st142 ?_
   have V143 := own_push (y := (own_by ((192 : Int32) ||| (c0 >>> ((6 : Int32) &&& 31))))) V112 (own_ix (by first | omega | decide | (simp only [List.length_append, List.length_cons, List.length_nil]; omega))).1 W142 (own_bb _) (by first | omega | decide | (simp only [List.length_append, List.length_cons, List.length_nil]; omega))
   have N142 := Fr.snoc X142 N139 g_b105
   have F144 := (F106.other W142 ne_a1_b105)
   have F145 := (F107.wr W142)
   have F146 := (F108.wr W142)
   have F147 := (F109.wr W142)
   have F148 := (Ex105.wr W142)
   have Z149 : n0 ≤ h142.size := (Nat.le_trans Z110 (Nat.le_of_eq W142.size.symm))
   have K150 : Keep h0 h142 [] := (K111.wr W142 (Or.inr sz_b105))
   show Go p.tables e below _ (T142.setTop (mkF m 120 #[vR a1, vI 1, vI ((own_len ([] : List Int32)) + (1 : Int32)), vI 1, vI 1, vR b105, vI c0, uS, uS] []))
   rw [own_len1 ([] : List Int32) (own_by ((192 : Int32) ||| (c0 >>> ((6 : Int32) &&& 31))))]
   show Go p.tables e below _ (T142.setTop (mkF m 120 #[vR a1, vI 1, vI (own_len (([] : List Int32) ++ [(own_by ((192 : Int32) ||| (c0 >>> ((6 : Int32) &&& 31))))])), vI 1, vI 1, vR b105, vI c0, uS, uS] []))
   refine Go.step (fun _ kt => XS.aload X142.here hx rfl (hb hby d22_120) rfl rfl (XS.iloadN X142.here hx rfl (hb hby d22_122) rfl (XS.iinc X142.here hx rfl (hb hby d22_123) rfl (l' := #[vR a1, vI 1, vI ((own_len (([] : List Int32) ++ [(own_by ((192 : Int32) ||| (c0 >>> ((6 : Int32) &&& 31))))])) + (1 : Int32)), vI 1, vI 1, vR b105, vI c0, uS, uS]) rfl (XS.sipush X142.here hx rfl (hb hby d22_126) (XS.iload X142.here hx rfl (hb hby d22_129) rfl (XS.bipush X142.here hx rfl (hb hby d22_131) (XS.iand X142.here hx rfl (hb hby d22_133) rfl (XS.ior X142.here hx rfl (hb hby d22_134) rfl (XS.i2b X142.here hx rfl (hb hby d22_135) rfl kt))))))))) ?_
   show Go p.tables e below _ (T142.setTop (mkF m 136 #[vR a1, vI 1, vI ((own_len (([] : List Int32) ++ [(own_by ((192 : Int32) ||| (c0 >>> ((6 : Int32) &&& 31))))])) + (1 : Int32)), vI 1, vI 1, vR b105, vI c0, uS, uS] [(.int (((128 : Int32) ||| (c0 &&& (63 : Int32))).toInt8.toInt32)), (.int (own_len (([] : List Int32) ++ [(own_by ((192 : Int32) ||| (c0 >>> ((6 : Int32) &&& 31))))]))), (.ref b105)]))
   have q151 : (((128 : Int32) ||| (c0 &&& (63 : Int32))).toInt8.toInt32) = (own_by ((128 : Int32) ||| (c0 &&& (63 : Int32)))) := rfl
   rw [q151]
   obtain ⟨cl152, Ar152, qa152, Sa152, Na152, Ha152, Ga152⟩ := (id V143)
   obtain ⟨T152, h152, X152, e152, W152, st152⟩ := stB X142 hx hZ e142 Ar152 (j := (own_len (([] : List Int32) ++ [(own_by ((192 : Int32) ||| (c0 >>> ((6 : Int32) &&& 31))))]))) (own_in Sa152 (n := 3) (by decide) (by decide) (by first | omega | decide | (simp only [List.length_append, List.length_cons, List.length_nil]; omega))) (g := (mkF m 136 #[vR a1, vI 1, vI ((own_len (([] : List Int32) ++ [(own_by ((192 : Int32) ||| (c0 >>> ((6 : Int32) &&& 31))))])) + (1 : Int32)), vI 1, vI 1, vR b105, vI c0, uS, uS] [(.int (own_by ((128 : Int32) ||| (c0 &&& (63 : Int32))))), (.int (own_len (([] : List Int32) ++ [(own_by ((192 : Int32) ||| (c0 >>> ((6 : Int32) &&& 31))))]))), (.ref b105)])) rfl rfl (hb hby d22_136)
   refine Go.step st152 ?_
   have V153 := own_push (y := (own_by ((128 : Int32) ||| (c0 &&& (63 : Int32))))) V143 (own_ix (by first | omega | decide | (simp only [List.length_append, List.length_cons, List.length_nil]; omega))).1 W152 (own_bb _) (by first | omega | decide | (simp only [List.length_append, List.length_cons, List.length_nil]; omega))
   have N152 := Fr.snoc X152 N142 g_b105
   have F154 := (F144.other W152 ne_a1_b105)
   have F155 := (F145.wr W152)
   have F156 := (F146.wr W152)
   have F157 := (F147.wr W152)
   have F158 := (F148.wr W152)
   have Z159 : n0 ≤ h152.size := (Nat.le_trans Z149 (Nat.le_of_eq W152.size.symm))
   have K160 : Keep h0 h152 [] := (K150.wr W152 (Or.inr sz_b105))
   show Go p.tables e below _ (T152.setTop (mkF m 137 #[vR a1, vI 1, vI ((own_len (([] : List Int32) ++ [(own_by ((192 : Int32) ||| (c0 >>> ((6 : Int32) &&& 31))))])) + (1 : Int32)), vI 1, vI 1, vR b105, vI c0, uS, uS] []))
   rw [own_len1 (([] : List Int32) ++ [(own_by ((192 : Int32) ||| (c0 >>> ((6 : Int32) &&& 31))))]) (own_by ((128 : Int32) ||| (c0 &&& (63 : Int32))))]
   show Go p.tables e below _ (T152.setTop (mkF m 137 #[vR a1, vI 1, vI (own_len ((([] : List Int32) ++ [(own_by ((192 : Int32) ||| (c0 >>> ((6 : Int32) &&& 31))))]) ++ [(own_by ((128 : Int32) ||| (c0 &&& (63 : Int32))))])), vI 1, vI 1, vR b105, vI c0, uS, uS] []))
   refine Go.step (fun _ kt => XS.goto X152.here hx rfl (pc0 := 137) (pc' := 352) rfl (hb hby d22_137) (by decide) (by decide) (XS.goto X152.here hx rfl (pc0 := 352) (pc' := 58) rfl (hb hby d22_352) (by decide) (by decide) (XS.iloadN X152.here hx rfl (hb hby d22_58) rfl (XS.iload X152.here hx rfl (hb hby d22_59) rfl (XS.icmpYes X152.here hx rfl (pc0 := 61) (pc' := 355) rfl (hb hby d22_61) rfl (flt (by decide : ¬ ((1 : Int32) < (1 : Int32)))).2.1 (by decide) (by decide) kt))))) ?_
   show Go p.tables e below _ (T152.setTop (mkF m 355 #[vR a1, vI 1, vI (own_len ((([] : List Int32) ++ [(own_by ((192 : Int32) ||| (c0 >>> ((6 : Int32) &&& 31))))]) ++ [(own_by ((128 : Int32) ||| (c0 &&& (63 : Int32))))])), vI 1, vI 1, vR b105, vI c0, uS, uS] []))
   exact G355g113 _ _ _ _ (by rw [own_uB hc36_126 hc100_140]; try rfl) (by first | omega | decide | (simp only [List.length_append, List.length_cons, List.length_nil]; omega)) (Or.inr ⟨_, rfl⟩) (Or.inl rfl) (Or.inl rfl) _ _ _ (X152.more (by decide) (by decide)) e152 N152 Z159 K160 V153 F158
  ·refine Go.step (fun _ kt => XS.icmpYes X139.here hx rfl (pc0 := 100) (pc' := 140) rfl (hb hby d22_100) rfl (flt hc100_140).2.1 (by decide) (by decide) (XS.iload X139.here hx rfl (hb hby d22_140) rfl kt)) ?_
   obtain ⟨_, _, ⟨T161, L161, k161, n161⟩, -, X161, ⟨Lc161, hQ161, l161, y161, z161⟩, st161⟩ := Jvm.LawKit.callS X139 hx (y := Y2) hown (mvT hZ (w110 hw)) (mvT hZ (w111 hw)) (mvT hZ (w112 hw)) (mvT hZ (w113 hw)) (by decide) (backOf (W := 0) (rmis l Z a0 hw [] c0  h105 n0 Z110  ) hZ (w113 hw) (w112 hw) (by decide) (by decide)) (g := (mkF m 142 #[vR a1, vI 1, vI (own_len ([] : List Int32)), vI 1, vI 1, vR b105, vI c0, uS, uS] [(.int c0)])) rfl hml.symm (argsL := [(.int c0)]) (rest := []) (lenOf pd_7 rfl) rfl (Nat.le_of_eq rfl) (hb hby d22_142) (fun _ _ => ⟨rfl, eh139, (by decide : 1 + 0 ≤ _), (by decide : 3 + 0 ≤ _)⟩)
   dsimp only [Pt.U, Pt.locs, Pt.cells, Pt.slots] at X161 l161 y161 z161 st161 hQ161
   subst l161 y161 z161
   obtain ⟨rfl, N161q, eh161⟩ := hQ161
   have N161 := Fr.app N139 N161q
   refine Go.step st161 ?_
   show Go p.tables e below _ (T161.setTop (mkF m 145 #[vR a1, vI 1, vI (own_len ([] : List Int32)), vI 1, vI 1, vR b105, vI c0, uS, uS] [(.int (own_su c0))]))
   by_cases hc145_162 : (own_su c0) = (0 : Int32)
   ·refine Go.step (fun _ kt => XS.ifYes X161.here hx rfl (pc0 := 145) (pc' := 298) rfl (hb hby d22_145) rfl ((if0 _ _).trans (teq hc145_162).1) (by decide) (by decide) (XS.aload X161.here hx rfl (hb hby d22_298) rfl rfl (XS.iloadN X161.here hx rfl (hb hby d22_300) rfl (XS.iinc X161.here hx rfl (hb hby d22_301) rfl (l' := #[vR a1, vI 1, vI ((own_len ([] : List Int32)) + (1 : Int32)), vI 1, vI 1, vR b105, vI c0, uS, uS]) rfl (XS.sipush X161.here hx rfl (hb hby d22_304) (XS.iload X161.here hx rfl (hb hby d22_307) rfl (XS.bipush X161.here hx rfl (hb hby d22_309) (XS.ishr X161.here hx rfl (hb hby d22_311) rfl (XS.ior X161.here hx rfl (hb hby d22_312) rfl (XS.i2b X161.here hx rfl (hb hby d22_313) rfl kt)))))))))) ?_
    show Go p.tables e below _ (T161.setTop (mkF m 314 #[vR a1, vI 1, vI ((own_len ([] : List Int32)) + (1 : Int32)), vI 1, vI 1, vR b105, vI c0, uS, uS] [(.int (((224 : Int32) ||| (c0 >>> ((12 : Int32) &&& 31))).toInt8.toInt32)), (.int (own_len ([] : List Int32))), (.ref b105)]))
    have q163 : (((224 : Int32) ||| (c0 >>> ((12 : Int32) &&& 31))).toInt8.toInt32) = (own_by ((224 : Int32) ||| (c0 >>> ((12 : Int32) &&& 31)))) := rfl
    rw [q163]
    obtain ⟨cl164, Ar164, qa164, Sa164, Na164, Ha164, Ga164⟩ := (id V112)
    obtain ⟨T164, h164, X164, e164, W164, st164⟩ := stB X161 hx hZ eh161 Ar164 (j := (own_len ([] : List Int32))) (own_in Sa164 (n := 3) (by decide) (by decide) (by first | omega | decide | (simp only [List.length_append, List.length_cons, List.length_nil]; omega))) (g := (mkF m 314 #[vR a1, vI 1, vI ((own_len ([] : List Int32)) + (1 : Int32)), vI 1, vI 1, vR b105, vI c0, uS, uS] [(.int (own_by ((224 : Int32) ||| (c0 >>> ((12 : Int32) &&& 31))))), (.int (own_len ([] : List Int32))), (.ref b105)])) rfl rfl (hb hby d22_314)
    refine Go.step st164 ?_
    have V165 := own_push (y := (own_by ((224 : Int32) ||| (c0 >>> ((12 : Int32) &&& 31))))) V112 (own_ix (by first | omega | decide | (simp only [List.length_append, List.length_cons, List.length_nil]; omega))).1 W164 (own_bb _) (by first | omega | decide | (simp only [List.length_append, List.length_cons, List.length_nil]; omega))
    have N164 := Fr.snoc X164 N161 g_b105
    have F166 := (F106.other W164 ne_a1_b105)
    have F167 := (F107.wr W164)
    have F168 := (F108.wr W164)
    have F169 := (F109.wr W164)
    have F170 := (Ex105.wr W164)
    have Z171 : n0 ≤ h164.size := (Nat.le_trans Z110 (Nat.le_of_eq W164.size.symm))
    have K172 : Keep h0 h164 [] := (K111.wr W164 (Or.inr sz_b105))
    show Go p.tables e below _ (T164.setTop (mkF m 315 #[vR a1, vI 1, vI ((own_len ([] : List Int32)) + (1 : Int32)), vI 1, vI 1, vR b105, vI c0, uS, uS] []))
    rw [own_len1 ([] : List Int32) (own_by ((224 : Int32) ||| (c0 >>> ((12 : Int32) &&& 31))))]
    show Go p.tables e below _ (T164.setTop (mkF m 315 #[vR a1, vI 1, vI (own_len (([] : List Int32) ++ [(own_by ((224 : Int32) ||| (c0 >>> ((12 : Int32) &&& 31))))])), vI 1, vI 1, vR b105, vI c0, uS, uS] []))
    refine Go.step (fun _ kt => XS.aload X164.here hx rfl (hb hby d22_315) rfl rfl (XS.iloadN X164.here hx rfl (hb hby d22_317) rfl (XS.iinc X164.here hx rfl (hb hby d22_318) rfl (l' := #[vR a1, vI 1, vI ((own_len (([] : List Int32) ++ [(own_by ((224 : Int32) ||| (c0 >>> ((12 : Int32) &&& 31))))])) + (1 : Int32)), vI 1, vI 1, vR b105, vI c0, uS, uS]) rfl (XS.sipush X164.here hx rfl (hb hby d22_321) (XS.iload X164.here hx rfl (hb hby d22_324) rfl (XS.bipush X164.here hx rfl (hb hby d22_326) (XS.ishr X164.here hx rfl (hb hby d22_328) rfl (XS.bipush X164.here hx rfl (hb hby d22_329) (XS.iand X164.here hx rfl (hb hby d22_331) rfl (XS.ior X164.here hx rfl (hb hby d22_332) rfl (XS.i2b X164.here hx rfl (hb hby d22_333) rfl kt))))))))))) ?_
    show Go p.tables e below _ (T164.setTop (mkF m 334 #[vR a1, vI 1, vI ((own_len (([] : List Int32) ++ [(own_by ((224 : Int32) ||| (c0 >>> ((12 : Int32) &&& 31))))])) + (1 : Int32)), vI 1, vI 1, vR b105, vI c0, uS, uS] [(.int (((128 : Int32) ||| ((c0 >>> ((6 : Int32) &&& 31)) &&& (63 : Int32))).toInt8.toInt32)), (.int (own_len (([] : List Int32) ++ [(own_by ((224 : Int32) ||| (c0 >>> ((12 : Int32) &&& 31))))]))), (.ref b105)]))
    have q173 : (((128 : Int32) ||| ((c0 >>> ((6 : Int32) &&& 31)) &&& (63 : Int32))).toInt8.toInt32) = (own_by ((128 : Int32) ||| ((c0 >>> ((6 : Int32) &&& 31)) &&& (63 : Int32)))) := rfl
    rw [q173]
    obtain ⟨cl174, Ar174, qa174, Sa174, Na174, Ha174, Ga174⟩ := (id V165)
    obtain ⟨T174, h174, X174, e174, W174, st174⟩ := stB X164 hx hZ e164 Ar174 (j := (own_len (([] : List Int32) ++ [(own_by ((224 : Int32) ||| (c0 >>> ((12 : Int32) &&& 31))))]))) (own_in Sa174 (n := 3) (by decide) (by decide) (by first | omega | decide | (simp only [List.length_append, List.length_cons, List.length_nil]; omega))) (g := (mkF m 334 #[vR a1, vI 1, vI ((own_len (([] : List Int32) ++ [(own_by ((224 : Int32) ||| (c0 >>> ((12 : Int32) &&& 31))))])) + (1 : Int32)), vI 1, vI 1, vR b105, vI c0, uS, uS] [(.int (own_by ((128 : Int32) ||| ((c0 >>> ((6 : Int32) &&& 31)) &&& (63 : Int32))))), (.int (own_len (([] : List Int32) ++ [(own_by ((224 : Int32) ||| (c0 >>> ((12 : Int32) &&& 31))))]))), (.ref b105)])) rfl rfl (hb hby d22_334)
    refine Go.step st174 ?_
    have V175 := own_push (y := (own_by ((128 : Int32) ||| ((c0 >>> ((6 : Int32) &&& 31)) &&& (63 : Int32))))) V165 (own_ix (by first | omega | decide | (simp only [List.length_append, List.length_cons, List.length_nil]; omega))).1 W174 (own_bb _) (by first | omega | decide | (simp only [List.length_append, List.length_cons, List.length_nil]; omega))
    have N174 := Fr.snoc X174 N164 g_b105
    have F176 := (F166.other W174 ne_a1_b105)
    have F177 := (F167.wr W174)
    have F178 := (F168.wr W174)
    have F179 := (F169.wr W174)
    have F180 := (F170.wr W174)
    have Z181 : n0 ≤ h174.size := (Nat.le_trans Z171 (Nat.le_of_eq W174.size.symm))
    have K182 : Keep h0 h174 [] := (K172.wr W174 (Or.inr sz_b105))
    show Go p.tables e below _ (T174.setTop (mkF m 335 #[vR a1, vI 1, vI ((own_len (([] : List Int32) ++ [(own_by ((224 : Int32) ||| (c0 >>> ((12 : Int32) &&& 31))))])) + (1 : Int32)), vI 1, vI 1, vR b105, vI c0, uS, uS] []))
    rw [own_len1 (([] : List Int32) ++ [(own_by ((224 : Int32) ||| (c0 >>> ((12 : Int32) &&& 31))))]) (own_by ((128 : Int32) ||| ((c0 >>> ((6 : Int32) &&& 31)) &&& (63 : Int32))))]
    show Go p.tables e below _ (T174.setTop (mkF m 335 #[vR a1, vI 1, vI (own_len ((([] : List Int32) ++ [(own_by ((224 : Int32) ||| (c0 >>> ((12 : Int32) &&& 31))))]) ++ [(own_by ((128 : Int32) ||| ((c0 >>> ((6 : Int32) &&& 31)) &&& (63 : Int32))))])), vI 1, vI 1, vR b105, vI c0, uS, uS] []))
    refine Go.step (fun _ kt => XS.aload X174.here hx rfl (hb hby d22_335) rfl rfl (XS.iloadN X174.here hx rfl (hb hby d22_337) rfl (XS.iinc X174.here hx rfl (hb hby d22_338) rfl (l' := #[vR a1, vI 1, vI ((own_len ((([] : List Int32) ++ [(own_by ((224 : Int32) ||| (c0 >>> ((12 : Int32) &&& 31))))]) ++ [(own_by ((128 : Int32) ||| ((c0 >>> ((6 : Int32) &&& 31)) &&& (63 : Int32))))])) + (1 : Int32)), vI 1, vI 1, vR b105, vI c0, uS, uS]) rfl (XS.sipush X174.here hx rfl (hb hby d22_341) (XS.iload X174.here hx rfl (hb hby d22_344) rfl (XS.bipush X174.here hx rfl (hb hby d22_346) (XS.iand X174.here hx rfl (hb hby d22_348) rfl (XS.ior X174.here hx rfl (hb hby d22_349) rfl (XS.i2b X174.here hx rfl (hb hby d22_350) rfl kt))))))))) ?_
    show Go p.tables e below _ (T174.setTop (mkF m 351 #[vR a1, vI 1, vI ((own_len ((([] : List Int32) ++ [(own_by ((224 : Int32) ||| (c0 >>> ((12 : Int32) &&& 31))))]) ++ [(own_by ((128 : Int32) ||| ((c0 >>> ((6 : Int32) &&& 31)) &&& (63 : Int32))))])) + (1 : Int32)), vI 1, vI 1, vR b105, vI c0, uS, uS] [(.int (((128 : Int32) ||| (c0 &&& (63 : Int32))).toInt8.toInt32)), (.int (own_len ((([] : List Int32) ++ [(own_by ((224 : Int32) ||| (c0 >>> ((12 : Int32) &&& 31))))]) ++ [(own_by ((128 : Int32) ||| ((c0 >>> ((6 : Int32) &&& 31)) &&& (63 : Int32))))]))), (.ref b105)]))
    have q183 : (((128 : Int32) ||| (c0 &&& (63 : Int32))).toInt8.toInt32) = (own_by ((128 : Int32) ||| (c0 &&& (63 : Int32)))) := rfl
    rw [q183]
    obtain ⟨cl184, Ar184, qa184, Sa184, Na184, Ha184, Ga184⟩ := (id V175)
    obtain ⟨T184, h184, X184, e184, W184, st184⟩ := stB X174 hx hZ e174 Ar184 (j := (own_len ((([] : List Int32) ++ [(own_by ((224 : Int32) ||| (c0 >>> ((12 : Int32) &&& 31))))]) ++ [(own_by ((128 : Int32) ||| ((c0 >>> ((6 : Int32) &&& 31)) &&& (63 : Int32))))]))) (own_in Sa184 (n := 3) (by decide) (by decide) (by first | omega | decide | (simp only [List.length_append, List.length_cons, List.length_nil]; omega))) (g := (mkF m 351 #[vR a1, vI 1, vI ((own_len ((([] : List Int32) ++ [(own_by ((224 : Int32) ||| (c0 >>> ((12 : Int32) &&& 31))))]) ++ [(own_by ((128 : Int32) ||| ((c0 >>> ((6 : Int32) &&& 31)) &&& (63 : Int32))))])) + (1 : Int32)), vI 1, vI 1, vR b105, vI c0, uS, uS] [(.int (own_by ((128 : Int32) ||| (c0 &&& (63 : Int32))))), (.int (own_len ((([] : List Int32) ++ [(own_by ((224 : Int32) ||| (c0 >>> ((12 : Int32) &&& 31))))]) ++ [(own_by ((128 : Int32) ||| ((c0 >>> ((6 : Int32) &&& 31)) &&& (63 : Int32))))]))), (.ref b105)])) rfl rfl (hb hby d22_351)
    refine Go.step st184 ?_
    have V185 := own_push (y := (own_by ((128 : Int32) ||| (c0 &&& (63 : Int32))))) V175 (own_ix (by first | omega | decide | (simp only [List.length_append, List.length_cons, List.length_nil]; omega))).1 W184 (own_bb _) (by first | omega | decide | (simp only [List.length_append, List.length_cons, List.length_nil]; omega))
    have N184 := Fr.snoc X184 N174 g_b105
    have F186 := (F176.other W184 ne_a1_b105)
    have F187 := (F177.wr W184)
    have F188 := (F178.wr W184)
    have F189 := (F179.wr W184)
    have F190 := (F180.wr W184)
    have Z191 : n0 ≤ h184.size := (Nat.le_trans Z181 (Nat.le_of_eq W184.size.symm))
    have K192 : Keep h0 h184 [] := (K182.wr W184 (Or.inr sz_b105))
    show Go p.tables e below _ (T184.setTop (mkF m 352 #[vR a1, vI 1, vI ((own_len ((([] : List Int32) ++ [(own_by ((224 : Int32) ||| (c0 >>> ((12 : Int32) &&& 31))))]) ++ [(own_by ((128 : Int32) ||| ((c0 >>> ((6 : Int32) &&& 31)) &&& (63 : Int32))))])) + (1 : Int32)), vI 1, vI 1, vR b105, vI c0, uS, uS] []))
    rw [own_len1 ((([] : List Int32) ++ [(own_by ((224 : Int32) ||| (c0 >>> ((12 : Int32) &&& 31))))]) ++ [(own_by ((128 : Int32) ||| ((c0 >>> ((6 : Int32) &&& 31)) &&& (63 : Int32))))]) (own_by ((128 : Int32) ||| (c0 &&& (63 : Int32))))]
    show Go p.tables e below _ (T184.setTop (mkF m 352 #[vR a1, vI 1, vI (own_len (((([] : List Int32) ++ [(own_by ((224 : Int32) ||| (c0 >>> ((12 : Int32) &&& 31))))]) ++ [(own_by ((128 : Int32) ||| ((c0 >>> ((6 : Int32) &&& 31)) &&& (63 : Int32))))]) ++ [(own_by ((128 : Int32) ||| (c0 &&& (63 : Int32))))])), vI 1, vI 1, vR b105, vI c0, uS, uS] []))
    refine Go.step (fun _ kt => XS.goto X184.here hx rfl (pc0 := 352) (pc' := 58) rfl (hb hby d22_352) (by decide) (by decide) (XS.iloadN X184.here hx rfl (hb hby d22_58) rfl (XS.iload X184.here hx rfl (hb hby d22_59) rfl (XS.icmpYes X184.here hx rfl (pc0 := 61) (pc' := 355) rfl (hb hby d22_61) rfl (flt (by decide : ¬ ((1 : Int32) < (1 : Int32)))).2.1 (by decide) (by decide) kt)))) ?_
    show Go p.tables e below _ (T184.setTop (mkF m 355 #[vR a1, vI 1, vI (own_len (((([] : List Int32) ++ [(own_by ((224 : Int32) ||| (c0 >>> ((12 : Int32) &&& 31))))]) ++ [(own_by ((128 : Int32) ||| ((c0 >>> ((6 : Int32) &&& 31)) &&& (63 : Int32))))]) ++ [(own_by ((128 : Int32) ||| (c0 &&& (63 : Int32))))])), vI 1, vI 1, vR b105, vI c0, uS, uS] []))
    exact G355g113 _ _ _ _ (by rw [own_uC hc36_126 hc100_140 hc145_162]; try rfl) (by first | omega | decide | (simp only [List.length_append, List.length_cons, List.length_nil]; omega)) (Or.inr ⟨_, rfl⟩) (Or.inl rfl) (Or.inl rfl) _ _ _ (X184.more (by decide) (by decide)) e184 N184 Z191 K192 V185 F190
   ·refine Go.step (fun _ kt => XS.ifNo X161.here hx rfl (hb hby d22_145) rfl ((if0 _ _).trans (feq hc145_162).1) (XS.iconst X161.here hx rfl (hb hby d22_148) (XS.istore X161.here hx rfl (hb hby d22_149) rfl (l' := #[vR a1, vI 1, vI (own_len ([] : List Int32)), vI 1, vI 1, vR b105, vI c0, vI (-1 : Int32), uS]) rfl (XS.iload X161.here hx rfl (hb hby d22_151) rfl kt)))) ?_
    show Go p.tables e below _ (T161.setTop (mkF m 153 #[vR a1, vI 1, vI (own_len ([] : List Int32)), vI 1, vI 1, vR b105, vI c0, vI (-1 : Int32), uS] [(.int c0)]))
    obtain ⟨_, _, ⟨T193, L193, k193, n193⟩, -, X193, ⟨Lc193, hQ193, l193, y193, z193⟩, st193⟩ := Jvm.LawKit.callS X161 hx (y := Y3) hown (mvT hZ (w116 hw)) (mvT hZ (w117 hw)) (mvT hZ (w112 hw)) (mvT hZ (w118 hw)) (by decide) (backOf (W := 0) (rmih l Z a0 hw [] c0  h105 n0 Z110  ) hZ (w118 hw) (w112 hw) (by decide) (by decide)) (g := (mkF m 153 #[vR a1, vI 1, vI (own_len ([] : List Int32)), vI 1, vI 1, vR b105, vI c0, vI (-1 : Int32), uS] [(.int c0)])) rfl hml.symm (argsL := [(.int c0)]) (rest := []) (lenOf pd_7 rfl) rfl (Nat.le_of_eq rfl) (hb hby d22_153) (fun _ _ => ⟨rfl, eh161, (by decide : 1 + 0 ≤ _), (by decide : 3 + 0 ≤ _)⟩)
    dsimp only [Pt.U, Pt.locs, Pt.cells, Pt.slots] at X193 l193 y193 z193 st193 hQ193
    subst l193 y193 z193
    obtain ⟨rfl, N193q, eh193⟩ := hQ193
    have N193 := Fr.app N161 N193q
    refine Go.step st193 ?_
    show Go p.tables e below _ (T193.setTop (mkF m 156 #[vR a1, vI 1, vI (own_len ([] : List Int32)), vI 1, vI 1, vR b105, vI c0, vI (-1 : Int32), uS] [(.int (own_hs c0))]))
    have J188 : Go p.tables e below (fun o U' => ∃ v L, o = .returned v ∧ Qrme161 Z a1 k1 c0 h0 n0 v U'.heap L ∧ FrameEnd s o U' L Rm5.cells Rm5.slots) (T193.setTop (mkF m 188 #[vR a1, vI 1, vI (own_len ([] : List Int32)), vI 1, vI 1, vR b105, vI c0, vI (-1 : Int32), uS] [])) := by
     show Go p.tables e below _ (T193.setTop (mkF m 188 #[vR a1, vI 1, vI (own_len ([] : List Int32)), vI 1, vI 1, vR b105, vI c0, vI (-1 : Int32), uS] []))
     refine Go.step (fun _ kt => XS.iload X193.here hx rfl (hb hby d22_188) rfl (XS.ifNo X193.here hx rfl (hb hby d22_190) rfl ((if0 _ _).trans (tlt (by decide : (-1 : Int32) < (0 : Int32))).2.1) (XS.iloadN X193.here hx rfl (hb hby d22_193) rfl (XS.ifNo X193.here hx rfl (hb hby d22_194) rfl ((if0 _ _).trans (feq (by decide : ¬ ((1 : Int32) = (0 : Int32)))).1) (XS.aload X193.here hx rfl (hb hby d22_197) rfl rfl (XS.iloadN X193.here hx rfl (hb hby d22_199) rfl (XS.iinc X193.here hx rfl (hb hby d22_200) rfl (l' := #[vR a1, vI 1, vI ((own_len ([] : List Int32)) + (1 : Int32)), vI 1, vI 1, vR b105, vI c0, vI (-1 : Int32), uS]) rfl (XS.bipush X193.here hx rfl (hb hby d22_203) kt)))))))) ?_
     show Go p.tables e below _ (T193.setTop (mkF m 205 #[vR a1, vI 1, vI ((own_len ([] : List Int32)) + (1 : Int32)), vI 1, vI 1, vR b105, vI c0, vI (-1 : Int32), uS] [(.int 63), (.int (own_len ([] : List Int32))), (.ref b105)]))
     obtain ⟨cl194, Ar194, qa194, Sa194, Na194, Ha194, Ga194⟩ := (id V112)
     obtain ⟨T194, h194, X194, e194, W194, st194⟩ := stB X193 hx hZ eh193 Ar194 (j := (own_len ([] : List Int32))) (own_in Sa194 (n := 3) (by decide) (by decide) (by first | omega | decide | (simp only [List.length_append, List.length_cons, List.length_nil]; omega))) (g := (mkF m 205 #[vR a1, vI 1, vI ((own_len ([] : List Int32)) + (1 : Int32)), vI 1, vI 1, vR b105, vI c0, vI (-1 : Int32), uS] [(.int 63), (.int (own_len ([] : List Int32))), (.ref b105)])) rfl rfl (hb hby d22_205)
     refine Go.step st194 ?_
     have V195 := own_push (y := (63 : Int32)) V112 (own_ix (by first | omega | decide | (simp only [List.length_append, List.length_cons, List.length_nil]; omega))).1 W194 (by decide) (by first | omega | decide | (simp only [List.length_append, List.length_cons, List.length_nil]; omega))
     have N194 := Fr.snoc X194 N193 g_b105
     have F196 := (F106.other W194 ne_a1_b105)
     have F197 := (F107.wr W194)
     have F198 := (F108.wr W194)
     have F199 := (F109.wr W194)
     have F200 := (Ex105.wr W194)
     have Z201 : n0 ≤ h194.size := (Nat.le_trans Z110 (Nat.le_of_eq W194.size.symm))
     have K202 : Keep h0 h194 [] := (K111.wr W194 (Or.inr sz_b105))
     show Go p.tables e below _ (T194.setTop (mkF m 206 #[vR a1, vI 1, vI ((own_len ([] : List Int32)) + (1 : Int32)), vI 1, vI 1, vR b105, vI c0, vI (-1 : Int32), uS] []))
     rw [own_len1 ([] : List Int32) (63 : Int32)]
     show Go p.tables e below _ (T194.setTop (mkF m 206 #[vR a1, vI 1, vI (own_len (([] : List Int32) ++ [(63 : Int32)])), vI 1, vI 1, vR b105, vI c0, vI (-1 : Int32), uS] []))
     refine Go.step (fun _ kt => XS.goto X194.here hx rfl (pc0 := 206) (pc' := 295) rfl (hb hby d22_206) (by decide) (by decide) (XS.goto X194.here hx rfl (pc0 := 295) (pc' := 352) rfl (hb hby d22_295) (by decide) (by decide) (XS.goto X194.here hx rfl (pc0 := 352) (pc' := 58) rfl (hb hby d22_352) (by decide) (by decide) (XS.iloadN X194.here hx rfl (hb hby d22_58) rfl (XS.iload X194.here hx rfl (hb hby d22_59) rfl (XS.icmpYes X194.here hx rfl (pc0 := 61) (pc' := 355) rfl (hb hby d22_61) rfl (flt (by decide : ¬ ((1 : Int32) < (1 : Int32)))).2.1 (by decide) (by decide) kt)))))) ?_
     show Go p.tables e below _ (T194.setTop (mkF m 355 #[vR a1, vI 1, vI (own_len (([] : List Int32) ++ [(63 : Int32)])), vI 1, vI 1, vR b105, vI c0, vI (-1 : Int32), uS] []))
     exact G355g113 _ _ _ _ (by rw [own_uS hc36_126 hc100_140 hc145_162]; try rfl) (by first | omega | decide | (simp only [List.length_append, List.length_cons, List.length_nil]; omega)) (Or.inr ⟨_, rfl⟩) (Or.inr ⟨_, rfl⟩) (Or.inl rfl) _ _ _ (X194.more (by decide) (by decide)) e194 N194 Z201 K202 V195 F200
    by_cases hc156_203 : (own_hs c0) = (0 : Int32)
    ·refine Go.step (fun _ kt => XS.ifYes X193.here hx rfl (pc0 := 156) (pc' := 188) rfl (hb hby d22_156) rfl ((if0 _ _).trans (teq hc156_203).1) (by decide) (by decide) kt) ?_
     show Go p.tables e below _ (T193.setTop (mkF m 188 #[vR a1, vI 1, vI (own_len ([] : List Int32)), vI 1, vI 1, vR b105, vI c0, vI (-1 : Int32), uS] []))
     exact J188 
    ·refine Go.step (fun _ kt => XS.ifNo X193.here hx rfl (hb hby d22_156) rfl ((if0 _ _).trans (feq hc156_203).1) (XS.iloadN X193.here hx rfl (hb hby d22_159) rfl (XS.iload X193.here hx rfl (hb hby d22_160) rfl (XS.icmpYes X193.here hx rfl (pc0 := 162) (pc' := 188) rfl (hb hby d22_162) rfl (flt (by decide : ¬ ((1 : Int32) < (1 : Int32)))).2.1 (by decide) (by decide) kt)))) ?_
     show Go p.tables e below _ (T193.setTop (mkF m 188 #[vR a1, vI 1, vI (own_len ([] : List Int32)), vI 1, vI 1, vR b105, vI c0, vI (-1 : Int32), uS] []))
     exact J188 
theorem pd_8 : parseMethodDescriptor "([BZ)[B" = some ⟨[(.array .byte), .boolean], some (.array .byte)⟩ := by decide +kernel
theorem ef_rmgc2_1 (m : MethodId) (a1 : Addr) (k1 : ClassId) (c0 : Int32) (c1 : Int32) : entryFrame m #[(.ref a1), (.int 1)] 2 = mkF m 0 #[vR a1, vI 1] [] := by first | (simp [entryFrame, mkF, argsToLocals, Value.category]; done) | rfl
def Qrmgc2_1 (Z : State) (a1 : Addr) (k1 : ClassId) (c0 : Int32) (c1 : Int32) (h0 : Heap) (n0 : Nat) (v : Option Value) (h : Heap) (L : List Loc) : Prop := v = some (.int c1) ∧ Fr n0 L ∧ h = h0
set_option maxRecDepth 65536 in
set_option maxHeartbeats 40000000 in
theorem rmgc2_1 (l : Launch) (Z : State) (a0 : Array Value) (hw : ∀ d ∈ tables_1, d.before a0 Z = true) (ws : List Jvm.Cond) (a1 : Addr) (k1 : ClassId) (c0 : Int32) (c1 : Int32) (h0 : Heap) (n0 : Nat) (Z0 : n0 ≤ h0.size) (V1 : Arv Z h0 a1 k1 .byte (4 : Int32) [(.int (own_lo c0)), (.int (own_hi c0)), (.int (own_lo c1)), (.int (own_hi c1))] (.int 0)) (S_ad : Sta Z h0 "java/lang/StringUTF16" "$assertionsDisabled" "Z" (.int 1)) (S_hi : Sta Z h0 "java/lang/StringUTF16" "HI_BYTE_SHIFT" "I" (.int 0)) (S_lo : Sta Z h0 "java/lang/StringUTF16" "LO_BYTE_SHIFT" "I" (.int 8)) (hR1 : own_R c1) :
    MetFree l Y12 (head1 (Jvm.Cond.code Y12 jdk_52_method_5_code 2 (some .char) :: ws) Rm0) (fun a U => a = #[(.ref a1), (.int 1)] ∧ Z.Warmed39 U.vm ∧ U.heap = h0) (fun _ _ _ _ _ => True) (fun _ U o U' => ∃ v L, o = .returned v ∧ Qrmgc2_1 Z a1 k1 c0 c1 h0 n0 v U'.heap L ∧ FrameEnd U o U' L Rm0.cells Rm0.slots) := by
 refine MetFree.of_bodySF (plainFor_of_name pn_4) hisR ?_
 intro p e s m args below meth c s₁ Bd hml0 hP hK
 obtain ⟨rfl, hZ, hh⟩ := hP
 have hx := Bd.exec
 have hby := Bd.bytes
 have hml : c.maxLocals = 2 := hml0
 have hown : s.vm.findClass "java/lang/StringUTF16" = some m.cls := findClass_of_methodNamed Bd.named
 have hnm := (name_of_methodNamed Bd.named Bd.method).1
 have X0 : Stand p l e Rm0 s m #[(.ref a1), (.int 1)] below meth c s₁ [] 0 0 := Stand.of_body Bd
 have e0 : s₁.heap = h0 := by rw [← hh, Bd.state]; rfl
 have N0 := Fr.nil n0
 show Go p.tables e below (fun o U' => ∃ v L, o = .returned v ∧ Qrmgc2_1 Z a1 k1 c0 c1 h0 n0 v U'.heap L ∧ FrameEnd s o U' L Rm0.cells Rm0.slots) _
 refine Go.step (fun t kt => castTop (ef_rmgc2_1 m a1 k1 c0 c1) kt) ?_
 obtain ⟨T101, X101, e101, st101⟩ := getS2 X0 hx hZ hown (host := "") (Or.inl (w99 hw)) Via.refl e0 S_ad (g := (mkF m 0 #[vR a1, vI 1] [])) rfl (hb hby d21_0)
 refine Go.step st101 ?_
 show Go p.tables e below _ (T101.setTop (mkF m 3 #[vR a1, vI 1] [(.int 1)]))
 refine Go.step (fun _ kt => XS.ifYes X101.here hx rfl (pc0 := 3) (pc' := 28) rfl (hb hby d21_3) rfl ((if0 _ _).trans (feq (by decide : ¬ ((1 : Int32) = (0 : Int32)))).2) (by decide) (by decide) (XS.iloadN X101.here hx rfl (hb hby d21_28) rfl (XS.iconst X101.here hx rfl (hb hby d21_29) (XS.ishl X101.here hx rfl (hb hby d21_30) rfl kt)))) ?_
 show Go p.tables e below _ (T101.setTop (mkF m 31 #[vR a1, vI 1] [(.int ((1 : Int32) <<< ((1 : Int32) &&& 31)))]))
 have q102 : ((1 : Int32) <<< ((1 : Int32) &&& 31)) = (2 : Int32) := by decide
 rw [q102]
 show Go p.tables e below _ (T101.setTop (mkF m 31 #[vR a1, vI 1] [(.int 2)]))
 refine Go.step (fun _ kt => XS.istoreN X101.here hx rfl (hb hby d21_31) rfl (l' := #[vR a1, vI 2]) rfl (XS.aloadN X101.here hx rfl (hb hby d21_32) rfl rfl (XS.iloadN X101.here hx rfl (hb hby d21_33) rfl (XS.iinc X101.here hx rfl (hb hby d21_34) rfl (l' := #[vR a1, vI ((2 : Int32) + (1 : Int32))]) rfl kt)))) ?_
 show Go p.tables e below _ (T101.setTop (mkF m 37 #[vR a1, vI ((2 : Int32) + (1 : Int32))] [(.int 2), (.ref a1)]))
 have q103 : ((2 : Int32) + (1 : Int32)) = (3 : Int32) := by decide
 rw [q103]
 obtain ⟨cl104, Ar104, qa104, Sa104, Na104, Ha104, Ga104⟩ := (id V1)
 have hin104 : ¬ ((2 : Int32) < 0 ∨ cl104.slots.size ≤ ((2 : Int32)).toNatClampNeg) := inb_of Sa104 ⟨by decide, by decide⟩
 have hat104 : cl104.slots[((2 : Int32)).toNatClampNeg]? = some (.int (own_lo c1)) := at_of Ha104 hin104 rfl
 refine Go.step (X101.baloadBytes hx (j := (2 : Int32)) (v := (.int (own_lo c1))) (by rw [e101]; exact Ar104.1) (State.isArrayOf_alike hZ.alike Ar104.2.1) Ar104.2.2 hin104 hat104 (g := (mkF m 37 #[vR a1, vI 3] [(.int 2), (.ref a1)])) rfl rfl (hb hby d21_37)) ?_
 show Go p.tables e below _ (T101.setTop (mkF m 38 #[vR a1, vI 3] [(.int (own_lo c1))]))
 refine Go.step (fun _ kt => XS.sipush X101.here hx rfl (hb hby d21_38) (XS.iand X101.here hx rfl (hb hby d21_41) rfl kt)) ?_
 obtain ⟨T105, X105, e105, st105⟩ := getS2 X101 hx hZ hown (host := "") (Or.inl (w100 hw)) Via.refl e101 S_hi (g := (mkF m 42 #[vR a1, vI 3] [(.int ((own_lo c1) &&& (255 : Int32)))])) rfl (hb hby d21_42)
 refine Go.step st105 ?_
 show Go p.tables e below _ (T105.setTop (mkF m 45 #[vR a1, vI 3] [(.int 0), (.int ((own_lo c1) &&& (255 : Int32)))]))
 refine Go.step (fun _ kt => XS.ishl X105.here hx rfl (hb hby d21_45) rfl (XS.aloadN X105.here hx rfl (hb hby d21_46) rfl rfl (XS.iloadN X105.here hx rfl (hb hby d21_47) rfl kt))) ?_
 obtain ⟨cl106, Ar106, qa106, Sa106, Na106, Ha106, Ga106⟩ := (id V1)
 have hin106 : ¬ ((3 : Int32) < 0 ∨ cl106.slots.size ≤ ((3 : Int32)).toNatClampNeg) := inb_of Sa106 ⟨by decide, by decide⟩
 have hat106 : cl106.slots[((3 : Int32)).toNatClampNeg]? = some (.int (own_hi c1)) := at_of Ha106 hin106 rfl
 refine Go.step (X105.baloadBytes hx (j := (3 : Int32)) (v := (.int (own_hi c1))) (by rw [e105]; exact Ar106.1) (State.isArrayOf_alike hZ.alike Ar106.2.1) Ar106.2.2 hin106 hat106 (g := (mkF m 48 #[vR a1, vI 3] [(.int 3), (.ref a1), (.int (((own_lo c1) &&& (255 : Int32)) <<< ((0 : Int32) &&& 31)))])) rfl rfl (hb hby d21_48)) ?_
 show Go p.tables e below _ (T105.setTop (mkF m 49 #[vR a1, vI 3] [(.int (own_hi c1)), (.int (((own_lo c1) &&& (255 : Int32)) <<< ((0 : Int32) &&& 31)))]))
 refine Go.step (fun _ kt => XS.sipush X105.here hx rfl (hb hby d21_49) (XS.iand X105.here hx rfl (hb hby d21_52) rfl kt)) ?_
 obtain ⟨T107, X107, e107, st107⟩ := getS2 X105 hx hZ hown (host := "") (Or.inl (w101 hw)) Via.refl e105 S_lo (g := (mkF m 53 #[vR a1, vI 3] [(.int ((own_hi c1) &&& (255 : Int32))), (.int (((own_lo c1) &&& (255 : Int32)) <<< ((0 : Int32) &&& 31)))])) rfl (hb hby d21_53)
 refine Go.step st107 ?_
 show Go p.tables e below _ (T107.setTop (mkF m 56 #[vR a1, vI 3] [(.int 8), (.int ((own_hi c1) &&& (255 : Int32))), (.int (((own_lo c1) &&& (255 : Int32)) <<< ((0 : Int32) &&& 31)))]))
 refine Go.step (fun _ kt => XS.ishl X107.here hx rfl (hb hby d21_56) rfl (XS.ior X107.here hx rfl (hb hby d21_57) rfl (XS.i2c X107.here hx rfl (hb hby d21_58) rfl kt))) ?_
 show Go p.tables e below _ (T107.setTop (mkF m 59 #[vR a1, vI 3] [(.int (((((own_lo c1) &&& (255 : Int32)) <<< ((0 : Int32) &&& 31)) ||| (((own_hi c1) &&& (255 : Int32)) <<< ((8 : Int32) &&& 31))).toUInt32.toUInt16.toUInt32.toInt32))]))
 have q108 : (((((own_lo c1) &&& (255 : Int32)) <<< ((0 : Int32) &&& 31)) ||| (((own_hi c1) &&& (255 : Int32)) <<< ((8 : Int32) &&& 31))).toUInt32.toUInt16.toUInt32.toInt32) = c1 := own_gc hR1
 rw [q108]
 show Go p.tables e below _ (T107.setTop (mkF m 59 #[vR a1, vI 3] [(.int c1)]))
 obtain ⟨fs, hr, hrun, hended, hW, hsame⟩ := X107.leave (v := some (.int (nar .char c1))) (fun h => by rw [Bd.returns] at h; cases h)
 refine ⟨_, _, retN X107 hx (t := .char) Bd.returns (by simp) (hb hby d21_59) hr, hrun, hended, _, _, rfl, ?_, ⟨_, rfl⟩, hW, hsame.mono (by decide) (by decide)⟩
 show Qrmgc2_1 Z a1 k1 c0 c1 h0 n0 _ T107.heap _
 rw [e107]
 refine ⟨?_, N0, rfl⟩
 have q : nar .char c1 = c1 := own_cc hR1
 rw [q]
theorem ef_rmgc2_0 (m : MethodId) (a1 : Addr) (k1 : ClassId) (c0 : Int32) (c1 : Int32) : entryFrame m #[(.ref a1), (.int 0)] 2 = mkF m 0 #[vR a1, vI 0] [] := by first | (simp [entryFrame, mkF, argsToLocals, Value.category]; done) | rfl
def Qrmgc2_0 (Z : State) (a1 : Addr) (k1 : ClassId) (c0 : Int32) (c1 : Int32) (h0 : Heap) (n0 : Nat) (v : Option Value) (h : Heap) (L : List Loc) : Prop := v = some (.int c0) ∧ Fr n0 L ∧ h = h0
set_option maxRecDepth 65536 in
set_option maxHeartbeats 40000000 in
theorem rmgc2_0 (l : Launch) (Z : State) (a0 : Array Value) (hw : ∀ d ∈ tables_1, d.before a0 Z = true) (ws : List Jvm.Cond) (a1 : Addr) (k1 : ClassId) (c0 : Int32) (c1 : Int32) (h0 : Heap) (n0 : Nat) (Z0 : n0 ≤ h0.size) (V1 : Arv Z h0 a1 k1 .byte (4 : Int32) [(.int (own_lo c0)), (.int (own_hi c0)), (.int (own_lo c1)), (.int (own_hi c1))] (.int 0)) (S_ad : Sta Z h0 "java/lang/StringUTF16" "$assertionsDisabled" "Z" (.int 1)) (S_hi : Sta Z h0 "java/lang/StringUTF16" "HI_BYTE_SHIFT" "I" (.int 0)) (S_lo : Sta Z h0 "java/lang/StringUTF16" "LO_BYTE_SHIFT" "I" (.int 8)) (hR0 : own_R c0) :
    MetFree l Y12 (head1 (Jvm.Cond.code Y12 jdk_52_method_5_code 2 (some .char) :: ws) Rm0) (fun a U => a = #[(.ref a1), (.int 0)] ∧ Z.Warmed39 U.vm ∧ U.heap = h0) (fun _ _ _ _ _ => True) (fun _ U o U' => ∃ v L, o = .returned v ∧ Qrmgc2_0 Z a1 k1 c0 c1 h0 n0 v U'.heap L ∧ FrameEnd U o U' L Rm0.cells Rm0.slots) := by
 refine MetFree.of_bodySF (plainFor_of_name pn_4) hisR ?_
 intro p e s m args below meth c s₁ Bd hml0 hP hK
 obtain ⟨rfl, hZ, hh⟩ := hP
 have hx := Bd.exec
 have hby := Bd.bytes
 have hml : c.maxLocals = 2 := hml0
 have hown : s.vm.findClass "java/lang/StringUTF16" = some m.cls := findClass_of_methodNamed Bd.named
 have hnm := (name_of_methodNamed Bd.named Bd.method).1
 have X0 : Stand p l e Rm0 s m #[(.ref a1), (.int 0)] below meth c s₁ [] 0 0 := Stand.of_body Bd
 have e0 : s₁.heap = h0 := by rw [← hh, Bd.state]; rfl
 have N0 := Fr.nil n0
 show Go p.tables e below (fun o U' => ∃ v L, o = .returned v ∧ Qrmgc2_0 Z a1 k1 c0 c1 h0 n0 v U'.heap L ∧ FrameEnd s o U' L Rm0.cells Rm0.slots) _
 refine Go.step (fun t kt => castTop (ef_rmgc2_0 m a1 k1 c0 c1) kt) ?_
 obtain ⟨T101, X101, e101, st101⟩ := getS2 X0 hx hZ hown (host := "") (Or.inl (w99 hw)) Via.refl e0 S_ad (g := (mkF m 0 #[vR a1, vI 0] [])) rfl (hb hby d21_0)
 refine Go.step st101 ?_
 show Go p.tables e below _ (T101.setTop (mkF m 3 #[vR a1, vI 0] [(.int 1)]))
 refine Go.step (fun _ kt => XS.ifYes X101.here hx rfl (pc0 := 3) (pc' := 28) rfl (hb hby d21_3) rfl ((if0 _ _).trans (feq (by decide : ¬ ((1 : Int32) = (0 : Int32)))).2) (by decide) (by decide) (XS.iloadN X101.here hx rfl (hb hby d21_28) rfl (XS.iconst X101.here hx rfl (hb hby d21_29) (XS.ishl X101.here hx rfl (hb hby d21_30) rfl kt)))) ?_
 show Go p.tables e below _ (T101.setTop (mkF m 31 #[vR a1, vI 0] [(.int ((0 : Int32) <<< ((1 : Int32) &&& 31)))]))
 have q102 : ((0 : Int32) <<< ((1 : Int32) &&& 31)) = (0 : Int32) := by decide
 rw [q102]
 show Go p.tables e below _ (T101.setTop (mkF m 31 #[vR a1, vI 0] [(.int 0)]))
 refine Go.step (fun _ kt => XS.istoreN X101.here hx rfl (hb hby d21_31) rfl (l' := #[vR a1, vI 0]) rfl (XS.aloadN X101.here hx rfl (hb hby d21_32) rfl rfl (XS.iloadN X101.here hx rfl (hb hby d21_33) rfl (XS.iinc X101.here hx rfl (hb hby d21_34) rfl (l' := #[vR a1, vI ((0 : Int32) + (1 : Int32))]) rfl kt)))) ?_
 show Go p.tables e below _ (T101.setTop (mkF m 37 #[vR a1, vI ((0 : Int32) + (1 : Int32))] [(.int 0), (.ref a1)]))
 have q103 : ((0 : Int32) + (1 : Int32)) = (1 : Int32) := by decide
 rw [q103]
 obtain ⟨cl104, Ar104, qa104, Sa104, Na104, Ha104, Ga104⟩ := (id V1)
 have hin104 : ¬ ((0 : Int32) < 0 ∨ cl104.slots.size ≤ ((0 : Int32)).toNatClampNeg) := inb_of Sa104 ⟨by decide, by decide⟩
 have hat104 : cl104.slots[((0 : Int32)).toNatClampNeg]? = some (.int (own_lo c0)) := at_of Ha104 hin104 rfl
 refine Go.step (X101.baloadBytes hx (j := (0 : Int32)) (v := (.int (own_lo c0))) (by rw [e101]; exact Ar104.1) (State.isArrayOf_alike hZ.alike Ar104.2.1) Ar104.2.2 hin104 hat104 (g := (mkF m 37 #[vR a1, vI 1] [(.int 0), (.ref a1)])) rfl rfl (hb hby d21_37)) ?_
 show Go p.tables e below _ (T101.setTop (mkF m 38 #[vR a1, vI 1] [(.int (own_lo c0))]))
 refine Go.step (fun _ kt => XS.sipush X101.here hx rfl (hb hby d21_38) (XS.iand X101.here hx rfl (hb hby d21_41) rfl kt)) ?_
 obtain ⟨T105, X105, e105, st105⟩ := getS2 X101 hx hZ hown (host := "") (Or.inl (w100 hw)) Via.refl e101 S_hi (g := (mkF m 42 #[vR a1, vI 1] [(.int ((own_lo c0) &&& (255 : Int32)))])) rfl (hb hby d21_42)
 refine Go.step st105 ?_
 show Go p.tables e below _ (T105.setTop (mkF m 45 #[vR a1, vI 1] [(.int 0), (.int ((own_lo c0) &&& (255 : Int32)))]))
 refine Go.step (fun _ kt => XS.ishl X105.here hx rfl (hb hby d21_45) rfl (XS.aloadN X105.here hx rfl (hb hby d21_46) rfl rfl (XS.iloadN X105.here hx rfl (hb hby d21_47) rfl kt))) ?_
 obtain ⟨cl106, Ar106, qa106, Sa106, Na106, Ha106, Ga106⟩ := (id V1)
 have hin106 : ¬ ((1 : Int32) < 0 ∨ cl106.slots.size ≤ ((1 : Int32)).toNatClampNeg) := inb_of Sa106 ⟨by decide, by decide⟩
 have hat106 : cl106.slots[((1 : Int32)).toNatClampNeg]? = some (.int (own_hi c0)) := at_of Ha106 hin106 rfl
 refine Go.step (X105.baloadBytes hx (j := (1 : Int32)) (v := (.int (own_hi c0))) (by rw [e105]; exact Ar106.1) (State.isArrayOf_alike hZ.alike Ar106.2.1) Ar106.2.2 hin106 hat106 (g := (mkF m 48 #[vR a1, vI 1] [(.int 1), (.ref a1), (.int (((own_lo c0) &&& (255 : Int32)) <<< ((0 : Int32) &&& 31)))])) rfl rfl (hb hby d21_48)) ?_
 show Go p.tables e below _ (T105.setTop (mkF m 49 #[vR a1, vI 1] [(.int (own_hi c0)), (.int (((own_lo c0) &&& (255 : Int32)) <<< ((0 : Int32) &&& 31)))]))
 refine Go.step (fun _ kt => XS.sipush X105.here hx rfl (hb hby d21_49) (XS.iand X105.here hx rfl (hb hby d21_52) rfl kt)) ?_
 obtain ⟨T107, X107, e107, st107⟩ := getS2 X105 hx hZ hown (host := "") (Or.inl (w101 hw)) Via.refl e105 S_lo (g := (mkF m 53 #[vR a1, vI 1] [(.int ((own_hi c0) &&& (255 : Int32))), (.int (((own_lo c0) &&& (255 : Int32)) <<< ((0 : Int32) &&& 31)))])) rfl (hb hby d21_53)
 refine Go.step st107 ?_
 show Go p.tables e below _ (T107.setTop (mkF m 56 #[vR a1, vI 1] [(.int 8), (.int ((own_hi c0) &&& (255 : Int32))), (.int (((own_lo c0) &&& (255 : Int32)) <<< ((0 : Int32) &&& 31)))]))
 refine Go.step (fun _ kt => XS.ishl X107.here hx rfl (hb hby d21_56) rfl (XS.ior X107.here hx rfl (hb hby d21_57) rfl (XS.i2c X107.here hx rfl (hb hby d21_58) rfl kt))) ?_
 show Go p.tables e below _ (T107.setTop (mkF m 59 #[vR a1, vI 1] [(.int (((((own_lo c0) &&& (255 : Int32)) <<< ((0 : Int32) &&& 31)) ||| (((own_hi c0) &&& (255 : Int32)) <<< ((8 : Int32) &&& 31))).toUInt32.toUInt16.toUInt32.toInt32))]))
 have q108 : (((((own_lo c0) &&& (255 : Int32)) <<< ((0 : Int32) &&& 31)) ||| (((own_hi c0) &&& (255 : Int32)) <<< ((8 : Int32) &&& 31))).toUInt32.toUInt16.toUInt32.toInt32) = c0 := own_gc hR0
 rw [q108]
 show Go p.tables e below _ (T107.setTop (mkF m 59 #[vR a1, vI 1] [(.int c0)]))
 obtain ⟨fs, hr, hrun, hended, hW, hsame⟩ := X107.leave (v := some (.int (nar .char c0))) (fun h => by rw [Bd.returns] at h; cases h)
 refine ⟨_, _, retN X107 hx (t := .char) Bd.returns (by simp) (hb hby d21_59) hr, hrun, hended, _, _, rfl, ?_, ⟨_, rfl⟩, hW, hsame.mono (by decide) (by decide)⟩
 show Qrmgc2_0 Z a1 k1 c0 c1 h0 n0 _ T107.heap _
 rw [e107]
 refine ⟨?_, N0, rfl⟩
 have q : nar .char c0 = c0 := own_cc hR0
 rw [q]
theorem pd_9 : parseMethodDescriptor "(CC)I" = some ⟨[.char, .char], some .int⟩ := by decide +kernel
theorem d22_82 : dC13 82 (.aload 5, 2) := by decide +kernel
theorem d22_84 : dC13 84 (.iload_n 2, 1) := by decide +kernel
theorem d22_85 : dC13 85 (.iinc 2 1, 3) := by decide +kernel
theorem d22_88 : dC13 88 (.iload 6, 2) := by decide +kernel
theorem d22_90 : dC13 90 (.i2b, 1) := by decide +kernel
theorem d22_91 : dC13 91 (.bastore, 1) := by decide +kernel
theorem d22_92 : dC13 92 (.goto 260, 3) := by decide +kernel
theorem d22_165 : dC13 165 (.aload_n 0, 1) := by decide +kernel
theorem d22_166 : dC13 166 (.iload_n 3, 1) := by decide +kernel
theorem d22_167 : dC13 167 (.invokestatic 360, 3) := by decide +kernel
theorem d22_170 : dC13 170 (.dup, 1) := by decide +kernel
theorem d22_171 : dC13 171 (.istore 8, 2) := by decide +kernel
theorem d22_173 : dC13 173 (.invokestatic 370, 3) := by decide +kernel
theorem d22_176 : dC13 176 (.ifCond .eq 12, 3) := by decide +kernel
theorem d22_179 : dC13 179 (.iload 6, 2) := by decide +kernel
theorem d22_181 : dC13 181 (.iload 8, 2) := by decide +kernel
theorem d22_183 : dC13 183 (.invokestatic 477, 3) := by decide +kernel
theorem d22_186 : dC13 186 (.istore 7, 2) := by decide +kernel
theorem d22_218 : dC13 218 (.aload 5, 2) := by decide +kernel
theorem d22_220 : dC13 220 (.iload_n 2, 1) := by decide +kernel
theorem d22_221 : dC13 221 (.iinc 2 1, 3) := by decide +kernel
theorem d22_224 : dC13 224 (.sipush 240, 3) := by decide +kernel
theorem d22_227 : dC13 227 (.iload 7, 2) := by decide +kernel
theorem d22_229 : dC13 229 (.bipush 18, 2) := by decide +kernel
theorem d22_231 : dC13 231 (.ishr, 1) := by decide +kernel
theorem d22_232 : dC13 232 (.ior, 1) := by decide +kernel
theorem d22_233 : dC13 233 (.i2b, 1) := by decide +kernel
theorem d22_234 : dC13 234 (.bastore, 1) := by decide +kernel
theorem d22_235 : dC13 235 (.aload 5, 2) := by decide +kernel
theorem d22_237 : dC13 237 (.iload_n 2, 1) := by decide +kernel
theorem d22_238 : dC13 238 (.iinc 2 1, 3) := by decide +kernel
theorem d22_241 : dC13 241 (.sipush 128, 3) := by decide +kernel
theorem d22_244 : dC13 244 (.iload 7, 2) := by decide +kernel
theorem d22_246 : dC13 246 (.bipush 12, 2) := by decide +kernel
theorem d22_248 : dC13 248 (.ishr, 1) := by decide +kernel
theorem d22_249 : dC13 249 (.bipush 63, 2) := by decide +kernel
theorem d22_251 : dC13 251 (.iand, 1) := by decide +kernel
theorem d22_252 : dC13 252 (.ior, 1) := by decide +kernel
theorem d22_253 : dC13 253 (.i2b, 1) := by decide +kernel
theorem d22_254 : dC13 254 (.bastore, 1) := by decide +kernel
theorem d22_255 : dC13 255 (.aload 5, 2) := by decide +kernel
theorem d22_257 : dC13 257 (.iload_n 2, 1) := by decide +kernel
theorem d22_258 : dC13 258 (.iinc 2 1, 3) := by decide +kernel
theorem d22_261 : dC13 261 (.sipush 128, 3) := by decide +kernel
theorem d22_264 : dC13 264 (.iload 7, 2) := by decide +kernel
theorem d22_266 : dC13 266 (.bipush 6, 2) := by decide +kernel
theorem d22_268 : dC13 268 (.ishr, 1) := by decide +kernel
theorem d22_269 : dC13 269 (.bipush 63, 2) := by decide +kernel
theorem d22_271 : dC13 271 (.iand, 1) := by decide +kernel
theorem d22_272 : dC13 272 (.ior, 1) := by decide +kernel
theorem d22_273 : dC13 273 (.i2b, 1) := by decide +kernel
theorem d22_274 : dC13 274 (.bastore, 1) := by decide +kernel
theorem d22_275 : dC13 275 (.aload 5, 2) := by decide +kernel
theorem d22_277 : dC13 277 (.iload_n 2, 1) := by decide +kernel
theorem d22_278 : dC13 278 (.iinc 2 1, 3) := by decide +kernel
theorem d22_281 : dC13 281 (.sipush 128, 3) := by decide +kernel
theorem d22_284 : dC13 284 (.iload 7, 2) := by decide +kernel
theorem d22_286 : dC13 286 (.bipush 63, 2) := by decide +kernel
theorem d22_288 : dC13 288 (.iand, 1) := by decide +kernel
theorem d22_289 : dC13 289 (.ior, 1) := by decide +kernel
theorem d22_290 : dC13 290 (.i2b, 1) := by decide +kernel
theorem d22_291 : dC13 291 (.bastore, 1) := by decide +kernel
theorem d22_292 : dC13 292 (.iinc 3 1, 3) := by decide +kernel
theorem ef_rme162 (m : MethodId) (a1 : Addr) (k1 : ClassId) (c0 : Int32) (c1 : Int32) : entryFrame m #[(.ref a1), (.int 1)] 9 = mkF m 0 #[vR a1, vI 1, uS, uS, uS, uS, uS, uS, uS] [] := by first | (simp [entryFrame, mkF, argsToLocals, Value.category]; done) | rfl
def Qrme162 (Z : State) (a1 : Addr) (k1 : ClassId) (c0 : Int32) (c1 : Int32) (h0 : Heap) (n0 : Nat) (v : Option Value) (h : Heap) (L : List Loc) : Prop := ∃ r : Addr, ∃ kr : ClassId, v = some (.ref r) ∧ Fr n0 L ∧ Keep h0 h [] ∧ Exa Z h r "[B" ∧ Arv Z h r kr .byte (own_len (own_e2 c0 c1)) ((own_e2 c0 c1).map Value.int) (.int 0) ∧ n0 ≤ r ∧ h0.size ≤ r
set_option maxRecDepth 65536 in
set_option maxHeartbeats 40000000 in
theorem rme162 (l : Launch) (Z : State) (a0 : Array Value) (hw : ∀ d ∈ tables_1, d.before a0 Z = true) (ws : List Jvm.Cond) (a1 : Addr) (k1 : ClassId) (c0 : Int32) (c1 : Int32) (h0 : Heap) (n0 : Nat) (Z0 : n0 ≤ h0.size) (V1 : Arv Z h0 a1 k1 .byte (4 : Int32) [(.int (own_lo c0)), (.int (own_hi c0)), (.int (own_lo c1)), (.int (own_hi c1))] (.int 0)) (S_ad : Sta Z h0 "java/lang/StringUTF16" "$assertionsDisabled" "Z" (.int 1)) (S_hi : Sta Z h0 "java/lang/StringUTF16" "HI_BYTE_SHIFT" "I" (.int 0)) (S_lo : Sta Z h0 "java/lang/StringUTF16" "LO_BYTE_SHIFT" "I" (.int 8)) (hR0 : own_R c0) (hR1 : own_R c1) :
    MetFree l Y13 (head1 (Jvm.Cond.code Y13 jdk_42_method_47_code 9 (some (.array .byte)) :: ws) Rm6) (fun a U => a = #[(.ref a1), (.int 1)] ∧ Z.Warmed39 U.vm ∧ U.heap = h0) (fun _ _ _ _ _ => True) (fun _ U o U' => ∃ v L, o = .returned v ∧ Qrme162 Z a1 k1 c0 c1 h0 n0 v U'.heap L ∧ FrameEnd U o U' L Rm6.cells Rm6.slots) := by
 refine MetFree.of_bodySF (plainFor_of_name pn_5) hisR ?_
 intro p e s m args below meth c s₁ Bd hml0 hP hK
 obtain ⟨rfl, hZ, hh⟩ := hP
 have hx := Bd.exec
 have hby := Bd.bytes
 have hml : c.maxLocals = 9 := hml0
 have hown : s.vm.findClass "java/lang/String" = some m.cls := findClass_of_methodNamed Bd.named
 have hnm := (name_of_methodNamed Bd.named Bd.method).1
 have X0 : Stand p l e Rm6 s m #[(.ref a1), (.int 1)] below meth c s₁ [] 0 0 := Stand.of_body Bd
 have e0 : s₁.heap = h0 := by rw [← hh, Bd.state]; rfl
 have N0 := Fr.nil n0
 show Go p.tables e below (fun o U' => ∃ v L, o = .returned v ∧ Qrme162 Z a1 k1 c0 c1 h0 n0 v U'.heap L ∧ FrameEnd s o U' L Rm6.cells Rm6.slots) _
 refine Go.step (fun t kt => castTop (ef_rme162 m a1 k1 c0 c1) kt) ?_
 show Go p.tables e below _ (s₁.setTop (mkF m 0 #[vR a1, vI 1, uS, uS, uS, uS, uS, uS, uS] []))
 have K101 : Keep h0 h0 [] := (Keep.refl h0 [])
 refine Go.step (fun _ kt => XS.iconst X0.here hx rfl (hb hby d22_0) (XS.istoreN X0.here hx rfl (hb hby d22_1) rfl (l' := #[vR a1, vI 1, vI 0, uS, uS, uS, uS, uS, uS]) rfl (XS.iconst X0.here hx rfl (hb hby d22_2) (XS.istoreN X0.here hx rfl (hb hby d22_3) rfl (l' := #[vR a1, vI 1, vI 0, vI 0, uS, uS, uS, uS, uS]) rfl (XS.aloadN X0.here hx rfl (hb hby d22_4) rfl rfl kt))))) ?_
 show Go p.tables e below _ (s₁.setTop (mkF m 5 #[vR a1, vI 1, vI 0, vI 0, uS, uS, uS, uS, uS] [(.ref a1)]))
 obtain ⟨cl102, Ar102, qa102, Sa102, Na102, Ha102, Ga102⟩ := (id V1)
 refine Go.step (X0.arraylength hx (by rw [e0]; exact Ar102.1) (State.isArrayOf_alike hZ.alike Ar102.2.1) (g := (mkF m 5 #[vR a1, vI 1, vI 0, vI 0, uS, uS, uS, uS, uS] [(.ref a1)])) rfl rfl (hb hby d22_5)) ?_
 rw [len_of Sa102 Na102]
 show Go p.tables e below _ (s₁.setTop (mkF m 6 #[vR a1, vI 1, vI 0, vI 0, uS, uS, uS, uS, uS] [(.int 4)]))
 refine Go.step (fun _ kt => XS.iconst X0.here hx rfl (hb hby d22_6) (XS.ishr X0.here hx rfl (hb hby d22_7) rfl kt)) ?_
 show Go p.tables e below _ (s₁.setTop (mkF m 8 #[vR a1, vI 1, vI 0, vI 0, uS, uS, uS, uS, uS] [(.int ((4 : Int32) >>> ((1 : Int32) &&& 31)))]))
 have q103 : ((4 : Int32) >>> ((1 : Int32) &&& 31)) = (2 : Int32) := by decide
 rw [q103]
 show Go p.tables e below _ (s₁.setTop (mkF m 8 #[vR a1, vI 1, vI 0, vI 0, uS, uS, uS, uS, uS] [(.int 2)]))
 refine Go.step (fun _ kt => XS.istore X0.here hx rfl (hb hby d22_8) rfl (l' := #[vR a1, vI 1, vI 0, vI 0, vI 2, uS, uS, uS, uS]) rfl (XS.iload X0.here hx rfl (hb hby d22_10) rfl (XS.iconst X0.here hx rfl (hb hby d22_12) (XS.imul X0.here hx rfl (hb hby d22_13) rfl kt)))) ?_
 show Go p.tables e below _ (s₁.setTop (mkF m 14 #[vR a1, vI 1, vI 0, vI 0, vI 2, uS, uS, uS, uS] [(.int ((2 : Int32) * (3 : Int32)))]))
 have q104 : ((2 : Int32) * (3 : Int32)) = (6 : Int32) := by decide
 rw [q104]
 obtain ⟨T105, h105, k105, X105, e105, E105, A105, Ex105, st105⟩ := newPE (aty := .byte) X0 hx hZ (w20 hw) e0 (g := (mkF m 14 #[vR a1, vI 1, vI 0, vI 0, vI 2, uS, uS, uS, uS] [(.int 6)])) rfl (hb hby d22_14) rfl (by decide) (cap := 6) (by decide) (by decide) (by decide) (by decide) (ad := "[B") own_adB
 obtain ⟨b105, g105⟩ : ∃ z, z = h0.size := ⟨_, rfl⟩
 rw [← g105] at A105 Ex105 st105
 refine Go.step st105 ?_
 have ne_a1_b105 : a1 ≠ b105 := Nat.ne_of_lt (Nat.lt_of_lt_of_le V1.lt (Nat.le_of_eq g105.symm))
 have g_b105 : n0 ≤ b105 := Nat.le_trans Z0 (Nat.le_of_eq g105.symm)
 have sz_b105 : h0.size ≤ b105 := Nat.le_trans K101.1 (Nat.le_of_eq g105.symm)
 have F106 := (V1.ext E105)
 have F107 := (S_ad.ext E105)
 have F108 := (S_hi.ext E105)
 have F109 := (S_lo.ext E105)
 have Z110 : n0 ≤ h105.size := (Nat.le_trans Z0 E105.1)
 have K111 : Keep h0 h105 [] := (K101.ext E105)
 have V112 : Arv Z h105 b105 k105 .byte (6 : Int32) (([] : List Int32).map Value.int) (.int 0) := Arv.new A105 (by decide)
 show Go p.tables e below _ (T105.setTop (mkF m 16 #[vR a1, vI 1, vI 0, vI 0, vI 2, uS, uS, uS, uS] [(.ref b105)]))
 refine Go.step (fun _ kt => XS.astore X105.here hx rfl (hb hby d22_16) rfl rfl (l' := #[vR a1, vI 1, vI 0, vI 0, vI 2, vR b105, uS, uS, uS]) rfl kt) ?_
 show Go p.tables e below _ (T105.setTop (mkF m 18 #[vR a1, vI 1, vI (own_len ([] : List Int32)), vI 0, vI 2, vR b105, uS, uS, uS] []))
 have G355g113 : ∀ (B : List Int32) (s6 : Slot) (s7 : Slot) (s8 : Slot) (hE : (own_e2 c0 c1) = B) (hB : B.length ≤ 6) (h_s6 : s6 = .unset ∨ ∃ y, s6 = vI y) (h_s7 : s7 = .unset ∨ ∃ y, s7 = vI y) (h_s8 : s8 = .unset ∨ ∃ y, s8 = vI y) (Tg113 : State) (Hg113 : Heap) (Lg113 : List Loc) (Xg113 : Stand p l e Rm6 s m #[(.ref a1), (.int 1)] below meth c Tg113 Lg113 1 6) (eg113 : Tg113.heap = Hg113) (Ng113 : Fr n0 Lg113) (Zg113 : n0 ≤ Hg113.size) (Kg113 : Keep h0 Hg113 []) (Fg113_0 : Arv Z Hg113 b105 k105 .byte (6 : Int32) (B.map Value.int) (.int 0)) (Fg113_1 : Exa Z Hg113 b105 "[B"), Go p.tables e below (fun o U' => ∃ v L, o = .returned v ∧ Qrme162 Z a1 k1 c0 c1 h0 n0 v U'.heap L ∧ FrameEnd s o U' L Rm6.cells Rm6.slots) (Tg113.setTop (mkF m 355 #[vR a1, vI 1, vI (own_len B), vI 2, vI 2, vR b105, s6, s7, s8] [])) := by
  intro B s6 s7 s8 hE hB h_s6 h_s7 h_s8 Tg113 Hg113 Lg113 Xg113 eg113 Ng113 Zg113 Kg113 Fg113_0 Fg113_1
  show Go p.tables e below _ (Tg113.setTop (mkF m 355 #[vR a1, vI 1, vI (own_len B), vI 2, vI 2, vR b105, s6, s7, s8] []))
  refine Go.step (fun _ kt => XS.iloadN Xg113.here hx rfl (hb hby d22_355) rfl (XS.aload Xg113.here hx rfl (hb hby d22_356) rfl rfl kt)) ?_
  obtain ⟨cl114, Ar114, qa114, Sa114, Na114, Ha114, Ga114⟩ := (id Fg113_0)
  refine Go.step (Xg113.arraylength hx (by rw [eg113]; exact Ar114.1) (State.isArrayOf_alike hZ.alike Ar114.2.1) (g := (mkF m 358 #[vR a1, vI 1, vI (own_len B), vI 2, vI 2, vR b105, s6, s7, s8] [(.ref b105), (.int (own_len B))])) rfl rfl (hb hby d22_358)) ?_
  rw [len_of Sa114 Na114]
  show Go p.tables e below _ (Tg113.setTop (mkF m 359 #[vR a1, vI 1, vI (own_len B), vI 2, vI 2, vR b105, s6, s7, s8] [(.int 6), (.int (own_len B))]))
  by_cases hc359_115 : (own_len B) = (6 : Int32)
  ·refine Go.step (fun _ kt => XS.icmpNo Xg113.here hx rfl (hb hby d22_359) rfl (teq hc359_115).2 (XS.aload Xg113.here hx rfl (hb hby d22_362) rfl rfl kt)) ?_
   show Go p.tables e below _ (Tg113.setTop (mkF m 364 #[vR a1, vI 1, vI (own_len B), vI 2, vI 2, vR b105, s6, s7, s8] [(.ref b105)]))
   have Vl116 : Arv Z Hg113 b105 k105 .byte (own_len (own_e2 c0 c1)) ((own_e2 c0 c1).map Value.int) (.int 0) := by rw [hE]; have q1 := Fg113_0; rw [← hc359_115] at q1; exact q1
   obtain ⟨fs, hr, hrun, hended, hW, hsame⟩ := Xg113.leave (v := some (.ref b105)) (fun h => by rw [Bd.returns] at h; cases h)
   refine ⟨_, _, retOut Xg113 hx Bd.returns rfl (Or.inr (Or.inr (Or.inr (Or.inr ⟨rfl, rfl, rfl⟩)))) (hb hby d22_364) hr, hrun, hended, _, _, rfl, ?_, ⟨_, rfl⟩, hW, hsame.mono (by decide) (by decide)⟩
   show Qrme162 Z a1 k1 c0 c1 h0 n0 _ Tg113.heap _
   rw [eg113]
   refine ⟨b105, k105, ?_, Ng113, Kg113, Fg113_1, Vl116, g_b105, sz_b105⟩
   rfl
  ·refine Go.step (fun _ kt => XS.icmpYes Xg113.here hx rfl (pc0 := 359) (pc' := 365) rfl (hb hby d22_359) rfl (feq hc359_115).2 (by decide) (by decide) (XS.aload Xg113.here hx rfl (hb hby d22_365) rfl rfl (XS.iloadN Xg113.here hx rfl (hb hby d22_367) rfl kt))) ?_
   show Go p.tables e below _ (Tg113.setTop (mkF m 368 #[vR a1, vI 1, vI (own_len B), vI 2, vI 2, vR b105, s6, s7, s8] [(.int (own_len B)), (.ref b105)]))
   obtain ⟨_, _, ⟨T117, L117, k117, n117⟩, -, X117, ⟨Lc117, hQ117, l117, y117, z117⟩, st117⟩ := Jvm.LawKit.callS Xg113 hx (y := Y1) hown (mvT hZ (w120 hw)) (mvT hZ (w121 hw)) (mvT hZ (w122 hw)) (mvT hZ (w123 hw)) (by decide) (backOf (W := 0) (rmcopy l Z a0 hw [] b105 k105 (6 : Int32) B Hg113 n0 Zg113 Fg113_0 (Nat.le_trans hB (by decide)) (own_lt (n := 6) (by decide) hB (by decide) hc359_115)) hZ (w123 hw) (w122 hw) (by decide) (by decide)) (g := (mkF m 368 #[vR a1, vI 1, vI (own_len B), vI 2, vI 2, vR b105, s6, s7, s8] [(.int (own_len B)), (.ref b105)])) rfl hml.symm (argsL := [(.ref b105), (.int (own_len B))]) (rest := []) (lenOf pd_5 rfl) rfl (Nat.le_of_eq rfl) (hb hby d22_368) (fun _ _ => ⟨rfl, eg113, (by decide : 1 + 1 ≤ _), (by decide : 6 + 6 ≤ _)⟩)
   dsimp only [Pt.U, Pt.locs, Pt.cells, Pt.slots] at X117 l117 y117 z117 st117 hQ117
   subst l117 y117 z117
   obtain ⟨b117r, b117kr, rfl, N117q, Kq117, P118, P119, g_b117r, szq_b117r⟩ := hQ117
   have ne_b105_b117r : b105 ≠ b117r := Nat.ne_of_lt (Nat.lt_of_lt_of_le Fg113_0.lt szq_b117r)
   have sz_b117r : h0.size ≤ b117r := Nat.le_trans Kg113.1 szq_b117r
   have F120 := (Fg113_0.keep Kq117 (by simp))
   have F121 := (Fg113_1.keep Kq117)
   have Z122 : n0 ≤ T117.heap.size := (Nat.le_trans Zg113 Kq117.1)
   have K123 : Keep h0 T117.heap [] := (Kg113.trans Kq117 (by intro x hx; cases hx))
   have N117 := Fr.app Ng113 N117q
   refine Go.step st117 ?_
   show Go p.tables e below _ (T117.setTop (mkF m 371 #[vR a1, vI 1, vI (own_len B), vI 2, vI 2, vR b105, s6, s7, s8] [(.ref b117r)]))
   have Vl124 : Arv Z T117.heap b117r b117kr .byte (own_len (own_e2 c0 c1)) ((own_e2 c0 c1).map Value.int) (.int 0) := by rw [hE]; exact P119
   obtain ⟨fs, hr, hrun, hended, hW, hsame⟩ := X117.leave (v := some (.ref b117r)) (fun h => by rw [Bd.returns] at h; cases h)
   refine ⟨_, _, retOut X117 hx Bd.returns rfl (Or.inr (Or.inr (Or.inr (Or.inr ⟨rfl, rfl, rfl⟩)))) (hb hby d22_371) hr, hrun, hended, _, _, rfl, ?_, ⟨_, rfl⟩, hW, hsame.mono (by decide) (by decide)⟩
   show Qrme162 Z a1 k1 c0 c1 h0 n0 _ T117.heap _
   refine ⟨b117r, b117kr, ?_, N117, K123, P118, Vl124, g_b117r, sz_b117r⟩
   rfl
 have G58g125 : ∀ (bs : List Int32) (s6 : Slot) (s7 : Slot) (s8 : Slot) (hE : (own_e2 c0 c1) = bs ++ own_u c1) (hB : bs.length ≤ 3) (h_s6 : s6 = .unset ∨ ∃ y, s6 = vI y) (h_s7 : s7 = .unset ∨ ∃ y, s7 = vI y) (h_s8 : s8 = .unset ∨ ∃ y, s8 = vI y) (Tg125 : State) (Hg125 : Heap) (Lg125 : List Loc) (Xg125 : Stand p l e Rm6 s m #[(.ref a1), (.int 1)] below meth c Tg125 Lg125 1 6) (eg125 : Tg125.heap = Hg125) (Ng125 : Fr n0 Lg125) (Zg125 : n0 ≤ Hg125.size) (Kg125 : Keep h0 Hg125 []) (Fg125_0 : Arv Z Hg125 b105 k105 .byte (6 : Int32) (bs.map Value.int) (.int 0)) (Fg125_1 : Exa Z Hg125 b105 "[B") (Fg125_2 : Arv Z Hg125 a1 k1 .byte (4 : Int32) [(.int (own_lo c0)), (.int (own_hi c0)), (.int (own_lo c1)), (.int (own_hi c1))] (.int 0)) (Fg125_3 : Sta Z Hg125 "java/lang/StringUTF16" "$assertionsDisabled" "Z" (.int 1)) (Fg125_4 : Sta Z Hg125 "java/lang/StringUTF16" "HI_BYTE_SHIFT" "I" (.int 0)) (Fg125_5 : Sta Z Hg125 "java/lang/StringUTF16" "LO_BYTE_SHIFT" "I" (.int 8)), Go p.tables e below (fun o U' => ∃ v L, o = .returned v ∧ Qrme162 Z a1 k1 c0 c1 h0 n0 v U'.heap L ∧ FrameEnd s o U' L Rm6.cells Rm6.slots) (Tg125.setTop (mkF m 58 #[vR a1, vI 1, vI (own_len bs), vI 1, vI 2, vR b105, s6, s7, s8] [])) := by
  intro bs s6 s7 s8 hE hB h_s6 h_s7 h_s8 Tg125 Hg125 Lg125 Xg125 eg125 Ng125 Zg125 Kg125 Fg125_0 Fg125_1 Fg125_2 Fg125_3 Fg125_4 Fg125_5
  show Go p.tables e below _ (Tg125.setTop (mkF m 58 #[vR a1, vI 1, vI (own_len bs), vI 1, vI 2, vR b105, s6, s7, s8] []))
  refine Go.step (fun _ kt => XS.iloadN Xg125.here hx rfl (hb hby d22_58) rfl (XS.iload Xg125.here hx rfl (hb hby d22_59) rfl (XS.icmpNo Xg125.here hx rfl (hb hby d22_61) rfl (tlt (by decide : (1 : Int32) < (2 : Int32))).2.1 (XS.aloadN Xg125.here hx rfl (hb hby d22_64) rfl rfl (XS.iloadN Xg125.here hx rfl (hb hby d22_65) rfl (XS.iinc Xg125.here hx rfl (hb hby d22_66) rfl (l' := #[vR a1, vI 1, vI (own_len bs), vI ((1 : Int32) + (1 : Int32)), vI 2, vR b105, s6, s7, s8]) rfl kt)))))) ?_
  show Go p.tables e below _ (Tg125.setTop (mkF m 69 #[vR a1, vI 1, vI (own_len bs), vI ((1 : Int32) + (1 : Int32)), vI 2, vR b105, s6, s7, s8] [(.int 1), (.ref a1)]))
  have q126 : ((1 : Int32) + (1 : Int32)) = (2 : Int32) := by decide
  rw [q126]
  obtain ⟨_, _, ⟨T127, L127, k127, n127⟩, -, X127, ⟨Lc127, hQ127, l127, y127, z127⟩, st127⟩ := Jvm.LawKit.callS Xg125 hx (y := Y12) hown (mvT hZ (w109 hw)) (mvT hZ (w103 hw)) (mvT hZ (w18 hw)) (mvT hZ (w104 hw)) (by decide) (backOf (W := 0) (rmgc2_1 l Z a0 hw [] a1 k1 c0 c1 Hg125 n0 Zg125 Fg125_2 Fg125_3 Fg125_4 Fg125_5 hR1) hZ (w104 hw) (w18 hw) (by decide) (by decide)) (g := (mkF m 69 #[vR a1, vI 1, vI (own_len bs), vI 2, vI 2, vR b105, s6, s7, s8] [(.int 1), (.ref a1)])) rfl hml.symm (argsL := [(.ref a1), (.int 1)]) (rest := []) (lenOf pd_6 rfl) rfl (Nat.le_of_eq rfl) (hb hby d22_69) (fun _ _ => ⟨rfl, eg125, (by decide : 1 + 0 ≤ _), (by decide : 6 + 0 ≤ _)⟩)
  dsimp only [Pt.U, Pt.locs, Pt.cells, Pt.slots] at X127 l127 y127 z127 st127 hQ127
  subst l127 y127 z127
  obtain ⟨rfl, N127q, eh127⟩ := hQ127
  have N127 := Fr.app Ng125 N127q
  refine Go.step st127 ?_
  show Go p.tables e below _ (T127.setTop (mkF m 72 #[vR a1, vI 1, vI (own_len bs), vI 2, vI 2, vR b105, s6, s7, s8] [(.int c1)]))
  refine Go.step (fun _ kt => XS.istore X127.here hx rfl (hb hby d22_72) rfl (l' := #[vR a1, vI 1, vI (own_len bs), vI 2, vI 2, vR b105, vI c1, s7, s8]) (by rcases h_s6 with rfl | ⟨_, rfl⟩ <;> rfl) (XS.iload X127.here hx rfl (hb hby d22_74) rfl (XS.sipush X127.here hx rfl (hb hby d22_76) kt))) ?_
  show Go p.tables e below _ (T127.setTop (mkF m 79 #[vR a1, vI 1, vI (own_len bs), vI 2, vI 2, vR b105, vI c1, s7, s8] [(.int 128), (.int c1)]))
  by_cases hc79_128 : c1 < (128 : Int32)
  ·refine Go.step (fun _ kt => XS.icmpNo X127.here hx rfl (hb hby d22_79) rfl (tlt hc79_128).2.1 (XS.aload X127.here hx rfl (hb hby d22_82) rfl rfl (XS.iloadN X127.here hx rfl (hb hby d22_84) rfl (XS.iinc X127.here hx rfl (hb hby d22_85) rfl (l' := #[vR a1, vI 1, vI ((own_len bs) + (1 : Int32)), vI 2, vI 2, vR b105, vI c1, s7, s8]) rfl (XS.iload X127.here hx rfl (hb hby d22_88) rfl (XS.i2b X127.here hx rfl (hb hby d22_90) rfl kt)))))) ?_
   show Go p.tables e below _ (T127.setTop (mkF m 91 #[vR a1, vI 1, vI ((own_len bs) + (1 : Int32)), vI 2, vI 2, vR b105, vI c1, s7, s8] [(.int (c1.toInt8.toInt32)), (.int (own_len bs)), (.ref b105)]))
   have q129 : (c1.toInt8.toInt32) = (own_by c1) := rfl
   rw [q129]
   obtain ⟨cl130, Ar130, qa130, Sa130, Na130, Ha130, Ga130⟩ := (id Fg125_0)
   obtain ⟨T130, h130, X130, e130, W130, st130⟩ := stB X127 hx hZ eh127 Ar130 (j := (own_len bs)) (own_in Sa130 (n := 6) (by decide) (by decide) (by first | omega | decide | (simp only [List.length_append, List.length_cons, List.length_nil]; omega))) (g := (mkF m 91 #[vR a1, vI 1, vI ((own_len bs) + (1 : Int32)), vI 2, vI 2, vR b105, vI c1, s7, s8] [(.int (own_by c1)), (.int (own_len bs)), (.ref b105)])) rfl rfl (hb hby d22_91)
   refine Go.step st130 ?_
   have V131 := own_push (y := (own_by c1)) Fg125_0 (own_ix (by first | omega | decide | (simp only [List.length_append, List.length_cons, List.length_nil]; omega))).1 W130 (own_bb _) (by first | omega | decide | (simp only [List.length_append, List.length_cons, List.length_nil]; omega))
   have N130 := Fr.snoc X130 N127 g_b105
   have F132 := (Fg125_1.wr W130)
   have F133 := (Fg125_2.other W130 ne_a1_b105)
   have F134 := (Fg125_3.wr W130)
   have F135 := (Fg125_4.wr W130)
   have F136 := (Fg125_5.wr W130)
   have Z137 : n0 ≤ h130.size := (Nat.le_trans Zg125 (Nat.le_of_eq W130.size.symm))
   have K138 : Keep h0 h130 [] := (Kg125.wr W130 (Or.inr sz_b105))
   show Go p.tables e below _ (T130.setTop (mkF m 92 #[vR a1, vI 1, vI ((own_len bs) + (1 : Int32)), vI 2, vI 2, vR b105, vI c1, s7, s8] []))
   rw [own_len1 bs (own_by c1)]
   show Go p.tables e below _ (T130.setTop (mkF m 92 #[vR a1, vI 1, vI (own_len (bs ++ [(own_by c1)])), vI 2, vI 2, vR b105, vI c1, s7, s8] []))
   refine Go.step (fun _ kt => XS.goto X130.here hx rfl (pc0 := 92) (pc' := 352) rfl (hb hby d22_92) (by decide) (by decide) (XS.goto X130.here hx rfl (pc0 := 352) (pc' := 58) rfl (hb hby d22_352) (by decide) (by decide) (XS.iloadN X130.here hx rfl (hb hby d22_58) rfl (XS.iload X130.here hx rfl (hb hby d22_59) rfl (XS.icmpYes X130.here hx rfl (pc0 := 61) (pc' := 355) rfl (hb hby d22_61) rfl (flt (by decide : ¬ ((2 : Int32) < (2 : Int32)))).2.1 (by decide) (by decide) kt))))) ?_
   show Go p.tables e below _ (T130.setTop (mkF m 355 #[vR a1, vI 1, vI (own_len (bs ++ [(own_by c1)])), vI 2, vI 2, vR b105, vI c1, s7, s8] []))
   exact G355g113 _ _ _ _ (by rw [hE, own_uA hc79_128]; try simp) (by first | omega | decide | (simp only [List.length_append, List.length_cons, List.length_nil]; omega)) (Or.inr ⟨_, rfl⟩) h_s7 h_s8 _ _ _ (X130.more (by decide) (by decide)) e130 N130 Z137 K138 V131 F132
  ·refine Go.step (fun _ kt => XS.icmpYes X127.here hx rfl (pc0 := 79) (pc' := 95) rfl (hb hby d22_79) rfl (flt hc79_128).2.1 (by decide) (by decide) (XS.iload X127.here hx rfl (hb hby d22_95) rfl (XS.sipush X127.here hx rfl (hb hby d22_97) kt))) ?_
   show Go p.tables e below _ (T127.setTop (mkF m 100 #[vR a1, vI 1, vI (own_len bs), vI 2, vI 2, vR b105, vI c1, s7, s8] [(.int 2048), (.int c1)]))
   by_cases hc100_139 : c1 < (2048 : Int32)
   ·refine Go.step (fun _ kt => XS.icmpNo X127.here hx rfl (hb hby d22_100) rfl (tlt hc100_139).2.1 (XS.aload X127.here hx rfl (hb hby d22_103) rfl rfl (XS.iloadN X127.here hx rfl (hb hby d22_105) rfl (XS.iinc X127.here hx rfl (hb hby d22_106) rfl (l' := #[vR a1, vI 1, vI ((own_len bs) + (1 : Int32)), vI 2, vI 2, vR b105, vI c1, s7, s8]) rfl (XS.sipush X127.here hx rfl (hb hby d22_109) (XS.iload X127.here hx rfl (hb hby d22_112) rfl (XS.bipush X127.here hx rfl (hb hby d22_114) (XS.ishr X127.here hx rfl (hb hby d22_116) rfl (XS.ior X127.here hx rfl (hb hby d22_117) rfl (XS.i2b X127.here hx rfl (hb hby d22_118) rfl kt)))))))))) ?_
    show Go p.tables e below _ (T127.setTop (mkF m 119 #[vR a1, vI 1, vI ((own_len bs) + (1 : Int32)), vI 2, vI 2, vR b105, vI c1, s7, s8] [(.int (((192 : Int32) ||| (c1 >>> ((6 : Int32) &&& 31))).toInt8.toInt32)), (.int (own_len bs)), (.ref b105)]))
    have q140 : (((192 : Int32) ||| (c1 >>> ((6 : Int32) &&& 31))).toInt8.toInt32) = (own_by ((192 : Int32) ||| (c1 >>> ((6 : Int32) &&& 31)))) := rfl
    rw [q140]
    obtain ⟨cl141, Ar141, qa141, Sa141, Na141, Ha141, Ga141⟩ := (id Fg125_0)
    obtain ⟨T141, h141, X141, e141, W141, st141⟩ := stB X127 hx hZ eh127 Ar141 (j := (own_len bs)) (own_in Sa141 (n := 6) (by decide) (by decide) (by first | omega | decide | (simp only [List.length_append, List.length_cons, List.length_nil]; omega))) (g := (mkF m 119 #[vR a1, vI 1, vI ((own_len bs) + (1 : Int32)), vI 2, vI 2, vR b105, vI c1, s7, s8] [(.int (own_by ((192 : Int32) ||| (c1 >>> ((6 : Int32) &&& 31))))), (.int (own_len bs)), (.ref b105)])) rfl rfl (hb hby d22_119)
    refine Go.step st141 ?_
    have V142 := own_push (y := (own_by ((192 : Int32) ||| (c1 >>> ((6 : Int32) &&& 31))))) Fg125_0 (own_ix (by first | omega | decide | (simp only [List.length_append, List.length_cons, List.length_nil]; omega))).1 W141 (own_bb _) (by first | omega | decide | (simp only [List.length_append, List.length_cons, List.length_nil]; omega))
    have N141 := Fr.snoc X141 N127 g_b105
    have F143 := (Fg125_1.wr W141)
    have F144 := (Fg125_2.other W141 ne_a1_b105)
    have F145 := (Fg125_3.wr W141)
    have F146 := (Fg125_4.wr W141)
    have F147 := (Fg125_5.wr W141)
    have Z148 : n0 ≤ h141.size := (Nat.le_trans Zg125 (Nat.le_of_eq W141.size.symm))
    have K149 : Keep h0 h141 [] := (Kg125.wr W141 (Or.inr sz_b105))
    show Go p.tables e below _ (T141.setTop (mkF m 120 #[vR a1, vI 1, vI ((own_len bs) + (1 : Int32)), vI 2, vI 2, vR b105, vI c1, s7, s8] []))
    rw [own_len1 bs (own_by ((192 : Int32) ||| (c1 >>> ((6 : Int32) &&& 31))))]
    show Go p.tables e below _ (T141.setTop (mkF m 120 #[vR a1, vI 1, vI (own_len (bs ++ [(own_by ((192 : Int32) ||| (c1 >>> ((6 : Int32) &&& 31))))])), vI 2, vI 2, vR b105, vI c1, s7, s8] []))
    refine Go.step (fun _ kt => XS.aload X141.here hx rfl (hb hby d22_120) rfl rfl (XS.iloadN X141.here hx rfl (hb hby d22_122) rfl (XS.iinc X141.here hx rfl (hb hby d22_123) rfl (l' := #[vR a1, vI 1, vI ((own_len (bs ++ [(own_by ((192 : Int32) ||| (c1 >>> ((6 : Int32) &&& 31))))])) + (1 : Int32)), vI 2, vI 2, vR b105, vI c1, s7, s8]) rfl (XS.sipush X141.here hx rfl (hb hby d22_126) (XS.iload X141.here hx rfl (hb hby d22_129) rfl (XS.bipush X141.here hx rfl (hb hby d22_131) (XS.iand X141.here hx rfl (hb hby d22_133) rfl (XS.ior X141.here hx rfl (hb hby d22_134) rfl (XS.i2b X141.here hx rfl (hb hby d22_135) rfl kt))))))))) ?_
    show Go p.tables e below _ (T141.setTop (mkF m 136 #[vR a1, vI 1, vI ((own_len (bs ++ [(own_by ((192 : Int32) ||| (c1 >>> ((6 : Int32) &&& 31))))])) + (1 : Int32)), vI 2, vI 2, vR b105, vI c1, s7, s8] [(.int (((128 : Int32) ||| (c1 &&& (63 : Int32))).toInt8.toInt32)), (.int (own_len (bs ++ [(own_by ((192 : Int32) ||| (c1 >>> ((6 : Int32) &&& 31))))]))), (.ref b105)]))
    have q150 : (((128 : Int32) ||| (c1 &&& (63 : Int32))).toInt8.toInt32) = (own_by ((128 : Int32) ||| (c1 &&& (63 : Int32)))) := rfl
    rw [q150]
    obtain ⟨cl151, Ar151, qa151, Sa151, Na151, Ha151, Ga151⟩ := (id V142)
    obtain ⟨T151, h151, X151, e151, W151, st151⟩ := stB X141 hx hZ e141 Ar151 (j := (own_len (bs ++ [(own_by ((192 : Int32) ||| (c1 >>> ((6 : Int32) &&& 31))))]))) (own_in Sa151 (n := 6) (by decide) (by decide) (by first | omega | decide | (simp only [List.length_append, List.length_cons, List.length_nil]; omega))) (g := (mkF m 136 #[vR a1, vI 1, vI ((own_len (bs ++ [(own_by ((192 : Int32) ||| (c1 >>> ((6 : Int32) &&& 31))))])) + (1 : Int32)), vI 2, vI 2, vR b105, vI c1, s7, s8] [(.int (own_by ((128 : Int32) ||| (c1 &&& (63 : Int32))))), (.int (own_len (bs ++ [(own_by ((192 : Int32) ||| (c1 >>> ((6 : Int32) &&& 31))))]))), (.ref b105)])) rfl rfl (hb hby d22_136)
    refine Go.step st151 ?_
    have V152 := own_push (y := (own_by ((128 : Int32) ||| (c1 &&& (63 : Int32))))) V142 (own_ix (by first | omega | decide | (simp only [List.length_append, List.length_cons, List.length_nil]; omega))).1 W151 (own_bb _) (by first | omega | decide | (simp only [List.length_append, List.length_cons, List.length_nil]; omega))
    have N151 := Fr.snoc X151 N141 g_b105
    have F153 := (F143.wr W151)
    have F154 := (F144.other W151 ne_a1_b105)
    have F155 := (F145.wr W151)
    have F156 := (F146.wr W151)
    have F157 := (F147.wr W151)
    have Z158 : n0 ≤ h151.size := (Nat.le_trans Z148 (Nat.le_of_eq W151.size.symm))
    have K159 : Keep h0 h151 [] := (K149.wr W151 (Or.inr sz_b105))
    show Go p.tables e below _ (T151.setTop (mkF m 137 #[vR a1, vI 1, vI ((own_len (bs ++ [(own_by ((192 : Int32) ||| (c1 >>> ((6 : Int32) &&& 31))))])) + (1 : Int32)), vI 2, vI 2, vR b105, vI c1, s7, s8] []))
    rw [own_len1 (bs ++ [(own_by ((192 : Int32) ||| (c1 >>> ((6 : Int32) &&& 31))))]) (own_by ((128 : Int32) ||| (c1 &&& (63 : Int32))))]
    show Go p.tables e below _ (T151.setTop (mkF m 137 #[vR a1, vI 1, vI (own_len ((bs ++ [(own_by ((192 : Int32) ||| (c1 >>> ((6 : Int32) &&& 31))))]) ++ [(own_by ((128 : Int32) ||| (c1 &&& (63 : Int32))))])), vI 2, vI 2, vR b105, vI c1, s7, s8] []))
    refine Go.step (fun _ kt => XS.goto X151.here hx rfl (pc0 := 137) (pc' := 352) rfl (hb hby d22_137) (by decide) (by decide) (XS.goto X151.here hx rfl (pc0 := 352) (pc' := 58) rfl (hb hby d22_352) (by decide) (by decide) (XS.iloadN X151.here hx rfl (hb hby d22_58) rfl (XS.iload X151.here hx rfl (hb hby d22_59) rfl (XS.icmpYes X151.here hx rfl (pc0 := 61) (pc' := 355) rfl (hb hby d22_61) rfl (flt (by decide : ¬ ((2 : Int32) < (2 : Int32)))).2.1 (by decide) (by decide) kt))))) ?_
    show Go p.tables e below _ (T151.setTop (mkF m 355 #[vR a1, vI 1, vI (own_len ((bs ++ [(own_by ((192 : Int32) ||| (c1 >>> ((6 : Int32) &&& 31))))]) ++ [(own_by ((128 : Int32) ||| (c1 &&& (63 : Int32))))])), vI 2, vI 2, vR b105, vI c1, s7, s8] []))
    exact G355g113 _ _ _ _ (by rw [hE, own_uB hc79_128 hc100_139]; try simp) (by first | omega | decide | (simp only [List.length_append, List.length_cons, List.length_nil]; omega)) (Or.inr ⟨_, rfl⟩) h_s7 h_s8 _ _ _ (X151.more (by decide) (by decide)) e151 N151 Z158 K159 V152 F153
   ·refine Go.step (fun _ kt => XS.icmpYes X127.here hx rfl (pc0 := 100) (pc' := 140) rfl (hb hby d22_100) rfl (flt hc100_139).2.1 (by decide) (by decide) (XS.iload X127.here hx rfl (hb hby d22_140) rfl kt)) ?_
    obtain ⟨_, _, ⟨T160, L160, k160, n160⟩, -, X160, ⟨Lc160, hQ160, l160, y160, z160⟩, st160⟩ := Jvm.LawKit.callS X127 hx (y := Y2) hown (mvT hZ (w110 hw)) (mvT hZ (w111 hw)) (mvT hZ (w112 hw)) (mvT hZ (w113 hw)) (by decide) (backOf (W := 0) (rmis l Z a0 hw [] c1  Hg125 n0 Zg125  ) hZ (w113 hw) (w112 hw) (by decide) (by decide)) (g := (mkF m 142 #[vR a1, vI 1, vI (own_len bs), vI 2, vI 2, vR b105, vI c1, s7, s8] [(.int c1)])) rfl hml.symm (argsL := [(.int c1)]) (rest := []) (lenOf pd_7 rfl) rfl (Nat.le_of_eq rfl) (hb hby d22_142) (fun _ _ => ⟨rfl, eh127, (by decide : 1 + 0 ≤ _), (by decide : 6 + 0 ≤ _)⟩)
    dsimp only [Pt.U, Pt.locs, Pt.cells, Pt.slots] at X160 l160 y160 z160 st160 hQ160
    subst l160 y160 z160
    obtain ⟨rfl, N160q, eh160⟩ := hQ160
    have N160 := Fr.app N127 N160q
    refine Go.step st160 ?_
    show Go p.tables e below _ (T160.setTop (mkF m 145 #[vR a1, vI 1, vI (own_len bs), vI 2, vI 2, vR b105, vI c1, s7, s8] [(.int (own_su c1))]))
    by_cases hc145_161 : (own_su c1) = (0 : Int32)
    ·refine Go.step (fun _ kt => XS.ifYes X160.here hx rfl (pc0 := 145) (pc' := 298) rfl (hb hby d22_145) rfl ((if0 _ _).trans (teq hc145_161).1) (by decide) (by decide) (XS.aload X160.here hx rfl (hb hby d22_298) rfl rfl (XS.iloadN X160.here hx rfl (hb hby d22_300) rfl (XS.iinc X160.here hx rfl (hb hby d22_301) rfl (l' := #[vR a1, vI 1, vI ((own_len bs) + (1 : Int32)), vI 2, vI 2, vR b105, vI c1, s7, s8]) rfl (XS.sipush X160.here hx rfl (hb hby d22_304) (XS.iload X160.here hx rfl (hb hby d22_307) rfl (XS.bipush X160.here hx rfl (hb hby d22_309) (XS.ishr X160.here hx rfl (hb hby d22_311) rfl (XS.ior X160.here hx rfl (hb hby d22_312) rfl (XS.i2b X160.here hx rfl (hb hby d22_313) rfl kt)))))))))) ?_
     show Go p.tables e below _ (T160.setTop (mkF m 314 #[vR a1, vI 1, vI ((own_len bs) + (1 : Int32)), vI 2, vI 2, vR b105, vI c1, s7, s8] [(.int (((224 : Int32) ||| (c1 >>> ((12 : Int32) &&& 31))).toInt8.toInt32)), (.int (own_len bs)), (.ref b105)]))
     have q162 : (((224 : Int32) ||| (c1 >>> ((12 : Int32) &&& 31))).toInt8.toInt32) = (own_by ((224 : Int32) ||| (c1 >>> ((12 : Int32) &&& 31)))) := rfl
     rw [q162]
     obtain ⟨cl163, Ar163, qa163, Sa163, Na163, Ha163, Ga163⟩ := (id Fg125_0)
     obtain ⟨T163, h163, X163, e163, W163, st163⟩ := stB X160 hx hZ eh160 Ar163 (j := (own_len bs)) (own_in Sa163 (n := 6) (by decide) (by decide) (by first | omega | decide | (simp only [List.length_append, List.length_cons, List.length_nil]; omega))) (g := (mkF m 314 #[vR a1, vI 1, vI ((own_len bs) + (1 : Int32)), vI 2, vI 2, vR b105, vI c1, s7, s8] [(.int (own_by ((224 : Int32) ||| (c1 >>> ((12 : Int32) &&& 31))))), (.int (own_len bs)), (.ref b105)])) rfl rfl (hb hby d22_314)
     refine Go.step st163 ?_
     have V164 := own_push (y := (own_by ((224 : Int32) ||| (c1 >>> ((12 : Int32) &&& 31))))) Fg125_0 (own_ix (by first | omega | decide | (simp only [List.length_append, List.length_cons, List.length_nil]; omega))).1 W163 (own_bb _) (by first | omega | decide | (simp only [List.length_append, List.length_cons, List.length_nil]; omega))
     have N163 := Fr.snoc X163 N160 g_b105
     have F165 := (Fg125_1.wr W163)
     have F166 := (Fg125_2.other W163 ne_a1_b105)
     have F167 := (Fg125_3.wr W163)
     have F168 := (Fg125_4.wr W163)
     have F169 := (Fg125_5.wr W163)
     have Z170 : n0 ≤ h163.size := (Nat.le_trans Zg125 (Nat.le_of_eq W163.size.symm))
     have K171 : Keep h0 h163 [] := (Kg125.wr W163 (Or.inr sz_b105))
     show Go p.tables e below _ (T163.setTop (mkF m 315 #[vR a1, vI 1, vI ((own_len bs) + (1 : Int32)), vI 2, vI 2, vR b105, vI c1, s7, s8] []))
     rw [own_len1 bs (own_by ((224 : Int32) ||| (c1 >>> ((12 : Int32) &&& 31))))]
     show Go p.tables e below _ (T163.setTop (mkF m 315 #[vR a1, vI 1, vI (own_len (bs ++ [(own_by ((224 : Int32) ||| (c1 >>> ((12 : Int32) &&& 31))))])), vI 2, vI 2, vR b105, vI c1, s7, s8] []))
     refine Go.step (fun _ kt => XS.aload X163.here hx rfl (hb hby d22_315) rfl rfl (XS.iloadN X163.here hx rfl (hb hby d22_317) rfl (XS.iinc X163.here hx rfl (hb hby d22_318) rfl (l' := #[vR a1, vI 1, vI ((own_len (bs ++ [(own_by ((224 : Int32) ||| (c1 >>> ((12 : Int32) &&& 31))))])) + (1 : Int32)), vI 2, vI 2, vR b105, vI c1, s7, s8]) rfl (XS.sipush X163.here hx rfl (hb hby d22_321) (XS.iload X163.here hx rfl (hb hby d22_324) rfl (XS.bipush X163.here hx rfl (hb hby d22_326) (XS.ishr X163.here hx rfl (hb hby d22_328) rfl (XS.bipush X163.here hx rfl (hb hby d22_329) (XS.iand X163.here hx rfl (hb hby d22_331) rfl (XS.ior X163.here hx rfl (hb hby d22_332) rfl (XS.i2b X163.here hx rfl (hb hby d22_333) rfl kt))))))))))) ?_
     show Go p.tables e below _ (T163.setTop (mkF m 334 #[vR a1, vI 1, vI ((own_len (bs ++ [(own_by ((224 : Int32) ||| (c1 >>> ((12 : Int32) &&& 31))))])) + (1 : Int32)), vI 2, vI 2, vR b105, vI c1, s7, s8] [(.int (((128 : Int32) ||| ((c1 >>> ((6 : Int32) &&& 31)) &&& (63 : Int32))).toInt8.toInt32)), (.int (own_len (bs ++ [(own_by ((224 : Int32) ||| (c1 >>> ((12 : Int32) &&& 31))))]))), (.ref b105)]))
     have q172 : (((128 : Int32) ||| ((c1 >>> ((6 : Int32) &&& 31)) &&& (63 : Int32))).toInt8.toInt32) = (own_by ((128 : Int32) ||| ((c1 >>> ((6 : Int32) &&& 31)) &&& (63 : Int32)))) := rfl
     rw [q172]
     obtain ⟨cl173, Ar173, qa173, Sa173, Na173, Ha173, Ga173⟩ := (id V164)
     obtain ⟨T173, h173, X173, e173, W173, st173⟩ := stB X163 hx hZ e163 Ar173 (j := (own_len (bs ++ [(own_by ((224 : Int32) ||| (c1 >>> ((12 : Int32) &&& 31))))]))) (own_in Sa173 (n := 6) (by decide) (by decide) (by first | omega | decide | (simp only [List.length_append, List.length_cons, List.length_nil]; omega))) (g := (mkF m 334 #[vR a1, vI 1, vI ((own_len (bs ++ [(own_by ((224 : Int32) ||| (c1 >>> ((12 : Int32) &&& 31))))])) + (1 : Int32)), vI 2, vI 2, vR b105, vI c1, s7, s8] [(.int (own_by ((128 : Int32) ||| ((c1 >>> ((6 : Int32) &&& 31)) &&& (63 : Int32))))), (.int (own_len (bs ++ [(own_by ((224 : Int32) ||| (c1 >>> ((12 : Int32) &&& 31))))]))), (.ref b105)])) rfl rfl (hb hby d22_334)
     refine Go.step st173 ?_
     have V174 := own_push (y := (own_by ((128 : Int32) ||| ((c1 >>> ((6 : Int32) &&& 31)) &&& (63 : Int32))))) V164 (own_ix (by first | omega | decide | (simp only [List.length_append, List.length_cons, List.length_nil]; omega))).1 W173 (own_bb _) (by first | omega | decide | (simp only [List.length_append, List.length_cons, List.length_nil]; omega))
     have N173 := Fr.snoc X173 N163 g_b105
     have F175 := (F165.wr W173)
     have F176 := (F166.other W173 ne_a1_b105)
     have F177 := (F167.wr W173)
     have F178 := (F168.wr W173)
     have F179 := (F169.wr W173)
     have Z180 : n0 ≤ h173.size := (Nat.le_trans Z170 (Nat.le_of_eq W173.size.symm))
     have K181 : Keep h0 h173 [] := (K171.wr W173 (Or.inr sz_b105))
     show Go p.tables e below _ (T173.setTop (mkF m 335 #[vR a1, vI 1, vI ((own_len (bs ++ [(own_by ((224 : Int32) ||| (c1 >>> ((12 : Int32) &&& 31))))])) + (1 : Int32)), vI 2, vI 2, vR b105, vI c1, s7, s8] []))
     rw [own_len1 (bs ++ [(own_by ((224 : Int32) ||| (c1 >>> ((12 : Int32) &&& 31))))]) (own_by ((128 : Int32) ||| ((c1 >>> ((6 : Int32) &&& 31)) &&& (63 : Int32))))]
     show Go p.tables e below _ (T173.setTop (mkF m 335 #[vR a1, vI 1, vI (own_len ((bs ++ [(own_by ((224 : Int32) ||| (c1 >>> ((12 : Int32) &&& 31))))]) ++ [(own_by ((128 : Int32) ||| ((c1 >>> ((6 : Int32) &&& 31)) &&& (63 : Int32))))])), vI 2, vI 2, vR b105, vI c1, s7, s8] []))
     refine Go.step (fun _ kt => XS.aload X173.here hx rfl (hb hby d22_335) rfl rfl (XS.iloadN X173.here hx rfl (hb hby d22_337) rfl (XS.iinc X173.here hx rfl (hb hby d22_338) rfl (l' := #[vR a1, vI 1, vI ((own_len ((bs ++ [(own_by ((224 : Int32) ||| (c1 >>> ((12 : Int32) &&& 31))))]) ++ [(own_by ((128 : Int32) ||| ((c1 >>> ((6 : Int32) &&& 31)) &&& (63 : Int32))))])) + (1 : Int32)), vI 2, vI 2, vR b105, vI c1, s7, s8]) rfl (XS.sipush X173.here hx rfl (hb hby d22_341) (XS.iload X173.here hx rfl (hb hby d22_344) rfl (XS.bipush X173.here hx rfl (hb hby d22_346) (XS.iand X173.here hx rfl (hb hby d22_348) rfl (XS.ior X173.here hx rfl (hb hby d22_349) rfl (XS.i2b X173.here hx rfl (hb hby d22_350) rfl kt))))))))) ?_
     show Go p.tables e below _ (T173.setTop (mkF m 351 #[vR a1, vI 1, vI ((own_len ((bs ++ [(own_by ((224 : Int32) ||| (c1 >>> ((12 : Int32) &&& 31))))]) ++ [(own_by ((128 : Int32) ||| ((c1 >>> ((6 : Int32) &&& 31)) &&& (63 : Int32))))])) + (1 : Int32)), vI 2, vI 2, vR b105, vI c1, s7, s8] [(.int (((128 : Int32) ||| (c1 &&& (63 : Int32))).toInt8.toInt32)), (.int (own_len ((bs ++ [(own_by ((224 : Int32) ||| (c1 >>> ((12 : Int32) &&& 31))))]) ++ [(own_by ((128 : Int32) ||| ((c1 >>> ((6 : Int32) &&& 31)) &&& (63 : Int32))))]))), (.ref b105)]))
     have q182 : (((128 : Int32) ||| (c1 &&& (63 : Int32))).toInt8.toInt32) = (own_by ((128 : Int32) ||| (c1 &&& (63 : Int32)))) := rfl
     rw [q182]
     obtain ⟨cl183, Ar183, qa183, Sa183, Na183, Ha183, Ga183⟩ := (id V174)
     obtain ⟨T183, h183, X183, e183, W183, st183⟩ := stB X173 hx hZ e173 Ar183 (j := (own_len ((bs ++ [(own_by ((224 : Int32) ||| (c1 >>> ((12 : Int32) &&& 31))))]) ++ [(own_by ((128 : Int32) ||| ((c1 >>> ((6 : Int32) &&& 31)) &&& (63 : Int32))))]))) (own_in Sa183 (n := 6) (by decide) (by decide) (by first | omega | decide | (simp only [List.length_append, List.length_cons, List.length_nil]; omega))) (g := (mkF m 351 #[vR a1, vI 1, vI ((own_len ((bs ++ [(own_by ((224 : Int32) ||| (c1 >>> ((12 : Int32) &&& 31))))]) ++ [(own_by ((128 : Int32) ||| ((c1 >>> ((6 : Int32) &&& 31)) &&& (63 : Int32))))])) + (1 : Int32)), vI 2, vI 2, vR b105, vI c1, s7, s8] [(.int (own_by ((128 : Int32) ||| (c1 &&& (63 : Int32))))), (.int (own_len ((bs ++ [(own_by ((224 : Int32) ||| (c1 >>> ((12 : Int32) &&& 31))))]) ++ [(own_by ((128 : Int32) ||| ((c1 >>> ((6 : Int32) &&& 31)) &&& (63 : Int32))))]))), (.ref b105)])) rfl rfl (hb hby d22_351)
     refine Go.step st183 ?_
     have V184 := own_push (y := (own_by ((128 : Int32) ||| (c1 &&& (63 : Int32))))) V174 (own_ix (by first | omega | decide | (simp only [List.length_append, List.length_cons, List.length_nil]; omega))).1 W183 (own_bb _) (by first | omega | decide | (simp only [List.length_append, List.length_cons, List.length_nil]; omega))
     have N183 := Fr.snoc X183 N173 g_b105
     have F185 := (F175.wr W183)
     have F186 := (F176.other W183 ne_a1_b105)
     have F187 := (F177.wr W183)
     have F188 := (F178.wr W183)
     have F189 := (F179.wr W183)
     have Z190 : n0 ≤ h183.size := (Nat.le_trans Z180 (Nat.le_of_eq W183.size.symm))
     have K191 : Keep h0 h183 [] := (K181.wr W183 (Or.inr sz_b105))
     show Go p.tables e below _ (T183.setTop (mkF m 352 #[vR a1, vI 1, vI ((own_len ((bs ++ [(own_by ((224 : Int32) ||| (c1 >>> ((12 : Int32) &&& 31))))]) ++ [(own_by ((128 : Int32) ||| ((c1 >>> ((6 : Int32) &&& 31)) &&& (63 : Int32))))])) + (1 : Int32)), vI 2, vI 2, vR b105, vI c1, s7, s8] []))
     rw [own_len1 ((bs ++ [(own_by ((224 : Int32) ||| (c1 >>> ((12 : Int32) &&& 31))))]) ++ [(own_by ((128 : Int32) ||| ((c1 >>> ((6 : Int32) &&& 31)) &&& (63 : Int32))))]) (own_by ((128 : Int32) ||| (c1 &&& (63 : Int32))))]
     show Go p.tables e below _ (T183.setTop (mkF m 352 #[vR a1, vI 1, vI (own_len (((bs ++ [(own_by ((224 : Int32) ||| (c1 >>> ((12 : Int32) &&& 31))))]) ++ [(own_by ((128 : Int32) ||| ((c1 >>> ((6 : Int32) &&& 31)) &&& (63 : Int32))))]) ++ [(own_by ((128 : Int32) ||| (c1 &&& (63 : Int32))))])), vI 2, vI 2, vR b105, vI c1, s7, s8] []))
     refine Go.step (fun _ kt => XS.goto X183.here hx rfl (pc0 := 352) (pc' := 58) rfl (hb hby d22_352) (by decide) (by decide) (XS.iloadN X183.here hx rfl (hb hby d22_58) rfl (XS.iload X183.here hx rfl (hb hby d22_59) rfl (XS.icmpYes X183.here hx rfl (pc0 := 61) (pc' := 355) rfl (hb hby d22_61) rfl (flt (by decide : ¬ ((2 : Int32) < (2 : Int32)))).2.1 (by decide) (by decide) kt)))) ?_
     show Go p.tables e below _ (T183.setTop (mkF m 355 #[vR a1, vI 1, vI (own_len (((bs ++ [(own_by ((224 : Int32) ||| (c1 >>> ((12 : Int32) &&& 31))))]) ++ [(own_by ((128 : Int32) ||| ((c1 >>> ((6 : Int32) &&& 31)) &&& (63 : Int32))))]) ++ [(own_by ((128 : Int32) ||| (c1 &&& (63 : Int32))))])), vI 2, vI 2, vR b105, vI c1, s7, s8] []))
     exact G355g113 _ _ _ _ (by rw [hE, own_uC hc79_128 hc100_139 hc145_161]; try simp) (by first | omega | decide | (simp only [List.length_append, List.length_cons, List.length_nil]; omega)) (Or.inr ⟨_, rfl⟩) h_s7 h_s8 _ _ _ (X183.more (by decide) (by decide)) e183 N183 Z190 K191 V184 F185
    ·refine Go.step (fun _ kt => XS.ifNo X160.here hx rfl (hb hby d22_145) rfl ((if0 _ _).trans (feq hc145_161).1) (XS.iconst X160.here hx rfl (hb hby d22_148) (XS.istore X160.here hx rfl (hb hby d22_149) rfl (l' := #[vR a1, vI 1, vI (own_len bs), vI 2, vI 2, vR b105, vI c1, vI (-1 : Int32), s8]) (by rcases h_s7 with rfl | ⟨_, rfl⟩ <;> rfl) (XS.iload X160.here hx rfl (hb hby d22_151) rfl kt)))) ?_
     show Go p.tables e below _ (T160.setTop (mkF m 153 #[vR a1, vI 1, vI (own_len bs), vI 2, vI 2, vR b105, vI c1, vI (-1 : Int32), s8] [(.int c1)]))
     obtain ⟨_, _, ⟨T192, L192, k192, n192⟩, -, X192, ⟨Lc192, hQ192, l192, y192, z192⟩, st192⟩ := Jvm.LawKit.callS X160 hx (y := Y3) hown (mvT hZ (w116 hw)) (mvT hZ (w117 hw)) (mvT hZ (w112 hw)) (mvT hZ (w118 hw)) (by decide) (backOf (W := 0) (rmih l Z a0 hw [] c1  Hg125 n0 Zg125  ) hZ (w118 hw) (w112 hw) (by decide) (by decide)) (g := (mkF m 153 #[vR a1, vI 1, vI (own_len bs), vI 2, vI 2, vR b105, vI c1, vI (-1 : Int32), s8] [(.int c1)])) rfl hml.symm (argsL := [(.int c1)]) (rest := []) (lenOf pd_7 rfl) rfl (Nat.le_of_eq rfl) (hb hby d22_153) (fun _ _ => ⟨rfl, eh160, (by decide : 1 + 0 ≤ _), (by decide : 6 + 0 ≤ _)⟩)
     dsimp only [Pt.U, Pt.locs, Pt.cells, Pt.slots] at X192 l192 y192 z192 st192 hQ192
     subst l192 y192 z192
     obtain ⟨rfl, N192q, eh192⟩ := hQ192
     have N192 := Fr.app N160 N192q
     refine Go.step st192 ?_
     show Go p.tables e below _ (T192.setTop (mkF m 156 #[vR a1, vI 1, vI (own_len bs), vI 2, vI 2, vR b105, vI c1, vI (-1 : Int32), s8] [(.int (own_hs c1))]))
     have J188 : Go p.tables e below (fun o U' => ∃ v L, o = .returned v ∧ Qrme162 Z a1 k1 c0 c1 h0 n0 v U'.heap L ∧ FrameEnd s o U' L Rm6.cells Rm6.slots) (T192.setTop (mkF m 188 #[vR a1, vI 1, vI (own_len bs), vI 2, vI 2, vR b105, vI c1, vI (-1 : Int32), s8] [])) := by
      show Go p.tables e below _ (T192.setTop (mkF m 188 #[vR a1, vI 1, vI (own_len bs), vI 2, vI 2, vR b105, vI c1, vI (-1 : Int32), s8] []))
      refine Go.step (fun _ kt => XS.iload X192.here hx rfl (hb hby d22_188) rfl (XS.ifNo X192.here hx rfl (hb hby d22_190) rfl ((if0 _ _).trans (tlt (by decide : (-1 : Int32) < (0 : Int32))).2.1) (XS.iloadN X192.here hx rfl (hb hby d22_193) rfl (XS.ifNo X192.here hx rfl (hb hby d22_194) rfl ((if0 _ _).trans (feq (by decide : ¬ ((1 : Int32) = (0 : Int32)))).1) (XS.aload X192.here hx rfl (hb hby d22_197) rfl rfl (XS.iloadN X192.here hx rfl (hb hby d22_199) rfl (XS.iinc X192.here hx rfl (hb hby d22_200) rfl (l' := #[vR a1, vI 1, vI ((own_len bs) + (1 : Int32)), vI 2, vI 2, vR b105, vI c1, vI (-1 : Int32), s8]) rfl (XS.bipush X192.here hx rfl (hb hby d22_203) kt)))))))) ?_
      show Go p.tables e below _ (T192.setTop (mkF m 205 #[vR a1, vI 1, vI ((own_len bs) + (1 : Int32)), vI 2, vI 2, vR b105, vI c1, vI (-1 : Int32), s8] [(.int 63), (.int (own_len bs)), (.ref b105)]))
      obtain ⟨cl193, Ar193, qa193, Sa193, Na193, Ha193, Ga193⟩ := (id Fg125_0)
      obtain ⟨T193, h193, X193, e193, W193, st193⟩ := stB X192 hx hZ eh192 Ar193 (j := (own_len bs)) (own_in Sa193 (n := 6) (by decide) (by decide) (by first | omega | decide | (simp only [List.length_append, List.length_cons, List.length_nil]; omega))) (g := (mkF m 205 #[vR a1, vI 1, vI ((own_len bs) + (1 : Int32)), vI 2, vI 2, vR b105, vI c1, vI (-1 : Int32), s8] [(.int 63), (.int (own_len bs)), (.ref b105)])) rfl rfl (hb hby d22_205)
      refine Go.step st193 ?_
      have V194 := own_push (y := (63 : Int32)) Fg125_0 (own_ix (by first | omega | decide | (simp only [List.length_append, List.length_cons, List.length_nil]; omega))).1 W193 (by decide) (by first | omega | decide | (simp only [List.length_append, List.length_cons, List.length_nil]; omega))
      have N193 := Fr.snoc X193 N192 g_b105
      have F195 := (Fg125_1.wr W193)
      have F196 := (Fg125_2.other W193 ne_a1_b105)
      have F197 := (Fg125_3.wr W193)
      have F198 := (Fg125_4.wr W193)
      have F199 := (Fg125_5.wr W193)
      have Z200 : n0 ≤ h193.size := (Nat.le_trans Zg125 (Nat.le_of_eq W193.size.symm))
      have K201 : Keep h0 h193 [] := (Kg125.wr W193 (Or.inr sz_b105))
      show Go p.tables e below _ (T193.setTop (mkF m 206 #[vR a1, vI 1, vI ((own_len bs) + (1 : Int32)), vI 2, vI 2, vR b105, vI c1, vI (-1 : Int32), s8] []))
      rw [own_len1 bs (63 : Int32)]
      show Go p.tables e below _ (T193.setTop (mkF m 206 #[vR a1, vI 1, vI (own_len (bs ++ [(63 : Int32)])), vI 2, vI 2, vR b105, vI c1, vI (-1 : Int32), s8] []))
      refine Go.step (fun _ kt => XS.goto X193.here hx rfl (pc0 := 206) (pc' := 295) rfl (hb hby d22_206) (by decide) (by decide) (XS.goto X193.here hx rfl (pc0 := 295) (pc' := 352) rfl (hb hby d22_295) (by decide) (by decide) (XS.goto X193.here hx rfl (pc0 := 352) (pc' := 58) rfl (hb hby d22_352) (by decide) (by decide) (XS.iloadN X193.here hx rfl (hb hby d22_58) rfl (XS.iload X193.here hx rfl (hb hby d22_59) rfl (XS.icmpYes X193.here hx rfl (pc0 := 61) (pc' := 355) rfl (hb hby d22_61) rfl (flt (by decide : ¬ ((2 : Int32) < (2 : Int32)))).2.1 (by decide) (by decide) kt)))))) ?_
      show Go p.tables e below _ (T193.setTop (mkF m 355 #[vR a1, vI 1, vI (own_len (bs ++ [(63 : Int32)])), vI 2, vI 2, vR b105, vI c1, vI (-1 : Int32), s8] []))
      exact G355g113 _ _ _ _ (by rw [hE, own_uS hc79_128 hc100_139 hc145_161]; try simp) (by first | omega | decide | (simp only [List.length_append, List.length_cons, List.length_nil]; omega)) (Or.inr ⟨_, rfl⟩) (Or.inr ⟨_, rfl⟩) h_s8 _ _ _ (X193.more (by decide) (by decide)) e193 N193 Z200 K201 V194 F195
     by_cases hc156_202 : (own_hs c1) = (0 : Int32)
     ·refine Go.step (fun _ kt => XS.ifYes X192.here hx rfl (pc0 := 156) (pc' := 188) rfl (hb hby d22_156) rfl ((if0 _ _).trans (teq hc156_202).1) (by decide) (by decide) kt) ?_
      show Go p.tables e below _ (T192.setTop (mkF m 188 #[vR a1, vI 1, vI (own_len bs), vI 2, vI 2, vR b105, vI c1, vI (-1 : Int32), s8] []))
      exact J188 
     ·refine Go.step (fun _ kt => XS.ifNo X192.here hx rfl (hb hby d22_156) rfl ((if0 _ _).trans (feq hc156_202).1) (XS.iloadN X192.here hx rfl (hb hby d22_159) rfl (XS.iload X192.here hx rfl (hb hby d22_160) rfl (XS.icmpYes X192.here hx rfl (pc0 := 162) (pc' := 188) rfl (hb hby d22_162) rfl (flt (by decide : ¬ ((2 : Int32) < (2 : Int32)))).2.1 (by decide) (by decide) kt)))) ?_
      show Go p.tables e below _ (T192.setTop (mkF m 188 #[vR a1, vI 1, vI (own_len bs), vI 2, vI 2, vR b105, vI c1, vI (-1 : Int32), s8] []))
      exact J188 
 refine Go.step (fun _ kt => XS.iloadN X105.here hx rfl (hb hby d22_18) rfl (XS.iload X105.here hx rfl (hb hby d22_19) rfl (XS.icmpNo X105.here hx rfl (hb hby d22_21) rfl (tlt (by decide : (0 : Int32) < (2 : Int32))).2.1 (XS.aloadN X105.here hx rfl (hb hby d22_24) rfl rfl (XS.iloadN X105.here hx rfl (hb hby d22_25) rfl kt))))) ?_
 show Go p.tables e below _ (T105.setTop (mkF m 26 #[vR a1, vI 1, vI (own_len ([] : List Int32)), vI 0, vI 2, vR b105, uS, uS, uS] [(.int 0), (.ref a1)]))
 obtain ⟨_, _, ⟨T203, L203, k203, n203⟩, -, X203, ⟨Lc203, hQ203, l203, y203, z203⟩, st203⟩ := Jvm.LawKit.callS X105 hx (y := Y12) hown (mvT hZ (w109 hw)) (mvT hZ (w103 hw)) (mvT hZ (w18 hw)) (mvT hZ (w104 hw)) (by decide) (backOf (W := 0) (rmgc2_0 l Z a0 hw [] a1 k1 c0 c1 h105 n0 Z110 F106 F107 F108 F109 hR0) hZ (w104 hw) (w18 hw) (by decide) (by decide)) (g := (mkF m 26 #[vR a1, vI 1, vI (own_len ([] : List Int32)), vI 0, vI 2, vR b105, uS, uS, uS] [(.int 0), (.ref a1)])) rfl hml.symm (argsL := [(.ref a1), (.int 0)]) (rest := []) (lenOf pd_6 rfl) rfl (Nat.le_of_eq rfl) (hb hby d22_26) (fun _ _ => ⟨rfl, e105, (by decide : 1 + 0 ≤ _), (by decide : 6 + 0 ≤ _)⟩)
 dsimp only [Pt.U, Pt.locs, Pt.cells, Pt.slots] at X203 l203 y203 z203 st203 hQ203
 subst l203 y203 z203
 obtain ⟨rfl, N203q, eh203⟩ := hQ203
 have N203 := Fr.app N0 N203q
 refine Go.step st203 ?_
 show Go p.tables e below _ (T203.setTop (mkF m 29 #[vR a1, vI 1, vI (own_len ([] : List Int32)), vI 0, vI 2, vR b105, uS, uS, uS] [(.int c0)]))
 refine Go.step (fun _ kt => XS.istore X203.here hx rfl (hb hby d22_29) rfl (l' := #[vR a1, vI 1, vI (own_len ([] : List Int32)), vI 0, vI 2, vR b105, vI c0, uS, uS]) rfl (XS.iload X203.here hx rfl (hb hby d22_31) rfl (XS.sipush X203.here hx rfl (hb hby d22_33) kt))) ?_
 show Go p.tables e below _ (T203.setTop (mkF m 36 #[vR a1, vI 1, vI (own_len ([] : List Int32)), vI 0, vI 2, vR b105, vI c0, uS, uS] [(.int 128), (.int c0)]))
 by_cases hc36_204 : c0 < (128 : Int32)
 ·refine Go.step (fun _ kt => XS.icmpYes X203.here hx rfl (pc0 := 36) (pc' := 42) rfl (hb hby d22_36) rfl (tlt hc36_204).1 (by decide) (by decide) (XS.aload X203.here hx rfl (hb hby d22_42) rfl rfl (XS.iloadN X203.here hx rfl (hb hby d22_44) rfl (XS.iinc X203.here hx rfl (hb hby d22_45) rfl (l' := #[vR a1, vI 1, vI ((own_len ([] : List Int32)) + (1 : Int32)), vI 0, vI 2, vR b105, vI c0, uS, uS]) rfl (XS.iload X203.here hx rfl (hb hby d22_48) rfl (XS.i2b X203.here hx rfl (hb hby d22_50) rfl kt)))))) ?_
  show Go p.tables e below _ (T203.setTop (mkF m 51 #[vR a1, vI 1, vI ((own_len ([] : List Int32)) + (1 : Int32)), vI 0, vI 2, vR b105, vI c0, uS, uS] [(.int (c0.toInt8.toInt32)), (.int (own_len ([] : List Int32))), (.ref b105)]))
  have q205 : (c0.toInt8.toInt32) = (own_by c0) := rfl
  rw [q205]
  obtain ⟨cl206, Ar206, qa206, Sa206, Na206, Ha206, Ga206⟩ := (id V112)
  obtain ⟨T206, h206, X206, e206, W206, st206⟩ := stB X203 hx hZ eh203 Ar206 (j := (own_len ([] : List Int32))) (own_in Sa206 (n := 6) (by decide) (by decide) (by first | omega | decide | (simp only [List.length_append, List.length_cons, List.length_nil]; omega))) (g := (mkF m 51 #[vR a1, vI 1, vI ((own_len ([] : List Int32)) + (1 : Int32)), vI 0, vI 2, vR b105, vI c0, uS, uS] [(.int (own_by c0)), (.int (own_len ([] : List Int32))), (.ref b105)])) rfl rfl (hb hby d22_51)
  refine Go.step st206 ?_
  have V207 := own_push (y := (own_by c0)) V112 (own_ix (by first | omega | decide | (simp only [List.length_append, List.length_cons, List.length_nil]; omega))).1 W206 (own_bb _) (by first | omega | decide | (simp only [List.length_append, List.length_cons, List.length_nil]; omega))
  have N206 := Fr.snoc X206 N203 g_b105
  have F208 := (F106.other W206 ne_a1_b105)
  have F209 := (F107.wr W206)
  have F210 := (F108.wr W206)
  have F211 := (F109.wr W206)
  have F212 := (Ex105.wr W206)
  have Z213 : n0 ≤ h206.size := (Nat.le_trans Z110 (Nat.le_of_eq W206.size.symm))
  have K214 : Keep h0 h206 [] := (K111.wr W206 (Or.inr sz_b105))
  show Go p.tables e below _ (T206.setTop (mkF m 52 #[vR a1, vI 1, vI ((own_len ([] : List Int32)) + (1 : Int32)), vI 0, vI 2, vR b105, vI c0, uS, uS] []))
  rw [own_len1 ([] : List Int32) (own_by c0)]
  show Go p.tables e below _ (T206.setTop (mkF m 52 #[vR a1, vI 1, vI (own_len (([] : List Int32) ++ [(own_by c0)])), vI 0, vI 2, vR b105, vI c0, uS, uS] []))
  refine Go.step (fun _ kt => XS.iinc X206.here hx rfl (hb hby d22_52) rfl (l' := #[vR a1, vI 1, vI (own_len (([] : List Int32) ++ [(own_by c0)])), vI ((0 : Int32) + (1 : Int32)), vI 2, vR b105, vI c0, uS, uS]) rfl kt) ?_
  show Go p.tables e below _ (T206.setTop (mkF m 55 #[vR a1, vI 1, vI (own_len (([] : List Int32) ++ [(own_by c0)])), vI ((0 : Int32) + (1 : Int32)), vI 2, vR b105, vI c0, uS, uS] []))
  have q215 : ((0 : Int32) + (1 : Int32)) = (1 : Int32) := by decide
  rw [q215]
  show Go p.tables e below _ (T206.setTop (mkF m 55 #[vR a1, vI 1, vI (own_len (([] : List Int32) ++ [(own_by c0)])), vI 1, vI 2, vR b105, vI c0, uS, uS] []))
  refine Go.step (fun _ kt => XS.goto X206.here hx rfl (pc0 := 55) (pc' := 18) rfl (hb hby d22_55) (by decide) (by decide) (XS.iloadN X206.here hx rfl (hb hby d22_18) rfl (XS.iload X206.here hx rfl (hb hby d22_19) rfl (XS.icmpNo X206.here hx rfl (hb hby d22_21) rfl (tlt (by decide : (1 : Int32) < (2 : Int32))).2.1 (XS.aloadN X206.here hx rfl (hb hby d22_24) rfl rfl (XS.iloadN X206.here hx rfl (hb hby d22_25) rfl kt)))))) ?_
  show Go p.tables e below _ (T206.setTop (mkF m 26 #[vR a1, vI 1, vI (own_len (([] : List Int32) ++ [(own_by c0)])), vI 1, vI 2, vR b105, vI c0, uS, uS] [(.int 1), (.ref a1)]))
  obtain ⟨_, _, ⟨T216, L216, k216, n216⟩, -, X216, ⟨Lc216, hQ216, l216, y216, z216⟩, st216⟩ := Jvm.LawKit.callS X206 hx (y := Y12) hown (mvT hZ (w109 hw)) (mvT hZ (w103 hw)) (mvT hZ (w18 hw)) (mvT hZ (w104 hw)) (by decide) (backOf (W := 0) (rmgc2_1 l Z a0 hw [] a1 k1 c0 c1 h206 n0 Z213 F208 F209 F210 F211 hR1) hZ (w104 hw) (w18 hw) (by decide) (by decide)) (g := (mkF m 26 #[vR a1, vI 1, vI (own_len (([] : List Int32) ++ [(own_by c0)])), vI 1, vI 2, vR b105, vI c0, uS, uS] [(.int 1), (.ref a1)])) rfl hml.symm (argsL := [(.ref a1), (.int 1)]) (rest := []) (lenOf pd_6 rfl) rfl (Nat.le_of_eq rfl) (hb hby d22_26) (fun _ _ => ⟨rfl, e206, (by decide : 1 + 0 ≤ _), (by decide : 6 + 0 ≤ _)⟩)
  dsimp only [Pt.U, Pt.locs, Pt.cells, Pt.slots] at X216 l216 y216 z216 st216 hQ216
  subst l216 y216 z216
  obtain ⟨rfl, N216q, eh216⟩ := hQ216
  have N216 := Fr.app N206 N216q
  refine Go.step st216 ?_
  show Go p.tables e below _ (T216.setTop (mkF m 29 #[vR a1, vI 1, vI (own_len (([] : List Int32) ++ [(own_by c0)])), vI 1, vI 2, vR b105, vI c0, uS, uS] [(.int c1)]))
  refine Go.step (fun _ kt => XS.istore X216.here hx rfl (hb hby d22_29) rfl (l' := #[vR a1, vI 1, vI (own_len (([] : List Int32) ++ [(own_by c0)])), vI 1, vI 2, vR b105, vI c1, uS, uS]) rfl (XS.iload X216.here hx rfl (hb hby d22_31) rfl (XS.sipush X216.here hx rfl (hb hby d22_33) kt))) ?_
  show Go p.tables e below _ (T216.setTop (mkF m 36 #[vR a1, vI 1, vI (own_len (([] : List Int32) ++ [(own_by c0)])), vI 1, vI 2, vR b105, vI c1, uS, uS] [(.int 128), (.int c1)]))
  by_cases hc36_217 : c1 < (128 : Int32)
  ·refine Go.step (fun _ kt => XS.icmpYes X216.here hx rfl (pc0 := 36) (pc' := 42) rfl (hb hby d22_36) rfl (tlt hc36_217).1 (by decide) (by decide) (XS.aload X216.here hx rfl (hb hby d22_42) rfl rfl (XS.iloadN X216.here hx rfl (hb hby d22_44) rfl (XS.iinc X216.here hx rfl (hb hby d22_45) rfl (l' := #[vR a1, vI 1, vI ((own_len (([] : List Int32) ++ [(own_by c0)])) + (1 : Int32)), vI 1, vI 2, vR b105, vI c1, uS, uS]) rfl (XS.iload X216.here hx rfl (hb hby d22_48) rfl (XS.i2b X216.here hx rfl (hb hby d22_50) rfl kt)))))) ?_
   show Go p.tables e below _ (T216.setTop (mkF m 51 #[vR a1, vI 1, vI ((own_len (([] : List Int32) ++ [(own_by c0)])) + (1 : Int32)), vI 1, vI 2, vR b105, vI c1, uS, uS] [(.int (c1.toInt8.toInt32)), (.int (own_len (([] : List Int32) ++ [(own_by c0)]))), (.ref b105)]))
   have q218 : (c1.toInt8.toInt32) = (own_by c1) := rfl
   rw [q218]
   obtain ⟨cl219, Ar219, qa219, Sa219, Na219, Ha219, Ga219⟩ := (id V207)
   obtain ⟨T219, h219, X219, e219, W219, st219⟩ := stB X216 hx hZ eh216 Ar219 (j := (own_len (([] : List Int32) ++ [(own_by c0)]))) (own_in Sa219 (n := 6) (by decide) (by decide) (by first | omega | decide | (simp only [List.length_append, List.length_cons, List.length_nil]; omega))) (g := (mkF m 51 #[vR a1, vI 1, vI ((own_len (([] : List Int32) ++ [(own_by c0)])) + (1 : Int32)), vI 1, vI 2, vR b105, vI c1, uS, uS] [(.int (own_by c1)), (.int (own_len (([] : List Int32) ++ [(own_by c0)]))), (.ref b105)])) rfl rfl (hb hby d22_51)
   refine Go.step st219 ?_
   have V220 := own_push (y := (own_by c1)) V207 (own_ix (by first | omega | decide | (simp only [List.length_append, List.length_cons, List.length_nil]; omega))).1 W219 (own_bb _) (by first | omega | decide | (simp only [List.length_append, List.length_cons, List.length_nil]; omega))
   have N219 := Fr.snoc X219 N216 g_b105
   have F221 := (F208.other W219 ne_a1_b105)
   have F222 := (F209.wr W219)
   have F223 := (F210.wr W219)
   have F224 := (F211.wr W219)
   have F225 := (F212.wr W219)
   have Z226 : n0 ≤ h219.size := (Nat.le_trans Z213 (Nat.le_of_eq W219.size.symm))
   have K227 : Keep h0 h219 [] := (K214.wr W219 (Or.inr sz_b105))
   show Go p.tables e below _ (T219.setTop (mkF m 52 #[vR a1, vI 1, vI ((own_len (([] : List Int32) ++ [(own_by c0)])) + (1 : Int32)), vI 1, vI 2, vR b105, vI c1, uS, uS] []))
   rw [own_len1 (([] : List Int32) ++ [(own_by c0)]) (own_by c1)]
   show Go p.tables e below _ (T219.setTop (mkF m 52 #[vR a1, vI 1, vI (own_len ((([] : List Int32) ++ [(own_by c0)]) ++ [(own_by c1)])), vI 1, vI 2, vR b105, vI c1, uS, uS] []))
   refine Go.step (fun _ kt => XS.iinc X219.here hx rfl (hb hby d22_52) rfl (l' := #[vR a1, vI 1, vI (own_len ((([] : List Int32) ++ [(own_by c0)]) ++ [(own_by c1)])), vI ((1 : Int32) + (1 : Int32)), vI 2, vR b105, vI c1, uS, uS]) rfl kt) ?_
   show Go p.tables e below _ (T219.setTop (mkF m 55 #[vR a1, vI 1, vI (own_len ((([] : List Int32) ++ [(own_by c0)]) ++ [(own_by c1)])), vI ((1 : Int32) + (1 : Int32)), vI 2, vR b105, vI c1, uS, uS] []))
   have q228 : ((1 : Int32) + (1 : Int32)) = (2 : Int32) := by decide
   rw [q228]
   show Go p.tables e below _ (T219.setTop (mkF m 55 #[vR a1, vI 1, vI (own_len ((([] : List Int32) ++ [(own_by c0)]) ++ [(own_by c1)])), vI 2, vI 2, vR b105, vI c1, uS, uS] []))
   refine Go.step (fun _ kt => XS.goto X219.here hx rfl (pc0 := 55) (pc' := 18) rfl (hb hby d22_55) (by decide) (by decide) (XS.iloadN X219.here hx rfl (hb hby d22_18) rfl (XS.iload X219.here hx rfl (hb hby d22_19) rfl (XS.icmpYes X219.here hx rfl (pc0 := 21) (pc' := 58) rfl (hb hby d22_21) rfl (flt (by decide : ¬ ((2 : Int32) < (2 : Int32)))).2.1 (by decide) (by decide) (XS.iloadN X219.here hx rfl (hb hby d22_58) rfl (XS.iload X219.here hx rfl (hb hby d22_59) rfl (XS.icmpYes X219.here hx rfl (pc0 := 61) (pc' := 355) rfl (hb hby d22_61) rfl (flt (by decide : ¬ ((2 : Int32) < (2 : Int32)))).2.1 (by decide) (by decide) kt))))))) ?_
   show Go p.tables e below _ (T219.setTop (mkF m 355 #[vR a1, vI 1, vI (own_len ((([] : List Int32) ++ [(own_by c0)]) ++ [(own_by c1)])), vI 2, vI 2, vR b105, vI c1, uS, uS] []))
   exact G355g113 _ _ _ _ (by rw [own_e2a (own_hs_a hc36_204), own_uA hc36_204, own_uA hc36_217]; try rfl) (by first | omega | decide | (simp only [List.length_append, List.length_cons, List.length_nil]; omega)) (Or.inr ⟨_, rfl⟩) (Or.inl rfl) (Or.inl rfl) _ _ _ (X219.more (by decide) (by decide)) e219 N219 Z226 K227 V220 F225
  ·refine Go.step (fun _ kt => XS.icmpNo X216.here hx rfl (hb hby d22_36) rfl (flt hc36_217).1 (XS.goto X216.here hx rfl (pc0 := 39) (pc' := 58) rfl (hb hby d22_39) (by decide) (by decide) kt)) ?_
   show Go p.tables e below _ (T216.setTop (mkF m 58 #[vR a1, vI 1, vI (own_len (([] : List Int32) ++ [(own_by c0)])), vI 1, vI 2, vR b105, vI c1, uS, uS] []))
   exact G58g125 _ _ _ _ (by rw [own_e2a (own_hs_a hc36_204), own_uA hc36_204]; try rfl) (by first | omega | decide | (simp only [List.length_append, List.length_cons, List.length_nil]; omega)) (Or.inr ⟨_, rfl⟩) (Or.inl rfl) (Or.inl rfl) _ _ _ (X216.more (by decide) (by decide)) eh216 N216 Z213 K214 V207 F212 F208 F209 F210 F211
 ·refine Go.step (fun _ kt => XS.icmpNo X203.here hx rfl (hb hby d22_36) rfl (flt hc36_204).1 (XS.goto X203.here hx rfl (pc0 := 39) (pc' := 58) rfl (hb hby d22_39) (by decide) (by decide) (XS.iloadN X203.here hx rfl (hb hby d22_58) rfl (XS.iload X203.here hx rfl (hb hby d22_59) rfl (XS.icmpNo X203.here hx rfl (hb hby d22_61) rfl (tlt (by decide : (0 : Int32) < (2 : Int32))).2.1 (XS.aloadN X203.here hx rfl (hb hby d22_64) rfl rfl (XS.iloadN X203.here hx rfl (hb hby d22_65) rfl (XS.iinc X203.here hx rfl (hb hby d22_66) rfl (l' := #[vR a1, vI 1, vI (own_len ([] : List Int32)), vI ((0 : Int32) + (1 : Int32)), vI 2, vR b105, vI c0, uS, uS]) rfl kt)))))))) ?_
  show Go p.tables e below _ (T203.setTop (mkF m 69 #[vR a1, vI 1, vI (own_len ([] : List Int32)), vI ((0 : Int32) + (1 : Int32)), vI 2, vR b105, vI c0, uS, uS] [(.int 0), (.ref a1)]))
  have q229 : ((0 : Int32) + (1 : Int32)) = (1 : Int32) := by decide
  rw [q229]
  obtain ⟨_, _, ⟨T230, L230, k230, n230⟩, -, X230, ⟨Lc230, hQ230, l230, y230, z230⟩, st230⟩ := Jvm.LawKit.callS X203 hx (y := Y12) hown (mvT hZ (w109 hw)) (mvT hZ (w103 hw)) (mvT hZ (w18 hw)) (mvT hZ (w104 hw)) (by decide) (backOf (W := 0) (rmgc2_0 l Z a0 hw [] a1 k1 c0 c1 h105 n0 Z110 F106 F107 F108 F109 hR0) hZ (w104 hw) (w18 hw) (by decide) (by decide)) (g := (mkF m 69 #[vR a1, vI 1, vI (own_len ([] : List Int32)), vI 1, vI 2, vR b105, vI c0, uS, uS] [(.int 0), (.ref a1)])) rfl hml.symm (argsL := [(.ref a1), (.int 0)]) (rest := []) (lenOf pd_6 rfl) rfl (Nat.le_of_eq rfl) (hb hby d22_69) (fun _ _ => ⟨rfl, eh203, (by decide : 1 + 0 ≤ _), (by decide : 6 + 0 ≤ _)⟩)
  dsimp only [Pt.U, Pt.locs, Pt.cells, Pt.slots] at X230 l230 y230 z230 st230 hQ230
  subst l230 y230 z230
  obtain ⟨rfl, N230q, eh230⟩ := hQ230
  have N230 := Fr.app N203 N230q
  refine Go.step st230 ?_
  show Go p.tables e below _ (T230.setTop (mkF m 72 #[vR a1, vI 1, vI (own_len ([] : List Int32)), vI 1, vI 2, vR b105, vI c0, uS, uS] [(.int c0)]))
  refine Go.step (fun _ kt => XS.istore X230.here hx rfl (hb hby d22_72) rfl (l' := #[vR a1, vI 1, vI (own_len ([] : List Int32)), vI 1, vI 2, vR b105, vI c0, uS, uS]) rfl (XS.iload X230.here hx rfl (hb hby d22_74) rfl (XS.sipush X230.here hx rfl (hb hby d22_76) (XS.icmpYes X230.here hx rfl (pc0 := 79) (pc' := 95) rfl (hb hby d22_79) rfl (flt hc36_204).2.1 (by decide) (by decide) (XS.iload X230.here hx rfl (hb hby d22_95) rfl (XS.sipush X230.here hx rfl (hb hby d22_97) kt)))))) ?_
  show Go p.tables e below _ (T230.setTop (mkF m 100 #[vR a1, vI 1, vI (own_len ([] : List Int32)), vI 1, vI 2, vR b105, vI c0, uS, uS] [(.int 2048), (.int c0)]))
  by_cases hc100_231 : c0 < (2048 : Int32)
  ·refine Go.step (fun _ kt => XS.icmpNo X230.here hx rfl (hb hby d22_100) rfl (tlt hc100_231).2.1 (XS.aload X230.here hx rfl (hb hby d22_103) rfl rfl (XS.iloadN X230.here hx rfl (hb hby d22_105) rfl (XS.iinc X230.here hx rfl (hb hby d22_106) rfl (l' := #[vR a1, vI 1, vI ((own_len ([] : List Int32)) + (1 : Int32)), vI 1, vI 2, vR b105, vI c0, uS, uS]) rfl (XS.sipush X230.here hx rfl (hb hby d22_109) (XS.iload X230.here hx rfl (hb hby d22_112) rfl (XS.bipush X230.here hx rfl (hb hby d22_114) (XS.ishr X230.here hx rfl (hb hby d22_116) rfl (XS.ior X230.here hx rfl (hb hby d22_117) rfl (XS.i2b X230.here hx rfl (hb hby d22_118) rfl kt)))))))))) ?_
   show Go p.tables e below _ (T230.setTop (mkF m 119 #[vR a1, vI 1, vI ((own_len ([] : List Int32)) + (1 : Int32)), vI 1, vI 2, vR b105, vI c0, uS, uS] [(.int (((192 : Int32) ||| (c0 >>> ((6 : Int32) &&& 31))).toInt8.toInt32)), (.int (own_len ([] : List Int32))), (.ref b105)]))
   have q232 : (((192 : Int32) ||| (c0 >>> ((6 : Int32) &&& 31))).toInt8.toInt32) = (own_by ((192 : Int32) ||| (c0 >>> ((6 : Int32) &&& 31)))) := rfl
   rw [q232]
   obtain ⟨cl233, Ar233, qa233, Sa233, Na233, Ha233, Ga233⟩ := (id V112)
   obtain ⟨T233, h233, X233, e233, W233, st233⟩ := stB X230 hx hZ eh230 Ar233 (j := (own_len ([] : List Int32))) (own_in Sa233 (n := 6) (by decide) (by decide) (by first | omega | decide | (simp only [List.length_append, List.length_cons, List.length_nil]; omega))) (g := (mkF m 119 #[vR a1, vI 1, vI ((own_len ([] : List Int32)) + (1 : Int32)), vI 1, vI 2, vR b105, vI c0, uS, uS] [(.int (own_by ((192 : Int32) ||| (c0 >>> ((6 : Int32) &&& 31))))), (.int (own_len ([] : List Int32))), (.ref b105)])) rfl rfl (hb hby d22_119)
   refine Go.step st233 ?_
   have V234 := own_push (y := (own_by ((192 : Int32) ||| (c0 >>> ((6 : Int32) &&& 31))))) V112 (own_ix (by first | omega | decide | (simp only [List.length_append, List.length_cons, List.length_nil]; omega))).1 W233 (own_bb _) (by first | omega | decide | (simp only [List.length_append, List.length_cons, List.length_nil]; omega))
   have N233 := Fr.snoc X233 N230 g_b105
   have F235 := (F106.other W233 ne_a1_b105)
   have F236 := (F107.wr W233)
   have F237 := (F108.wr W233)
   have F238 := (F109.wr W233)
   have F239 := (Ex105.wr W233)
   have Z240 : n0 ≤ h233.size := (Nat.le_trans Z110 (Nat.le_of_eq W233.size.symm))
   have K241 : Keep h0 h233 [] := (K111.wr W233 (Or.inr sz_b105))
   show Go p.tables e below _ (T233.setTop (mkF m 120 #[vR a1, vI 1, vI ((own_len ([] : List Int32)) + (1 : Int32)), vI 1, vI 2, vR b105, vI c0, uS, uS] []))
   rw [own_len1 ([] : List Int32) (own_by ((192 : Int32) ||| (c0 >>> ((6 : Int32) &&& 31))))]
   show Go p.tables e below _ (T233.setTop (mkF m 120 #[vR a1, vI 1, vI (own_len (([] : List Int32) ++ [(own_by ((192 : Int32) ||| (c0 >>> ((6 : Int32) &&& 31))))])), vI 1, vI 2, vR b105, vI c0, uS, uS] []))
   refine Go.step (fun _ kt => XS.aload X233.here hx rfl (hb hby d22_120) rfl rfl (XS.iloadN X233.here hx rfl (hb hby d22_122) rfl (XS.iinc X233.here hx rfl (hb hby d22_123) rfl (l' := #[vR a1, vI 1, vI ((own_len (([] : List Int32) ++ [(own_by ((192 : Int32) ||| (c0 >>> ((6 : Int32) &&& 31))))])) + (1 : Int32)), vI 1, vI 2, vR b105, vI c0, uS, uS]) rfl (XS.sipush X233.here hx rfl (hb hby d22_126) (XS.iload X233.here hx rfl (hb hby d22_129) rfl (XS.bipush X233.here hx rfl (hb hby d22_131) (XS.iand X233.here hx rfl (hb hby d22_133) rfl (XS.ior X233.here hx rfl (hb hby d22_134) rfl (XS.i2b X233.here hx rfl (hb hby d22_135) rfl kt))))))))) ?_
   show Go p.tables e below _ (T233.setTop (mkF m 136 #[vR a1, vI 1, vI ((own_len (([] : List Int32) ++ [(own_by ((192 : Int32) ||| (c0 >>> ((6 : Int32) &&& 31))))])) + (1 : Int32)), vI 1, vI 2, vR b105, vI c0, uS, uS] [(.int (((128 : Int32) ||| (c0 &&& (63 : Int32))).toInt8.toInt32)), (.int (own_len (([] : List Int32) ++ [(own_by ((192 : Int32) ||| (c0 >>> ((6 : Int32) &&& 31))))]))), (.ref b105)]))
   have q242 : (((128 : Int32) ||| (c0 &&& (63 : Int32))).toInt8.toInt32) = (own_by ((128 : Int32) ||| (c0 &&& (63 : Int32)))) := rfl
   rw [q242]
   obtain ⟨cl243, Ar243, qa243, Sa243, Na243, Ha243, Ga243⟩ := (id V234)
   obtain ⟨T243, h243, X243, e243, W243, st243⟩ := stB X233 hx hZ e233 Ar243 (j := (own_len (([] : List Int32) ++ [(own_by ((192 : Int32) ||| (c0 >>> ((6 : Int32) &&& 31))))]))) (own_in Sa243 (n := 6) (by decide) (by decide) (by first | omega | decide | (simp only [List.length_append, List.length_cons, List.length_nil]; omega))) (g := (mkF m 136 #[vR a1, vI 1, vI ((own_len (([] : List Int32) ++ [(own_by ((192 : Int32) ||| (c0 >>> ((6 : Int32) &&& 31))))])) + (1 : Int32)), vI 1, vI 2, vR b105, vI c0, uS, uS] [(.int (own_by ((128 : Int32) ||| (c0 &&& (63 : Int32))))), (.int (own_len (([] : List Int32) ++ [(own_by ((192 : Int32) ||| (c0 >>> ((6 : Int32) &&& 31))))]))), (.ref b105)])) rfl rfl (hb hby d22_136)
   refine Go.step st243 ?_
   have V244 := own_push (y := (own_by ((128 : Int32) ||| (c0 &&& (63 : Int32))))) V234 (own_ix (by first | omega | decide | (simp only [List.length_append, List.length_cons, List.length_nil]; omega))).1 W243 (own_bb _) (by first | omega | decide | (simp only [List.length_append, List.length_cons, List.length_nil]; omega))
   have N243 := Fr.snoc X243 N233 g_b105
   have F245 := (F235.other W243 ne_a1_b105)
   have F246 := (F236.wr W243)
   have F247 := (F237.wr W243)
   have F248 := (F238.wr W243)
   have F249 := (F239.wr W243)
   have Z250 : n0 ≤ h243.size := (Nat.le_trans Z240 (Nat.le_of_eq W243.size.symm))
   have K251 : Keep h0 h243 [] := (K241.wr W243 (Or.inr sz_b105))
   show Go p.tables e below _ (T243.setTop (mkF m 137 #[vR a1, vI 1, vI ((own_len (([] : List Int32) ++ [(own_by ((192 : Int32) ||| (c0 >>> ((6 : Int32) &&& 31))))])) + (1 : Int32)), vI 1, vI 2, vR b105, vI c0, uS, uS] []))
   rw [own_len1 (([] : List Int32) ++ [(own_by ((192 : Int32) ||| (c0 >>> ((6 : Int32) &&& 31))))]) (own_by ((128 : Int32) ||| (c0 &&& (63 : Int32))))]
   show Go p.tables e below _ (T243.setTop (mkF m 137 #[vR a1, vI 1, vI (own_len ((([] : List Int32) ++ [(own_by ((192 : Int32) ||| (c0 >>> ((6 : Int32) &&& 31))))]) ++ [(own_by ((128 : Int32) ||| (c0 &&& (63 : Int32))))])), vI 1, vI 2, vR b105, vI c0, uS, uS] []))
   refine Go.step (fun _ kt => XS.goto X243.here hx rfl (pc0 := 137) (pc' := 352) rfl (hb hby d22_137) (by decide) (by decide) (XS.goto X243.here hx rfl (pc0 := 352) (pc' := 58) rfl (hb hby d22_352) (by decide) (by decide) kt)) ?_
   show Go p.tables e below _ (T243.setTop (mkF m 58 #[vR a1, vI 1, vI (own_len ((([] : List Int32) ++ [(own_by ((192 : Int32) ||| (c0 >>> ((6 : Int32) &&& 31))))]) ++ [(own_by ((128 : Int32) ||| (c0 &&& (63 : Int32))))])), vI 1, vI 2, vR b105, vI c0, uS, uS] []))
   exact G58g125 _ _ _ _ (by rw [own_e2a (own_hs_lt hc100_231), own_uB hc36_204 hc100_231]; try rfl) (by first | omega | decide | (simp only [List.length_append, List.length_cons, List.length_nil]; omega)) (Or.inr ⟨_, rfl⟩) (Or.inl rfl) (Or.inl rfl) _ _ _ (X243.more (by decide) (by decide)) e243 N243 Z250 K251 V244 F249 F245 F246 F247 F248
  ·refine Go.step (fun _ kt => XS.icmpYes X230.here hx rfl (pc0 := 100) (pc' := 140) rfl (hb hby d22_100) rfl (flt hc100_231).2.1 (by decide) (by decide) (XS.iload X230.here hx rfl (hb hby d22_140) rfl kt)) ?_
   obtain ⟨_, _, ⟨T252, L252, k252, n252⟩, -, X252, ⟨Lc252, hQ252, l252, y252, z252⟩, st252⟩ := Jvm.LawKit.callS X230 hx (y := Y2) hown (mvT hZ (w110 hw)) (mvT hZ (w111 hw)) (mvT hZ (w112 hw)) (mvT hZ (w113 hw)) (by decide) (backOf (W := 0) (rmis l Z a0 hw [] c0  h105 n0 Z110  ) hZ (w113 hw) (w112 hw) (by decide) (by decide)) (g := (mkF m 142 #[vR a1, vI 1, vI (own_len ([] : List Int32)), vI 1, vI 2, vR b105, vI c0, uS, uS] [(.int c0)])) rfl hml.symm (argsL := [(.int c0)]) (rest := []) (lenOf pd_7 rfl) rfl (Nat.le_of_eq rfl) (hb hby d22_142) (fun _ _ => ⟨rfl, eh230, (by decide : 1 + 0 ≤ _), (by decide : 6 + 0 ≤ _)⟩)
   dsimp only [Pt.U, Pt.locs, Pt.cells, Pt.slots] at X252 l252 y252 z252 st252 hQ252
   subst l252 y252 z252
   obtain ⟨rfl, N252q, eh252⟩ := hQ252
   have N252 := Fr.app N230 N252q
   refine Go.step st252 ?_
   show Go p.tables e below _ (T252.setTop (mkF m 145 #[vR a1, vI 1, vI (own_len ([] : List Int32)), vI 1, vI 2, vR b105, vI c0, uS, uS] [(.int (own_su c0))]))
   by_cases hc145_253 : (own_su c0) = (0 : Int32)
   ·refine Go.step (fun _ kt => XS.ifYes X252.here hx rfl (pc0 := 145) (pc' := 298) rfl (hb hby d22_145) rfl ((if0 _ _).trans (teq hc145_253).1) (by decide) (by decide) (XS.aload X252.here hx rfl (hb hby d22_298) rfl rfl (XS.iloadN X252.here hx rfl (hb hby d22_300) rfl (XS.iinc X252.here hx rfl (hb hby d22_301) rfl (l' := #[vR a1, vI 1, vI ((own_len ([] : List Int32)) + (1 : Int32)), vI 1, vI 2, vR b105, vI c0, uS, uS]) rfl (XS.sipush X252.here hx rfl (hb hby d22_304) (XS.iload X252.here hx rfl (hb hby d22_307) rfl (XS.bipush X252.here hx rfl (hb hby d22_309) (XS.ishr X252.here hx rfl (hb hby d22_311) rfl (XS.ior X252.here hx rfl (hb hby d22_312) rfl (XS.i2b X252.here hx rfl (hb hby d22_313) rfl kt)))))))))) ?_
    show Go p.tables e below _ (T252.setTop (mkF m 314 #[vR a1, vI 1, vI ((own_len ([] : List Int32)) + (1 : Int32)), vI 1, vI 2, vR b105, vI c0, uS, uS] [(.int (((224 : Int32) ||| (c0 >>> ((12 : Int32) &&& 31))).toInt8.toInt32)), (.int (own_len ([] : List Int32))), (.ref b105)]))
    have q254 : (((224 : Int32) ||| (c0 >>> ((12 : Int32) &&& 31))).toInt8.toInt32) = (own_by ((224 : Int32) ||| (c0 >>> ((12 : Int32) &&& 31)))) := rfl
    rw [q254]
    obtain ⟨cl255, Ar255, qa255, Sa255, Na255, Ha255, Ga255⟩ := (id V112)
    obtain ⟨T255, h255, X255, e255, W255, st255⟩ := stB X252 hx hZ eh252 Ar255 (j := (own_len ([] : List Int32))) (own_in Sa255 (n := 6) (by decide) (by decide) (by first | omega | decide | (simp only [List.length_append, List.length_cons, List.length_nil]; omega))) (g := (mkF m 314 #[vR a1, vI 1, vI ((own_len ([] : List Int32)) + (1 : Int32)), vI 1, vI 2, vR b105, vI c0, uS, uS] [(.int (own_by ((224 : Int32) ||| (c0 >>> ((12 : Int32) &&& 31))))), (.int (own_len ([] : List Int32))), (.ref b105)])) rfl rfl (hb hby d22_314)
    refine Go.step st255 ?_
    have V256 := own_push (y := (own_by ((224 : Int32) ||| (c0 >>> ((12 : Int32) &&& 31))))) V112 (own_ix (by first | omega | decide | (simp only [List.length_append, List.length_cons, List.length_nil]; omega))).1 W255 (own_bb _) (by first | omega | decide | (simp only [List.length_append, List.length_cons, List.length_nil]; omega))
    have N255 := Fr.snoc X255 N252 g_b105
    have F257 := (F106.other W255 ne_a1_b105)
    have F258 := (F107.wr W255)
    have F259 := (F108.wr W255)
    have F260 := (F109.wr W255)
    have F261 := (Ex105.wr W255)
    have Z262 : n0 ≤ h255.size := (Nat.le_trans Z110 (Nat.le_of_eq W255.size.symm))
    have K263 : Keep h0 h255 [] := (K111.wr W255 (Or.inr sz_b105))
    show Go p.tables e below _ (T255.setTop (mkF m 315 #[vR a1, vI 1, vI ((own_len ([] : List Int32)) + (1 : Int32)), vI 1, vI 2, vR b105, vI c0, uS, uS] []))
    rw [own_len1 ([] : List Int32) (own_by ((224 : Int32) ||| (c0 >>> ((12 : Int32) &&& 31))))]
    show Go p.tables e below _ (T255.setTop (mkF m 315 #[vR a1, vI 1, vI (own_len (([] : List Int32) ++ [(own_by ((224 : Int32) ||| (c0 >>> ((12 : Int32) &&& 31))))])), vI 1, vI 2, vR b105, vI c0, uS, uS] []))
    refine Go.step (fun _ kt => XS.aload X255.here hx rfl (hb hby d22_315) rfl rfl (XS.iloadN X255.here hx rfl (hb hby d22_317) rfl (XS.iinc X255.here hx rfl (hb hby d22_318) rfl (l' := #[vR a1, vI 1, vI ((own_len (([] : List Int32) ++ [(own_by ((224 : Int32) ||| (c0 >>> ((12 : Int32) &&& 31))))])) + (1 : Int32)), vI 1, vI 2, vR b105, vI c0, uS, uS]) rfl (XS.sipush X255.here hx rfl (hb hby d22_321) (XS.iload X255.here hx rfl (hb hby d22_324) rfl (XS.bipush X255.here hx rfl (hb hby d22_326) (XS.ishr X255.here hx rfl (hb hby d22_328) rfl (XS.bipush X255.here hx rfl (hb hby d22_329) (XS.iand X255.here hx rfl (hb hby d22_331) rfl (XS.ior X255.here hx rfl (hb hby d22_332) rfl (XS.i2b X255.here hx rfl (hb hby d22_333) rfl kt))))))))))) ?_
    show Go p.tables e below _ (T255.setTop (mkF m 334 #[vR a1, vI 1, vI ((own_len (([] : List Int32) ++ [(own_by ((224 : Int32) ||| (c0 >>> ((12 : Int32) &&& 31))))])) + (1 : Int32)), vI 1, vI 2, vR b105, vI c0, uS, uS] [(.int (((128 : Int32) ||| ((c0 >>> ((6 : Int32) &&& 31)) &&& (63 : Int32))).toInt8.toInt32)), (.int (own_len (([] : List Int32) ++ [(own_by ((224 : Int32) ||| (c0 >>> ((12 : Int32) &&& 31))))]))), (.ref b105)]))
    have q264 : (((128 : Int32) ||| ((c0 >>> ((6 : Int32) &&& 31)) &&& (63 : Int32))).toInt8.toInt32) = (own_by ((128 : Int32) ||| ((c0 >>> ((6 : Int32) &&& 31)) &&& (63 : Int32)))) := rfl
    rw [q264]
    obtain ⟨cl265, Ar265, qa265, Sa265, Na265, Ha265, Ga265⟩ := (id V256)
    obtain ⟨T265, h265, X265, e265, W265, st265⟩ := stB X255 hx hZ e255 Ar265 (j := (own_len (([] : List Int32) ++ [(own_by ((224 : Int32) ||| (c0 >>> ((12 : Int32) &&& 31))))]))) (own_in Sa265 (n := 6) (by decide) (by decide) (by first | omega | decide | (simp only [List.length_append, List.length_cons, List.length_nil]; omega))) (g := (mkF m 334 #[vR a1, vI 1, vI ((own_len (([] : List Int32) ++ [(own_by ((224 : Int32) ||| (c0 >>> ((12 : Int32) &&& 31))))])) + (1 : Int32)), vI 1, vI 2, vR b105, vI c0, uS, uS] [(.int (own_by ((128 : Int32) ||| ((c0 >>> ((6 : Int32) &&& 31)) &&& (63 : Int32))))), (.int (own_len (([] : List Int32) ++ [(own_by ((224 : Int32) ||| (c0 >>> ((12 : Int32) &&& 31))))]))), (.ref b105)])) rfl rfl (hb hby d22_334)
    refine Go.step st265 ?_
    have V266 := own_push (y := (own_by ((128 : Int32) ||| ((c0 >>> ((6 : Int32) &&& 31)) &&& (63 : Int32))))) V256 (own_ix (by first | omega | decide | (simp only [List.length_append, List.length_cons, List.length_nil]; omega))).1 W265 (own_bb _) (by first | omega | decide | (simp only [List.length_append, List.length_cons, List.length_nil]; omega))
    have N265 := Fr.snoc X265 N255 g_b105
    have F267 := (F257.other W265 ne_a1_b105)
    have F268 := (F258.wr W265)
    have F269 := (F259.wr W265)
    have F270 := (F260.wr W265)
    have F271 := (F261.wr W265)
    have Z272 : n0 ≤ h265.size := (Nat.le_trans Z262 (Nat.le_of_eq W265.size.symm))
    have K273 : Keep h0 h265 [] := (K263.wr W265 (Or.inr sz_b105))
    show Go p.tables e below _ (T265.setTop (mkF m 335 #[vR a1, vI 1, vI ((own_len (([] : List Int32) ++ [(own_by ((224 : Int32) ||| (c0 >>> ((12 : Int32) &&& 31))))])) + (1 : Int32)), vI 1, vI 2, vR b105, vI c0, uS, uS] []))
    rw [own_len1 (([] : List Int32) ++ [(own_by ((224 : Int32) ||| (c0 >>> ((12 : Int32) &&& 31))))]) (own_by ((128 : Int32) ||| ((c0 >>> ((6 : Int32) &&& 31)) &&& (63 : Int32))))]
    show Go p.tables e below _ (T265.setTop (mkF m 335 #[vR a1, vI 1, vI (own_len ((([] : List Int32) ++ [(own_by ((224 : Int32) ||| (c0 >>> ((12 : Int32) &&& 31))))]) ++ [(own_by ((128 : Int32) ||| ((c0 >>> ((6 : Int32) &&& 31)) &&& (63 : Int32))))])), vI 1, vI 2, vR b105, vI c0, uS, uS] []))
    refine Go.step (fun _ kt => XS.aload X265.here hx rfl (hb hby d22_335) rfl rfl (XS.iloadN X265.here hx rfl (hb hby d22_337) rfl (XS.iinc X265.here hx rfl (hb hby d22_338) rfl (l' := #[vR a1, vI 1, vI ((own_len ((([] : List Int32) ++ [(own_by ((224 : Int32) ||| (c0 >>> ((12 : Int32) &&& 31))))]) ++ [(own_by ((128 : Int32) ||| ((c0 >>> ((6 : Int32) &&& 31)) &&& (63 : Int32))))])) + (1 : Int32)), vI 1, vI 2, vR b105, vI c0, uS, uS]) rfl (XS.sipush X265.here hx rfl (hb hby d22_341) (XS.iload X265.here hx rfl (hb hby d22_344) rfl (XS.bipush X265.here hx rfl (hb hby d22_346) (XS.iand X265.here hx rfl (hb hby d22_348) rfl (XS.ior X265.here hx rfl (hb hby d22_349) rfl (XS.i2b X265.here hx rfl (hb hby d22_350) rfl kt))))))))) ?_
    show Go p.tables e below _ (T265.setTop (mkF m 351 #[vR a1, vI 1, vI ((own_len ((([] : List Int32) ++ [(own_by ((224 : Int32) ||| (c0 >>> ((12 : Int32) &&& 31))))]) ++ [(own_by ((128 : Int32) ||| ((c0 >>> ((6 : Int32) &&& 31)) &&& (63 : Int32))))])) + (1 : Int32)), vI 1, vI 2, vR b105, vI c0, uS, uS] [(.int (((128 : Int32) ||| (c0 &&& (63 : Int32))).toInt8.toInt32)), (.int (own_len ((([] : List Int32) ++ [(own_by ((224 : Int32) ||| (c0 >>> ((12 : Int32) &&& 31))))]) ++ [(own_by ((128 : Int32) ||| ((c0 >>> ((6 : Int32) &&& 31)) &&& (63 : Int32))))]))), (.ref b105)]))
    have q274 : (((128 : Int32) ||| (c0 &&& (63 : Int32))).toInt8.toInt32) = (own_by ((128 : Int32) ||| (c0 &&& (63 : Int32)))) := rfl
    rw [q274]
    obtain ⟨cl275, Ar275, qa275, Sa275, Na275, Ha275, Ga275⟩ := (id V266)
    obtain ⟨T275, h275, X275, e275, W275, st275⟩ := stB X265 hx hZ e265 Ar275 (j := (own_len ((([] : List Int32) ++ [(own_by ((224 : Int32) ||| (c0 >>> ((12 : Int32) &&& 31))))]) ++ [(own_by ((128 : Int32) ||| ((c0 >>> ((6 : Int32) &&& 31)) &&& (63 : Int32))))]))) (own_in Sa275 (n := 6) (by decide) (by decide) (by first | omega | decide | (simp only [List.length_append, List.length_cons, List.length_nil]; omega))) (g := (mkF m 351 #[vR a1, vI 1, vI ((own_len ((([] : List Int32) ++ [(own_by ((224 : Int32) ||| (c0 >>> ((12 : Int32) &&& 31))))]) ++ [(own_by ((128 : Int32) ||| ((c0 >>> ((6 : Int32) &&& 31)) &&& (63 : Int32))))])) + (1 : Int32)), vI 1, vI 2, vR b105, vI c0, uS, uS] [(.int (own_by ((128 : Int32) ||| (c0 &&& (63 : Int32))))), (.int (own_len ((([] : List Int32) ++ [(own_by ((224 : Int32) ||| (c0 >>> ((12 : Int32) &&& 31))))]) ++ [(own_by ((128 : Int32) ||| ((c0 >>> ((6 : Int32) &&& 31)) &&& (63 : Int32))))]))), (.ref b105)])) rfl rfl (hb hby d22_351)
    refine Go.step st275 ?_
    have V276 := own_push (y := (own_by ((128 : Int32) ||| (c0 &&& (63 : Int32))))) V266 (own_ix (by first | omega | decide | (simp only [List.length_append, List.length_cons, List.length_nil]; omega))).1 W275 (own_bb _) (by first | omega | decide | (simp only [List.length_append, List.length_cons, List.length_nil]; omega))
    have N275 := Fr.snoc X275 N265 g_b105
    have F277 := (F267.other W275 ne_a1_b105)
    have F278 := (F268.wr W275)
    have F279 := (F269.wr W275)
    have F280 := (F270.wr W275)
    have F281 := (F271.wr W275)
    have Z282 : n0 ≤ h275.size := (Nat.le_trans Z272 (Nat.le_of_eq W275.size.symm))
    have K283 : Keep h0 h275 [] := (K273.wr W275 (Or.inr sz_b105))
    show Go p.tables e below _ (T275.setTop (mkF m 352 #[vR a1, vI 1, vI ((own_len ((([] : List Int32) ++ [(own_by ((224 : Int32) ||| (c0 >>> ((12 : Int32) &&& 31))))]) ++ [(own_by ((128 : Int32) ||| ((c0 >>> ((6 : Int32) &&& 31)) &&& (63 : Int32))))])) + (1 : Int32)), vI 1, vI 2, vR b105, vI c0, uS, uS] []))
    rw [own_len1 ((([] : List Int32) ++ [(own_by ((224 : Int32) ||| (c0 >>> ((12 : Int32) &&& 31))))]) ++ [(own_by ((128 : Int32) ||| ((c0 >>> ((6 : Int32) &&& 31)) &&& (63 : Int32))))]) (own_by ((128 : Int32) ||| (c0 &&& (63 : Int32))))]
    show Go p.tables e below _ (T275.setTop (mkF m 352 #[vR a1, vI 1, vI (own_len (((([] : List Int32) ++ [(own_by ((224 : Int32) ||| (c0 >>> ((12 : Int32) &&& 31))))]) ++ [(own_by ((128 : Int32) ||| ((c0 >>> ((6 : Int32) &&& 31)) &&& (63 : Int32))))]) ++ [(own_by ((128 : Int32) ||| (c0 &&& (63 : Int32))))])), vI 1, vI 2, vR b105, vI c0, uS, uS] []))
    refine Go.step (fun _ kt => XS.goto X275.here hx rfl (pc0 := 352) (pc' := 58) rfl (hb hby d22_352) (by decide) (by decide) kt) ?_
    show Go p.tables e below _ (T275.setTop (mkF m 58 #[vR a1, vI 1, vI (own_len (((([] : List Int32) ++ [(own_by ((224 : Int32) ||| (c0 >>> ((12 : Int32) &&& 31))))]) ++ [(own_by ((128 : Int32) ||| ((c0 >>> ((6 : Int32) &&& 31)) &&& (63 : Int32))))]) ++ [(own_by ((128 : Int32) ||| (c0 &&& (63 : Int32))))])), vI 1, vI 2, vR b105, vI c0, uS, uS] []))
    exact G58g125 _ _ _ _ (by rw [own_e2a (own_hs_su hc145_253), own_uC hc36_204 hc100_231 hc145_253]; try rfl) (by first | omega | decide | (simp only [List.length_append, List.length_cons, List.length_nil]; omega)) (Or.inr ⟨_, rfl⟩) (Or.inl rfl) (Or.inl rfl) _ _ _ (X275.more (by decide) (by decide)) e275 N275 Z282 K283 V276 F281 F277 F278 F279 F280
   ·refine Go.step (fun _ kt => XS.ifNo X252.here hx rfl (hb hby d22_145) rfl ((if0 _ _).trans (feq hc145_253).1) (XS.iconst X252.here hx rfl (hb hby d22_148) (XS.istore X252.here hx rfl (hb hby d22_149) rfl (l' := #[vR a1, vI 1, vI (own_len ([] : List Int32)), vI 1, vI 2, vR b105, vI c0, vI (-1 : Int32), uS]) rfl (XS.iload X252.here hx rfl (hb hby d22_151) rfl kt)))) ?_
    show Go p.tables e below _ (T252.setTop (mkF m 153 #[vR a1, vI 1, vI (own_len ([] : List Int32)), vI 1, vI 2, vR b105, vI c0, vI (-1 : Int32), uS] [(.int c0)]))
    obtain ⟨_, _, ⟨T284, L284, k284, n284⟩, -, X284, ⟨Lc284, hQ284, l284, y284, z284⟩, st284⟩ := Jvm.LawKit.callS X252 hx (y := Y3) hown (mvT hZ (w116 hw)) (mvT hZ (w117 hw)) (mvT hZ (w112 hw)) (mvT hZ (w118 hw)) (by decide) (backOf (W := 0) (rmih l Z a0 hw [] c0  h105 n0 Z110  ) hZ (w118 hw) (w112 hw) (by decide) (by decide)) (g := (mkF m 153 #[vR a1, vI 1, vI (own_len ([] : List Int32)), vI 1, vI 2, vR b105, vI c0, vI (-1 : Int32), uS] [(.int c0)])) rfl hml.symm (argsL := [(.int c0)]) (rest := []) (lenOf pd_7 rfl) rfl (Nat.le_of_eq rfl) (hb hby d22_153) (fun _ _ => ⟨rfl, eh252, (by decide : 1 + 0 ≤ _), (by decide : 6 + 0 ≤ _)⟩)
    dsimp only [Pt.U, Pt.locs, Pt.cells, Pt.slots] at X284 l284 y284 z284 st284 hQ284
    subst l284 y284 z284
    obtain ⟨rfl, N284q, eh284⟩ := hQ284
    have N284 := Fr.app N252 N284q
    refine Go.step st284 ?_
    show Go p.tables e below _ (T284.setTop (mkF m 156 #[vR a1, vI 1, vI (own_len ([] : List Int32)), vI 1, vI 2, vR b105, vI c0, vI (-1 : Int32), uS] [(.int (own_hs c0))]))
    by_cases hc156_285 : (own_hs c0) = (0 : Int32)
    ·refine Go.step (fun _ kt => XS.ifYes X284.here hx rfl (pc0 := 156) (pc' := 188) rfl (hb hby d22_156) rfl ((if0 _ _).trans (teq hc156_285).1) (by decide) (by decide) (XS.iload X284.here hx rfl (hb hby d22_188) rfl (XS.ifNo X284.here hx rfl (hb hby d22_190) rfl ((if0 _ _).trans (tlt (by decide : (-1 : Int32) < (0 : Int32))).2.1) (XS.iloadN X284.here hx rfl (hb hby d22_193) rfl (XS.ifNo X284.here hx rfl (hb hby d22_194) rfl ((if0 _ _).trans (feq (by decide : ¬ ((1 : Int32) = (0 : Int32)))).1) (XS.aload X284.here hx rfl (hb hby d22_197) rfl rfl (XS.iloadN X284.here hx rfl (hb hby d22_199) rfl (XS.iinc X284.here hx rfl (hb hby d22_200) rfl (l' := #[vR a1, vI 1, vI ((own_len ([] : List Int32)) + (1 : Int32)), vI 1, vI 2, vR b105, vI c0, vI (-1 : Int32), uS]) rfl (XS.bipush X284.here hx rfl (hb hby d22_203) kt))))))))) ?_
     show Go p.tables e below _ (T284.setTop (mkF m 205 #[vR a1, vI 1, vI ((own_len ([] : List Int32)) + (1 : Int32)), vI 1, vI 2, vR b105, vI c0, vI (-1 : Int32), uS] [(.int 63), (.int (own_len ([] : List Int32))), (.ref b105)]))
     obtain ⟨cl286, Ar286, qa286, Sa286, Na286, Ha286, Ga286⟩ := (id V112)
     obtain ⟨T286, h286, X286, e286, W286, st286⟩ := stB X284 hx hZ eh284 Ar286 (j := (own_len ([] : List Int32))) (own_in Sa286 (n := 6) (by decide) (by decide) (by first | omega | decide | (simp only [List.length_append, List.length_cons, List.length_nil]; omega))) (g := (mkF m 205 #[vR a1, vI 1, vI ((own_len ([] : List Int32)) + (1 : Int32)), vI 1, vI 2, vR b105, vI c0, vI (-1 : Int32), uS] [(.int 63), (.int (own_len ([] : List Int32))), (.ref b105)])) rfl rfl (hb hby d22_205)
     refine Go.step st286 ?_
     have V287 := own_push (y := (63 : Int32)) V112 (own_ix (by first | omega | decide | (simp only [List.length_append, List.length_cons, List.length_nil]; omega))).1 W286 (by decide) (by first | omega | decide | (simp only [List.length_append, List.length_cons, List.length_nil]; omega))
     have N286 := Fr.snoc X286 N284 g_b105
     have F288 := (F106.other W286 ne_a1_b105)
     have F289 := (F107.wr W286)
     have F290 := (F108.wr W286)
     have F291 := (F109.wr W286)
     have F292 := (Ex105.wr W286)
     have Z293 : n0 ≤ h286.size := (Nat.le_trans Z110 (Nat.le_of_eq W286.size.symm))
     have K294 : Keep h0 h286 [] := (K111.wr W286 (Or.inr sz_b105))
     show Go p.tables e below _ (T286.setTop (mkF m 206 #[vR a1, vI 1, vI ((own_len ([] : List Int32)) + (1 : Int32)), vI 1, vI 2, vR b105, vI c0, vI (-1 : Int32), uS] []))
     rw [own_len1 ([] : List Int32) (63 : Int32)]
     show Go p.tables e below _ (T286.setTop (mkF m 206 #[vR a1, vI 1, vI (own_len (([] : List Int32) ++ [(63 : Int32)])), vI 1, vI 2, vR b105, vI c0, vI (-1 : Int32), uS] []))
     refine Go.step (fun _ kt => XS.goto X286.here hx rfl (pc0 := 206) (pc' := 295) rfl (hb hby d22_206) (by decide) (by decide) (XS.goto X286.here hx rfl (pc0 := 295) (pc' := 352) rfl (hb hby d22_295) (by decide) (by decide) (XS.goto X286.here hx rfl (pc0 := 352) (pc' := 58) rfl (hb hby d22_352) (by decide) (by decide) kt))) ?_
     show Go p.tables e below _ (T286.setTop (mkF m 58 #[vR a1, vI 1, vI (own_len (([] : List Int32) ++ [(63 : Int32)])), vI 1, vI 2, vR b105, vI c0, vI (-1 : Int32), uS] []))
     exact G58g125 _ _ _ _ (by rw [own_e2a hc156_285, own_uS hc36_204 hc100_231 hc145_253]; try rfl) (by first | omega | decide | (simp only [List.length_append, List.length_cons, List.length_nil]; omega)) (Or.inr ⟨_, rfl⟩) (Or.inr ⟨_, rfl⟩) (Or.inl rfl) _ _ _ (X286.more (by decide) (by decide)) e286 N286 Z293 K294 V287 F292 F288 F289 F290 F291
    ·refine Go.step (fun _ kt => XS.ifNo X284.here hx rfl (hb hby d22_156) rfl ((if0 _ _).trans (feq hc156_285).1) (XS.iloadN X284.here hx rfl (hb hby d22_159) rfl (XS.iload X284.here hx rfl (hb hby d22_160) rfl (XS.icmpNo X284.here hx rfl (hb hby d22_162) rfl (tlt (by decide : (1 : Int32) < (2 : Int32))).2.1 (XS.aloadN X284.here hx rfl (hb hby d22_165) rfl rfl (XS.iloadN X284.here hx rfl (hb hby d22_166) rfl kt)))))) ?_
     show Go p.tables e below _ (T284.setTop (mkF m 167 #[vR a1, vI 1, vI (own_len ([] : List Int32)), vI 1, vI 2, vR b105, vI c0, vI (-1 : Int32), uS] [(.int 1), (.ref a1)]))
     obtain ⟨_, _, ⟨T295, L295, k295, n295⟩, -, X295, ⟨Lc295, hQ295, l295, y295, z295⟩, st295⟩ := Jvm.LawKit.callS X284 hx (y := Y12) hown (mvT hZ (w109 hw)) (mvT hZ (w103 hw)) (mvT hZ (w18 hw)) (mvT hZ (w104 hw)) (by decide) (backOf (W := 0) (rmgc2_1 l Z a0 hw [] a1 k1 c0 c1 h105 n0 Z110 F106 F107 F108 F109 hR1) hZ (w104 hw) (w18 hw) (by decide) (by decide)) (g := (mkF m 167 #[vR a1, vI 1, vI (own_len ([] : List Int32)), vI 1, vI 2, vR b105, vI c0, vI (-1 : Int32), uS] [(.int 1), (.ref a1)])) rfl hml.symm (argsL := [(.ref a1), (.int 1)]) (rest := []) (lenOf pd_6 rfl) rfl (Nat.le_of_eq rfl) (hb hby d22_167) (fun _ _ => ⟨rfl, eh284, (by decide : 1 + 0 ≤ _), (by decide : 6 + 0 ≤ _)⟩)
     dsimp only [Pt.U, Pt.locs, Pt.cells, Pt.slots] at X295 l295 y295 z295 st295 hQ295
     subst l295 y295 z295
     obtain ⟨rfl, N295q, eh295⟩ := hQ295
     have N295 := Fr.app N284 N295q
     refine Go.step st295 ?_
     show Go p.tables e below _ (T295.setTop (mkF m 170 #[vR a1, vI 1, vI (own_len ([] : List Int32)), vI 1, vI 2, vR b105, vI c0, vI (-1 : Int32), uS] [(.int c1)]))
     refine Go.step (fun _ kt => XS.dup X295.here hx rfl (hb hby d22_170) rfl rfl (XS.istore X295.here hx rfl (hb hby d22_171) rfl (l' := #[vR a1, vI 1, vI (own_len ([] : List Int32)), vI 1, vI 2, vR b105, vI c0, vI (-1 : Int32), vI c1]) rfl kt)) ?_
     obtain ⟨_, _, ⟨T296, L296, k296, n296⟩, -, X296, ⟨Lc296, hQ296, l296, y296, z296⟩, st296⟩ := Jvm.LawKit.callS X295 hx (y := Y4) hown (mvT hZ (w140 hw)) (mvT hZ (w141 hw)) (mvT hZ (w112 hw)) (mvT hZ (w142 hw)) (by decide) (backOf (W := 0) (rmil l Z a0 hw [] c1  h105 n0 Z110  ) hZ (w142 hw) (w112 hw) (by decide) (by decide)) (g := (mkF m 173 #[vR a1, vI 1, vI (own_len ([] : List Int32)), vI 1, vI 2, vR b105, vI c0, vI (-1 : Int32), vI c1] [(.int c1)])) rfl hml.symm (argsL := [(.int c1)]) (rest := []) (lenOf pd_7 rfl) rfl (Nat.le_of_eq rfl) (hb hby d22_173) (fun _ _ => ⟨rfl, eh295, (by decide : 1 + 0 ≤ _), (by decide : 6 + 0 ≤ _)⟩)
     dsimp only [Pt.U, Pt.locs, Pt.cells, Pt.slots] at X296 l296 y296 z296 st296 hQ296
     subst l296 y296 z296
     obtain ⟨rfl, N296q, eh296⟩ := hQ296
     have N296 := Fr.app N295 N296q
     refine Go.step st296 ?_
     show Go p.tables e below _ (T296.setTop (mkF m 176 #[vR a1, vI 1, vI (own_len ([] : List Int32)), vI 1, vI 2, vR b105, vI c0, vI (-1 : Int32), vI c1] [(.int (own_ls c1))]))
     by_cases hc176_297 : (own_ls c1) = (0 : Int32)
     ·refine Go.step (fun _ kt => XS.ifYes X296.here hx rfl (pc0 := 176) (pc' := 188) rfl (hb hby d22_176) rfl ((if0 _ _).trans (teq hc176_297).1) (by decide) (by decide) (XS.iload X296.here hx rfl (hb hby d22_188) rfl (XS.ifNo X296.here hx rfl (hb hby d22_190) rfl ((if0 _ _).trans (tlt (by decide : (-1 : Int32) < (0 : Int32))).2.1) (XS.iloadN X296.here hx rfl (hb hby d22_193) rfl (XS.ifNo X296.here hx rfl (hb hby d22_194) rfl ((if0 _ _).trans (feq (by decide : ¬ ((1 : Int32) = (0 : Int32)))).1) (XS.aload X296.here hx rfl (hb hby d22_197) rfl rfl (XS.iloadN X296.here hx rfl (hb hby d22_199) rfl (XS.iinc X296.here hx rfl (hb hby d22_200) rfl (l' := #[vR a1, vI 1, vI ((own_len ([] : List Int32)) + (1 : Int32)), vI 1, vI 2, vR b105, vI c0, vI (-1 : Int32), vI c1]) rfl (XS.bipush X296.here hx rfl (hb hby d22_203) kt))))))))) ?_
      show Go p.tables e below _ (T296.setTop (mkF m 205 #[vR a1, vI 1, vI ((own_len ([] : List Int32)) + (1 : Int32)), vI 1, vI 2, vR b105, vI c0, vI (-1 : Int32), vI c1] [(.int 63), (.int (own_len ([] : List Int32))), (.ref b105)]))
      obtain ⟨cl298, Ar298, qa298, Sa298, Na298, Ha298, Ga298⟩ := (id V112)
      obtain ⟨T298, h298, X298, e298, W298, st298⟩ := stB X296 hx hZ eh296 Ar298 (j := (own_len ([] : List Int32))) (own_in Sa298 (n := 6) (by decide) (by decide) (by first | omega | decide | (simp only [List.length_append, List.length_cons, List.length_nil]; omega))) (g := (mkF m 205 #[vR a1, vI 1, vI ((own_len ([] : List Int32)) + (1 : Int32)), vI 1, vI 2, vR b105, vI c0, vI (-1 : Int32), vI c1] [(.int 63), (.int (own_len ([] : List Int32))), (.ref b105)])) rfl rfl (hb hby d22_205)
      refine Go.step st298 ?_
      have V299 := own_push (y := (63 : Int32)) V112 (own_ix (by first | omega | decide | (simp only [List.length_append, List.length_cons, List.length_nil]; omega))).1 W298 (by decide) (by first | omega | decide | (simp only [List.length_append, List.length_cons, List.length_nil]; omega))
      have N298 := Fr.snoc X298 N296 g_b105
      have F300 := (F106.other W298 ne_a1_b105)
      have F301 := (F107.wr W298)
      have F302 := (F108.wr W298)
      have F303 := (F109.wr W298)
      have F304 := (Ex105.wr W298)
      have Z305 : n0 ≤ h298.size := (Nat.le_trans Z110 (Nat.le_of_eq W298.size.symm))
      have K306 : Keep h0 h298 [] := (K111.wr W298 (Or.inr sz_b105))
      show Go p.tables e below _ (T298.setTop (mkF m 206 #[vR a1, vI 1, vI ((own_len ([] : List Int32)) + (1 : Int32)), vI 1, vI 2, vR b105, vI c0, vI (-1 : Int32), vI c1] []))
      rw [own_len1 ([] : List Int32) (63 : Int32)]
      show Go p.tables e below _ (T298.setTop (mkF m 206 #[vR a1, vI 1, vI (own_len (([] : List Int32) ++ [(63 : Int32)])), vI 1, vI 2, vR b105, vI c0, vI (-1 : Int32), vI c1] []))
      refine Go.step (fun _ kt => XS.goto X298.here hx rfl (pc0 := 206) (pc' := 295) rfl (hb hby d22_206) (by decide) (by decide) (XS.goto X298.here hx rfl (pc0 := 295) (pc' := 352) rfl (hb hby d22_295) (by decide) (by decide) (XS.goto X298.here hx rfl (pc0 := 352) (pc' := 58) rfl (hb hby d22_352) (by decide) (by decide) kt))) ?_
      show Go p.tables e below _ (T298.setTop (mkF m 58 #[vR a1, vI 1, vI (own_len (([] : List Int32) ++ [(63 : Int32)])), vI 1, vI 2, vR b105, vI c0, vI (-1 : Int32), vI c1] []))
      exact G58g125 _ _ _ _ (by rw [own_e2b hc176_297, own_uS hc36_204 hc100_231 hc145_253]; try rfl) (by first | omega | decide | (simp only [List.length_append, List.length_cons, List.length_nil]; omega)) (Or.inr ⟨_, rfl⟩) (Or.inr ⟨_, rfl⟩) (Or.inr ⟨_, rfl⟩) _ _ _ (X298.more (by decide) (by decide)) e298 N298 Z305 K306 V299 F304 F300 F301 F302 F303
     ·refine Go.step (fun _ kt => XS.ifNo X296.here hx rfl (hb hby d22_176) rfl ((if0 _ _).trans (feq hc176_297).1) (XS.iload X296.here hx rfl (hb hby d22_179) rfl (XS.iload X296.here hx rfl (hb hby d22_181) rfl kt))) ?_
      obtain ⟨_, _, ⟨T307, L307, k307, n307⟩, -, X307, ⟨Lc307, hQ307, l307, y307, z307⟩, st307⟩ := Jvm.LawKit.callS X296 hx (y := Y7) hown (mvT hZ (w143 hw)) (mvT hZ (w144 hw)) (mvT hZ (w112 hw)) (mvT hZ (w145 hw)) (by decide) (backOf (W := 0) (rmtc l Z a0 hw [] c0 c1  h105 n0 Z110  ) hZ (w145 hw) (w112 hw) (by decide) (by decide)) (g := (mkF m 183 #[vR a1, vI 1, vI (own_len ([] : List Int32)), vI 1, vI 2, vR b105, vI c0, vI (-1 : Int32), vI c1] [(.int c1), (.int c0)])) rfl hml.symm (argsL := [(.int c0), (.int c1)]) (rest := []) (lenOf pd_9 rfl) rfl (Nat.le_of_eq rfl) (hb hby d22_183) (fun _ _ => ⟨rfl, eh296, (by decide : 1 + 0 ≤ _), (by decide : 6 + 0 ≤ _)⟩)
      dsimp only [Pt.U, Pt.locs, Pt.cells, Pt.slots] at X307 l307 y307 z307 st307 hQ307
      subst l307 y307 z307
      obtain ⟨rfl, N307q, eh307⟩ := hQ307
      have N307 := Fr.app N296 N307q
      refine Go.step st307 ?_
      show Go p.tables e below _ (T307.setTop (mkF m 186 #[vR a1, vI 1, vI (own_len ([] : List Int32)), vI 1, vI 2, vR b105, vI c0, vI (-1 : Int32), vI c1] [(.int (own_cp c0 c1))]))
      refine Go.step (fun _ kt => XS.istore X307.here hx rfl (hb hby d22_186) rfl (l' := #[vR a1, vI 1, vI (own_len ([] : List Int32)), vI 1, vI 2, vR b105, vI c0, vI (own_cp c0 c1), vI c1]) rfl (XS.iload X307.here hx rfl (hb hby d22_188) rfl (XS.ifYes X307.here hx rfl (pc0 := 190) (pc' := 218) rfl (hb hby d22_190) rfl ((if0 _ _).trans (flt (own_cpn hc156_285 hc176_297)).2.1) (by decide) (by decide) (XS.aload X307.here hx rfl (hb hby d22_218) rfl rfl (XS.iloadN X307.here hx rfl (hb hby d22_220) rfl (XS.iinc X307.here hx rfl (hb hby d22_221) rfl (l' := #[vR a1, vI 1, vI ((own_len ([] : List Int32)) + (1 : Int32)), vI 1, vI 2, vR b105, vI c0, vI (own_cp c0 c1), vI c1]) rfl (XS.sipush X307.here hx rfl (hb hby d22_224) (XS.iload X307.here hx rfl (hb hby d22_227) rfl (XS.bipush X307.here hx rfl (hb hby d22_229) (XS.ishr X307.here hx rfl (hb hby d22_231) rfl (XS.ior X307.here hx rfl (hb hby d22_232) rfl (XS.i2b X307.here hx rfl (hb hby d22_233) rfl kt)))))))))))) ?_
      show Go p.tables e below _ (T307.setTop (mkF m 234 #[vR a1, vI 1, vI ((own_len ([] : List Int32)) + (1 : Int32)), vI 1, vI 2, vR b105, vI c0, vI (own_cp c0 c1), vI c1] [(.int (((240 : Int32) ||| ((own_cp c0 c1) >>> ((18 : Int32) &&& 31))).toInt8.toInt32)), (.int (own_len ([] : List Int32))), (.ref b105)]))
      have q308 : (((240 : Int32) ||| ((own_cp c0 c1) >>> ((18 : Int32) &&& 31))).toInt8.toInt32) = (own_by ((240 : Int32) ||| ((own_cp c0 c1) >>> ((18 : Int32) &&& 31)))) := rfl
      rw [q308]
      obtain ⟨cl309, Ar309, qa309, Sa309, Na309, Ha309, Ga309⟩ := (id V112)
      obtain ⟨T309, h309, X309, e309, W309, st309⟩ := stB X307 hx hZ eh307 Ar309 (j := (own_len ([] : List Int32))) (own_in Sa309 (n := 6) (by decide) (by decide) (by first | omega | decide | (simp only [List.length_append, List.length_cons, List.length_nil]; omega))) (g := (mkF m 234 #[vR a1, vI 1, vI ((own_len ([] : List Int32)) + (1 : Int32)), vI 1, vI 2, vR b105, vI c0, vI (own_cp c0 c1), vI c1] [(.int (own_by ((240 : Int32) ||| ((own_cp c0 c1) >>> ((18 : Int32) &&& 31))))), (.int (own_len ([] : List Int32))), (.ref b105)])) rfl rfl (hb hby d22_234)
      refine Go.step st309 ?_
      have V310 := own_push (y := (own_by ((240 : Int32) ||| ((own_cp c0 c1) >>> ((18 : Int32) &&& 31))))) V112 (own_ix (by first | omega | decide | (simp only [List.length_append, List.length_cons, List.length_nil]; omega))).1 W309 (own_bb _) (by first | omega | decide | (simp only [List.length_append, List.length_cons, List.length_nil]; omega))
      have N309 := Fr.snoc X309 N307 g_b105
      have F311 := (F106.other W309 ne_a1_b105)
      have F312 := (F107.wr W309)
      have F313 := (F108.wr W309)
      have F314 := (F109.wr W309)
      have F315 := (Ex105.wr W309)
      have Z316 : n0 ≤ h309.size := (Nat.le_trans Z110 (Nat.le_of_eq W309.size.symm))
      have K317 : Keep h0 h309 [] := (K111.wr W309 (Or.inr sz_b105))
      show Go p.tables e below _ (T309.setTop (mkF m 235 #[vR a1, vI 1, vI ((own_len ([] : List Int32)) + (1 : Int32)), vI 1, vI 2, vR b105, vI c0, vI (own_cp c0 c1), vI c1] []))
      rw [own_len1 ([] : List Int32) (own_by ((240 : Int32) ||| ((own_cp c0 c1) >>> ((18 : Int32) &&& 31))))]
      show Go p.tables e below _ (T309.setTop (mkF m 235 #[vR a1, vI 1, vI (own_len (([] : List Int32) ++ [(own_by ((240 : Int32) ||| ((own_cp c0 c1) >>> ((18 : Int32) &&& 31))))])), vI 1, vI 2, vR b105, vI c0, vI (own_cp c0 c1), vI c1] []))
      refine Go.step (fun _ kt => XS.aload X309.here hx rfl (hb hby d22_235) rfl rfl (XS.iloadN X309.here hx rfl (hb hby d22_237) rfl (XS.iinc X309.here hx rfl (hb hby d22_238) rfl (l' := #[vR a1, vI 1, vI ((own_len (([] : List Int32) ++ [(own_by ((240 : Int32) ||| ((own_cp c0 c1) >>> ((18 : Int32) &&& 31))))])) + (1 : Int32)), vI 1, vI 2, vR b105, vI c0, vI (own_cp c0 c1), vI c1]) rfl (XS.sipush X309.here hx rfl (hb hby d22_241) (XS.iload X309.here hx rfl (hb hby d22_244) rfl (XS.bipush X309.here hx rfl (hb hby d22_246) (XS.ishr X309.here hx rfl (hb hby d22_248) rfl (XS.bipush X309.here hx rfl (hb hby d22_249) (XS.iand X309.here hx rfl (hb hby d22_251) rfl (XS.ior X309.here hx rfl (hb hby d22_252) rfl (XS.i2b X309.here hx rfl (hb hby d22_253) rfl kt))))))))))) ?_
      show Go p.tables e below _ (T309.setTop (mkF m 254 #[vR a1, vI 1, vI ((own_len (([] : List Int32) ++ [(own_by ((240 : Int32) ||| ((own_cp c0 c1) >>> ((18 : Int32) &&& 31))))])) + (1 : Int32)), vI 1, vI 2, vR b105, vI c0, vI (own_cp c0 c1), vI c1] [(.int (((128 : Int32) ||| (((own_cp c0 c1) >>> ((12 : Int32) &&& 31)) &&& (63 : Int32))).toInt8.toInt32)), (.int (own_len (([] : List Int32) ++ [(own_by ((240 : Int32) ||| ((own_cp c0 c1) >>> ((18 : Int32) &&& 31))))]))), (.ref b105)]))
      have q318 : (((128 : Int32) ||| (((own_cp c0 c1) >>> ((12 : Int32) &&& 31)) &&& (63 : Int32))).toInt8.toInt32) = (own_by ((128 : Int32) ||| (((own_cp c0 c1) >>> ((12 : Int32) &&& 31)) &&& (63 : Int32)))) := rfl
      rw [q318]
      obtain ⟨cl319, Ar319, qa319, Sa319, Na319, Ha319, Ga319⟩ := (id V310)
      obtain ⟨T319, h319, X319, e319, W319, st319⟩ := stB X309 hx hZ e309 Ar319 (j := (own_len (([] : List Int32) ++ [(own_by ((240 : Int32) ||| ((own_cp c0 c1) >>> ((18 : Int32) &&& 31))))]))) (own_in Sa319 (n := 6) (by decide) (by decide) (by first | omega | decide | (simp only [List.length_append, List.length_cons, List.length_nil]; omega))) (g := (mkF m 254 #[vR a1, vI 1, vI ((own_len (([] : List Int32) ++ [(own_by ((240 : Int32) ||| ((own_cp c0 c1) >>> ((18 : Int32) &&& 31))))])) + (1 : Int32)), vI 1, vI 2, vR b105, vI c0, vI (own_cp c0 c1), vI c1] [(.int (own_by ((128 : Int32) ||| (((own_cp c0 c1) >>> ((12 : Int32) &&& 31)) &&& (63 : Int32))))), (.int (own_len (([] : List Int32) ++ [(own_by ((240 : Int32) ||| ((own_cp c0 c1) >>> ((18 : Int32) &&& 31))))]))), (.ref b105)])) rfl rfl (hb hby d22_254)
      refine Go.step st319 ?_
      have V320 := own_push (y := (own_by ((128 : Int32) ||| (((own_cp c0 c1) >>> ((12 : Int32) &&& 31)) &&& (63 : Int32))))) V310 (own_ix (by first | omega | decide | (simp only [List.length_append, List.length_cons, List.length_nil]; omega))).1 W319 (own_bb _) (by first | omega | decide | (simp only [List.length_append, List.length_cons, List.length_nil]; omega))
      have N319 := Fr.snoc X319 N309 g_b105
      have F321 := (F311.other W319 ne_a1_b105)
      have F322 := (F312.wr W319)
      have F323 := (F313.wr W319)
      have F324 := (F314.wr W319)
      have F325 := (F315.wr W319)
      have Z326 : n0 ≤ h319.size := (Nat.le_trans Z316 (Nat.le_of_eq W319.size.symm))
      have K327 : Keep h0 h319 [] := (K317.wr W319 (Or.inr sz_b105))
      show Go p.tables e below _ (T319.setTop (mkF m 255 #[vR a1, vI 1, vI ((own_len (([] : List Int32) ++ [(own_by ((240 : Int32) ||| ((own_cp c0 c1) >>> ((18 : Int32) &&& 31))))])) + (1 : Int32)), vI 1, vI 2, vR b105, vI c0, vI (own_cp c0 c1), vI c1] []))
      rw [own_len1 (([] : List Int32) ++ [(own_by ((240 : Int32) ||| ((own_cp c0 c1) >>> ((18 : Int32) &&& 31))))]) (own_by ((128 : Int32) ||| (((own_cp c0 c1) >>> ((12 : Int32) &&& 31)) &&& (63 : Int32))))]
      show Go p.tables e below _ (T319.setTop (mkF m 255 #[vR a1, vI 1, vI (own_len ((([] : List Int32) ++ [(own_by ((240 : Int32) ||| ((own_cp c0 c1) >>> ((18 : Int32) &&& 31))))]) ++ [(own_by ((128 : Int32) ||| (((own_cp c0 c1) >>> ((12 : Int32) &&& 31)) &&& (63 : Int32))))])), vI 1, vI 2, vR b105, vI c0, vI (own_cp c0 c1), vI c1] []))
      refine Go.step (fun _ kt => XS.aload X319.here hx rfl (hb hby d22_255) rfl rfl (XS.iloadN X319.here hx rfl (hb hby d22_257) rfl (XS.iinc X319.here hx rfl (hb hby d22_258) rfl (l' := #[vR a1, vI 1, vI ((own_len ((([] : List Int32) ++ [(own_by ((240 : Int32) ||| ((own_cp c0 c1) >>> ((18 : Int32) &&& 31))))]) ++ [(own_by ((128 : Int32) ||| (((own_cp c0 c1) >>> ((12 : Int32) &&& 31)) &&& (63 : Int32))))])) + (1 : Int32)), vI 1, vI 2, vR b105, vI c0, vI (own_cp c0 c1), vI c1]) rfl (XS.sipush X319.here hx rfl (hb hby d22_261) (XS.iload X319.here hx rfl (hb hby d22_264) rfl (XS.bipush X319.here hx rfl (hb hby d22_266) (XS.ishr X319.here hx rfl (hb hby d22_268) rfl (XS.bipush X319.here hx rfl (hb hby d22_269) (XS.iand X319.here hx rfl (hb hby d22_271) rfl (XS.ior X319.here hx rfl (hb hby d22_272) rfl (XS.i2b X319.here hx rfl (hb hby d22_273) rfl kt))))))))))) ?_
      show Go p.tables e below _ (T319.setTop (mkF m 274 #[vR a1, vI 1, vI ((own_len ((([] : List Int32) ++ [(own_by ((240 : Int32) ||| ((own_cp c0 c1) >>> ((18 : Int32) &&& 31))))]) ++ [(own_by ((128 : Int32) ||| (((own_cp c0 c1) >>> ((12 : Int32) &&& 31)) &&& (63 : Int32))))])) + (1 : Int32)), vI 1, vI 2, vR b105, vI c0, vI (own_cp c0 c1), vI c1] [(.int (((128 : Int32) ||| (((own_cp c0 c1) >>> ((6 : Int32) &&& 31)) &&& (63 : Int32))).toInt8.toInt32)), (.int (own_len ((([] : List Int32) ++ [(own_by ((240 : Int32) ||| ((own_cp c0 c1) >>> ((18 : Int32) &&& 31))))]) ++ [(own_by ((128 : Int32) ||| (((own_cp c0 c1) >>> ((12 : Int32) &&& 31)) &&& (63 : Int32))))]))), (.ref b105)]))
      have q328 : (((128 : Int32) ||| (((own_cp c0 c1) >>> ((6 : Int32) &&& 31)) &&& (63 : Int32))).toInt8.toInt32) = (own_by ((128 : Int32) ||| (((own_cp c0 c1) >>> ((6 : Int32) &&& 31)) &&& (63 : Int32)))) := rfl
      rw [q328]
      obtain ⟨cl329, Ar329, qa329, Sa329, Na329, Ha329, Ga329⟩ := (id V320)
      obtain ⟨T329, h329, X329, e329, W329, st329⟩ := stB X319 hx hZ e319 Ar329 (j := (own_len ((([] : List Int32) ++ [(own_by ((240 : Int32) ||| ((own_cp c0 c1) >>> ((18 : Int32) &&& 31))))]) ++ [(own_by ((128 : Int32) ||| (((own_cp c0 c1) >>> ((12 : Int32) &&& 31)) &&& (63 : Int32))))]))) (own_in Sa329 (n := 6) (by decide) (by decide) (by first | omega | decide | (simp only [List.length_append, List.length_cons, List.length_nil]; omega))) (g := (mkF m 274 #[vR a1, vI 1, vI ((own_len ((([] : List Int32) ++ [(own_by ((240 : Int32) ||| ((own_cp c0 c1) >>> ((18 : Int32) &&& 31))))]) ++ [(own_by ((128 : Int32) ||| (((own_cp c0 c1) >>> ((12 : Int32) &&& 31)) &&& (63 : Int32))))])) + (1 : Int32)), vI 1, vI 2, vR b105, vI c0, vI (own_cp c0 c1), vI c1] [(.int (own_by ((128 : Int32) ||| (((own_cp c0 c1) >>> ((6 : Int32) &&& 31)) &&& (63 : Int32))))), (.int (own_len ((([] : List Int32) ++ [(own_by ((240 : Int32) ||| ((own_cp c0 c1) >>> ((18 : Int32) &&& 31))))]) ++ [(own_by ((128 : Int32) ||| (((own_cp c0 c1) >>> ((12 : Int32) &&& 31)) &&& (63 : Int32))))]))), (.ref b105)])) rfl rfl (hb hby d22_274)
      refine Go.step st329 ?_
      have V330 := own_push (y := (own_by ((128 : Int32) ||| (((own_cp c0 c1) >>> ((6 : Int32) &&& 31)) &&& (63 : Int32))))) V320 (own_ix (by first | omega | decide | (simp only [List.length_append, List.length_cons, List.length_nil]; omega))).1 W329 (own_bb _) (by first | omega | decide | (simp only [List.length_append, List.length_cons, List.length_nil]; omega))
      have N329 := Fr.snoc X329 N319 g_b105
      have F331 := (F321.other W329 ne_a1_b105)
      have F332 := (F322.wr W329)
      have F333 := (F323.wr W329)
      have F334 := (F324.wr W329)
      have F335 := (F325.wr W329)
      have Z336 : n0 ≤ h329.size := (Nat.le_trans Z326 (Nat.le_of_eq W329.size.symm))
      have K337 : Keep h0 h329 [] := (K327.wr W329 (Or.inr sz_b105))
      show Go p.tables e below _ (T329.setTop (mkF m 275 #[vR a1, vI 1, vI ((own_len ((([] : List Int32) ++ [(own_by ((240 : Int32) ||| ((own_cp c0 c1) >>> ((18 : Int32) &&& 31))))]) ++ [(own_by ((128 : Int32) ||| (((own_cp c0 c1) >>> ((12 : Int32) &&& 31)) &&& (63 : Int32))))])) + (1 : Int32)), vI 1, vI 2, vR b105, vI c0, vI (own_cp c0 c1), vI c1] []))
      rw [own_len1 ((([] : List Int32) ++ [(own_by ((240 : Int32) ||| ((own_cp c0 c1) >>> ((18 : Int32) &&& 31))))]) ++ [(own_by ((128 : Int32) ||| (((own_cp c0 c1) >>> ((12 : Int32) &&& 31)) &&& (63 : Int32))))]) (own_by ((128 : Int32) ||| (((own_cp c0 c1) >>> ((6 : Int32) &&& 31)) &&& (63 : Int32))))]
      show Go p.tables e below _ (T329.setTop (mkF m 275 #[vR a1, vI 1, vI (own_len (((([] : List Int32) ++ [(own_by ((240 : Int32) ||| ((own_cp c0 c1) >>> ((18 : Int32) &&& 31))))]) ++ [(own_by ((128 : Int32) ||| (((own_cp c0 c1) >>> ((12 : Int32) &&& 31)) &&& (63 : Int32))))]) ++ [(own_by ((128 : Int32) ||| (((own_cp c0 c1) >>> ((6 : Int32) &&& 31)) &&& (63 : Int32))))])), vI 1, vI 2, vR b105, vI c0, vI (own_cp c0 c1), vI c1] []))
      refine Go.step (fun _ kt => XS.aload X329.here hx rfl (hb hby d22_275) rfl rfl (XS.iloadN X329.here hx rfl (hb hby d22_277) rfl (XS.iinc X329.here hx rfl (hb hby d22_278) rfl (l' := #[vR a1, vI 1, vI ((own_len (((([] : List Int32) ++ [(own_by ((240 : Int32) ||| ((own_cp c0 c1) >>> ((18 : Int32) &&& 31))))]) ++ [(own_by ((128 : Int32) ||| (((own_cp c0 c1) >>> ((12 : Int32) &&& 31)) &&& (63 : Int32))))]) ++ [(own_by ((128 : Int32) ||| (((own_cp c0 c1) >>> ((6 : Int32) &&& 31)) &&& (63 : Int32))))])) + (1 : Int32)), vI 1, vI 2, vR b105, vI c0, vI (own_cp c0 c1), vI c1]) rfl (XS.sipush X329.here hx rfl (hb hby d22_281) (XS.iload X329.here hx rfl (hb hby d22_284) rfl (XS.bipush X329.here hx rfl (hb hby d22_286) (XS.iand X329.here hx rfl (hb hby d22_288) rfl (XS.ior X329.here hx rfl (hb hby d22_289) rfl (XS.i2b X329.here hx rfl (hb hby d22_290) rfl kt))))))))) ?_
      show Go p.tables e below _ (T329.setTop (mkF m 291 #[vR a1, vI 1, vI ((own_len (((([] : List Int32) ++ [(own_by ((240 : Int32) ||| ((own_cp c0 c1) >>> ((18 : Int32) &&& 31))))]) ++ [(own_by ((128 : Int32) ||| (((own_cp c0 c1) >>> ((12 : Int32) &&& 31)) &&& (63 : Int32))))]) ++ [(own_by ((128 : Int32) ||| (((own_cp c0 c1) >>> ((6 : Int32) &&& 31)) &&& (63 : Int32))))])) + (1 : Int32)), vI 1, vI 2, vR b105, vI c0, vI (own_cp c0 c1), vI c1] [(.int (((128 : Int32) ||| ((own_cp c0 c1) &&& (63 : Int32))).toInt8.toInt32)), (.int (own_len (((([] : List Int32) ++ [(own_by ((240 : Int32) ||| ((own_cp c0 c1) >>> ((18 : Int32) &&& 31))))]) ++ [(own_by ((128 : Int32) ||| (((own_cp c0 c1) >>> ((12 : Int32) &&& 31)) &&& (63 : Int32))))]) ++ [(own_by ((128 : Int32) ||| (((own_cp c0 c1) >>> ((6 : Int32) &&& 31)) &&& (63 : Int32))))]))), (.ref b105)]))
      have q338 : (((128 : Int32) ||| ((own_cp c0 c1) &&& (63 : Int32))).toInt8.toInt32) = (own_by ((128 : Int32) ||| ((own_cp c0 c1) &&& (63 : Int32)))) := rfl
      rw [q338]
      obtain ⟨cl339, Ar339, qa339, Sa339, Na339, Ha339, Ga339⟩ := (id V330)
      obtain ⟨T339, h339, X339, e339, W339, st339⟩ := stB X329 hx hZ e329 Ar339 (j := (own_len (((([] : List Int32) ++ [(own_by ((240 : Int32) ||| ((own_cp c0 c1) >>> ((18 : Int32) &&& 31))))]) ++ [(own_by ((128 : Int32) ||| (((own_cp c0 c1) >>> ((12 : Int32) &&& 31)) &&& (63 : Int32))))]) ++ [(own_by ((128 : Int32) ||| (((own_cp c0 c1) >>> ((6 : Int32) &&& 31)) &&& (63 : Int32))))]))) (own_in Sa339 (n := 6) (by decide) (by decide) (by first | omega | decide | (simp only [List.length_append, List.length_cons, List.length_nil]; omega))) (g := (mkF m 291 #[vR a1, vI 1, vI ((own_len (((([] : List Int32) ++ [(own_by ((240 : Int32) ||| ((own_cp c0 c1) >>> ((18 : Int32) &&& 31))))]) ++ [(own_by ((128 : Int32) ||| (((own_cp c0 c1) >>> ((12 : Int32) &&& 31)) &&& (63 : Int32))))]) ++ [(own_by ((128 : Int32) ||| (((own_cp c0 c1) >>> ((6 : Int32) &&& 31)) &&& (63 : Int32))))])) + (1 : Int32)), vI 1, vI 2, vR b105, vI c0, vI (own_cp c0 c1), vI c1] [(.int (own_by ((128 : Int32) ||| ((own_cp c0 c1) &&& (63 : Int32))))), (.int (own_len (((([] : List Int32) ++ [(own_by ((240 : Int32) ||| ((own_cp c0 c1) >>> ((18 : Int32) &&& 31))))]) ++ [(own_by ((128 : Int32) ||| (((own_cp c0 c1) >>> ((12 : Int32) &&& 31)) &&& (63 : Int32))))]) ++ [(own_by ((128 : Int32) ||| (((own_cp c0 c1) >>> ((6 : Int32) &&& 31)) &&& (63 : Int32))))]))), (.ref b105)])) rfl rfl (hb hby d22_291)
      refine Go.step st339 ?_
      have V340 := own_push (y := (own_by ((128 : Int32) ||| ((own_cp c0 c1) &&& (63 : Int32))))) V330 (own_ix (by first | omega | decide | (simp only [List.length_append, List.length_cons, List.length_nil]; omega))).1 W339 (own_bb _) (by first | omega | decide | (simp only [List.length_append, List.length_cons, List.length_nil]; omega))
      have N339 := Fr.snoc X339 N329 g_b105
      have F341 := (F331.other W339 ne_a1_b105)
      have F342 := (F332.wr W339)
      have F343 := (F333.wr W339)
      have F344 := (F334.wr W339)
      have F345 := (F335.wr W339)
      have Z346 : n0 ≤ h339.size := (Nat.le_trans Z336 (Nat.le_of_eq W339.size.symm))
      have K347 : Keep h0 h339 [] := (K337.wr W339 (Or.inr sz_b105))
      show Go p.tables e below _ (T339.setTop (mkF m 292 #[vR a1, vI 1, vI ((own_len (((([] : List Int32) ++ [(own_by ((240 : Int32) ||| ((own_cp c0 c1) >>> ((18 : Int32) &&& 31))))]) ++ [(own_by ((128 : Int32) ||| (((own_cp c0 c1) >>> ((12 : Int32) &&& 31)) &&& (63 : Int32))))]) ++ [(own_by ((128 : Int32) ||| (((own_cp c0 c1) >>> ((6 : Int32) &&& 31)) &&& (63 : Int32))))])) + (1 : Int32)), vI 1, vI 2, vR b105, vI c0, vI (own_cp c0 c1), vI c1] []))
      rw [own_len1 (((([] : List Int32) ++ [(own_by ((240 : Int32) ||| ((own_cp c0 c1) >>> ((18 : Int32) &&& 31))))]) ++ [(own_by ((128 : Int32) ||| (((own_cp c0 c1) >>> ((12 : Int32) &&& 31)) &&& (63 : Int32))))]) ++ [(own_by ((128 : Int32) ||| (((own_cp c0 c1) >>> ((6 : Int32) &&& 31)) &&& (63 : Int32))))]) (own_by ((128 : Int32) ||| ((own_cp c0 c1) &&& (63 : Int32))))]
      show Go p.tables e below _ (T339.setTop (mkF m 292 #[vR a1, vI 1, vI (own_len ((((([] : List Int32) ++ [(own_by ((240 : Int32) ||| ((own_cp c0 c1) >>> ((18 : Int32) &&& 31))))]) ++ [(own_by ((128 : Int32) ||| (((own_cp c0 c1) >>> ((12 : Int32) &&& 31)) &&& (63 : Int32))))]) ++ [(own_by ((128 : Int32) ||| (((own_cp c0 c1) >>> ((6 : Int32) &&& 31)) &&& (63 : Int32))))]) ++ [(own_by ((128 : Int32) ||| ((own_cp c0 c1) &&& (63 : Int32))))])), vI 1, vI 2, vR b105, vI c0, vI (own_cp c0 c1), vI c1] []))
      refine Go.step (fun _ kt => XS.iinc X339.here hx rfl (hb hby d22_292) rfl (l' := #[vR a1, vI 1, vI (own_len ((((([] : List Int32) ++ [(own_by ((240 : Int32) ||| ((own_cp c0 c1) >>> ((18 : Int32) &&& 31))))]) ++ [(own_by ((128 : Int32) ||| (((own_cp c0 c1) >>> ((12 : Int32) &&& 31)) &&& (63 : Int32))))]) ++ [(own_by ((128 : Int32) ||| (((own_cp c0 c1) >>> ((6 : Int32) &&& 31)) &&& (63 : Int32))))]) ++ [(own_by ((128 : Int32) ||| ((own_cp c0 c1) &&& (63 : Int32))))])), vI ((1 : Int32) + (1 : Int32)), vI 2, vR b105, vI c0, vI (own_cp c0 c1), vI c1]) rfl kt) ?_
      show Go p.tables e below _ (T339.setTop (mkF m 295 #[vR a1, vI 1, vI (own_len ((((([] : List Int32) ++ [(own_by ((240 : Int32) ||| ((own_cp c0 c1) >>> ((18 : Int32) &&& 31))))]) ++ [(own_by ((128 : Int32) ||| (((own_cp c0 c1) >>> ((12 : Int32) &&& 31)) &&& (63 : Int32))))]) ++ [(own_by ((128 : Int32) ||| (((own_cp c0 c1) >>> ((6 : Int32) &&& 31)) &&& (63 : Int32))))]) ++ [(own_by ((128 : Int32) ||| ((own_cp c0 c1) &&& (63 : Int32))))])), vI ((1 : Int32) + (1 : Int32)), vI 2, vR b105, vI c0, vI (own_cp c0 c1), vI c1] []))
      have q348 : ((1 : Int32) + (1 : Int32)) = (2 : Int32) := by decide
      rw [q348]
      show Go p.tables e below _ (T339.setTop (mkF m 295 #[vR a1, vI 1, vI (own_len ((((([] : List Int32) ++ [(own_by ((240 : Int32) ||| ((own_cp c0 c1) >>> ((18 : Int32) &&& 31))))]) ++ [(own_by ((128 : Int32) ||| (((own_cp c0 c1) >>> ((12 : Int32) &&& 31)) &&& (63 : Int32))))]) ++ [(own_by ((128 : Int32) ||| (((own_cp c0 c1) >>> ((6 : Int32) &&& 31)) &&& (63 : Int32))))]) ++ [(own_by ((128 : Int32) ||| ((own_cp c0 c1) &&& (63 : Int32))))])), vI 2, vI 2, vR b105, vI c0, vI (own_cp c0 c1), vI c1] []))
      refine Go.step (fun _ kt => XS.goto X339.here hx rfl (pc0 := 295) (pc' := 352) rfl (hb hby d22_295) (by decide) (by decide) (XS.goto X339.here hx rfl (pc0 := 352) (pc' := 58) rfl (hb hby d22_352) (by decide) (by decide) (XS.iloadN X339.here hx rfl (hb hby d22_58) rfl (XS.iload X339.here hx rfl (hb hby d22_59) rfl (XS.icmpYes X339.here hx rfl (pc0 := 61) (pc' := 355) rfl (hb hby d22_61) rfl (flt (by decide : ¬ ((2 : Int32) < (2 : Int32)))).2.1 (by decide) (by decide) kt))))) ?_
      show Go p.tables e below _ (T339.setTop (mkF m 355 #[vR a1, vI 1, vI (own_len ((((([] : List Int32) ++ [(own_by ((240 : Int32) ||| ((own_cp c0 c1) >>> ((18 : Int32) &&& 31))))]) ++ [(own_by ((128 : Int32) ||| (((own_cp c0 c1) >>> ((12 : Int32) &&& 31)) &&& (63 : Int32))))]) ++ [(own_by ((128 : Int32) ||| (((own_cp c0 c1) >>> ((6 : Int32) &&& 31)) &&& (63 : Int32))))]) ++ [(own_by ((128 : Int32) ||| ((own_cp c0 c1) &&& (63 : Int32))))])), vI 2, vI 2, vR b105, vI c0, vI (own_cp c0 c1), vI c1] []))
      exact G355g113 _ _ _ _ (by rw [own_e2p hc156_285 hc176_297]; try rfl) (by first | omega | decide | (simp only [List.length_append, List.length_cons, List.length_nil]; omega)) (Or.inr ⟨_, rfl⟩) (Or.inr ⟨_, rfl⟩) (Or.inr ⟨_, rfl⟩) _ _ _ (X339.more (by decide) (by decide)) e339 N339 Z346 K347 V340 F345
theorem d13_0 : dC14 0 (.iload_n 0, 1) := by decide +kernel
theorem d13_1 : dC14 1 (.iconst 1, 1) := by decide +kernel
theorem d13_2 : dC14 2 (.if_icmp .ne 9, 3) := by decide +kernel
theorem d13_5 : dC14 5 (.aload_n 1, 1) := by decide +kernel
theorem d13_6 : dC14 6 (.iload_n 2, 1) := by decide +kernel
theorem d13_7 : dC14 7 (.invokestatic 473, 3) := by decide +kernel
theorem d13_10 : dC14 10 (.areturn, 1) := by decide +kernel
theorem d13_11 : dC14 11 (.aload_n 1, 1) := by decide +kernel
theorem d13_12 : dC14 12 (.iconst 0, 1) := by decide +kernel
theorem d13_13 : dC14 13 (.aload_n 1, 1) := by decide +kernel
theorem d13_14 : dC14 14 (.arraylength, 1) := by decide +kernel
theorem d13_15 : dC14 15 (.invokestatic 128, 3) := by decide +kernel
theorem d13_18 : dC14 18 (.ifCond .ne 11, 3) := by decide +kernel
theorem d13_21 : dC14 21 (.aload_n 1, 1) := by decide +kernel
theorem d13_22 : dC14 22 (.invokevirtual 279, 3) := by decide +kernel
theorem d13_25 : dC14 25 (.checkcast 280, 3) := by decide +kernel
theorem d13_28 : dC14 28 (.areturn, 1) := by decide +kernel
theorem d13_29 : dC14 29 (.iconst 0, 1) := by decide +kernel
theorem d13_30 : dC14 30 (.istore_n 3, 1) := by decide +kernel
theorem d13_31 : dC14 31 (.aload_n 1, 1) := by decide +kernel
theorem d13_32 : dC14 32 (.arraylength, 1) := by decide +kernel
theorem d13_33 : dC14 33 (.invokestatic 60, 3) := by decide +kernel
theorem d13_36 : dC14 36 (.astore 4, 2) := by decide +kernel
theorem d13_38 : dC14 38 (.aload_n 1, 1) := by decide +kernel
theorem d13_39 : dC14 39 (.astore 5, 2) := by decide +kernel
theorem d13_41 : dC14 41 (.aload 5, 2) := by decide +kernel
theorem d13_43 : dC14 43 (.arraylength, 1) := by decide +kernel
theorem d13_44 : dC14 44 (.istore 6, 2) := by decide +kernel
theorem d13_46 : dC14 46 (.iconst 0, 1) := by decide +kernel
theorem d13_47 : dC14 47 (.istore 7, 2) := by decide +kernel
theorem d13_49 : dC14 49 (.iload 7, 2) := by decide +kernel
theorem d13_51 : dC14 51 (.iload 6, 2) := by decide +kernel
theorem d13_53 : dC14 53 (.if_icmp .ge 71, 3) := by decide +kernel
theorem d13_56 : dC14 56 (.aload 5, 2) := by decide +kernel
theorem d13_58 : dC14 58 (.iload 7, 2) := by decide +kernel
theorem d13_60 : dC14 60 (.baload, 1) := by decide +kernel
theorem d13_61 : dC14 61 (.istore 8, 2) := by decide +kernel
theorem d13_63 : dC14 63 (.iload 8, 2) := by decide +kernel
theorem d13_65 : dC14 65 (.ifCond .ge 44, 3) := by decide +kernel
theorem d13_68 : dC14 68 (.aload 4, 2) := by decide +kernel
theorem d13_70 : dC14 70 (.iload_n 3, 1) := by decide +kernel
theorem d13_71 : dC14 71 (.iinc 3 1, 3) := by decide +kernel
theorem d13_74 : dC14 74 (.sipush 192, 3) := by decide +kernel
theorem d13_77 : dC14 77 (.iload 8, 2) := by decide +kernel
theorem d13_79 : dC14 79 (.sipush 255, 3) := by decide +kernel
theorem d13_82 : dC14 82 (.iand, 1) := by decide +kernel
theorem d13_83 : dC14 83 (.bipush 6, 2) := by decide +kernel
theorem d13_85 : dC14 85 (.ishr, 1) := by decide +kernel
theorem d13_86 : dC14 86 (.ior, 1) := by decide +kernel
theorem d13_87 : dC14 87 (.i2b, 1) := by decide +kernel
theorem d13_88 : dC14 88 (.bastore, 1) := by decide +kernel
theorem d13_89 : dC14 89 (.aload 4, 2) := by decide +kernel
theorem d13_91 : dC14 91 (.iload_n 3, 1) := by decide +kernel
theorem d13_92 : dC14 92 (.iinc 3 1, 3) := by decide +kernel
theorem d13_95 : dC14 95 (.sipush 128, 3) := by decide +kernel
theorem d13_98 : dC14 98 (.iload 8, 2) := by decide +kernel
theorem d13_100 : dC14 100 (.bipush 63, 2) := by decide +kernel
theorem d13_102 : dC14 102 (.iand, 1) := by decide +kernel
theorem d13_103 : dC14 103 (.ior, 1) := by decide +kernel
theorem d13_104 : dC14 104 (.i2b, 1) := by decide +kernel
theorem d13_105 : dC14 105 (.bastore, 1) := by decide +kernel
theorem d13_106 : dC14 106 (.goto 12, 3) := by decide +kernel
theorem d13_109 : dC14 109 (.aload 4, 2) := by decide +kernel
theorem d13_111 : dC14 111 (.iload_n 3, 1) := by decide +kernel
theorem d13_112 : dC14 112 (.iinc 3 1, 3) := by decide +kernel
theorem d13_115 : dC14 115 (.iload 8, 2) := by decide +kernel
theorem d13_117 : dC14 117 (.bastore, 1) := by decide +kernel
theorem d13_118 : dC14 118 (.iinc 7 1, 3) := by decide +kernel
theorem d13_121 : dC14 121 (.goto (-72), 3) := by decide +kernel
theorem d13_124 : dC14 124 (.iload_n 3, 1) := by decide +kernel
theorem d13_125 : dC14 125 (.aload 4, 2) := by decide +kernel
theorem d13_127 : dC14 127 (.arraylength, 1) := by decide +kernel
theorem d13_128 : dC14 128 (.if_icmp .ne 6, 3) := by decide +kernel
theorem d13_131 : dC14 131 (.aload 4, 2) := by decide +kernel
theorem d13_133 : dC14 133 (.areturn, 1) := by decide +kernel
theorem d13_134 : dC14 134 (.aload 4, 2) := by decide +kernel
theorem d13_136 : dC14 136 (.iload_n 3, 1) := by decide +kernel
theorem d13_137 : dC14 137 (.invokestatic 102, 3) := by decide +kernel
theorem d13_140 : dC14 140 (.areturn, 1) := by decide +kernel
theorem ef_rme8 (m : MethodId) (cd : Int32) (a1 : Addr) (bl : List Int32) : entryFrame m #[(.int cd), (.ref a1), (.int 1)] 9 = mkF m 0 #[vI cd, vR a1, vI 1, uS, uS, uS, uS, uS, uS] [] := by first | (simp [entryFrame, mkF, argsToLocals, Value.category]; done) | rfl
def Qrme8 (Z : State) (cd : Int32) (a1 : Addr) (bl : List Int32) (h0 : Heap) (n0 : Nat) (v : Option Value) (h : Heap) (L : List Loc) : Prop := ∃ r : Addr, ∃ kr : ClassId, v = some (.ref r) ∧ Fr n0 L ∧ Keep h0 h [] ∧ Exa Z h r "[B" ∧ Arv Z h r kr .byte (own_len bl) (bl.map Value.int) (.int 0) ∧ n0 ≤ r ∧ h0.size ≤ r
set_option maxRecDepth 65536 in
set_option maxHeartbeats 40000000 in
theorem rme8 (l : Launch) (Z : State) (a0 : Array Value) (hw : ∀ d ∈ tables_1, d.before a0 Z = true) (ws : List Jvm.Cond) (cd : Int32) (a1 : Addr) (bl : List Int32) (h0 : Heap) (n0 : Nat) (Z0 : n0 ≤ h0.size) (En0 : own_enc Z h0 a1 cd bl) (S_ad : Sta Z h0 "java/lang/StringUTF16" "$assertionsDisabled" "Z" (.int 1)) (S_hi : Sta Z h0 "java/lang/StringUTF16" "HI_BYTE_SHIFT" "I" (.int 0)) (S_lo : Sta Z h0 "java/lang/StringUTF16" "LO_BYTE_SHIFT" "I" (.int 8)) :
    MetFree l Y14 (head1 (Jvm.Cond.code Y14 jdk_42_method_46_code 9 (some (.array .byte)) :: ws) Rm7) (fun a U => a = #[(.int cd), (.ref a1), (.int 1)] ∧ Z.Warmed39 U.vm ∧ U.heap = h0) (fun _ _ _ _ _ => True) (fun _ U o U' => ∃ v L, o = .returned v ∧ Qrme8 Z cd a1 bl h0 n0 v U'.heap L ∧ FrameEnd U o U' L Rm7.cells Rm7.slots) := by
 refine MetFree.of_bodySF (plainFor_of_name pn_5) hisR ?_
 intro p e s m args below meth c s₁ Bd hml0 hP hK
 obtain ⟨rfl, hZ, hh⟩ := hP
 have hx := Bd.exec
 have hby := Bd.bytes
 have hml : c.maxLocals = 9 := hml0
 have hown : s.vm.findClass "java/lang/String" = some m.cls := findClass_of_methodNamed Bd.named
 have hnm := (name_of_methodNamed Bd.named Bd.method).1
 have X0 : Stand p l e Rm7 s m #[(.int cd), (.ref a1), (.int 1)] below meth c s₁ [] 0 0 := Stand.of_body Bd
 have e0 : s₁.heap = h0 := by rw [← hh, Bd.state]; rfl
 have N0 := Fr.nil n0
 show Go p.tables e below (fun o U' => ∃ v L, o = .returned v ∧ Qrme8 Z cd a1 bl h0 n0 v U'.heap L ∧ FrameEnd s o U' L Rm7.cells Rm7.slots) _
 refine Go.step (fun t kt => castTop (ef_rme8 m cd a1 bl) kt) ?_
 show Go p.tables e below _ (s₁.setTop (mkF m 0 #[vI cd, vR a1, vI 1, uS, uS, uS, uS, uS, uS] []))
 have K101 : Keep h0 h0 [] := (Keep.refl h0 [])
 obtain ⟨Eb, k1, hV⟩ := (id En0)
 rcases hV with ⟨hcd, hL, V1⟩ | ⟨hcd, c0, hb0, hL, V1⟩ | ⟨hcd, c0, c1, hb0, hb1, hL, V1⟩ | ⟨hcd, c0, hR0, hL, V1⟩ | ⟨hcd, c0, c1, hR0, hR1, hL, V1⟩
 ·show Go p.tables e below _ (s₁.setTop (mkF m 0 #[vI cd, vR a1, vI 1, uS, uS, uS, uS, uS, uS] []))
  refine Go.step (fun _ kt => XS.iloadN X0.here hx rfl (hb hby d13_0) rfl (XS.iconst X0.here hx rfl (hb hby d13_1) (XS.icmpYes X0.here hx rfl (pc0 := 2) (pc' := 11) rfl (hb hby d13_2) rfl (feq (by rw [hcd]; decide)).2 (by decide) (by decide) (XS.aloadN X0.here hx rfl (hb hby d13_11) rfl rfl (XS.iconst X0.here hx rfl (hb hby d13_12) (XS.aloadN X0.here hx rfl (hb hby d13_13) rfl rfl kt)))))) ?_
  show Go p.tables e below _ (s₁.setTop (mkF m 14 #[vI cd, vR a1, vI 1, uS, uS, uS, uS, uS, uS] [(.ref a1), (.int 0), (.ref a1)]))
  obtain ⟨cl102, Ar102, qa102, Sa102, Na102, Ha102, Ga102⟩ := (id V1)
  refine Go.step (X0.arraylength hx (by rw [e0]; exact Ar102.1) (State.isArrayOf_alike hZ.alike Ar102.2.1) (g := (mkF m 14 #[vI cd, vR a1, vI 1, uS, uS, uS, uS, uS, uS] [(.ref a1), (.int 0), (.ref a1)])) rfl rfl (hb hby d13_14)) ?_
  rw [len_of Sa102 Na102]
  obtain ⟨_, _, ⟨T104, L104, k104, n104⟩, -, X104, ⟨Lc104, hQ104, l104, y104, z104⟩, st104⟩ := Jvm.LawKit.callS X0 hx (y := Y9) hown (mvT hZ (w63 hw)) (mvT hZ (w64 hw)) (mvT hZ (w65 hw)) (mvT hZ (w66 hw)) (by decide) (backOf (W := 0) (rmhn0 l Z a0 hw [] a1 k1 h0 n0 Z0 V1 ) hZ (w66 hw) (w65 hw) (by decide) (by decide)) (g := (mkF m 15 #[vI cd, vR a1, vI 1, uS, uS, uS, uS, uS, uS] [(.int 0), (.int 0), (.ref a1)])) rfl hml.symm (argsL := [(.ref a1), (.int 0), (.int 0)]) (rest := []) (lenOf pd_2 rfl) rfl (Nat.le_of_eq rfl) (hb hby d13_15) (fun _ _ => ⟨rfl, e0, (by decide : 0 + 0 ≤ _), (by decide : 0 + 0 ≤ _)⟩)
  dsimp only [Pt.U, Pt.locs, Pt.cells, Pt.slots] at X104 l104 y104 z104 st104 hQ104
  subst l104 y104 z104
  obtain ⟨rfl, N104q, eh104⟩ := hQ104
  have N104 := Fr.app N0 N104q
  refine Go.step st104 ?_
  show Go p.tables e below _ (T104.setTop (mkF m 18 #[vI cd, vR a1, vI 1, uS, uS, uS, uS, uS, uS] [(.int 0)]))
  refine Go.step (fun _ kt => XS.ifNo X104.here hx rfl (hb hby d13_18) rfl ((if0 _ _).trans (teq (by decide : (0 : Int32) = (0 : Int32))).2) (XS.aloadN X104.here hx rfl (hb hby d13_21) rfl rfl kt)) ?_
  obtain ⟨T105, h105, X105, e105, E105, A105, Ex105, st105⟩ := cloneH X104 hx hZ hown (ad := "[B") (w70 hw) (w71 hw) (w75 hw) (w73 hw) (w74 hw) (w76 hw) eh104 V1.arh Eb (g := (mkF m 22 #[vI cd, vR a1, vI 1, uS, uS, uS, uS, uS, uS] [(.ref a1)])) rfl hml.symm rfl (hb hby d13_22) (by decide) (W := 0) (cap := 0) (Nat.le_of_eq rfl) (by decide) (by decide) (by decide) (by decide)
  obtain ⟨b105, g105⟩ : ∃ z, z = h0.size := ⟨_, rfl⟩
  rw [← g105] at A105 Ex105 st105
  refine Go.step st105 ?_
  have ne_a1_b105 : a1 ≠ b105 := Nat.ne_of_lt (Nat.lt_of_lt_of_le Eb.lt (Nat.le_of_eq g105.symm))
  have g_b105 : n0 ≤ b105 := Nat.le_trans Z0 (Nat.le_of_eq g105.symm)
  have sz_b105 : h0.size ≤ b105 := Nat.le_trans K101.1 (Nat.le_of_eq g105.symm)
  have F106 := (S_ad.ext E105)
  have F107 := (S_hi.ext E105)
  have F108 := (S_lo.ext E105)
  have F109 := (Eb.ext E105)
  have F110 := (V1.ext E105)
  have Z111 : n0 ≤ h105.size := (Nat.le_trans Z0 E105.1)
  have K112 : Keep h0 h105 [] := (K101.ext E105)
  have V113 : Arv Z h105 b105 k1 .byte (0 : Int32) [] (.int 0) := A105
  obtain ⟨T114, X114, e114, st114⟩ := castY X105 hx hZ hown (w77 hw) e105 (Ins.self Ex105) (g := (mkF m 25 #[vI cd, vR a1, vI 1, uS, uS, uS, uS, uS, uS] [(.ref b105)])) rfl rfl (hb hby d13_25)
  refine Go.step st114 ?_
  show Go p.tables e below _ (T114.setTop (mkF m 28 #[vI cd, vR a1, vI 1, uS, uS, uS, uS, uS, uS] [(.ref b105)]))
  have Vl115 : Arv Z h105 b105 k1 .byte (own_len bl) (bl.map Value.int) (.int 0) := by rw [hL]; exact V113
  obtain ⟨fs, hr, hrun, hended, hW, hsame⟩ := X114.leave (v := some (.ref b105)) (fun h => by rw [Bd.returns] at h; cases h)
  refine ⟨_, _, retOut X114 hx Bd.returns rfl (Or.inr (Or.inr (Or.inr (Or.inr ⟨rfl, rfl, rfl⟩)))) (hb hby d13_28) hr, hrun, hended, _, _, rfl, ?_, ⟨_, rfl⟩, hW, hsame.mono (by decide) (by decide)⟩
  show Qrme8 Z cd a1 bl h0 n0 _ T114.heap _
  rw [e114]
  refine ⟨b105, k1, ?_, N104, K112, Ex105, Vl115, g_b105, sz_b105⟩
  rfl
 ·show Go p.tables e below _ (s₁.setTop (mkF m 0 #[vI cd, vR a1, vI 1, uS, uS, uS, uS, uS, uS] []))
  refine Go.step (fun _ kt => XS.iloadN X0.here hx rfl (hb hby d13_0) rfl (XS.iconst X0.here hx rfl (hb hby d13_1) (XS.icmpYes X0.here hx rfl (pc0 := 2) (pc' := 11) rfl (hb hby d13_2) rfl (feq (by rw [hcd]; decide)).2 (by decide) (by decide) (XS.aloadN X0.here hx rfl (hb hby d13_11) rfl rfl (XS.iconst X0.here hx rfl (hb hby d13_12) (XS.aloadN X0.here hx rfl (hb hby d13_13) rfl rfl kt)))))) ?_
  show Go p.tables e below _ (s₁.setTop (mkF m 14 #[vI cd, vR a1, vI 1, uS, uS, uS, uS, uS, uS] [(.ref a1), (.int 0), (.ref a1)]))
  obtain ⟨cl116, Ar116, qa116, Sa116, Na116, Ha116, Ga116⟩ := (id V1)
  refine Go.step (X0.arraylength hx (by rw [e0]; exact Ar116.1) (State.isArrayOf_alike hZ.alike Ar116.2.1) (g := (mkF m 14 #[vI cd, vR a1, vI 1, uS, uS, uS, uS, uS, uS] [(.ref a1), (.int 0), (.ref a1)])) rfl rfl (hb hby d13_14)) ?_
  rw [len_of Sa116 Na116]
  obtain ⟨_, _, ⟨T118, L118, k118, n118⟩, -, X118, ⟨Lc118, hQ118, l118, y118, z118⟩, st118⟩ := Jvm.LawKit.callS X0 hx (y := Y9) hown (mvT hZ (w63 hw)) (mvT hZ (w64 hw)) (mvT hZ (w65 hw)) (mvT hZ (w66 hw)) (by decide) (backOf (W := 0) (rmhn1 l Z a0 hw [] a1 k1 (own_by c0) h0 n0 Z0 V1 ) hZ (w66 hw) (w65 hw) (by decide) (by decide)) (g := (mkF m 15 #[vI cd, vR a1, vI 1, uS, uS, uS, uS, uS, uS] [(.int 1), (.int 0), (.ref a1)])) rfl hml.symm (argsL := [(.ref a1), (.int 0), (.int 1)]) (rest := []) (lenOf pd_2 rfl) rfl (Nat.le_of_eq rfl) (hb hby d13_15) (fun _ _ => ⟨rfl, e0, (by decide : 0 + 0 ≤ _), (by decide : 0 + 0 ≤ _)⟩)
  dsimp only [Pt.U, Pt.locs, Pt.cells, Pt.slots] at X118 l118 y118 z118 st118 hQ118
  subst l118 y118 z118
  obtain ⟨rfl, N118q, eh118⟩ := hQ118
  have N118 := Fr.app N0 N118q
  refine Go.step st118 ?_
  show Go p.tables e below _ (T118.setTop (mkF m 18 #[vI cd, vR a1, vI 1, uS, uS, uS, uS, uS, uS] [(.int (own_hn1 (own_by c0)))]))
  by_cases hc18_119 : (own_hn1 (own_by c0)) = (0 : Int32)
  ·refine Go.step (fun _ kt => XS.ifNo X118.here hx rfl (hb hby d13_18) rfl ((if0 _ _).trans (teq hc18_119).2) (XS.aloadN X118.here hx rfl (hb hby d13_21) rfl rfl kt)) ?_
   obtain ⟨T120, h120, X120, e120, E120, A120, Ex120, st120⟩ := cloneH X118 hx hZ hown (ad := "[B") (w70 hw) (w71 hw) (w75 hw) (w73 hw) (w74 hw) (w76 hw) eh118 V1.arh Eb (g := (mkF m 22 #[vI cd, vR a1, vI 1, uS, uS, uS, uS, uS, uS] [(.ref a1)])) rfl hml.symm rfl (hb hby d13_22) (by decide) (W := 0) (cap := 1) (Nat.le_of_eq rfl) (by decide) (by decide) (by decide) (by decide)
   obtain ⟨b120, g120⟩ : ∃ z, z = h0.size := ⟨_, rfl⟩
   rw [← g120] at A120 Ex120 st120
   refine Go.step st120 ?_
   have ne_a1_b120 : a1 ≠ b120 := Nat.ne_of_lt (Nat.lt_of_lt_of_le Eb.lt (Nat.le_of_eq g120.symm))
   have g_b120 : n0 ≤ b120 := Nat.le_trans Z0 (Nat.le_of_eq g120.symm)
   have sz_b120 : h0.size ≤ b120 := Nat.le_trans K101.1 (Nat.le_of_eq g120.symm)
   have F121 := (S_ad.ext E120)
   have F122 := (S_hi.ext E120)
   have F123 := (S_lo.ext E120)
   have F124 := (Eb.ext E120)
   have F125 := (V1.ext E120)
   have Z126 : n0 ≤ h120.size := (Nat.le_trans Z0 E120.1)
   have K127 : Keep h0 h120 [] := (K101.ext E120)
   have V128 : Arv Z h120 b120 k1 .byte (1 : Int32) [(.int (own_by c0))] (.int 0) := A120
   obtain ⟨T129, X129, e129, st129⟩ := castY X120 hx hZ hown (w77 hw) e120 (Ins.self Ex120) (g := (mkF m 25 #[vI cd, vR a1, vI 1, uS, uS, uS, uS, uS, uS] [(.ref b120)])) rfl rfl (hb hby d13_25)
   refine Go.step st129 ?_
   show Go p.tables e below _ (T129.setTop (mkF m 28 #[vI cd, vR a1, vI 1, uS, uS, uS, uS, uS, uS] [(.ref b120)]))
   have Vl130 : Arv Z h120 b120 k1 .byte (own_len bl) (bl.map Value.int) (.int 0) := by have q0 : (own_u c0) = [own_by c0] := (by rw [own_uA (own_ps hb0 (own_hn1z hc18_119))]; try rfl); rw [hL, q0]; exact V128
   obtain ⟨fs, hr, hrun, hended, hW, hsame⟩ := X129.leave (v := some (.ref b120)) (fun h => by rw [Bd.returns] at h; cases h)
   refine ⟨_, _, retOut X129 hx Bd.returns rfl (Or.inr (Or.inr (Or.inr (Or.inr ⟨rfl, rfl, rfl⟩)))) (hb hby d13_28) hr, hrun, hended, _, _, rfl, ?_, ⟨_, rfl⟩, hW, hsame.mono (by decide) (by decide)⟩
   show Qrme8 Z cd a1 bl h0 n0 _ T129.heap _
   rw [e129]
   refine ⟨b120, k1, ?_, N118, K127, Ex120, Vl130, g_b120, sz_b120⟩
   rfl
  ·refine Go.step (fun _ kt => XS.ifYes X118.here hx rfl (pc0 := 18) (pc' := 29) rfl (hb hby d13_18) rfl ((if0 _ _).trans (feq hc18_119).2) (by decide) (by decide) (XS.iconst X118.here hx rfl (hb hby d13_29) (XS.istoreN X118.here hx rfl (hb hby d13_30) rfl (l' := #[vI cd, vR a1, vI 1, vI 0, uS, uS, uS, uS, uS]) rfl (XS.aloadN X118.here hx rfl (hb hby d13_31) rfl rfl kt)))) ?_
   show Go p.tables e below _ (T118.setTop (mkF m 32 #[vI cd, vR a1, vI 1, vI 0, uS, uS, uS, uS, uS] [(.ref a1)]))
   obtain ⟨cl131, Ar131, qa131, Sa131, Na131, Ha131, Ga131⟩ := (id V1)
   refine Go.step (X118.arraylength hx (by rw [eh118]; exact Ar131.1) (State.isArrayOf_alike hZ.alike Ar131.2.1) (g := (mkF m 32 #[vI cd, vR a1, vI 1, vI 0, uS, uS, uS, uS, uS] [(.ref a1)])) rfl rfl (hb hby d13_32)) ?_
   rw [len_of Sa131 Na131]
   obtain ⟨_, _, ⟨T133, L133, k133, n133⟩, -, X133, ⟨Lc133, hQ133, l133, y133, z133⟩, st133⟩ := Jvm.LawKit.callS X118 hx (y := Y11) hown (mvT hZ (w147 hw)) (mvT hZ (w90 hw)) (mvT hZ (w18 hw)) (mvT hZ (w91 hw)) (by decide) (backOf (W := 0) (rmnf1_L l Z a0 hw []   h0 n0 Z0  ) hZ (w91 hw) (w18 hw) (by decide) (by decide)) (g := (mkF m 33 #[vI cd, vR a1, vI 1, vI 0, uS, uS, uS, uS, uS] [(.int 1)])) rfl hml.symm (argsL := [(.int 1)]) (rest := []) (lenOf pd_4 rfl) rfl (Nat.le_of_eq rfl) (hb hby d13_33) (fun _ _ => ⟨rfl, eh118, (by decide : 0 + 1 ≤ _), (by decide : 0 + 2 ≤ _)⟩)
   dsimp only [Pt.U, Pt.locs, Pt.cells, Pt.slots] at X133 l133 y133 z133 st133 hQ133
   subst l133 y133 z133
   obtain ⟨b133r, b133kr, rfl, N133q, Kq133, P134, P135, g_b133r, szq_b133r⟩ := hQ133
   have ne_a1_b133r : a1 ≠ b133r := Nat.ne_of_lt (Nat.lt_of_lt_of_le Eb.lt szq_b133r)
   have sz_b133r : h0.size ≤ b133r := Nat.le_trans K101.1 szq_b133r
   have F136 := (own_sta_keep0 S_ad Kq133)
   have F137 := (own_sta_keep0 S_hi Kq133)
   have F138 := (own_sta_keep0 S_lo Kq133)
   have F139 := (Eb.keep Kq133)
   have F140 := (V1.keep Kq133 (by simp))
   have Z141 : n0 ≤ T133.heap.size := (Nat.le_trans Z0 Kq133.1)
   have K142 : Keep h0 T133.heap [] := (K101.trans Kq133 (by intro x hx; cases hx))
   have N133 := Fr.app N118 N133q
   refine Go.step st133 ?_
   show Go p.tables e below _ (T133.setTop (mkF m 36 #[vI cd, vR a1, vI 1, vI 0, uS, uS, uS, uS, uS] [(.ref b133r)]))
   refine Go.step (fun _ kt => XS.astore X133.here hx rfl (hb hby d13_36) rfl rfl (l' := #[vI cd, vR a1, vI 1, vI 0, vR b133r, uS, uS, uS, uS]) rfl (XS.aloadN X133.here hx rfl (hb hby d13_38) rfl rfl (XS.astore X133.here hx rfl (hb hby d13_39) rfl rfl (l' := #[vI cd, vR a1, vI 1, vI 0, vR b133r, vR a1, uS, uS, uS]) rfl (XS.aload X133.here hx rfl (hb hby d13_41) rfl rfl kt)))) ?_
   show Go p.tables e below _ (T133.setTop (mkF m 43 #[vI cd, vR a1, vI 1, vI 0, vR b133r, vR a1, uS, uS, uS] [(.ref a1)]))
   obtain ⟨cl143, Ar143, qa143, Sa143, Na143, Ha143, Ga143⟩ := (id F140)
   refine Go.step (X133.arraylength hx Ar143.1 (State.isArrayOf_alike hZ.alike Ar143.2.1) (g := (mkF m 43 #[vI cd, vR a1, vI 1, vI 0, vR b133r, vR a1, uS, uS, uS] [(.ref a1)])) rfl rfl (hb hby d13_43)) ?_
   rw [len_of Sa143 Na143]
   show Go p.tables e below _ (T133.setTop (mkF m 44 #[vI cd, vR a1, vI 1, vI 0, vR b133r, vR a1, uS, uS, uS] [(.int 1)]))
   refine Go.step (fun _ kt => XS.istore X133.here hx rfl (hb hby d13_44) rfl (l' := #[vI cd, vR a1, vI 1, vI 0, vR b133r, vR a1, vI 1, uS, uS]) rfl (XS.iconst X133.here hx rfl (hb hby d13_46) (XS.istore X133.here hx rfl (hb hby d13_47) rfl (l' := #[vI cd, vR a1, vI 1, vI 0, vR b133r, vR a1, vI 1, vI 0, uS]) rfl kt))) ?_
   show Go p.tables e below _ (T133.setTop (mkF m 49 #[vI cd, vR a1, vI 1, vI (own_len ([] : List Int32)), vR b133r, vR a1, vI 1, vI 0, uS] []))
   have G124g144 : ∀ (B : List Int32) (s8 : Slot) (hE : (own_u c0) = B) (hB : B.length ≤ 2) (h_s8 : s8 = .unset ∨ ∃ y, s8 = vI y) (Tg144 : State) (Hg144 : Heap) (Lg144 : List Loc) (Xg144 : Stand p l e Rm7 s m #[(.int cd), (.ref a1), (.int 1)] below meth c Tg144 Lg144 1 2) (eg144 : Tg144.heap = Hg144) (Ng144 : Fr n0 Lg144) (Zg144 : n0 ≤ Hg144.size) (Kg144 : Keep h0 Hg144 []) (Fg144_0 : Arv Z Hg144 b133r b133kr .byte (2 : Int32) (B.map Value.int) (.int 0)) (Fg144_1 : Exa Z Hg144 b133r "[B"), Go p.tables e below (fun o U' => ∃ v L, o = .returned v ∧ Qrme8 Z cd a1 bl h0 n0 v U'.heap L ∧ FrameEnd s o U' L Rm7.cells Rm7.slots) (Tg144.setTop (mkF m 124 #[vI cd, vR a1, vI 1, vI (own_len B), vR b133r, vR a1, vI 1, vI 1, s8] [])) := by
    intro B s8 hE hB h_s8 Tg144 Hg144 Lg144 Xg144 eg144 Ng144 Zg144 Kg144 Fg144_0 Fg144_1
    show Go p.tables e below _ (Tg144.setTop (mkF m 124 #[vI cd, vR a1, vI 1, vI (own_len B), vR b133r, vR a1, vI 1, vI 1, s8] []))
    refine Go.step (fun _ kt => XS.iloadN Xg144.here hx rfl (hb hby d13_124) rfl (XS.aload Xg144.here hx rfl (hb hby d13_125) rfl rfl kt)) ?_
    obtain ⟨cl145, Ar145, qa145, Sa145, Na145, Ha145, Ga145⟩ := (id Fg144_0)
    refine Go.step (Xg144.arraylength hx (by rw [eg144]; exact Ar145.1) (State.isArrayOf_alike hZ.alike Ar145.2.1) (g := (mkF m 127 #[vI cd, vR a1, vI 1, vI (own_len B), vR b133r, vR a1, vI 1, vI 1, s8] [(.ref b133r), (.int (own_len B))])) rfl rfl (hb hby d13_127)) ?_
    rw [len_of Sa145 Na145]
    show Go p.tables e below _ (Tg144.setTop (mkF m 128 #[vI cd, vR a1, vI 1, vI (own_len B), vR b133r, vR a1, vI 1, vI 1, s8] [(.int 2), (.int (own_len B))]))
    by_cases hc128_146 : (own_len B) = (2 : Int32)
    ·refine Go.step (fun _ kt => XS.icmpNo Xg144.here hx rfl (hb hby d13_128) rfl (teq hc128_146).2 (XS.aload Xg144.here hx rfl (hb hby d13_131) rfl rfl kt)) ?_
     show Go p.tables e below _ (Tg144.setTop (mkF m 133 #[vI cd, vR a1, vI 1, vI (own_len B), vR b133r, vR a1, vI 1, vI 1, s8] [(.ref b133r)]))
     have Vl147 : Arv Z Hg144 b133r b133kr .byte (own_len bl) (bl.map Value.int) (.int 0) := by rw [hL, hE]; have q1 := Fg144_0; rw [← hc128_146] at q1; exact q1
     obtain ⟨fs, hr, hrun, hended, hW, hsame⟩ := Xg144.leave (v := some (.ref b133r)) (fun h => by rw [Bd.returns] at h; cases h)
     refine ⟨_, _, retOut Xg144 hx Bd.returns rfl (Or.inr (Or.inr (Or.inr (Or.inr ⟨rfl, rfl, rfl⟩)))) (hb hby d13_133) hr, hrun, hended, _, _, rfl, ?_, ⟨_, rfl⟩, hW, hsame.mono (by decide) (by decide)⟩
     show Qrme8 Z cd a1 bl h0 n0 _ Tg144.heap _
     rw [eg144]
     refine ⟨b133r, b133kr, ?_, Ng144, Kg144, Fg144_1, Vl147, g_b133r, sz_b133r⟩
     rfl
    ·refine Go.step (fun _ kt => XS.icmpYes Xg144.here hx rfl (pc0 := 128) (pc' := 134) rfl (hb hby d13_128) rfl (feq hc128_146).2 (by decide) (by decide) (XS.aload Xg144.here hx rfl (hb hby d13_134) rfl rfl (XS.iloadN Xg144.here hx rfl (hb hby d13_136) rfl kt))) ?_
     show Go p.tables e below _ (Tg144.setTop (mkF m 137 #[vI cd, vR a1, vI 1, vI (own_len B), vR b133r, vR a1, vI 1, vI 1, s8] [(.int (own_len B)), (.ref b133r)]))
     obtain ⟨_, _, ⟨T149, L149, k149, n149⟩, -, X149, ⟨Lc149, hQ149, l149, y149, z149⟩, st149⟩ := Jvm.LawKit.callS Xg144 hx (y := Y1) hown (mvT hZ (w120 hw)) (mvT hZ (w121 hw)) (mvT hZ (w122 hw)) (mvT hZ (w123 hw)) (by decide) (backOf (W := 0) (rmcopy l Z a0 hw [] b133r b133kr (2 : Int32) B Hg144 n0 Zg144 Fg144_0 (Nat.le_trans hB (by decide)) (own_lt (n := 2) (by decide) hB (by decide) hc128_146)) hZ (w123 hw) (w122 hw) (by decide) (by decide)) (g := (mkF m 137 #[vI cd, vR a1, vI 1, vI (own_len B), vR b133r, vR a1, vI 1, vI 1, s8] [(.int (own_len B)), (.ref b133r)])) rfl hml.symm (argsL := [(.ref b133r), (.int (own_len B))]) (rest := []) (lenOf pd_5 rfl) rfl (Nat.le_of_eq rfl) (hb hby d13_137) (fun _ _ => ⟨rfl, eg144, (by decide : 1 + 1 ≤ _), (by decide : 2 + 6 ≤ _)⟩)
     dsimp only [Pt.U, Pt.locs, Pt.cells, Pt.slots] at X149 l149 y149 z149 st149 hQ149
     subst l149 y149 z149
     obtain ⟨b149r, b149kr, rfl, N149q, Kq149, P150, P151, g_b149r, szq_b149r⟩ := hQ149
     have ne_b133r_b149r : b133r ≠ b149r := Nat.ne_of_lt (Nat.lt_of_lt_of_le Fg144_0.lt szq_b149r)
     have sz_b149r : h0.size ≤ b149r := Nat.le_trans Kg144.1 szq_b149r
     have F152 := (Fg144_0.keep Kq149 (by simp))
     have F153 := (Fg144_1.keep Kq149)
     have Z154 : n0 ≤ T149.heap.size := (Nat.le_trans Zg144 Kq149.1)
     have K155 : Keep h0 T149.heap [] := (Kg144.trans Kq149 (by intro x hx; cases hx))
     have N149 := Fr.app Ng144 N149q
     refine Go.step st149 ?_
     show Go p.tables e below _ (T149.setTop (mkF m 140 #[vI cd, vR a1, vI 1, vI (own_len B), vR b133r, vR a1, vI 1, vI 1, s8] [(.ref b149r)]))
     have Vl156 : Arv Z T149.heap b149r b149kr .byte (own_len bl) (bl.map Value.int) (.int 0) := by rw [hL, hE]; exact P151
     obtain ⟨fs, hr, hrun, hended, hW, hsame⟩ := X149.leave (v := some (.ref b149r)) (fun h => by rw [Bd.returns] at h; cases h)
     refine ⟨_, _, retOut X149 hx Bd.returns rfl (Or.inr (Or.inr (Or.inr (Or.inr ⟨rfl, rfl, rfl⟩)))) (hb hby d13_140) hr, hrun, hended, _, _, rfl, ?_, ⟨_, rfl⟩, hW, hsame.mono (by decide) (by decide)⟩
     show Qrme8 Z cd a1 bl h0 n0 _ T149.heap _
     refine ⟨b149r, b149kr, ?_, N149, K155, P150, Vl156, g_b149r, sz_b149r⟩
     rfl
   refine Go.step (fun _ kt => XS.iload X133.here hx rfl (hb hby d13_49) rfl (XS.iload X133.here hx rfl (hb hby d13_51) rfl (XS.icmpNo X133.here hx rfl (hb hby d13_53) rfl (tlt (by decide : (0 : Int32) < (1 : Int32))).2.1 (XS.aload X133.here hx rfl (hb hby d13_56) rfl rfl (XS.iload X133.here hx rfl (hb hby d13_58) rfl kt))))) ?_
   show Go p.tables e below _ (T133.setTop (mkF m 60 #[vI cd, vR a1, vI 1, vI (own_len ([] : List Int32)), vR b133r, vR a1, vI 1, vI 0, uS] [(.int 0), (.ref a1)]))
   obtain ⟨cl157, Ar157, qa157, Sa157, Na157, Ha157, Ga157⟩ := (id F140)
   have hin157 : ¬ ((0 : Int32) < 0 ∨ cl157.slots.size ≤ ((0 : Int32)).toNatClampNeg) := inb_of Sa157 ⟨by decide, by decide⟩
   have hat157 : cl157.slots[((0 : Int32)).toNatClampNeg]? = some (.int (own_by c0)) := at_of Ha157 hin157 rfl
   refine Go.step (X133.baloadBytes hx (j := (0 : Int32)) (v := (.int (own_by c0))) Ar157.1 (State.isArrayOf_alike hZ.alike Ar157.2.1) Ar157.2.2 hin157 hat157 (g := (mkF m 60 #[vI cd, vR a1, vI 1, vI (own_len ([] : List Int32)), vR b133r, vR a1, vI 1, vI 0, uS] [(.int 0), (.ref a1)])) rfl rfl (hb hby d13_60)) ?_
   show Go p.tables e below _ (T133.setTop (mkF m 61 #[vI cd, vR a1, vI 1, vI (own_len ([] : List Int32)), vR b133r, vR a1, vI 1, vI 0, uS] [(.int (own_by c0))]))
   refine Go.step (fun _ kt => XS.istore X133.here hx rfl (hb hby d13_61) rfl (l' := #[vI cd, vR a1, vI 1, vI (own_len ([] : List Int32)), vR b133r, vR a1, vI 1, vI 0, vI (own_by c0)]) rfl (XS.iload X133.here hx rfl (hb hby d13_63) rfl kt)) ?_
   show Go p.tables e below _ (T133.setTop (mkF m 65 #[vI cd, vR a1, vI 1, vI (own_len ([] : List Int32)), vR b133r, vR a1, vI 1, vI 0, vI (own_by c0)] [(.int (own_by c0))]))
   by_cases hc65_158 : (own_by c0) < (0 : Int32)
   ·refine Go.step (fun _ kt => XS.ifNo X133.here hx rfl (hb hby d13_65) rfl ((if0 _ _).trans (tlt hc65_158).2.1) (XS.aload X133.here hx rfl (hb hby d13_68) rfl rfl (XS.iloadN X133.here hx rfl (hb hby d13_70) rfl (XS.iinc X133.here hx rfl (hb hby d13_71) rfl (l' := #[vI cd, vR a1, vI 1, vI ((own_len ([] : List Int32)) + (1 : Int32)), vR b133r, vR a1, vI 1, vI 0, vI (own_by c0)]) rfl (XS.sipush X133.here hx rfl (hb hby d13_74) (XS.iload X133.here hx rfl (hb hby d13_77) rfl (XS.sipush X133.here hx rfl (hb hby d13_79) (XS.iand X133.here hx rfl (hb hby d13_82) rfl kt)))))))) ?_
    show Go p.tables e below _ (T133.setTop (mkF m 83 #[vI cd, vR a1, vI 1, vI ((own_len ([] : List Int32)) + (1 : Int32)), vR b133r, vR a1, vI 1, vI 0, vI (own_by c0)] [(.int ((own_by c0) &&& (255 : Int32))), (.int 192), (.int (own_len ([] : List Int32))), (.ref b133r)]))
    have q159 : ((own_by c0) &&& (255 : Int32)) = c0 := own_l255 hb0
    rw [q159]
    show Go p.tables e below _ (T133.setTop (mkF m 83 #[vI cd, vR a1, vI 1, vI ((own_len ([] : List Int32)) + (1 : Int32)), vR b133r, vR a1, vI 1, vI 0, vI (own_by c0)] [(.int c0), (.int 192), (.int (own_len ([] : List Int32))), (.ref b133r)]))
    refine Go.step (fun _ kt => XS.bipush X133.here hx rfl (hb hby d13_83) (XS.ishr X133.here hx rfl (hb hby d13_85) rfl (XS.ior X133.here hx rfl (hb hby d13_86) rfl (XS.i2b X133.here hx rfl (hb hby d13_87) rfl kt)))) ?_
    show Go p.tables e below _ (T133.setTop (mkF m 88 #[vI cd, vR a1, vI 1, vI ((own_len ([] : List Int32)) + (1 : Int32)), vR b133r, vR a1, vI 1, vI 0, vI (own_by c0)] [(.int (((192 : Int32) ||| (c0 >>> ((6 : Int32) &&& 31))).toInt8.toInt32)), (.int (own_len ([] : List Int32))), (.ref b133r)]))
    have q160 : (((192 : Int32) ||| (c0 >>> ((6 : Int32) &&& 31))).toInt8.toInt32) = (own_by ((192 : Int32) ||| (c0 >>> ((6 : Int32) &&& 31)))) := rfl
    rw [q160]
    obtain ⟨cl161, Ar161, qa161, Sa161, Na161, Ha161, Ga161⟩ := (id P135)
    obtain ⟨T161, h161, X161, e161, W161, st161⟩ := stB X133 hx hZ rfl Ar161 (j := (own_len ([] : List Int32))) (own_in Sa161 (n := 2) (by decide) (by decide) (by first | omega | decide | (simp only [List.length_append, List.length_cons, List.length_nil]; omega))) (g := (mkF m 88 #[vI cd, vR a1, vI 1, vI ((own_len ([] : List Int32)) + (1 : Int32)), vR b133r, vR a1, vI 1, vI 0, vI (own_by c0)] [(.int (own_by ((192 : Int32) ||| (c0 >>> ((6 : Int32) &&& 31))))), (.int (own_len ([] : List Int32))), (.ref b133r)])) rfl rfl (hb hby d13_88)
    refine Go.step st161 ?_
    have V162 := own_push (y := (own_by ((192 : Int32) ||| (c0 >>> ((6 : Int32) &&& 31))))) P135 (own_ix (by first | omega | decide | (simp only [List.length_append, List.length_cons, List.length_nil]; omega))).1 W161 (own_bb _) (by first | omega | decide | (simp only [List.length_append, List.length_cons, List.length_nil]; omega))
    have N161 := Fr.snoc X161 N133 g_b133r
    have F163 := (F136.wr W161)
    have F164 := (F137.wr W161)
    have F165 := (F138.wr W161)
    have F166 := (F139.wr W161)
    have F167 := (F140.other W161 ne_a1_b133r)
    have F168 := (P134.wr W161)
    have Z169 : n0 ≤ h161.size := (Nat.le_trans Z141 (Nat.le_of_eq W161.size.symm))
    have K170 : Keep h0 h161 [] := (K142.wr W161 (Or.inr sz_b133r))
    show Go p.tables e below _ (T161.setTop (mkF m 89 #[vI cd, vR a1, vI 1, vI ((own_len ([] : List Int32)) + (1 : Int32)), vR b133r, vR a1, vI 1, vI 0, vI (own_by c0)] []))
    rw [own_len1 ([] : List Int32) (own_by ((192 : Int32) ||| (c0 >>> ((6 : Int32) &&& 31))))]
    show Go p.tables e below _ (T161.setTop (mkF m 89 #[vI cd, vR a1, vI 1, vI (own_len (([] : List Int32) ++ [(own_by ((192 : Int32) ||| (c0 >>> ((6 : Int32) &&& 31))))])), vR b133r, vR a1, vI 1, vI 0, vI (own_by c0)] []))
    refine Go.step (fun _ kt => XS.aload X161.here hx rfl (hb hby d13_89) rfl rfl (XS.iloadN X161.here hx rfl (hb hby d13_91) rfl (XS.iinc X161.here hx rfl (hb hby d13_92) rfl (l' := #[vI cd, vR a1, vI 1, vI ((own_len (([] : List Int32) ++ [(own_by ((192 : Int32) ||| (c0 >>> ((6 : Int32) &&& 31))))])) + (1 : Int32)), vR b133r, vR a1, vI 1, vI 0, vI (own_by c0)]) rfl (XS.sipush X161.here hx rfl (hb hby d13_95) (XS.iload X161.here hx rfl (hb hby d13_98) rfl (XS.bipush X161.here hx rfl (hb hby d13_100) (XS.iand X161.here hx rfl (hb hby d13_102) rfl kt))))))) ?_
    show Go p.tables e below _ (T161.setTop (mkF m 103 #[vI cd, vR a1, vI 1, vI ((own_len (([] : List Int32) ++ [(own_by ((192 : Int32) ||| (c0 >>> ((6 : Int32) &&& 31))))])) + (1 : Int32)), vR b133r, vR a1, vI 1, vI 0, vI (own_by c0)] [(.int ((own_by c0) &&& (63 : Int32))), (.int 128), (.int (own_len (([] : List Int32) ++ [(own_by ((192 : Int32) ||| (c0 >>> ((6 : Int32) &&& 31))))]))), (.ref b133r)]))
    have q171 : ((own_by c0) &&& (63 : Int32)) = (c0 &&& (63 : Int32)) := own_l63 c0
    rw [q171]
    show Go p.tables e below _ (T161.setTop (mkF m 103 #[vI cd, vR a1, vI 1, vI ((own_len (([] : List Int32) ++ [(own_by ((192 : Int32) ||| (c0 >>> ((6 : Int32) &&& 31))))])) + (1 : Int32)), vR b133r, vR a1, vI 1, vI 0, vI (own_by c0)] [(.int (c0 &&& (63 : Int32))), (.int 128), (.int (own_len (([] : List Int32) ++ [(own_by ((192 : Int32) ||| (c0 >>> ((6 : Int32) &&& 31))))]))), (.ref b133r)]))
    refine Go.step (fun _ kt => XS.ior X161.here hx rfl (hb hby d13_103) rfl (XS.i2b X161.here hx rfl (hb hby d13_104) rfl kt)) ?_
    show Go p.tables e below _ (T161.setTop (mkF m 105 #[vI cd, vR a1, vI 1, vI ((own_len (([] : List Int32) ++ [(own_by ((192 : Int32) ||| (c0 >>> ((6 : Int32) &&& 31))))])) + (1 : Int32)), vR b133r, vR a1, vI 1, vI 0, vI (own_by c0)] [(.int (((128 : Int32) ||| (c0 &&& (63 : Int32))).toInt8.toInt32)), (.int (own_len (([] : List Int32) ++ [(own_by ((192 : Int32) ||| (c0 >>> ((6 : Int32) &&& 31))))]))), (.ref b133r)]))
    have q172 : (((128 : Int32) ||| (c0 &&& (63 : Int32))).toInt8.toInt32) = (own_by ((128 : Int32) ||| (c0 &&& (63 : Int32)))) := rfl
    rw [q172]
    obtain ⟨cl173, Ar173, qa173, Sa173, Na173, Ha173, Ga173⟩ := (id V162)
    obtain ⟨T173, h173, X173, e173, W173, st173⟩ := stB X161 hx hZ e161 Ar173 (j := (own_len (([] : List Int32) ++ [(own_by ((192 : Int32) ||| (c0 >>> ((6 : Int32) &&& 31))))]))) (own_in Sa173 (n := 2) (by decide) (by decide) (by first | omega | decide | (simp only [List.length_append, List.length_cons, List.length_nil]; omega))) (g := (mkF m 105 #[vI cd, vR a1, vI 1, vI ((own_len (([] : List Int32) ++ [(own_by ((192 : Int32) ||| (c0 >>> ((6 : Int32) &&& 31))))])) + (1 : Int32)), vR b133r, vR a1, vI 1, vI 0, vI (own_by c0)] [(.int (own_by ((128 : Int32) ||| (c0 &&& (63 : Int32))))), (.int (own_len (([] : List Int32) ++ [(own_by ((192 : Int32) ||| (c0 >>> ((6 : Int32) &&& 31))))]))), (.ref b133r)])) rfl rfl (hb hby d13_105)
    refine Go.step st173 ?_
    have V174 := own_push (y := (own_by ((128 : Int32) ||| (c0 &&& (63 : Int32))))) V162 (own_ix (by first | omega | decide | (simp only [List.length_append, List.length_cons, List.length_nil]; omega))).1 W173 (own_bb _) (by first | omega | decide | (simp only [List.length_append, List.length_cons, List.length_nil]; omega))
    have N173 := Fr.snoc X173 N161 g_b133r
    have F175 := (F163.wr W173)
    have F176 := (F164.wr W173)
    have F177 := (F165.wr W173)
    have F178 := (F166.wr W173)
    have F179 := (F167.other W173 ne_a1_b133r)
    have F180 := (F168.wr W173)
    have Z181 : n0 ≤ h173.size := (Nat.le_trans Z169 (Nat.le_of_eq W173.size.symm))
    have K182 : Keep h0 h173 [] := (K170.wr W173 (Or.inr sz_b133r))
    show Go p.tables e below _ (T173.setTop (mkF m 106 #[vI cd, vR a1, vI 1, vI ((own_len (([] : List Int32) ++ [(own_by ((192 : Int32) ||| (c0 >>> ((6 : Int32) &&& 31))))])) + (1 : Int32)), vR b133r, vR a1, vI 1, vI 0, vI (own_by c0)] []))
    rw [own_len1 (([] : List Int32) ++ [(own_by ((192 : Int32) ||| (c0 >>> ((6 : Int32) &&& 31))))]) (own_by ((128 : Int32) ||| (c0 &&& (63 : Int32))))]
    show Go p.tables e below _ (T173.setTop (mkF m 106 #[vI cd, vR a1, vI 1, vI (own_len ((([] : List Int32) ++ [(own_by ((192 : Int32) ||| (c0 >>> ((6 : Int32) &&& 31))))]) ++ [(own_by ((128 : Int32) ||| (c0 &&& (63 : Int32))))])), vR b133r, vR a1, vI 1, vI 0, vI (own_by c0)] []))
    refine Go.step (fun _ kt => XS.goto X173.here hx rfl (pc0 := 106) (pc' := 118) rfl (hb hby d13_106) (by decide) (by decide) (XS.iinc X173.here hx rfl (hb hby d13_118) rfl (l' := #[vI cd, vR a1, vI 1, vI (own_len ((([] : List Int32) ++ [(own_by ((192 : Int32) ||| (c0 >>> ((6 : Int32) &&& 31))))]) ++ [(own_by ((128 : Int32) ||| (c0 &&& (63 : Int32))))])), vR b133r, vR a1, vI 1, vI ((0 : Int32) + (1 : Int32)), vI (own_by c0)]) rfl kt)) ?_
    show Go p.tables e below _ (T173.setTop (mkF m 121 #[vI cd, vR a1, vI 1, vI (own_len ((([] : List Int32) ++ [(own_by ((192 : Int32) ||| (c0 >>> ((6 : Int32) &&& 31))))]) ++ [(own_by ((128 : Int32) ||| (c0 &&& (63 : Int32))))])), vR b133r, vR a1, vI 1, vI ((0 : Int32) + (1 : Int32)), vI (own_by c0)] []))
    have q183 : ((0 : Int32) + (1 : Int32)) = (1 : Int32) := by decide
    rw [q183]
    show Go p.tables e below _ (T173.setTop (mkF m 121 #[vI cd, vR a1, vI 1, vI (own_len ((([] : List Int32) ++ [(own_by ((192 : Int32) ||| (c0 >>> ((6 : Int32) &&& 31))))]) ++ [(own_by ((128 : Int32) ||| (c0 &&& (63 : Int32))))])), vR b133r, vR a1, vI 1, vI 1, vI (own_by c0)] []))
    refine Go.step (fun _ kt => XS.goto X173.here hx rfl (pc0 := 121) (pc' := 49) rfl (hb hby d13_121) (by decide) (by decide) (XS.iload X173.here hx rfl (hb hby d13_49) rfl (XS.iload X173.here hx rfl (hb hby d13_51) rfl (XS.icmpYes X173.here hx rfl (pc0 := 53) (pc' := 124) rfl (hb hby d13_53) rfl (flt (by decide : ¬ ((1 : Int32) < (1 : Int32)))).2.1 (by decide) (by decide) kt)))) ?_
    show Go p.tables e below _ (T173.setTop (mkF m 124 #[vI cd, vR a1, vI 1, vI (own_len ((([] : List Int32) ++ [(own_by ((192 : Int32) ||| (c0 >>> ((6 : Int32) &&& 31))))]) ++ [(own_by ((128 : Int32) ||| (c0 &&& (63 : Int32))))])), vR b133r, vR a1, vI 1, vI 1, vI (own_by c0)] []))
    exact G124g144 _ _ (by rw [own_uB (own_ng hb0 hc65_158).1 (own_ng hb0 hc65_158).2]; try rfl) (by first | omega | decide | (simp only [List.length_append, List.length_cons, List.length_nil]; omega)) (Or.inr ⟨_, rfl⟩) _ _ _ (X173.more (by decide) (by decide)) e173 N173 Z181 K182 V174 F180
   ·refine Go.step (fun _ kt => XS.ifYes X133.here hx rfl (pc0 := 65) (pc' := 109) rfl (hb hby d13_65) rfl ((if0 _ _).trans (flt hc65_158).2.1) (by decide) (by decide) (XS.aload X133.here hx rfl (hb hby d13_109) rfl rfl (XS.iloadN X133.here hx rfl (hb hby d13_111) rfl (XS.iinc X133.here hx rfl (hb hby d13_112) rfl (l' := #[vI cd, vR a1, vI 1, vI ((own_len ([] : List Int32)) + (1 : Int32)), vR b133r, vR a1, vI 1, vI 0, vI (own_by c0)]) rfl (XS.iload X133.here hx rfl (hb hby d13_115) rfl kt))))) ?_
    show Go p.tables e below _ (T133.setTop (mkF m 117 #[vI cd, vR a1, vI 1, vI ((own_len ([] : List Int32)) + (1 : Int32)), vR b133r, vR a1, vI 1, vI 0, vI (own_by c0)] [(.int (own_by c0)), (.int (own_len ([] : List Int32))), (.ref b133r)]))
    obtain ⟨cl184, Ar184, qa184, Sa184, Na184, Ha184, Ga184⟩ := (id P135)
    obtain ⟨T184, h184, X184, e184, W184, st184⟩ := stB X133 hx hZ rfl Ar184 (j := (own_len ([] : List Int32))) (own_in Sa184 (n := 2) (by decide) (by decide) (by first | omega | decide | (simp only [List.length_append, List.length_cons, List.length_nil]; omega))) (g := (mkF m 117 #[vI cd, vR a1, vI 1, vI ((own_len ([] : List Int32)) + (1 : Int32)), vR b133r, vR a1, vI 1, vI 0, vI (own_by c0)] [(.int (own_by c0)), (.int (own_len ([] : List Int32))), (.ref b133r)])) rfl rfl (hb hby d13_117)
    refine Go.step st184 ?_
    have V185 := own_push (y := (own_by c0)) P135 (own_ix (by first | omega | decide | (simp only [List.length_append, List.length_cons, List.length_nil]; omega))).1 W184 (own_bb _) (by first | omega | decide | (simp only [List.length_append, List.length_cons, List.length_nil]; omega))
    have N184 := Fr.snoc X184 N133 g_b133r
    have F186 := (F136.wr W184)
    have F187 := (F137.wr W184)
    have F188 := (F138.wr W184)
    have F189 := (F139.wr W184)
    have F190 := (F140.other W184 ne_a1_b133r)
    have F191 := (P134.wr W184)
    have Z192 : n0 ≤ h184.size := (Nat.le_trans Z141 (Nat.le_of_eq W184.size.symm))
    have K193 : Keep h0 h184 [] := (K142.wr W184 (Or.inr sz_b133r))
    show Go p.tables e below _ (T184.setTop (mkF m 118 #[vI cd, vR a1, vI 1, vI ((own_len ([] : List Int32)) + (1 : Int32)), vR b133r, vR a1, vI 1, vI 0, vI (own_by c0)] []))
    rw [own_len1 ([] : List Int32) (own_by c0)]
    show Go p.tables e below _ (T184.setTop (mkF m 118 #[vI cd, vR a1, vI 1, vI (own_len (([] : List Int32) ++ [(own_by c0)])), vR b133r, vR a1, vI 1, vI 0, vI (own_by c0)] []))
    refine Go.step (fun _ kt => XS.iinc X184.here hx rfl (hb hby d13_118) rfl (l' := #[vI cd, vR a1, vI 1, vI (own_len (([] : List Int32) ++ [(own_by c0)])), vR b133r, vR a1, vI 1, vI ((0 : Int32) + (1 : Int32)), vI (own_by c0)]) rfl kt) ?_
    show Go p.tables e below _ (T184.setTop (mkF m 121 #[vI cd, vR a1, vI 1, vI (own_len (([] : List Int32) ++ [(own_by c0)])), vR b133r, vR a1, vI 1, vI ((0 : Int32) + (1 : Int32)), vI (own_by c0)] []))
    have q194 : ((0 : Int32) + (1 : Int32)) = (1 : Int32) := by decide
    rw [q194]
    show Go p.tables e below _ (T184.setTop (mkF m 121 #[vI cd, vR a1, vI 1, vI (own_len (([] : List Int32) ++ [(own_by c0)])), vR b133r, vR a1, vI 1, vI 1, vI (own_by c0)] []))
    refine Go.step (fun _ kt => XS.goto X184.here hx rfl (pc0 := 121) (pc' := 49) rfl (hb hby d13_121) (by decide) (by decide) (XS.iload X184.here hx rfl (hb hby d13_49) rfl (XS.iload X184.here hx rfl (hb hby d13_51) rfl (XS.icmpYes X184.here hx rfl (pc0 := 53) (pc' := 124) rfl (hb hby d13_53) rfl (flt (by decide : ¬ ((1 : Int32) < (1 : Int32)))).2.1 (by decide) (by decide) kt)))) ?_
    show Go p.tables e below _ (T184.setTop (mkF m 124 #[vI cd, vR a1, vI 1, vI (own_len (([] : List Int32) ++ [(own_by c0)])), vR b133r, vR a1, vI 1, vI 1, vI (own_by c0)] []))
    exact G124g144 _ _ (by rw [own_uA (own_ps hb0 hc65_158)]; try rfl) (by first | omega | decide | (simp only [List.length_append, List.length_cons, List.length_nil]; omega)) (Or.inr ⟨_, rfl⟩) _ _ _ (X184.more (by decide) (by decide)) e184 N184 Z192 K193 V185 F191
 ·show Go p.tables e below _ (s₁.setTop (mkF m 0 #[vI cd, vR a1, vI 1, uS, uS, uS, uS, uS, uS] []))
  refine Go.step (fun _ kt => XS.iloadN X0.here hx rfl (hb hby d13_0) rfl (XS.iconst X0.here hx rfl (hb hby d13_1) (XS.icmpYes X0.here hx rfl (pc0 := 2) (pc' := 11) rfl (hb hby d13_2) rfl (feq (by rw [hcd]; decide)).2 (by decide) (by decide) (XS.aloadN X0.here hx rfl (hb hby d13_11) rfl rfl (XS.iconst X0.here hx rfl (hb hby d13_12) (XS.aloadN X0.here hx rfl (hb hby d13_13) rfl rfl kt)))))) ?_
  show Go p.tables e below _ (s₁.setTop (mkF m 14 #[vI cd, vR a1, vI 1, uS, uS, uS, uS, uS, uS] [(.ref a1), (.int 0), (.ref a1)]))
  obtain ⟨cl195, Ar195, qa195, Sa195, Na195, Ha195, Ga195⟩ := (id V1)
  refine Go.step (X0.arraylength hx (by rw [e0]; exact Ar195.1) (State.isArrayOf_alike hZ.alike Ar195.2.1) (g := (mkF m 14 #[vI cd, vR a1, vI 1, uS, uS, uS, uS, uS, uS] [(.ref a1), (.int 0), (.ref a1)])) rfl rfl (hb hby d13_14)) ?_
  rw [len_of Sa195 Na195]
  obtain ⟨_, _, ⟨T197, L197, k197, n197⟩, -, X197, ⟨Lc197, hQ197, l197, y197, z197⟩, st197⟩ := Jvm.LawKit.callS X0 hx (y := Y9) hown (mvT hZ (w63 hw)) (mvT hZ (w64 hw)) (mvT hZ (w65 hw)) (mvT hZ (w66 hw)) (by decide) (backOf (W := 0) (rmhn2 l Z a0 hw [] a1 k1 (own_by c0) (own_by c1) h0 n0 Z0 V1 ) hZ (w66 hw) (w65 hw) (by decide) (by decide)) (g := (mkF m 15 #[vI cd, vR a1, vI 1, uS, uS, uS, uS, uS, uS] [(.int 2), (.int 0), (.ref a1)])) rfl hml.symm (argsL := [(.ref a1), (.int 0), (.int 2)]) (rest := []) (lenOf pd_2 rfl) rfl (Nat.le_of_eq rfl) (hb hby d13_15) (fun _ _ => ⟨rfl, e0, (by decide : 0 + 0 ≤ _), (by decide : 0 + 0 ≤ _)⟩)
  dsimp only [Pt.U, Pt.locs, Pt.cells, Pt.slots] at X197 l197 y197 z197 st197 hQ197
  subst l197 y197 z197
  obtain ⟨rfl, N197q, eh197⟩ := hQ197
  have N197 := Fr.app N0 N197q
  refine Go.step st197 ?_
  show Go p.tables e below _ (T197.setTop (mkF m 18 #[vI cd, vR a1, vI 1, uS, uS, uS, uS, uS, uS] [(.int (own_hn2 (own_by c0) (own_by c1)))]))
  by_cases hc18_198 : (own_hn2 (own_by c0) (own_by c1)) = (0 : Int32)
  ·refine Go.step (fun _ kt => XS.ifNo X197.here hx rfl (hb hby d13_18) rfl ((if0 _ _).trans (teq hc18_198).2) (XS.aloadN X197.here hx rfl (hb hby d13_21) rfl rfl kt)) ?_
   obtain ⟨T199, h199, X199, e199, E199, A199, Ex199, st199⟩ := cloneH X197 hx hZ hown (ad := "[B") (w70 hw) (w71 hw) (w75 hw) (w73 hw) (w74 hw) (w76 hw) eh197 V1.arh Eb (g := (mkF m 22 #[vI cd, vR a1, vI 1, uS, uS, uS, uS, uS, uS] [(.ref a1)])) rfl hml.symm rfl (hb hby d13_22) (by decide) (W := 0) (cap := 2) (Nat.le_of_eq rfl) (by decide) (by decide) (by decide) (by decide)
   obtain ⟨b199, g199⟩ : ∃ z, z = h0.size := ⟨_, rfl⟩
   rw [← g199] at A199 Ex199 st199
   refine Go.step st199 ?_
   have ne_a1_b199 : a1 ≠ b199 := Nat.ne_of_lt (Nat.lt_of_lt_of_le Eb.lt (Nat.le_of_eq g199.symm))
   have g_b199 : n0 ≤ b199 := Nat.le_trans Z0 (Nat.le_of_eq g199.symm)
   have sz_b199 : h0.size ≤ b199 := Nat.le_trans K101.1 (Nat.le_of_eq g199.symm)
   have F200 := (S_ad.ext E199)
   have F201 := (S_hi.ext E199)
   have F202 := (S_lo.ext E199)
   have F203 := (Eb.ext E199)
   have F204 := (V1.ext E199)
   have Z205 : n0 ≤ h199.size := (Nat.le_trans Z0 E199.1)
   have K206 : Keep h0 h199 [] := (K101.ext E199)
   have V207 : Arv Z h199 b199 k1 .byte (2 : Int32) [(.int (own_by c0)), (.int (own_by c1))] (.int 0) := A199
   obtain ⟨T208, X208, e208, st208⟩ := castY X199 hx hZ hown (w77 hw) e199 (Ins.self Ex199) (g := (mkF m 25 #[vI cd, vR a1, vI 1, uS, uS, uS, uS, uS, uS] [(.ref b199)])) rfl rfl (hb hby d13_25)
   refine Go.step st208 ?_
   show Go p.tables e below _ (T208.setTop (mkF m 28 #[vI cd, vR a1, vI 1, uS, uS, uS, uS, uS, uS] [(.ref b199)]))
   have Vl209 : Arv Z h199 b199 k1 .byte (own_len bl) (bl.map Value.int) (.int 0) := by have q0 : (own_e2 c0 c1) = [own_by c0, own_by c1] := (by rw [own_e2a (own_hsL hb0), own_uA (own_ps hb0 (own_hn2z hc18_198).1), own_uA (own_ps hb1 (own_hn2z hc18_198).2)]; try rfl); rw [hL, q0]; exact V207
   obtain ⟨fs, hr, hrun, hended, hW, hsame⟩ := X208.leave (v := some (.ref b199)) (fun h => by rw [Bd.returns] at h; cases h)
   refine ⟨_, _, retOut X208 hx Bd.returns rfl (Or.inr (Or.inr (Or.inr (Or.inr ⟨rfl, rfl, rfl⟩)))) (hb hby d13_28) hr, hrun, hended, _, _, rfl, ?_, ⟨_, rfl⟩, hW, hsame.mono (by decide) (by decide)⟩
   show Qrme8 Z cd a1 bl h0 n0 _ T208.heap _
   rw [e208]
   refine ⟨b199, k1, ?_, N197, K206, Ex199, Vl209, g_b199, sz_b199⟩
   rfl
  ·refine Go.step (fun _ kt => XS.ifYes X197.here hx rfl (pc0 := 18) (pc' := 29) rfl (hb hby d13_18) rfl ((if0 _ _).trans (feq hc18_198).2) (by decide) (by decide) (XS.iconst X197.here hx rfl (hb hby d13_29) (XS.istoreN X197.here hx rfl (hb hby d13_30) rfl (l' := #[vI cd, vR a1, vI 1, vI 0, uS, uS, uS, uS, uS]) rfl (XS.aloadN X197.here hx rfl (hb hby d13_31) rfl rfl kt)))) ?_
   show Go p.tables e below _ (T197.setTop (mkF m 32 #[vI cd, vR a1, vI 1, vI 0, uS, uS, uS, uS, uS] [(.ref a1)]))
   obtain ⟨cl210, Ar210, qa210, Sa210, Na210, Ha210, Ga210⟩ := (id V1)
   refine Go.step (X197.arraylength hx (by rw [eh197]; exact Ar210.1) (State.isArrayOf_alike hZ.alike Ar210.2.1) (g := (mkF m 32 #[vI cd, vR a1, vI 1, vI 0, uS, uS, uS, uS, uS] [(.ref a1)])) rfl rfl (hb hby d13_32)) ?_
   rw [len_of Sa210 Na210]
   obtain ⟨_, _, ⟨T212, L212, k212, n212⟩, -, X212, ⟨Lc212, hQ212, l212, y212, z212⟩, st212⟩ := Jvm.LawKit.callS X197 hx (y := Y11) hown (mvT hZ (w147 hw)) (mvT hZ (w90 hw)) (mvT hZ (w18 hw)) (mvT hZ (w91 hw)) (by decide) (backOf (W := 0) (rmnf2_L l Z a0 hw []   h0 n0 Z0  ) hZ (w91 hw) (w18 hw) (by decide) (by decide)) (g := (mkF m 33 #[vI cd, vR a1, vI 1, vI 0, uS, uS, uS, uS, uS] [(.int 2)])) rfl hml.symm (argsL := [(.int 2)]) (rest := []) (lenOf pd_4 rfl) rfl (Nat.le_of_eq rfl) (hb hby d13_33) (fun _ _ => ⟨rfl, eh197, (by decide : 0 + 1 ≤ _), (by decide : 0 + 4 ≤ _)⟩)
   dsimp only [Pt.U, Pt.locs, Pt.cells, Pt.slots] at X212 l212 y212 z212 st212 hQ212
   subst l212 y212 z212
   obtain ⟨b212r, b212kr, rfl, N212q, Kq212, P213, P214, g_b212r, szq_b212r⟩ := hQ212
   have ne_a1_b212r : a1 ≠ b212r := Nat.ne_of_lt (Nat.lt_of_lt_of_le Eb.lt szq_b212r)
   have sz_b212r : h0.size ≤ b212r := Nat.le_trans K101.1 szq_b212r
   have F215 := (own_sta_keep0 S_ad Kq212)
   have F216 := (own_sta_keep0 S_hi Kq212)
   have F217 := (own_sta_keep0 S_lo Kq212)
   have F218 := (Eb.keep Kq212)
   have F219 := (V1.keep Kq212 (by simp))
   have Z220 : n0 ≤ T212.heap.size := (Nat.le_trans Z0 Kq212.1)
   have K221 : Keep h0 T212.heap [] := (K101.trans Kq212 (by intro x hx; cases hx))
   have N212 := Fr.app N197 N212q
   refine Go.step st212 ?_
   show Go p.tables e below _ (T212.setTop (mkF m 36 #[vI cd, vR a1, vI 1, vI 0, uS, uS, uS, uS, uS] [(.ref b212r)]))
   refine Go.step (fun _ kt => XS.astore X212.here hx rfl (hb hby d13_36) rfl rfl (l' := #[vI cd, vR a1, vI 1, vI 0, vR b212r, uS, uS, uS, uS]) rfl (XS.aloadN X212.here hx rfl (hb hby d13_38) rfl rfl (XS.astore X212.here hx rfl (hb hby d13_39) rfl rfl (l' := #[vI cd, vR a1, vI 1, vI 0, vR b212r, vR a1, uS, uS, uS]) rfl (XS.aload X212.here hx rfl (hb hby d13_41) rfl rfl kt)))) ?_
   show Go p.tables e below _ (T212.setTop (mkF m 43 #[vI cd, vR a1, vI 1, vI 0, vR b212r, vR a1, uS, uS, uS] [(.ref a1)]))
   obtain ⟨cl222, Ar222, qa222, Sa222, Na222, Ha222, Ga222⟩ := (id F219)
   refine Go.step (X212.arraylength hx Ar222.1 (State.isArrayOf_alike hZ.alike Ar222.2.1) (g := (mkF m 43 #[vI cd, vR a1, vI 1, vI 0, vR b212r, vR a1, uS, uS, uS] [(.ref a1)])) rfl rfl (hb hby d13_43)) ?_
   rw [len_of Sa222 Na222]
   show Go p.tables e below _ (T212.setTop (mkF m 44 #[vI cd, vR a1, vI 1, vI 0, vR b212r, vR a1, uS, uS, uS] [(.int 2)]))
   refine Go.step (fun _ kt => XS.istore X212.here hx rfl (hb hby d13_44) rfl (l' := #[vI cd, vR a1, vI 1, vI 0, vR b212r, vR a1, vI 2, uS, uS]) rfl (XS.iconst X212.here hx rfl (hb hby d13_46) (XS.istore X212.here hx rfl (hb hby d13_47) rfl (l' := #[vI cd, vR a1, vI 1, vI 0, vR b212r, vR a1, vI 2, vI 0, uS]) rfl kt))) ?_
   show Go p.tables e below _ (T212.setTop (mkF m 49 #[vI cd, vR a1, vI 1, vI (own_len ([] : List Int32)), vR b212r, vR a1, vI 2, vI 0, uS] []))
   have G124g223 : ∀ (B : List Int32) (s8 : Slot) (hE : (own_e2 c0 c1) = B) (hB : B.length ≤ 4) (h_s8 : s8 = .unset ∨ ∃ y, s8 = vI y) (Tg223 : State) (Hg223 : Heap) (Lg223 : List Loc) (Xg223 : Stand p l e Rm7 s m #[(.int cd), (.ref a1), (.int 1)] below meth c Tg223 Lg223 1 4) (eg223 : Tg223.heap = Hg223) (Ng223 : Fr n0 Lg223) (Zg223 : n0 ≤ Hg223.size) (Kg223 : Keep h0 Hg223 []) (Fg223_0 : Arv Z Hg223 b212r b212kr .byte (4 : Int32) (B.map Value.int) (.int 0)) (Fg223_1 : Exa Z Hg223 b212r "[B"), Go p.tables e below (fun o U' => ∃ v L, o = .returned v ∧ Qrme8 Z cd a1 bl h0 n0 v U'.heap L ∧ FrameEnd s o U' L Rm7.cells Rm7.slots) (Tg223.setTop (mkF m 124 #[vI cd, vR a1, vI 1, vI (own_len B), vR b212r, vR a1, vI 2, vI 2, s8] [])) := by
    intro B s8 hE hB h_s8 Tg223 Hg223 Lg223 Xg223 eg223 Ng223 Zg223 Kg223 Fg223_0 Fg223_1
    show Go p.tables e below _ (Tg223.setTop (mkF m 124 #[vI cd, vR a1, vI 1, vI (own_len B), vR b212r, vR a1, vI 2, vI 2, s8] []))
    refine Go.step (fun _ kt => XS.iloadN Xg223.here hx rfl (hb hby d13_124) rfl (XS.aload Xg223.here hx rfl (hb hby d13_125) rfl rfl kt)) ?_
    obtain ⟨cl224, Ar224, qa224, Sa224, Na224, Ha224, Ga224⟩ := (id Fg223_0)
    refine Go.step (Xg223.arraylength hx (by rw [eg223]; exact Ar224.1) (State.isArrayOf_alike hZ.alike Ar224.2.1) (g := (mkF m 127 #[vI cd, vR a1, vI 1, vI (own_len B), vR b212r, vR a1, vI 2, vI 2, s8] [(.ref b212r), (.int (own_len B))])) rfl rfl (hb hby d13_127)) ?_
    rw [len_of Sa224 Na224]
    show Go p.tables e below _ (Tg223.setTop (mkF m 128 #[vI cd, vR a1, vI 1, vI (own_len B), vR b212r, vR a1, vI 2, vI 2, s8] [(.int 4), (.int (own_len B))]))
    by_cases hc128_225 : (own_len B) = (4 : Int32)
    ·refine Go.step (fun _ kt => XS.icmpNo Xg223.here hx rfl (hb hby d13_128) rfl (teq hc128_225).2 (XS.aload Xg223.here hx rfl (hb hby d13_131) rfl rfl kt)) ?_
     show Go p.tables e below _ (Tg223.setTop (mkF m 133 #[vI cd, vR a1, vI 1, vI (own_len B), vR b212r, vR a1, vI 2, vI 2, s8] [(.ref b212r)]))
     have Vl226 : Arv Z Hg223 b212r b212kr .byte (own_len bl) (bl.map Value.int) (.int 0) := by rw [hL, hE]; have q1 := Fg223_0; rw [← hc128_225] at q1; exact q1
     obtain ⟨fs, hr, hrun, hended, hW, hsame⟩ := Xg223.leave (v := some (.ref b212r)) (fun h => by rw [Bd.returns] at h; cases h)
     refine ⟨_, _, retOut Xg223 hx Bd.returns rfl (Or.inr (Or.inr (Or.inr (Or.inr ⟨rfl, rfl, rfl⟩)))) (hb hby d13_133) hr, hrun, hended, _, _, rfl, ?_, ⟨_, rfl⟩, hW, hsame.mono (by decide) (by decide)⟩
     show Qrme8 Z cd a1 bl h0 n0 _ Tg223.heap _
     rw [eg223]
     refine ⟨b212r, b212kr, ?_, Ng223, Kg223, Fg223_1, Vl226, g_b212r, sz_b212r⟩
     rfl
    ·refine Go.step (fun _ kt => XS.icmpYes Xg223.here hx rfl (pc0 := 128) (pc' := 134) rfl (hb hby d13_128) rfl (feq hc128_225).2 (by decide) (by decide) (XS.aload Xg223.here hx rfl (hb hby d13_134) rfl rfl (XS.iloadN Xg223.here hx rfl (hb hby d13_136) rfl kt))) ?_
     show Go p.tables e below _ (Tg223.setTop (mkF m 137 #[vI cd, vR a1, vI 1, vI (own_len B), vR b212r, vR a1, vI 2, vI 2, s8] [(.int (own_len B)), (.ref b212r)]))
     obtain ⟨_, _, ⟨T228, L228, k228, n228⟩, -, X228, ⟨Lc228, hQ228, l228, y228, z228⟩, st228⟩ := Jvm.LawKit.callS Xg223 hx (y := Y1) hown (mvT hZ (w120 hw)) (mvT hZ (w121 hw)) (mvT hZ (w122 hw)) (mvT hZ (w123 hw)) (by decide) (backOf (W := 0) (rmcopy l Z a0 hw [] b212r b212kr (4 : Int32) B Hg223 n0 Zg223 Fg223_0 (Nat.le_trans hB (by decide)) (own_lt (n := 4) (by decide) hB (by decide) hc128_225)) hZ (w123 hw) (w122 hw) (by decide) (by decide)) (g := (mkF m 137 #[vI cd, vR a1, vI 1, vI (own_len B), vR b212r, vR a1, vI 2, vI 2, s8] [(.int (own_len B)), (.ref b212r)])) rfl hml.symm (argsL := [(.ref b212r), (.int (own_len B))]) (rest := []) (lenOf pd_5 rfl) rfl (Nat.le_of_eq rfl) (hb hby d13_137) (fun _ _ => ⟨rfl, eg223, (by decide : 1 + 1 ≤ _), (by decide : 4 + 6 ≤ _)⟩)
     dsimp only [Pt.U, Pt.locs, Pt.cells, Pt.slots] at X228 l228 y228 z228 st228 hQ228
     subst l228 y228 z228
     obtain ⟨b228r, b228kr, rfl, N228q, Kq228, P229, P230, g_b228r, szq_b228r⟩ := hQ228
     have ne_b212r_b228r : b212r ≠ b228r := Nat.ne_of_lt (Nat.lt_of_lt_of_le Fg223_0.lt szq_b228r)
     have sz_b228r : h0.size ≤ b228r := Nat.le_trans Kg223.1 szq_b228r
     have F231 := (Fg223_0.keep Kq228 (by simp))
     have F232 := (Fg223_1.keep Kq228)
     have Z233 : n0 ≤ T228.heap.size := (Nat.le_trans Zg223 Kq228.1)
     have K234 : Keep h0 T228.heap [] := (Kg223.trans Kq228 (by intro x hx; cases hx))
     have N228 := Fr.app Ng223 N228q
     refine Go.step st228 ?_
     show Go p.tables e below _ (T228.setTop (mkF m 140 #[vI cd, vR a1, vI 1, vI (own_len B), vR b212r, vR a1, vI 2, vI 2, s8] [(.ref b228r)]))
     have Vl235 : Arv Z T228.heap b228r b228kr .byte (own_len bl) (bl.map Value.int) (.int 0) := by rw [hL, hE]; exact P230
     obtain ⟨fs, hr, hrun, hended, hW, hsame⟩ := X228.leave (v := some (.ref b228r)) (fun h => by rw [Bd.returns] at h; cases h)
     refine ⟨_, _, retOut X228 hx Bd.returns rfl (Or.inr (Or.inr (Or.inr (Or.inr ⟨rfl, rfl, rfl⟩)))) (hb hby d13_140) hr, hrun, hended, _, _, rfl, ?_, ⟨_, rfl⟩, hW, hsame.mono (by decide) (by decide)⟩
     show Qrme8 Z cd a1 bl h0 n0 _ T228.heap _
     refine ⟨b228r, b228kr, ?_, N228, K234, P229, Vl235, g_b228r, sz_b228r⟩
     rfl
   have G49g236 : ∀ (bs : List Int32) (s8 : Slot) (hE : (own_e2 c0 c1) = bs ++ own_u c1) (hB : bs.length ≤ 2) (h_s8 : s8 = .unset ∨ ∃ y, s8 = vI y) (Tg236 : State) (Hg236 : Heap) (Lg236 : List Loc) (Xg236 : Stand p l e Rm7 s m #[(.int cd), (.ref a1), (.int 1)] below meth c Tg236 Lg236 1 4) (eg236 : Tg236.heap = Hg236) (Ng236 : Fr n0 Lg236) (Zg236 : n0 ≤ Hg236.size) (Kg236 : Keep h0 Hg236 []) (Fg236_0 : Arv Z Hg236 b212r b212kr .byte (4 : Int32) (bs.map Value.int) (.int 0)) (Fg236_1 : Exa Z Hg236 b212r "[B") (Fg236_2 : Arv Z Hg236 a1 k1 .byte (2 : Int32) [(.int (own_by c0)), (.int (own_by c1))] (.int 0)), Go p.tables e below (fun o U' => ∃ v L, o = .returned v ∧ Qrme8 Z cd a1 bl h0 n0 v U'.heap L ∧ FrameEnd s o U' L Rm7.cells Rm7.slots) (Tg236.setTop (mkF m 49 #[vI cd, vR a1, vI 1, vI (own_len bs), vR b212r, vR a1, vI 2, vI 1, s8] [])) := by
    intro bs s8 hE hB h_s8 Tg236 Hg236 Lg236 Xg236 eg236 Ng236 Zg236 Kg236 Fg236_0 Fg236_1 Fg236_2
    show Go p.tables e below _ (Tg236.setTop (mkF m 49 #[vI cd, vR a1, vI 1, vI (own_len bs), vR b212r, vR a1, vI 2, vI 1, s8] []))
    refine Go.step (fun _ kt => XS.iload Xg236.here hx rfl (hb hby d13_49) rfl (XS.iload Xg236.here hx rfl (hb hby d13_51) rfl (XS.icmpNo Xg236.here hx rfl (hb hby d13_53) rfl (tlt (by decide : (1 : Int32) < (2 : Int32))).2.1 (XS.aload Xg236.here hx rfl (hb hby d13_56) rfl rfl (XS.iload Xg236.here hx rfl (hb hby d13_58) rfl kt))))) ?_
    show Go p.tables e below _ (Tg236.setTop (mkF m 60 #[vI cd, vR a1, vI 1, vI (own_len bs), vR b212r, vR a1, vI 2, vI 1, s8] [(.int 1), (.ref a1)]))
    obtain ⟨cl237, Ar237, qa237, Sa237, Na237, Ha237, Ga237⟩ := (id Fg236_2)
    have hin237 : ¬ ((1 : Int32) < 0 ∨ cl237.slots.size ≤ ((1 : Int32)).toNatClampNeg) := inb_of Sa237 ⟨by decide, by decide⟩
    have hat237 : cl237.slots[((1 : Int32)).toNatClampNeg]? = some (.int (own_by c1)) := at_of Ha237 hin237 rfl
    refine Go.step (Xg236.baloadBytes hx (j := (1 : Int32)) (v := (.int (own_by c1))) (by rw [eg236]; exact Ar237.1) (State.isArrayOf_alike hZ.alike Ar237.2.1) Ar237.2.2 hin237 hat237 (g := (mkF m 60 #[vI cd, vR a1, vI 1, vI (own_len bs), vR b212r, vR a1, vI 2, vI 1, s8] [(.int 1), (.ref a1)])) rfl rfl (hb hby d13_60)) ?_
    show Go p.tables e below _ (Tg236.setTop (mkF m 61 #[vI cd, vR a1, vI 1, vI (own_len bs), vR b212r, vR a1, vI 2, vI 1, s8] [(.int (own_by c1))]))
    refine Go.step (fun _ kt => XS.istore Xg236.here hx rfl (hb hby d13_61) rfl (l' := #[vI cd, vR a1, vI 1, vI (own_len bs), vR b212r, vR a1, vI 2, vI 1, vI (own_by c1)]) (by rcases h_s8 with rfl | ⟨_, rfl⟩ <;> rfl) (XS.iload Xg236.here hx rfl (hb hby d13_63) rfl kt)) ?_
    show Go p.tables e below _ (Tg236.setTop (mkF m 65 #[vI cd, vR a1, vI 1, vI (own_len bs), vR b212r, vR a1, vI 2, vI 1, vI (own_by c1)] [(.int (own_by c1))]))
    by_cases hc65_238 : (own_by c1) < (0 : Int32)
    ·refine Go.step (fun _ kt => XS.ifNo Xg236.here hx rfl (hb hby d13_65) rfl ((if0 _ _).trans (tlt hc65_238).2.1) (XS.aload Xg236.here hx rfl (hb hby d13_68) rfl rfl (XS.iloadN Xg236.here hx rfl (hb hby d13_70) rfl (XS.iinc Xg236.here hx rfl (hb hby d13_71) rfl (l' := #[vI cd, vR a1, vI 1, vI ((own_len bs) + (1 : Int32)), vR b212r, vR a1, vI 2, vI 1, vI (own_by c1)]) rfl (XS.sipush Xg236.here hx rfl (hb hby d13_74) (XS.iload Xg236.here hx rfl (hb hby d13_77) rfl (XS.sipush Xg236.here hx rfl (hb hby d13_79) (XS.iand Xg236.here hx rfl (hb hby d13_82) rfl kt)))))))) ?_
     show Go p.tables e below _ (Tg236.setTop (mkF m 83 #[vI cd, vR a1, vI 1, vI ((own_len bs) + (1 : Int32)), vR b212r, vR a1, vI 2, vI 1, vI (own_by c1)] [(.int ((own_by c1) &&& (255 : Int32))), (.int 192), (.int (own_len bs)), (.ref b212r)]))
     have q239 : ((own_by c1) &&& (255 : Int32)) = c1 := own_l255 hb1
     rw [q239]
     show Go p.tables e below _ (Tg236.setTop (mkF m 83 #[vI cd, vR a1, vI 1, vI ((own_len bs) + (1 : Int32)), vR b212r, vR a1, vI 2, vI 1, vI (own_by c1)] [(.int c1), (.int 192), (.int (own_len bs)), (.ref b212r)]))
     refine Go.step (fun _ kt => XS.bipush Xg236.here hx rfl (hb hby d13_83) (XS.ishr Xg236.here hx rfl (hb hby d13_85) rfl (XS.ior Xg236.here hx rfl (hb hby d13_86) rfl (XS.i2b Xg236.here hx rfl (hb hby d13_87) rfl kt)))) ?_
     show Go p.tables e below _ (Tg236.setTop (mkF m 88 #[vI cd, vR a1, vI 1, vI ((own_len bs) + (1 : Int32)), vR b212r, vR a1, vI 2, vI 1, vI (own_by c1)] [(.int (((192 : Int32) ||| (c1 >>> ((6 : Int32) &&& 31))).toInt8.toInt32)), (.int (own_len bs)), (.ref b212r)]))
     have q240 : (((192 : Int32) ||| (c1 >>> ((6 : Int32) &&& 31))).toInt8.toInt32) = (own_by ((192 : Int32) ||| (c1 >>> ((6 : Int32) &&& 31)))) := rfl
     rw [q240]
     obtain ⟨cl241, Ar241, qa241, Sa241, Na241, Ha241, Ga241⟩ := (id Fg236_0)
     obtain ⟨T241, h241, X241, e241, W241, st241⟩ := stB Xg236 hx hZ eg236 Ar241 (j := (own_len bs)) (own_in Sa241 (n := 4) (by decide) (by decide) (by first | omega | decide | (simp only [List.length_append, List.length_cons, List.length_nil]; omega))) (g := (mkF m 88 #[vI cd, vR a1, vI 1, vI ((own_len bs) + (1 : Int32)), vR b212r, vR a1, vI 2, vI 1, vI (own_by c1)] [(.int (own_by ((192 : Int32) ||| (c1 >>> ((6 : Int32) &&& 31))))), (.int (own_len bs)), (.ref b212r)])) rfl rfl (hb hby d13_88)
     refine Go.step st241 ?_
     have V242 := own_push (y := (own_by ((192 : Int32) ||| (c1 >>> ((6 : Int32) &&& 31))))) Fg236_0 (own_ix (by first | omega | decide | (simp only [List.length_append, List.length_cons, List.length_nil]; omega))).1 W241 (own_bb _) (by first | omega | decide | (simp only [List.length_append, List.length_cons, List.length_nil]; omega))
     have N241 := Fr.snoc X241 Ng236 g_b212r
     have F243 := (Fg236_1.wr W241)
     have F244 := (Fg236_2.other W241 ne_a1_b212r)
     have Z245 : n0 ≤ h241.size := (Nat.le_trans Zg236 (Nat.le_of_eq W241.size.symm))
     have K246 : Keep h0 h241 [] := (Kg236.wr W241 (Or.inr sz_b212r))
     show Go p.tables e below _ (T241.setTop (mkF m 89 #[vI cd, vR a1, vI 1, vI ((own_len bs) + (1 : Int32)), vR b212r, vR a1, vI 2, vI 1, vI (own_by c1)] []))
     rw [own_len1 bs (own_by ((192 : Int32) ||| (c1 >>> ((6 : Int32) &&& 31))))]
     show Go p.tables e below _ (T241.setTop (mkF m 89 #[vI cd, vR a1, vI 1, vI (own_len (bs ++ [(own_by ((192 : Int32) ||| (c1 >>> ((6 : Int32) &&& 31))))])), vR b212r, vR a1, vI 2, vI 1, vI (own_by c1)] []))
     refine Go.step (fun _ kt => XS.aload X241.here hx rfl (hb hby d13_89) rfl rfl (XS.iloadN X241.here hx rfl (hb hby d13_91) rfl (XS.iinc X241.here hx rfl (hb hby d13_92) rfl (l' := #[vI cd, vR a1, vI 1, vI ((own_len (bs ++ [(own_by ((192 : Int32) ||| (c1 >>> ((6 : Int32) &&& 31))))])) + (1 : Int32)), vR b212r, vR a1, vI 2, vI 1, vI (own_by c1)]) rfl (XS.sipush X241.here hx rfl (hb hby d13_95) (XS.iload X241.here hx rfl (hb hby d13_98) rfl (XS.bipush X241.here hx rfl (hb hby d13_100) (XS.iand X241.here hx rfl (hb hby d13_102) rfl kt))))))) ?_
     show Go p.tables e below _ (T241.setTop (mkF m 103 #[vI cd, vR a1, vI 1, vI ((own_len (bs ++ [(own_by ((192 : Int32) ||| (c1 >>> ((6 : Int32) &&& 31))))])) + (1 : Int32)), vR b212r, vR a1, vI 2, vI 1, vI (own_by c1)] [(.int ((own_by c1) &&& (63 : Int32))), (.int 128), (.int (own_len (bs ++ [(own_by ((192 : Int32) ||| (c1 >>> ((6 : Int32) &&& 31))))]))), (.ref b212r)]))
     have q247 : ((own_by c1) &&& (63 : Int32)) = (c1 &&& (63 : Int32)) := own_l63 c1
     rw [q247]
     show Go p.tables e below _ (T241.setTop (mkF m 103 #[vI cd, vR a1, vI 1, vI ((own_len (bs ++ [(own_by ((192 : Int32) ||| (c1 >>> ((6 : Int32) &&& 31))))])) + (1 : Int32)), vR b212r, vR a1, vI 2, vI 1, vI (own_by c1)] [(.int (c1 &&& (63 : Int32))), (.int 128), (.int (own_len (bs ++ [(own_by ((192 : Int32) ||| (c1 >>> ((6 : Int32) &&& 31))))]))), (.ref b212r)]))
     refine Go.step (fun _ kt => XS.ior X241.here hx rfl (hb hby d13_103) rfl (XS.i2b X241.here hx rfl (hb hby d13_104) rfl kt)) ?_
     show Go p.tables e below _ (T241.setTop (mkF m 105 #[vI cd, vR a1, vI 1, vI ((own_len (bs ++ [(own_by ((192 : Int32) ||| (c1 >>> ((6 : Int32) &&& 31))))])) + (1 : Int32)), vR b212r, vR a1, vI 2, vI 1, vI (own_by c1)] [(.int (((128 : Int32) ||| (c1 &&& (63 : Int32))).toInt8.toInt32)), (.int (own_len (bs ++ [(own_by ((192 : Int32) ||| (c1 >>> ((6 : Int32) &&& 31))))]))), (.ref b212r)]))
     have q248 : (((128 : Int32) ||| (c1 &&& (63 : Int32))).toInt8.toInt32) = (own_by ((128 : Int32) ||| (c1 &&& (63 : Int32)))) := rfl
     rw [q248]
     obtain ⟨cl249, Ar249, qa249, Sa249, Na249, Ha249, Ga249⟩ := (id V242)
     obtain ⟨T249, h249, X249, e249, W249, st249⟩ := stB X241 hx hZ e241 Ar249 (j := (own_len (bs ++ [(own_by ((192 : Int32) ||| (c1 >>> ((6 : Int32) &&& 31))))]))) (own_in Sa249 (n := 4) (by decide) (by decide) (by first | omega | decide | (simp only [List.length_append, List.length_cons, List.length_nil]; omega))) (g := (mkF m 105 #[vI cd, vR a1, vI 1, vI ((own_len (bs ++ [(own_by ((192 : Int32) ||| (c1 >>> ((6 : Int32) &&& 31))))])) + (1 : Int32)), vR b212r, vR a1, vI 2, vI 1, vI (own_by c1)] [(.int (own_by ((128 : Int32) ||| (c1 &&& (63 : Int32))))), (.int (own_len (bs ++ [(own_by ((192 : Int32) ||| (c1 >>> ((6 : Int32) &&& 31))))]))), (.ref b212r)])) rfl rfl (hb hby d13_105)
     refine Go.step st249 ?_
     have V250 := own_push (y := (own_by ((128 : Int32) ||| (c1 &&& (63 : Int32))))) V242 (own_ix (by first | omega | decide | (simp only [List.length_append, List.length_cons, List.length_nil]; omega))).1 W249 (own_bb _) (by first | omega | decide | (simp only [List.length_append, List.length_cons, List.length_nil]; omega))
     have N249 := Fr.snoc X249 N241 g_b212r
     have F251 := (F243.wr W249)
     have F252 := (F244.other W249 ne_a1_b212r)
     have Z253 : n0 ≤ h249.size := (Nat.le_trans Z245 (Nat.le_of_eq W249.size.symm))
     have K254 : Keep h0 h249 [] := (K246.wr W249 (Or.inr sz_b212r))
     show Go p.tables e below _ (T249.setTop (mkF m 106 #[vI cd, vR a1, vI 1, vI ((own_len (bs ++ [(own_by ((192 : Int32) ||| (c1 >>> ((6 : Int32) &&& 31))))])) + (1 : Int32)), vR b212r, vR a1, vI 2, vI 1, vI (own_by c1)] []))
     rw [own_len1 (bs ++ [(own_by ((192 : Int32) ||| (c1 >>> ((6 : Int32) &&& 31))))]) (own_by ((128 : Int32) ||| (c1 &&& (63 : Int32))))]
     show Go p.tables e below _ (T249.setTop (mkF m 106 #[vI cd, vR a1, vI 1, vI (own_len ((bs ++ [(own_by ((192 : Int32) ||| (c1 >>> ((6 : Int32) &&& 31))))]) ++ [(own_by ((128 : Int32) ||| (c1 &&& (63 : Int32))))])), vR b212r, vR a1, vI 2, vI 1, vI (own_by c1)] []))
     refine Go.step (fun _ kt => XS.goto X249.here hx rfl (pc0 := 106) (pc' := 118) rfl (hb hby d13_106) (by decide) (by decide) (XS.iinc X249.here hx rfl (hb hby d13_118) rfl (l' := #[vI cd, vR a1, vI 1, vI (own_len ((bs ++ [(own_by ((192 : Int32) ||| (c1 >>> ((6 : Int32) &&& 31))))]) ++ [(own_by ((128 : Int32) ||| (c1 &&& (63 : Int32))))])), vR b212r, vR a1, vI 2, vI ((1 : Int32) + (1 : Int32)), vI (own_by c1)]) rfl kt)) ?_
     show Go p.tables e below _ (T249.setTop (mkF m 121 #[vI cd, vR a1, vI 1, vI (own_len ((bs ++ [(own_by ((192 : Int32) ||| (c1 >>> ((6 : Int32) &&& 31))))]) ++ [(own_by ((128 : Int32) ||| (c1 &&& (63 : Int32))))])), vR b212r, vR a1, vI 2, vI ((1 : Int32) + (1 : Int32)), vI (own_by c1)] []))
     have q255 : ((1 : Int32) + (1 : Int32)) = (2 : Int32) := by decide
     rw [q255]
     show Go p.tables e below _ (T249.setTop (mkF m 121 #[vI cd, vR a1, vI 1, vI (own_len ((bs ++ [(own_by ((192 : Int32) ||| (c1 >>> ((6 : Int32) &&& 31))))]) ++ [(own_by ((128 : Int32) ||| (c1 &&& (63 : Int32))))])), vR b212r, vR a1, vI 2, vI 2, vI (own_by c1)] []))
     refine Go.step (fun _ kt => XS.goto X249.here hx rfl (pc0 := 121) (pc' := 49) rfl (hb hby d13_121) (by decide) (by decide) (XS.iload X249.here hx rfl (hb hby d13_49) rfl (XS.iload X249.here hx rfl (hb hby d13_51) rfl (XS.icmpYes X249.here hx rfl (pc0 := 53) (pc' := 124) rfl (hb hby d13_53) rfl (flt (by decide : ¬ ((2 : Int32) < (2 : Int32)))).2.1 (by decide) (by decide) kt)))) ?_
     show Go p.tables e below _ (T249.setTop (mkF m 124 #[vI cd, vR a1, vI 1, vI (own_len ((bs ++ [(own_by ((192 : Int32) ||| (c1 >>> ((6 : Int32) &&& 31))))]) ++ [(own_by ((128 : Int32) ||| (c1 &&& (63 : Int32))))])), vR b212r, vR a1, vI 2, vI 2, vI (own_by c1)] []))
     exact G124g223 _ _ (by rw [hE, own_uB (own_ng hb1 hc65_238).1 (own_ng hb1 hc65_238).2]; try simp) (by first | omega | decide | (simp only [List.length_append, List.length_cons, List.length_nil]; omega)) (Or.inr ⟨_, rfl⟩) _ _ _ (X249.more (by decide) (by decide)) e249 N249 Z253 K254 V250 F251
    ·refine Go.step (fun _ kt => XS.ifYes Xg236.here hx rfl (pc0 := 65) (pc' := 109) rfl (hb hby d13_65) rfl ((if0 _ _).trans (flt hc65_238).2.1) (by decide) (by decide) (XS.aload Xg236.here hx rfl (hb hby d13_109) rfl rfl (XS.iloadN Xg236.here hx rfl (hb hby d13_111) rfl (XS.iinc Xg236.here hx rfl (hb hby d13_112) rfl (l' := #[vI cd, vR a1, vI 1, vI ((own_len bs) + (1 : Int32)), vR b212r, vR a1, vI 2, vI 1, vI (own_by c1)]) rfl (XS.iload Xg236.here hx rfl (hb hby d13_115) rfl kt))))) ?_
     show Go p.tables e below _ (Tg236.setTop (mkF m 117 #[vI cd, vR a1, vI 1, vI ((own_len bs) + (1 : Int32)), vR b212r, vR a1, vI 2, vI 1, vI (own_by c1)] [(.int (own_by c1)), (.int (own_len bs)), (.ref b212r)]))
     obtain ⟨cl256, Ar256, qa256, Sa256, Na256, Ha256, Ga256⟩ := (id Fg236_0)
     obtain ⟨T256, h256, X256, e256, W256, st256⟩ := stB Xg236 hx hZ eg236 Ar256 (j := (own_len bs)) (own_in Sa256 (n := 4) (by decide) (by decide) (by first | omega | decide | (simp only [List.length_append, List.length_cons, List.length_nil]; omega))) (g := (mkF m 117 #[vI cd, vR a1, vI 1, vI ((own_len bs) + (1 : Int32)), vR b212r, vR a1, vI 2, vI 1, vI (own_by c1)] [(.int (own_by c1)), (.int (own_len bs)), (.ref b212r)])) rfl rfl (hb hby d13_117)
     refine Go.step st256 ?_
     have V257 := own_push (y := (own_by c1)) Fg236_0 (own_ix (by first | omega | decide | (simp only [List.length_append, List.length_cons, List.length_nil]; omega))).1 W256 (own_bb _) (by first | omega | decide | (simp only [List.length_append, List.length_cons, List.length_nil]; omega))
     have N256 := Fr.snoc X256 Ng236 g_b212r
     have F258 := (Fg236_1.wr W256)
     have F259 := (Fg236_2.other W256 ne_a1_b212r)
     have Z260 : n0 ≤ h256.size := (Nat.le_trans Zg236 (Nat.le_of_eq W256.size.symm))
     have K261 : Keep h0 h256 [] := (Kg236.wr W256 (Or.inr sz_b212r))
     show Go p.tables e below _ (T256.setTop (mkF m 118 #[vI cd, vR a1, vI 1, vI ((own_len bs) + (1 : Int32)), vR b212r, vR a1, vI 2, vI 1, vI (own_by c1)] []))
     rw [own_len1 bs (own_by c1)]
     show Go p.tables e below _ (T256.setTop (mkF m 118 #[vI cd, vR a1, vI 1, vI (own_len (bs ++ [(own_by c1)])), vR b212r, vR a1, vI 2, vI 1, vI (own_by c1)] []))
     refine Go.step (fun _ kt => XS.iinc X256.here hx rfl (hb hby d13_118) rfl (l' := #[vI cd, vR a1, vI 1, vI (own_len (bs ++ [(own_by c1)])), vR b212r, vR a1, vI 2, vI ((1 : Int32) + (1 : Int32)), vI (own_by c1)]) rfl kt) ?_
     show Go p.tables e below _ (T256.setTop (mkF m 121 #[vI cd, vR a1, vI 1, vI (own_len (bs ++ [(own_by c1)])), vR b212r, vR a1, vI 2, vI ((1 : Int32) + (1 : Int32)), vI (own_by c1)] []))
     have q262 : ((1 : Int32) + (1 : Int32)) = (2 : Int32) := by decide
     rw [q262]
     show Go p.tables e below _ (T256.setTop (mkF m 121 #[vI cd, vR a1, vI 1, vI (own_len (bs ++ [(own_by c1)])), vR b212r, vR a1, vI 2, vI 2, vI (own_by c1)] []))
     refine Go.step (fun _ kt => XS.goto X256.here hx rfl (pc0 := 121) (pc' := 49) rfl (hb hby d13_121) (by decide) (by decide) (XS.iload X256.here hx rfl (hb hby d13_49) rfl (XS.iload X256.here hx rfl (hb hby d13_51) rfl (XS.icmpYes X256.here hx rfl (pc0 := 53) (pc' := 124) rfl (hb hby d13_53) rfl (flt (by decide : ¬ ((2 : Int32) < (2 : Int32)))).2.1 (by decide) (by decide) kt)))) ?_
     show Go p.tables e below _ (T256.setTop (mkF m 124 #[vI cd, vR a1, vI 1, vI (own_len (bs ++ [(own_by c1)])), vR b212r, vR a1, vI 2, vI 2, vI (own_by c1)] []))
     exact G124g223 _ _ (by rw [hE, own_uA (own_ps hb1 hc65_238)]; try simp) (by first | omega | decide | (simp only [List.length_append, List.length_cons, List.length_nil]; omega)) (Or.inr ⟨_, rfl⟩) _ _ _ (X256.more (by decide) (by decide)) e256 N256 Z260 K261 V257 F258
   refine Go.step (fun _ kt => XS.iload X212.here hx rfl (hb hby d13_49) rfl (XS.iload X212.here hx rfl (hb hby d13_51) rfl (XS.icmpNo X212.here hx rfl (hb hby d13_53) rfl (tlt (by decide : (0 : Int32) < (2 : Int32))).2.1 (XS.aload X212.here hx rfl (hb hby d13_56) rfl rfl (XS.iload X212.here hx rfl (hb hby d13_58) rfl kt))))) ?_
   show Go p.tables e below _ (T212.setTop (mkF m 60 #[vI cd, vR a1, vI 1, vI (own_len ([] : List Int32)), vR b212r, vR a1, vI 2, vI 0, uS] [(.int 0), (.ref a1)]))
   obtain ⟨cl263, Ar263, qa263, Sa263, Na263, Ha263, Ga263⟩ := (id F219)
   have hin263 : ¬ ((0 : Int32) < 0 ∨ cl263.slots.size ≤ ((0 : Int32)).toNatClampNeg) := inb_of Sa263 ⟨by decide, by decide⟩
   have hat263 : cl263.slots[((0 : Int32)).toNatClampNeg]? = some (.int (own_by c0)) := at_of Ha263 hin263 rfl
   refine Go.step (X212.baloadBytes hx (j := (0 : Int32)) (v := (.int (own_by c0))) Ar263.1 (State.isArrayOf_alike hZ.alike Ar263.2.1) Ar263.2.2 hin263 hat263 (g := (mkF m 60 #[vI cd, vR a1, vI 1, vI (own_len ([] : List Int32)), vR b212r, vR a1, vI 2, vI 0, uS] [(.int 0), (.ref a1)])) rfl rfl (hb hby d13_60)) ?_
   show Go p.tables e below _ (T212.setTop (mkF m 61 #[vI cd, vR a1, vI 1, vI (own_len ([] : List Int32)), vR b212r, vR a1, vI 2, vI 0, uS] [(.int (own_by c0))]))
   refine Go.step (fun _ kt => XS.istore X212.here hx rfl (hb hby d13_61) rfl (l' := #[vI cd, vR a1, vI 1, vI (own_len ([] : List Int32)), vR b212r, vR a1, vI 2, vI 0, vI (own_by c0)]) rfl (XS.iload X212.here hx rfl (hb hby d13_63) rfl kt)) ?_
   show Go p.tables e below _ (T212.setTop (mkF m 65 #[vI cd, vR a1, vI 1, vI (own_len ([] : List Int32)), vR b212r, vR a1, vI 2, vI 0, vI (own_by c0)] [(.int (own_by c0))]))
   by_cases hc65_264 : (own_by c0) < (0 : Int32)
   ·refine Go.step (fun _ kt => XS.ifNo X212.here hx rfl (hb hby d13_65) rfl ((if0 _ _).trans (tlt hc65_264).2.1) (XS.aload X212.here hx rfl (hb hby d13_68) rfl rfl (XS.iloadN X212.here hx rfl (hb hby d13_70) rfl (XS.iinc X212.here hx rfl (hb hby d13_71) rfl (l' := #[vI cd, vR a1, vI 1, vI ((own_len ([] : List Int32)) + (1 : Int32)), vR b212r, vR a1, vI 2, vI 0, vI (own_by c0)]) rfl (XS.sipush X212.here hx rfl (hb hby d13_74) (XS.iload X212.here hx rfl (hb hby d13_77) rfl (XS.sipush X212.here hx rfl (hb hby d13_79) (XS.iand X212.here hx rfl (hb hby d13_82) rfl kt)))))))) ?_
    show Go p.tables e below _ (T212.setTop (mkF m 83 #[vI cd, vR a1, vI 1, vI ((own_len ([] : List Int32)) + (1 : Int32)), vR b212r, vR a1, vI 2, vI 0, vI (own_by c0)] [(.int ((own_by c0) &&& (255 : Int32))), (.int 192), (.int (own_len ([] : List Int32))), (.ref b212r)]))
    have q265 : ((own_by c0) &&& (255 : Int32)) = c0 := own_l255 hb0
    rw [q265]
    show Go p.tables e below _ (T212.setTop (mkF m 83 #[vI cd, vR a1, vI 1, vI ((own_len ([] : List Int32)) + (1 : Int32)), vR b212r, vR a1, vI 2, vI 0, vI (own_by c0)] [(.int c0), (.int 192), (.int (own_len ([] : List Int32))), (.ref b212r)]))
    refine Go.step (fun _ kt => XS.bipush X212.here hx rfl (hb hby d13_83) (XS.ishr X212.here hx rfl (hb hby d13_85) rfl (XS.ior X212.here hx rfl (hb hby d13_86) rfl (XS.i2b X212.here hx rfl (hb hby d13_87) rfl kt)))) ?_
    show Go p.tables e below _ (T212.setTop (mkF m 88 #[vI cd, vR a1, vI 1, vI ((own_len ([] : List Int32)) + (1 : Int32)), vR b212r, vR a1, vI 2, vI 0, vI (own_by c0)] [(.int (((192 : Int32) ||| (c0 >>> ((6 : Int32) &&& 31))).toInt8.toInt32)), (.int (own_len ([] : List Int32))), (.ref b212r)]))
    have q266 : (((192 : Int32) ||| (c0 >>> ((6 : Int32) &&& 31))).toInt8.toInt32) = (own_by ((192 : Int32) ||| (c0 >>> ((6 : Int32) &&& 31)))) := rfl
    rw [q266]
    obtain ⟨cl267, Ar267, qa267, Sa267, Na267, Ha267, Ga267⟩ := (id P214)
    obtain ⟨T267, h267, X267, e267, W267, st267⟩ := stB X212 hx hZ rfl Ar267 (j := (own_len ([] : List Int32))) (own_in Sa267 (n := 4) (by decide) (by decide) (by first | omega | decide | (simp only [List.length_append, List.length_cons, List.length_nil]; omega))) (g := (mkF m 88 #[vI cd, vR a1, vI 1, vI ((own_len ([] : List Int32)) + (1 : Int32)), vR b212r, vR a1, vI 2, vI 0, vI (own_by c0)] [(.int (own_by ((192 : Int32) ||| (c0 >>> ((6 : Int32) &&& 31))))), (.int (own_len ([] : List Int32))), (.ref b212r)])) rfl rfl (hb hby d13_88)
    refine Go.step st267 ?_
    have V268 := own_push (y := (own_by ((192 : Int32) ||| (c0 >>> ((6 : Int32) &&& 31))))) P214 (own_ix (by first | omega | decide | (simp only [List.length_append, List.length_cons, List.length_nil]; omega))).1 W267 (own_bb _) (by first | omega | decide | (simp only [List.length_append, List.length_cons, List.length_nil]; omega))
    have N267 := Fr.snoc X267 N212 g_b212r
    have F269 := (F215.wr W267)
    have F270 := (F216.wr W267)
    have F271 := (F217.wr W267)
    have F272 := (F218.wr W267)
    have F273 := (F219.other W267 ne_a1_b212r)
    have F274 := (P213.wr W267)
    have Z275 : n0 ≤ h267.size := (Nat.le_trans Z220 (Nat.le_of_eq W267.size.symm))
    have K276 : Keep h0 h267 [] := (K221.wr W267 (Or.inr sz_b212r))
    show Go p.tables e below _ (T267.setTop (mkF m 89 #[vI cd, vR a1, vI 1, vI ((own_len ([] : List Int32)) + (1 : Int32)), vR b212r, vR a1, vI 2, vI 0, vI (own_by c0)] []))
    rw [own_len1 ([] : List Int32) (own_by ((192 : Int32) ||| (c0 >>> ((6 : Int32) &&& 31))))]
    show Go p.tables e below _ (T267.setTop (mkF m 89 #[vI cd, vR a1, vI 1, vI (own_len (([] : List Int32) ++ [(own_by ((192 : Int32) ||| (c0 >>> ((6 : Int32) &&& 31))))])), vR b212r, vR a1, vI 2, vI 0, vI (own_by c0)] []))
    refine Go.step (fun _ kt => XS.aload X267.here hx rfl (hb hby d13_89) rfl rfl (XS.iloadN X267.here hx rfl (hb hby d13_91) rfl (XS.iinc X267.here hx rfl (hb hby d13_92) rfl (l' := #[vI cd, vR a1, vI 1, vI ((own_len (([] : List Int32) ++ [(own_by ((192 : Int32) ||| (c0 >>> ((6 : Int32) &&& 31))))])) + (1 : Int32)), vR b212r, vR a1, vI 2, vI 0, vI (own_by c0)]) rfl (XS.sipush X267.here hx rfl (hb hby d13_95) (XS.iload X267.here hx rfl (hb hby d13_98) rfl (XS.bipush X267.here hx rfl (hb hby d13_100) (XS.iand X267.here hx rfl (hb hby d13_102) rfl kt))))))) ?_
    show Go p.tables e below _ (T267.setTop (mkF m 103 #[vI cd, vR a1, vI 1, vI ((own_len (([] : List Int32) ++ [(own_by ((192 : Int32) ||| (c0 >>> ((6 : Int32) &&& 31))))])) + (1 : Int32)), vR b212r, vR a1, vI 2, vI 0, vI (own_by c0)] [(.int ((own_by c0) &&& (63 : Int32))), (.int 128), (.int (own_len (([] : List Int32) ++ [(own_by ((192 : Int32) ||| (c0 >>> ((6 : Int32) &&& 31))))]))), (.ref b212r)]))
    have q277 : ((own_by c0) &&& (63 : Int32)) = (c0 &&& (63 : Int32)) := own_l63 c0
    rw [q277]
    show Go p.tables e below _ (T267.setTop (mkF m 103 #[vI cd, vR a1, vI 1, vI ((own_len (([] : List Int32) ++ [(own_by ((192 : Int32) ||| (c0 >>> ((6 : Int32) &&& 31))))])) + (1 : Int32)), vR b212r, vR a1, vI 2, vI 0, vI (own_by c0)] [(.int (c0 &&& (63 : Int32))), (.int 128), (.int (own_len (([] : List Int32) ++ [(own_by ((192 : Int32) ||| (c0 >>> ((6 : Int32) &&& 31))))]))), (.ref b212r)]))
    refine Go.step (fun _ kt => XS.ior X267.here hx rfl (hb hby d13_103) rfl (XS.i2b X267.here hx rfl (hb hby d13_104) rfl kt)) ?_
    show Go p.tables e below _ (T267.setTop (mkF m 105 #[vI cd, vR a1, vI 1, vI ((own_len (([] : List Int32) ++ [(own_by ((192 : Int32) ||| (c0 >>> ((6 : Int32) &&& 31))))])) + (1 : Int32)), vR b212r, vR a1, vI 2, vI 0, vI (own_by c0)] [(.int (((128 : Int32) ||| (c0 &&& (63 : Int32))).toInt8.toInt32)), (.int (own_len (([] : List Int32) ++ [(own_by ((192 : Int32) ||| (c0 >>> ((6 : Int32) &&& 31))))]))), (.ref b212r)]))
    have q278 : (((128 : Int32) ||| (c0 &&& (63 : Int32))).toInt8.toInt32) = (own_by ((128 : Int32) ||| (c0 &&& (63 : Int32)))) := rfl
    rw [q278]
    obtain ⟨cl279, Ar279, qa279, Sa279, Na279, Ha279, Ga279⟩ := (id V268)
    obtain ⟨T279, h279, X279, e279, W279, st279⟩ := stB X267 hx hZ e267 Ar279 (j := (own_len (([] : List Int32) ++ [(own_by ((192 : Int32) ||| (c0 >>> ((6 : Int32) &&& 31))))]))) (own_in Sa279 (n := 4) (by decide) (by decide) (by first | omega | decide | (simp only [List.length_append, List.length_cons, List.length_nil]; omega))) (g := (mkF m 105 #[vI cd, vR a1, vI 1, vI ((own_len (([] : List Int32) ++ [(own_by ((192 : Int32) ||| (c0 >>> ((6 : Int32) &&& 31))))])) + (1 : Int32)), vR b212r, vR a1, vI 2, vI 0, vI (own_by c0)] [(.int (own_by ((128 : Int32) ||| (c0 &&& (63 : Int32))))), (.int (own_len (([] : List Int32) ++ [(own_by ((192 : Int32) ||| (c0 >>> ((6 : Int32) &&& 31))))]))), (.ref b212r)])) rfl rfl (hb hby d13_105)
    refine Go.step st279 ?_
    have V280 := own_push (y := (own_by ((128 : Int32) ||| (c0 &&& (63 : Int32))))) V268 (own_ix (by first | omega | decide | (simp only [List.length_append, List.length_cons, List.length_nil]; omega))).1 W279 (own_bb _) (by first | omega | decide | (simp only [List.length_append, List.length_cons, List.length_nil]; omega))
    have N279 := Fr.snoc X279 N267 g_b212r
    have F281 := (F269.wr W279)
    have F282 := (F270.wr W279)
    have F283 := (F271.wr W279)
    have F284 := (F272.wr W279)
    have F285 := (F273.other W279 ne_a1_b212r)
    have F286 := (F274.wr W279)
    have Z287 : n0 ≤ h279.size := (Nat.le_trans Z275 (Nat.le_of_eq W279.size.symm))
    have K288 : Keep h0 h279 [] := (K276.wr W279 (Or.inr sz_b212r))
    show Go p.tables e below _ (T279.setTop (mkF m 106 #[vI cd, vR a1, vI 1, vI ((own_len (([] : List Int32) ++ [(own_by ((192 : Int32) ||| (c0 >>> ((6 : Int32) &&& 31))))])) + (1 : Int32)), vR b212r, vR a1, vI 2, vI 0, vI (own_by c0)] []))
    rw [own_len1 (([] : List Int32) ++ [(own_by ((192 : Int32) ||| (c0 >>> ((6 : Int32) &&& 31))))]) (own_by ((128 : Int32) ||| (c0 &&& (63 : Int32))))]
    show Go p.tables e below _ (T279.setTop (mkF m 106 #[vI cd, vR a1, vI 1, vI (own_len ((([] : List Int32) ++ [(own_by ((192 : Int32) ||| (c0 >>> ((6 : Int32) &&& 31))))]) ++ [(own_by ((128 : Int32) ||| (c0 &&& (63 : Int32))))])), vR b212r, vR a1, vI 2, vI 0, vI (own_by c0)] []))
    refine Go.step (fun _ kt => XS.goto X279.here hx rfl (pc0 := 106) (pc' := 118) rfl (hb hby d13_106) (by decide) (by decide) (XS.iinc X279.here hx rfl (hb hby d13_118) rfl (l' := #[vI cd, vR a1, vI 1, vI (own_len ((([] : List Int32) ++ [(own_by ((192 : Int32) ||| (c0 >>> ((6 : Int32) &&& 31))))]) ++ [(own_by ((128 : Int32) ||| (c0 &&& (63 : Int32))))])), vR b212r, vR a1, vI 2, vI ((0 : Int32) + (1 : Int32)), vI (own_by c0)]) rfl kt)) ?_
    show Go p.tables e below _ (T279.setTop (mkF m 121 #[vI cd, vR a1, vI 1, vI (own_len ((([] : List Int32) ++ [(own_by ((192 : Int32) ||| (c0 >>> ((6 : Int32) &&& 31))))]) ++ [(own_by ((128 : Int32) ||| (c0 &&& (63 : Int32))))])), vR b212r, vR a1, vI 2, vI ((0 : Int32) + (1 : Int32)), vI (own_by c0)] []))
    have q289 : ((0 : Int32) + (1 : Int32)) = (1 : Int32) := by decide
    rw [q289]
    show Go p.tables e below _ (T279.setTop (mkF m 121 #[vI cd, vR a1, vI 1, vI (own_len ((([] : List Int32) ++ [(own_by ((192 : Int32) ||| (c0 >>> ((6 : Int32) &&& 31))))]) ++ [(own_by ((128 : Int32) ||| (c0 &&& (63 : Int32))))])), vR b212r, vR a1, vI 2, vI 1, vI (own_by c0)] []))
    refine Go.step (fun _ kt => XS.goto X279.here hx rfl (pc0 := 121) (pc' := 49) rfl (hb hby d13_121) (by decide) (by decide) kt) ?_
    show Go p.tables e below _ (T279.setTop (mkF m 49 #[vI cd, vR a1, vI 1, vI (own_len ((([] : List Int32) ++ [(own_by ((192 : Int32) ||| (c0 >>> ((6 : Int32) &&& 31))))]) ++ [(own_by ((128 : Int32) ||| (c0 &&& (63 : Int32))))])), vR b212r, vR a1, vI 2, vI 1, vI (own_by c0)] []))
    exact G49g236 _ _ (by rw [own_e2a (own_hsL hb0), own_uB (own_ng hb0 hc65_264).1 (own_ng hb0 hc65_264).2]; try rfl) (by first | omega | decide | (simp only [List.length_append, List.length_cons, List.length_nil]; omega)) (Or.inr ⟨_, rfl⟩) _ _ _ (X279.more (by decide) (by decide)) e279 N279 Z287 K288 V280 F286 F285
   ·refine Go.step (fun _ kt => XS.ifYes X212.here hx rfl (pc0 := 65) (pc' := 109) rfl (hb hby d13_65) rfl ((if0 _ _).trans (flt hc65_264).2.1) (by decide) (by decide) (XS.aload X212.here hx rfl (hb hby d13_109) rfl rfl (XS.iloadN X212.here hx rfl (hb hby d13_111) rfl (XS.iinc X212.here hx rfl (hb hby d13_112) rfl (l' := #[vI cd, vR a1, vI 1, vI ((own_len ([] : List Int32)) + (1 : Int32)), vR b212r, vR a1, vI 2, vI 0, vI (own_by c0)]) rfl (XS.iload X212.here hx rfl (hb hby d13_115) rfl kt))))) ?_
    show Go p.tables e below _ (T212.setTop (mkF m 117 #[vI cd, vR a1, vI 1, vI ((own_len ([] : List Int32)) + (1 : Int32)), vR b212r, vR a1, vI 2, vI 0, vI (own_by c0)] [(.int (own_by c0)), (.int (own_len ([] : List Int32))), (.ref b212r)]))
    obtain ⟨cl290, Ar290, qa290, Sa290, Na290, Ha290, Ga290⟩ := (id P214)
    obtain ⟨T290, h290, X290, e290, W290, st290⟩ := stB X212 hx hZ rfl Ar290 (j := (own_len ([] : List Int32))) (own_in Sa290 (n := 4) (by decide) (by decide) (by first | omega | decide | (simp only [List.length_append, List.length_cons, List.length_nil]; omega))) (g := (mkF m 117 #[vI cd, vR a1, vI 1, vI ((own_len ([] : List Int32)) + (1 : Int32)), vR b212r, vR a1, vI 2, vI 0, vI (own_by c0)] [(.int (own_by c0)), (.int (own_len ([] : List Int32))), (.ref b212r)])) rfl rfl (hb hby d13_117)
    refine Go.step st290 ?_
    have V291 := own_push (y := (own_by c0)) P214 (own_ix (by first | omega | decide | (simp only [List.length_append, List.length_cons, List.length_nil]; omega))).1 W290 (own_bb _) (by first | omega | decide | (simp only [List.length_append, List.length_cons, List.length_nil]; omega))
    have N290 := Fr.snoc X290 N212 g_b212r
    have F292 := (F215.wr W290)
    have F293 := (F216.wr W290)
    have F294 := (F217.wr W290)
    have F295 := (F218.wr W290)
    have F296 := (F219.other W290 ne_a1_b212r)
    have F297 := (P213.wr W290)
    have Z298 : n0 ≤ h290.size := (Nat.le_trans Z220 (Nat.le_of_eq W290.size.symm))
    have K299 : Keep h0 h290 [] := (K221.wr W290 (Or.inr sz_b212r))
    show Go p.tables e below _ (T290.setTop (mkF m 118 #[vI cd, vR a1, vI 1, vI ((own_len ([] : List Int32)) + (1 : Int32)), vR b212r, vR a1, vI 2, vI 0, vI (own_by c0)] []))
    rw [own_len1 ([] : List Int32) (own_by c0)]
    show Go p.tables e below _ (T290.setTop (mkF m 118 #[vI cd, vR a1, vI 1, vI (own_len (([] : List Int32) ++ [(own_by c0)])), vR b212r, vR a1, vI 2, vI 0, vI (own_by c0)] []))
    refine Go.step (fun _ kt => XS.iinc X290.here hx rfl (hb hby d13_118) rfl (l' := #[vI cd, vR a1, vI 1, vI (own_len (([] : List Int32) ++ [(own_by c0)])), vR b212r, vR a1, vI 2, vI ((0 : Int32) + (1 : Int32)), vI (own_by c0)]) rfl kt) ?_
    show Go p.tables e below _ (T290.setTop (mkF m 121 #[vI cd, vR a1, vI 1, vI (own_len (([] : List Int32) ++ [(own_by c0)])), vR b212r, vR a1, vI 2, vI ((0 : Int32) + (1 : Int32)), vI (own_by c0)] []))
    have q300 : ((0 : Int32) + (1 : Int32)) = (1 : Int32) := by decide
    rw [q300]
    show Go p.tables e below _ (T290.setTop (mkF m 121 #[vI cd, vR a1, vI 1, vI (own_len (([] : List Int32) ++ [(own_by c0)])), vR b212r, vR a1, vI 2, vI 1, vI (own_by c0)] []))
    refine Go.step (fun _ kt => XS.goto X290.here hx rfl (pc0 := 121) (pc' := 49) rfl (hb hby d13_121) (by decide) (by decide) kt) ?_
    show Go p.tables e below _ (T290.setTop (mkF m 49 #[vI cd, vR a1, vI 1, vI (own_len (([] : List Int32) ++ [(own_by c0)])), vR b212r, vR a1, vI 2, vI 1, vI (own_by c0)] []))
    exact G49g236 _ _ (by rw [own_e2a (own_hsL hb0), own_uA (own_ps hb0 hc65_264)]; try rfl) (by first | omega | decide | (simp only [List.length_append, List.length_cons, List.length_nil]; omega)) (Or.inr ⟨_, rfl⟩) _ _ _ (X290.more (by decide) (by decide)) e290 N290 Z298 K299 V291 F297 F296
 ·show Go p.tables e below _ (s₁.setTop (mkF m 0 #[vI cd, vR a1, vI 1, uS, uS, uS, uS, uS, uS] []))
  refine Go.step (fun _ kt => XS.iloadN X0.here hx rfl (hb hby d13_0) rfl (XS.iconst X0.here hx rfl (hb hby d13_1) (XS.icmpNo X0.here hx rfl (hb hby d13_2) rfl (teq hcd).2 (XS.aloadN X0.here hx rfl (hb hby d13_5) rfl rfl (XS.iloadN X0.here hx rfl (hb hby d13_6) rfl kt))))) ?_
  show Go p.tables e below _ (s₁.setTop (mkF m 7 #[vI cd, vR a1, vI 1, uS, uS, uS, uS, uS, uS] [(.int 1), (.ref a1)]))
  obtain ⟨_, _, ⟨T302, L302, k302, n302⟩, -, X302, ⟨Lc302, hQ302, l302, y302, z302⟩, st302⟩ := Jvm.LawKit.callS X0 hx (y := Y13) hown (mvT hZ (w106 hw)) (mvT hZ (w107 hw)) (mvT hZ (w4 hw)) (mvT hZ (w108 hw)) (by decide) (backOf (W := 0) (rme161 l Z a0 hw [] a1 k1 c0 h0 n0 Z0 V1 S_ad S_hi S_lo hR0) hZ (w108 hw) (w4 hw) (by decide) (by decide)) (g := (mkF m 7 #[vI cd, vR a1, vI 1, uS, uS, uS, uS, uS, uS] [(.int 1), (.ref a1)])) rfl hml.symm (argsL := [(.ref a1), (.int 1)]) (rest := []) (lenOf pd_8 rfl) rfl (Nat.le_of_eq rfl) (hb hby d13_7) (fun _ _ => ⟨rfl, e0, (by decide : 0 + 2 ≤ _), (by decide : 0 + 9 ≤ _)⟩)
  dsimp only [Pt.U, Pt.locs, Pt.cells, Pt.slots] at X302 l302 y302 z302 st302 hQ302
  subst l302 y302 z302
  obtain ⟨b302r, b302kr, rfl, N302q, Kq302, P303, P304, g_b302r, szq_b302r⟩ := hQ302
  have ne_a1_b302r : a1 ≠ b302r := Nat.ne_of_lt (Nat.lt_of_lt_of_le Eb.lt szq_b302r)
  have sz_b302r : h0.size ≤ b302r := Nat.le_trans K101.1 szq_b302r
  have F305 := (own_sta_keep0 S_ad Kq302)
  have F306 := (own_sta_keep0 S_hi Kq302)
  have F307 := (own_sta_keep0 S_lo Kq302)
  have F308 := (Eb.keep Kq302)
  have F309 := (V1.keep Kq302 (by simp))
  have Z310 : n0 ≤ T302.heap.size := (Nat.le_trans Z0 Kq302.1)
  have K311 : Keep h0 T302.heap [] := (K101.trans Kq302 (by intro x hx; cases hx))
  have N302 := Fr.app N0 N302q
  refine Go.step st302 ?_
  show Go p.tables e below _ (T302.setTop (mkF m 10 #[vI cd, vR a1, vI 1, uS, uS, uS, uS, uS, uS] [(.ref b302r)]))
  have Vl312 : Arv Z T302.heap b302r b302kr .byte (own_len bl) (bl.map Value.int) (.int 0) := by rw [hL]; exact P304
  obtain ⟨fs, hr, hrun, hended, hW, hsame⟩ := X302.leave (v := some (.ref b302r)) (fun h => by rw [Bd.returns] at h; cases h)
  refine ⟨_, _, retOut X302 hx Bd.returns rfl (Or.inr (Or.inr (Or.inr (Or.inr ⟨rfl, rfl, rfl⟩)))) (hb hby d13_10) hr, hrun, hended, _, _, rfl, ?_, ⟨_, rfl⟩, hW, hsame.mono (by decide) (by decide)⟩
  show Qrme8 Z cd a1 bl h0 n0 _ T302.heap _
  refine ⟨b302r, b302kr, ?_, N302, K311, P303, Vl312, g_b302r, sz_b302r⟩
  rfl
 ·show Go p.tables e below _ (s₁.setTop (mkF m 0 #[vI cd, vR a1, vI 1, uS, uS, uS, uS, uS, uS] []))
  refine Go.step (fun _ kt => XS.iloadN X0.here hx rfl (hb hby d13_0) rfl (XS.iconst X0.here hx rfl (hb hby d13_1) (XS.icmpNo X0.here hx rfl (hb hby d13_2) rfl (teq hcd).2 (XS.aloadN X0.here hx rfl (hb hby d13_5) rfl rfl (XS.iloadN X0.here hx rfl (hb hby d13_6) rfl kt))))) ?_
  show Go p.tables e below _ (s₁.setTop (mkF m 7 #[vI cd, vR a1, vI 1, uS, uS, uS, uS, uS, uS] [(.int 1), (.ref a1)]))
  obtain ⟨_, _, ⟨T314, L314, k314, n314⟩, -, X314, ⟨Lc314, hQ314, l314, y314, z314⟩, st314⟩ := Jvm.LawKit.callS X0 hx (y := Y13) hown (mvT hZ (w106 hw)) (mvT hZ (w107 hw)) (mvT hZ (w4 hw)) (mvT hZ (w108 hw)) (by decide) (backOf (W := 0) (rme162 l Z a0 hw [] a1 k1 c0 c1 h0 n0 Z0 V1 S_ad S_hi S_lo hR0 hR1) hZ (w108 hw) (w4 hw) (by decide) (by decide)) (g := (mkF m 7 #[vI cd, vR a1, vI 1, uS, uS, uS, uS, uS, uS] [(.int 1), (.ref a1)])) rfl hml.symm (argsL := [(.ref a1), (.int 1)]) (rest := []) (lenOf pd_8 rfl) rfl (Nat.le_of_eq rfl) (hb hby d13_7) (fun _ _ => ⟨rfl, e0, (by decide : 0 + 2 ≤ _), (by decide : 0 + 12 ≤ _)⟩)
  dsimp only [Pt.U, Pt.locs, Pt.cells, Pt.slots] at X314 l314 y314 z314 st314 hQ314
  subst l314 y314 z314
  obtain ⟨b314r, b314kr, rfl, N314q, Kq314, P315, P316, g_b314r, szq_b314r⟩ := hQ314
  have ne_a1_b314r : a1 ≠ b314r := Nat.ne_of_lt (Nat.lt_of_lt_of_le Eb.lt szq_b314r)
  have sz_b314r : h0.size ≤ b314r := Nat.le_trans K101.1 szq_b314r
  have F317 := (own_sta_keep0 S_ad Kq314)
  have F318 := (own_sta_keep0 S_hi Kq314)
  have F319 := (own_sta_keep0 S_lo Kq314)
  have F320 := (Eb.keep Kq314)
  have F321 := (V1.keep Kq314 (by simp))
  have Z322 : n0 ≤ T314.heap.size := (Nat.le_trans Z0 Kq314.1)
  have K323 : Keep h0 T314.heap [] := (K101.trans Kq314 (by intro x hx; cases hx))
  have N314 := Fr.app N0 N314q
  refine Go.step st314 ?_
  show Go p.tables e below _ (T314.setTop (mkF m 10 #[vI cd, vR a1, vI 1, uS, uS, uS, uS, uS, uS] [(.ref b314r)]))
  have Vl324 : Arv Z T314.heap b314r b314kr .byte (own_len bl) (bl.map Value.int) (.int 0) := by rw [hL]; exact P316
  obtain ⟨fs, hr, hrun, hended, hW, hsame⟩ := X314.leave (v := some (.ref b314r)) (fun h => by rw [Bd.returns] at h; cases h)
  refine ⟨_, _, retOut X314 hx Bd.returns rfl (Or.inr (Or.inr (Or.inr (Or.inr ⟨rfl, rfl, rfl⟩)))) (hb hby d13_10) hr, hrun, hended, _, _, rfl, ?_, ⟨_, rfl⟩, hW, hsame.mono (by decide) (by decide)⟩
  show Qrme8 Z cd a1 bl h0 n0 _ T314.heap _
  refine ⟨b314r, b314kr, ?_, N314, K323, P315, Vl324, g_b314r, sz_b314r⟩
  rfl
theorem pd_10 : parseMethodDescriptor "(B[BZ)[B" = some ⟨[.byte, (.array .byte), .boolean], some (.array .byte)⟩ := by decide +kernel
theorem d12_0 : dC15 0 (.aload_n 0, 1) := by decide +kernel
theorem d12_1 : dC15 1 (.getstatic 86, 3) := by decide +kernel
theorem d12_4 : dC15 4 (.if_acmp .ne 10, 3) := by decide +kernel
theorem d12_7 : dC15 7 (.iload_n 1, 1) := by decide +kernel
theorem d12_8 : dC15 8 (.aload_n 2, 1) := by decide +kernel
theorem d12_9 : dC15 9 (.iconst 1, 1) := by decide +kernel
theorem d12_10 : dC15 10 (.invokestatic 252, 3) := by decide +kernel
theorem d12_13 : dC15 13 (.areturn, 1) := by decide +kernel
theorem ef_rmen (m : MethodId) (u8 : Addr) (cd : Int32) (a1 : Addr) (bl : List Int32) : entryFrame m #[(.ref u8), (.int cd), (.ref a1)] 3 = mkF m 0 #[vR u8, vI cd, vR a1] [] := by first | (simp [entryFrame, mkF, argsToLocals, Value.category]; done) | rfl
def Qrmen (Z : State) (u8 : Addr) (cd : Int32) (a1 : Addr) (bl : List Int32) (h0 : Heap) (n0 : Nat) (v : Option Value) (h : Heap) (L : List Loc) : Prop := ∃ r : Addr, ∃ kr : ClassId, v = some (.ref r) ∧ Fr n0 L ∧ Keep h0 h [] ∧ Exa Z h r "[B" ∧ Arv Z h r kr .byte (own_len bl) (bl.map Value.int) (.int 0) ∧ n0 ≤ r ∧ h0.size ≤ r
set_option maxRecDepth 65536 in
set_option maxHeartbeats 40000000 in
theorem rmen (l : Launch) (Z : State) (a0 : Array Value) (hw : ∀ d ∈ tables_1, d.before a0 Z = true) (ws : List Jvm.Cond) (u8 : Addr) (cd : Int32) (a1 : Addr) (bl : List Int32) (h0 : Heap) (n0 : Nat) (Z0 : n0 ≤ h0.size) (En0 : own_enc Z h0 a1 cd bl) (S_in : Sta Z h0 "sun/nio/cs/UTF_8" "INSTANCE" "Lsun/nio/cs/UTF_8;" (.ref u8)) (S_ad : Sta Z h0 "java/lang/StringUTF16" "$assertionsDisabled" "Z" (.int 1)) (S_hi : Sta Z h0 "java/lang/StringUTF16" "HI_BYTE_SHIFT" "I" (.int 0)) (S_lo : Sta Z h0 "java/lang/StringUTF16" "LO_BYTE_SHIFT" "I" (.int 8)) :
    MetFree l Y15 (head1 (Jvm.Cond.code Y15 jdk_42_method_18_code 3 (some (.array .byte)) :: ws) Rm8) (fun a U => a = #[(.ref u8), (.int cd), (.ref a1)] ∧ Z.Warmed39 U.vm ∧ U.heap = h0) (fun _ _ _ _ _ => True) (fun _ U o U' => ∃ v L, o = .returned v ∧ Qrmen Z u8 cd a1 bl h0 n0 v U'.heap L ∧ FrameEnd U o U' L Rm8.cells Rm8.slots) := by
 refine MetFree.of_bodySF (plainFor_of_name pn_5) hisR ?_
 intro p e s m args below meth c s₁ Bd hml0 hP hK
 obtain ⟨rfl, hZ, hh⟩ := hP
 have hx := Bd.exec
 have hby := Bd.bytes
 have hml : c.maxLocals = 3 := hml0
 have hown : s.vm.findClass "java/lang/String" = some m.cls := findClass_of_methodNamed Bd.named
 have hnm := (name_of_methodNamed Bd.named Bd.method).1
 have X0 : Stand p l e Rm8 s m #[(.ref u8), (.int cd), (.ref a1)] below meth c s₁ [] 0 0 := Stand.of_body Bd
 have e0 : s₁.heap = h0 := by rw [← hh, Bd.state]; rfl
 have N0 := Fr.nil n0
 show Go p.tables e below (fun o U' => ∃ v L, o = .returned v ∧ Qrmen Z u8 cd a1 bl h0 n0 v U'.heap L ∧ FrameEnd s o U' L Rm8.cells Rm8.slots) _
 refine Go.step (fun t kt => castTop (ef_rmen m u8 cd a1 bl) kt) ?_
 show Go p.tables e below _ (s₁.setTop (mkF m 0 #[vR u8, vI cd, vR a1] []))
 have K101 : Keep h0 h0 [] := (Keep.refl h0 [])
 refine Go.step (fun _ kt => XS.aloadN X0.here hx rfl (hb hby d12_0) rfl rfl kt) ?_
 obtain ⟨T102, X102, e102, st102⟩ := getS2 X0 hx hZ hown (host := "") (Or.inl (w58 hw)) Via.refl e0 S_in (g := (mkF m 1 #[vR u8, vI cd, vR a1] [(.ref u8)])) rfl (hb hby d12_1)
 refine Go.step st102 ?_
 show Go p.tables e below _ (T102.setTop (mkF m 4 #[vR u8, vI cd, vR a1] [(.ref u8), (.ref u8)]))
 refine Go.step (fun _ kt => Jvm.RoadKit.acmp (g := (mkF m 4 #[vR u8, vI cd, vR a1] [(.ref u8), (.ref u8)])) X102 hx rfl rfl rfl (pc0 := 4) (pc' := 7) (same := true) rfl (hb hby d12_4) rfl (decide_eq_true rfl) (by decide) (by decide) kt) ?_
 show Go p.tables e below _ (T102.setTop (mkF m 7 #[vR u8, vI cd, vR a1] []))
 refine Go.step (fun _ kt => XS.iloadN X102.here hx rfl (hb hby d12_7) rfl (XS.aloadN X102.here hx rfl (hb hby d12_8) rfl rfl (XS.iconst X102.here hx rfl (hb hby d12_9) kt))) ?_
 obtain ⟨_, _, ⟨T103, L103, k103, n103⟩, -, X103, ⟨Lc103, hQ103, l103, y103, z103⟩, st103⟩ := Jvm.LawKit.callS X102 hx (y := Y14) hown (mvT hZ (w60 hw)) (mvT hZ (w61 hw)) (mvT hZ (w4 hw)) (mvT hZ (w62 hw)) (by decide) (backOf (W := 0) (rme8 l Z a0 hw [] cd a1 bl h0 n0 Z0 En0 S_ad S_hi S_lo ) hZ (w62 hw) (w4 hw) (by decide) (by decide)) (g := (mkF m 10 #[vR u8, vI cd, vR a1] [(.int 1), (.ref a1), (.int cd)])) rfl hml.symm (argsL := [(.int cd), (.ref a1), (.int 1)]) (rest := []) (lenOf pd_10 rfl) rfl (Nat.le_of_eq rfl) (hb hby d12_10) (fun _ _ => ⟨rfl, e102, (by decide : 0 + 2 ≤ _), (by decide : 0 + 12 ≤ _)⟩)
 dsimp only [Pt.U, Pt.locs, Pt.cells, Pt.slots] at X103 l103 y103 z103 st103 hQ103
 subst l103 y103 z103
 obtain ⟨b103r, b103kr, rfl, N103q, Kq103, P104, P105, g_b103r, szq_b103r⟩ := hQ103
 have sz_b103r : h0.size ≤ b103r := Nat.le_trans K101.1 szq_b103r
 have F106 := (En0.keep Kq103 (by simp))
 have F107 := (own_sta_keep0 S_in Kq103)
 have F108 := (own_sta_keep0 S_ad Kq103)
 have F109 := (own_sta_keep0 S_hi Kq103)
 have F110 := (own_sta_keep0 S_lo Kq103)
 have Z111 : n0 ≤ T103.heap.size := (Nat.le_trans Z0 Kq103.1)
 have K112 : Keep h0 T103.heap [] := (K101.trans Kq103 (by intro x hx; cases hx))
 have N103 := Fr.app N0 N103q
 refine Go.step st103 ?_
 show Go p.tables e below _ (T103.setTop (mkF m 13 #[vR u8, vI cd, vR a1] [(.ref b103r)]))
 obtain ⟨fs, hr, hrun, hended, hW, hsame⟩ := X103.leave (v := some (.ref b103r)) (fun h => by rw [Bd.returns] at h; cases h)
 refine ⟨_, _, retOut X103 hx Bd.returns rfl (Or.inr (Or.inr (Or.inr (Or.inr ⟨rfl, rfl, rfl⟩)))) (hb hby d12_13) hr, hrun, hended, _, _, rfl, ?_, ⟨_, rfl⟩, hW, hsame.mono (by decide) (by decide)⟩
 show Qrmen Z u8 cd a1 bl h0 n0 _ T103.heap _
 refine ⟨b103r, b103kr, ?_, N103, K112, P104, P105, g_b103r, sz_b103r⟩
 rfl
theorem d11_0 : dC16 0 (.getstatic 38, 3) := by decide +kernel
theorem d11_3 : dC16 3 (.ifCond .eq 10, 3) := by decide +kernel
theorem d11_6 : dC16 6 (.aload_n 0, 1) := by decide +kernel
theorem d11_7 : dC16 7 (.getfield 15, 3) := by decide +kernel
theorem d11_10 : dC16 10 (.goto 4, 3) := by decide +kernel
theorem d11_14 : dC16 14 (.ireturn, 1) := by decide +kernel
theorem ef_rmco (m : MethodId) (a1 : Addr) (cs : Int32) (cd : Int32) : entryFrame m #[(.ref a1)] 1 = mkF m 0 #[vR a1] [] := by first | (simp [entryFrame, mkF, argsToLocals, Value.category]; done) | rfl
def Qrmco (Z : State) (a1 : Addr) (cs : Int32) (cd : Int32) (h0 : Heap) (n0 : Nat) (v : Option Value) (h : Heap) (L : List Loc) : Prop := v = some (.int cd) ∧ Fr n0 L ∧ h = h0
set_option maxRecDepth 65536 in
set_option maxHeartbeats 40000000 in
theorem rmco (l : Launch) (Z : State) (a0 : Array Value) (hw : ∀ d ∈ tables_1, d.before a0 Z = true) (ws : List Jvm.Cond) (a1 : Addr) (cs : Int32) (cd : Int32) (h0 : Heap) (n0 : Nat) (Z0 : n0 ≤ h0.size) (E1 : Exa Z h0 a1 "java/lang/String") (Fc : Fld Z h0 a1 "java/lang/String" "coder" "B" (.int cd)) (S_cs : Sta Z h0 "java/lang/String" "COMPACT_STRINGS" "Z" (.int cs)) (hcs : ¬ cs = 0) (hcd : cd = 0 ∨ cd = 1) :
    MetFree l Y16 (head1 (Jvm.Cond.code Y16 jdk_42_method_152_code 1 (some .byte) :: ws) Rm0) (fun a U => a = #[(.ref a1)] ∧ Z.Warmed39 U.vm ∧ U.heap = h0) (fun _ _ _ _ _ => True) (fun _ U o U' => ∃ v L, o = .returned v ∧ Qrmco Z a1 cs cd h0 n0 v U'.heap L ∧ FrameEnd U o U' L Rm0.cells Rm0.slots) := by
 refine MetFree.of_bodySF (plainFor_of_name pn_5) hisR ?_
 intro p e s m args below meth c s₁ Bd hml0 hP hK
 obtain ⟨rfl, hZ, hh⟩ := hP
 have hx := Bd.exec
 have hby := Bd.bytes
 have hml : c.maxLocals = 1 := hml0
 have hown : s.vm.findClass "java/lang/String" = some m.cls := findClass_of_methodNamed Bd.named
 have hnm := (name_of_methodNamed Bd.named Bd.method).1
 have X0 : Stand p l e Rm0 s m #[(.ref a1)] below meth c s₁ [] 0 0 := Stand.of_body Bd
 have e0 : s₁.heap = h0 := by rw [← hh, Bd.state]; rfl
 have N0 := Fr.nil n0
 show Go p.tables e below (fun o U' => ∃ v L, o = .returned v ∧ Qrmco Z a1 cs cd h0 n0 v U'.heap L ∧ FrameEnd s o U' L Rm0.cells Rm0.slots) _
 refine Go.step (fun t kt => castTop (ef_rmco m a1 cs cd) kt) ?_
 obtain ⟨T101, X101, e101, st101⟩ := getS2 X0 hx hZ hown (host := "") (Or.inl (w15 hw)) Via.refl e0 S_cs (g := (mkF m 0 #[vR a1] [])) rfl (hb hby d11_0)
 refine Go.step st101 ?_
 show Go p.tables e below _ (T101.setTop (mkF m 3 #[vR a1] [(.int cs)]))
 refine Go.step (fun _ kt => XS.ifNo X101.here hx rfl (hb hby d11_3) rfl ((if0 _ _).trans (feq hcs).1) (XS.aloadN X101.here hx rfl (hb hby d11_6) rfl rfl kt)) ?_
 obtain ⟨T102, X102, e102, st102⟩ := getF X101 hx hZ hown (host := "") (Or.inl (w27 hw)) Via.refl e101 Fc (g := (mkF m 7 #[vR a1] [(.ref a1)])) rfl rfl (hb hby d11_7)
 refine Go.step st102 ?_
 show Go p.tables e below _ (T102.setTop (mkF m 10 #[vR a1] [(.int cd)]))
 refine Go.step (fun _ kt => XS.goto X102.here hx rfl (pc0 := 10) (pc' := 14) rfl (hb hby d11_10) (by decide) (by decide) kt) ?_
 show Go p.tables e below _ (T102.setTop (mkF m 14 #[vR a1] [(.int cd)]))
 obtain ⟨fs, hr, hrun, hended, hW, hsame⟩ := X102.leave (v := some (.int (nar .byte cd))) (fun h => by rw [Bd.returns] at h; cases h)
 refine ⟨_, _, retN X102 hx (t := .byte) Bd.returns (by simp) (hb hby d11_14) hr, hrun, hended, _, _, rfl, ?_, ⟨_, rfl⟩, hW, hsame.mono (by decide) (by decide)⟩
 show Qrmco Z a1 cs cd h0 n0 _ T102.heap _
 rw [e102]
 refine ⟨?_, N0, rfl⟩
 rw [own_nb hcd]
theorem pd_11 : parseMethodDescriptor "()B" = some ⟨[], some .byte⟩ := by decide +kernel
theorem pd_12 : parseMethodDescriptor "(Ljava/nio/charset/Charset;B[B)[B" = some ⟨[(.object "java/nio/charset/Charset"), .byte, (.array .byte)], some (.array .byte)⟩ := by decide +kernel
theorem d10_0 : dC17 0 (.aload_n 1, 1) := by decide +kernel
theorem d10_1 : dC17 1 (.ifnonnull 11, 3) := by decide +kernel
theorem d10_12 : dC17 12 (.aload_n 1, 1) := by decide +kernel
theorem d10_13 : dC17 13 (.aload_n 0, 1) := by decide +kernel
theorem d10_14 : dC17 14 (.invokevirtual 335, 3) := by decide +kernel
theorem d10_17 : dC17 17 (.aload_n 0, 1) := by decide +kernel
theorem d10_18 : dC17 18 (.getfield 9, 3) := by decide +kernel
theorem d10_21 : dC17 21 (.invokestatic 535, 3) := by decide +kernel
theorem d10_24 : dC17 24 (.areturn, 1) := by decide +kernel
theorem ef_rmgb (m : MethodId) (a1 : Addr) (u8 : Addr) (b1 : Addr) (cd : Int32) (bl : List Int32) (cs : Int32) : entryFrame m #[(.ref a1), (.ref u8)] 2 = mkF m 0 #[vR a1, vR u8] [] := by first | (simp [entryFrame, mkF, argsToLocals, Value.category]; done) | rfl
def Qrmgb (Z : State) (a1 : Addr) (u8 : Addr) (b1 : Addr) (cd : Int32) (bl : List Int32) (cs : Int32) (h0 : Heap) (n0 : Nat) (v : Option Value) (h : Heap) (L : List Loc) : Prop := ∃ r : Addr, ∃ kr : ClassId, v = some (.ref r) ∧ Fr n0 L ∧ Keep h0 h [] ∧ Exa Z h r "[B" ∧ Arv Z h r kr .byte (own_len bl) (bl.map Value.int) (.int 0) ∧ n0 ≤ r ∧ h0.size ≤ r
set_option maxRecDepth 65536 in
set_option maxHeartbeats 40000000 in
theorem rmgb (l : Launch) (Z : State) (a0 : Array Value) (hw : ∀ d ∈ tables_1, d.before a0 Z = true) (ws : List Jvm.Cond) (a1 : Addr) (u8 : Addr) (b1 : Addr) (cd : Int32) (bl : List Int32) (cs : Int32) (h0 : Heap) (n0 : Nat) (Z0 : n0 ≤ h0.size) (E1 : Exa Z h0 a1 "java/lang/String") (Fc1 : Fld Z h0 a1 "java/lang/String" "coder" "B" (.int cd)) (Fv1 : Fld Z h0 a1 "java/lang/String" "value" "[B" (.ref b1)) (Eb1 : Exa Z h0 b1 "[B") (V1 : own_enc Z h0 b1 cd bl) (S_in : Sta Z h0 "sun/nio/cs/UTF_8" "INSTANCE" "Lsun/nio/cs/UTF_8;" (.ref u8)) (S_cs : Sta Z h0 "java/lang/String" "COMPACT_STRINGS" "Z" (.int cs)) (S_ad : Sta Z h0 "java/lang/StringUTF16" "$assertionsDisabled" "Z" (.int 1)) (S_hi : Sta Z h0 "java/lang/StringUTF16" "HI_BYTE_SHIFT" "I" (.int 0)) (S_lo : Sta Z h0 "java/lang/StringUTF16" "LO_BYTE_SHIFT" "I" (.int 8)) (hcs : ¬ cs = 0) :
    MetFree l Y17 (head1 (Jvm.Cond.code Y17 jdk_42_method_64_code 2 (some (.array .byte)) :: ws) Rm9) (fun a U => a = #[(.ref a1), (.ref u8)] ∧ Z.Warmed39 U.vm ∧ U.heap = h0) (fun _ _ _ _ _ => True) (fun _ U o U' => ∃ v L, o = .returned v ∧ Qrmgb Z a1 u8 b1 cd bl cs h0 n0 v U'.heap L ∧ FrameEnd U o U' L Rm9.cells Rm9.slots) := by
 refine MetFree.of_bodySF (plainFor_of_name pn_5) hisR ?_
 intro p e s m args below meth c s₁ Bd hml0 hP hK
 obtain ⟨rfl, hZ, hh⟩ := hP
 have hx := Bd.exec
 have hby := Bd.bytes
 have hml : c.maxLocals = 2 := hml0
 have hown : s.vm.findClass "java/lang/String" = some m.cls := findClass_of_methodNamed Bd.named
 have hnm := (name_of_methodNamed Bd.named Bd.method).1
 have X0 : Stand p l e Rm9 s m #[(.ref a1), (.ref u8)] below meth c s₁ [] 0 0 := Stand.of_body Bd
 have e0 : s₁.heap = h0 := by rw [← hh, Bd.state]; rfl
 have N0 := Fr.nil n0
 show Go p.tables e below (fun o U' => ∃ v L, o = .returned v ∧ Qrmgb Z a1 u8 b1 cd bl cs h0 n0 v U'.heap L ∧ FrameEnd s o U' L Rm9.cells Rm9.slots) _
 refine Go.step (fun t kt => castTop (ef_rmgb m a1 u8 b1 cd bl cs) kt) ?_
 show Go p.tables e below _ (s₁.setTop (mkF m 0 #[vR a1, vR u8] []))
 have K101 : Keep h0 h0 [] := (Keep.refl h0 [])
 refine Go.step (fun _ kt => XS.aloadN X0.here hx rfl (hb hby d10_0) rfl rfl (XS.ifnonnullYes X0.here hx rfl (pc0 := 1) (pc' := 12) rfl (hb hby d10_1) rfl (by decide) (by decide) (XS.aloadN X0.here hx rfl (hb hby d10_12) rfl rfl (XS.aloadN X0.here hx rfl (hb hby d10_13) rfl rfl kt)))) ?_
 show Go p.tables e below _ (s₁.setTop (mkF m 14 #[vR a1, vR u8] [(.ref a1), (.ref u8)]))
 obtain ⟨cq102, kq102, q102a, q102b, q102c⟩ := isOf hZ e0 E1
 obtain ⟨_, _, ⟨T102, L102, k102, n102⟩, -, X102, ⟨Lc102, hQ102, l102, y102, z102⟩, st102⟩ := X0.virtualBack hx (y := Y16) (z := Y16) hown (mvT hZ (w50 hw)) (mvT hZ (w51 hw)) (notFace_of_selects (args := #[]) (mvT hZ (w53 hw))) (mvT hZ (w53 hw)) (mvT hZ (w52 hw)) (by decide) (backOf (W := 1) (rmco l Z a0 hw [] a1 cs cd h0 n0 Z0 E1 Fc1 S_cs hcs V1.cd) hZ (w54 hw) (w4 hw) (by decide) (by decide)) q102a q102c (g := (mkF m 14 #[vR a1, vR u8] [(.ref a1), (.ref u8)])) rfl hml.symm (Steps.refl _) (argsL := []) (rest := [(.ref u8)]) (lenOf pd_11 rfl) rfl (Nat.le_of_eq rfl) (hb hby d10_14) (fun _ _ => ⟨rfl, e0, (by decide : 0 + 0 ≤ _), (by decide : 0 + 0 ≤ _)⟩)
 dsimp only [Pt.U, Pt.locs, Pt.cells, Pt.slots] at X102 l102 y102 z102 st102 hQ102
 subst l102 y102 z102
 obtain ⟨rfl, N102q, eh102⟩ := hQ102
 have N102 := Fr.app N0 N102q
 refine Go.step (fun _ kt => st102.trans kt) ?_
 show Go p.tables e below _ (T102.setTop (mkF m 17 #[vR a1, vR u8] [(.int cd), (.ref u8)]))
 refine Go.step (fun _ kt => XS.aloadN X102.here hx rfl (hb hby d10_17) rfl rfl kt) ?_
 obtain ⟨T103, X103, e103, st103⟩ := getF X102 hx hZ hown (host := "") (Or.inl (w29 hw)) Via.refl eh102 Fv1 (g := (mkF m 18 #[vR a1, vR u8] [(.ref a1), (.int cd), (.ref u8)])) rfl rfl (hb hby d10_18)
 refine Go.step st103 ?_
 obtain ⟨_, _, ⟨T104, L104, k104, n104⟩, -, X104, ⟨Lc104, hQ104, l104, y104, z104⟩, st104⟩ := Jvm.LawKit.callS X103 hx (y := Y15) hown (mvT hZ (w55 hw)) (mvT hZ (w56 hw)) (mvT hZ (w4 hw)) (mvT hZ (w57 hw)) (by decide) (backOf (W := 0) (rmen l Z a0 hw [] u8 cd b1 bl h0 n0 Z0 V1 S_in S_ad S_hi S_lo ) hZ (w57 hw) (w4 hw) (by decide) (by decide)) (g := (mkF m 21 #[vR a1, vR u8] [(.ref b1), (.int cd), (.ref u8)])) rfl hml.symm (argsL := [(.ref u8), (.int cd), (.ref b1)]) (rest := []) (lenOf pd_12 rfl) rfl (Nat.le_of_eq rfl) (hb hby d10_21) (fun _ _ => ⟨rfl, e103, (by decide : 0 + 2 ≤ _), (by decide : 0 + 12 ≤ _)⟩)
 dsimp only [Pt.U, Pt.locs, Pt.cells, Pt.slots] at X104 l104 y104 z104 st104 hQ104
 subst l104 y104 z104
 obtain ⟨b104r, b104kr, rfl, N104q, Kq104, P105, P106, g_b104r, szq_b104r⟩ := hQ104
 have ne_a1_b104r : a1 ≠ b104r := Nat.ne_of_lt (Nat.lt_of_lt_of_le E1.lt szq_b104r)
 have ne_b1_b104r : b1 ≠ b104r := Nat.ne_of_lt (Nat.lt_of_lt_of_le Eb1.lt szq_b104r)
 have sz_b104r : h0.size ≤ b104r := Nat.le_trans K101.1 szq_b104r
 have F107 := (E1.keep Kq104)
 have F108 := (Fc1.keep Kq104 (by simp))
 have F109 := (Fv1.keep Kq104 (by simp))
 have F110 := (Eb1.keep Kq104)
 have F111 := (V1.keep Kq104 (by simp))
 have F112 := (own_sta_keep0 S_in Kq104)
 have F113 := (own_sta_keep0 S_cs Kq104)
 have F114 := (own_sta_keep0 S_ad Kq104)
 have F115 := (own_sta_keep0 S_hi Kq104)
 have F116 := (own_sta_keep0 S_lo Kq104)
 have Z117 : n0 ≤ T104.heap.size := (Nat.le_trans Z0 Kq104.1)
 have K118 : Keep h0 T104.heap [] := (K101.trans Kq104 (by intro x hx; cases hx))
 have N104 := Fr.app N102 N104q
 refine Go.step st104 ?_
 show Go p.tables e below _ (T104.setTop (mkF m 24 #[vR a1, vR u8] [(.ref b104r)]))
 obtain ⟨fs, hr, hrun, hended, hW, hsame⟩ := X104.leave (v := some (.ref b104r)) (fun h => by rw [Bd.returns] at h; cases h)
 refine ⟨_, _, retOut X104 hx Bd.returns rfl (Or.inr (Or.inr (Or.inr (Or.inr ⟨rfl, rfl, rfl⟩)))) (hb hby d10_24) hr, hrun, hended, _, _, rfl, ?_, ⟨_, rfl⟩, hW, hsame.mono (by decide) (by decide)⟩
 show Qrmgb Z a1 u8 b1 cd bl cs h0 n0 _ T104.heap _
 refine ⟨b104r, b104kr, ?_, N104, K118, P105, P106, g_b104r, sz_b104r⟩
 rfl
theorem pd_13 : parseMethodDescriptor "(Ljava/nio/charset/Charset;)[B" = some ⟨[(.object "java/nio/charset/Charset")], some (.array .byte)⟩ := by decide +kernel
theorem pn_6 : plainName "com/example/sibyl/sibyl/core/KeyBytes" = true := by first | (simp [plainName, overriddenIn]; done) | decide +kernel
theorem d9_0 : dC18 0 (.aload_n 0, 1) := by decide +kernel
theorem d9_1 : dC18 1 (.getstatic 7, 3) := by decide +kernel
theorem d9_4 : dC18 4 (.invokevirtual 13, 3) := by decide +kernel
theorem d9_7 : dC18 7 (.areturn, 1) := by decide +kernel
theorem ef_rmof (m : MethodId) (a1 : Addr) (b1 : Addr) (cd : Int32) (bl : List Int32) (cs : Int32) (u8 : Addr) : entryFrame m #[(.ref a1)] 1 = mkF m 0 #[vR a1] [] := by first | (simp [entryFrame, mkF, argsToLocals, Value.category]; done) | rfl
def Qrmof (Z : State) (a1 : Addr) (b1 : Addr) (cd : Int32) (bl : List Int32) (cs : Int32) (u8 : Addr) (h0 : Heap) (n0 : Nat) (v : Option Value) (h : Heap) (L : List Loc) : Prop := ∃ r : Addr, ∃ kr : ClassId, v = some (.ref r) ∧ Fr n0 L ∧ Keep h0 h [] ∧ Exa Z h r "[B" ∧ Arv Z h r kr .byte (own_len bl) (bl.map Value.int) (.int 0) ∧ n0 ≤ r ∧ h0.size ≤ r
set_option maxRecDepth 65536 in
set_option maxHeartbeats 40000000 in
theorem rmof (l : Launch) (Z : State) (a0 : Array Value) (hw : ∀ d ∈ tables_1, d.before a0 Z = true) (ws : List Jvm.Cond) (a1 : Addr) (b1 : Addr) (cd : Int32) (bl : List Int32) (cs : Int32) (u8 : Addr) (h0 : Heap) (n0 : Nat) (Z0 : n0 ≤ h0.size) (E1 : Exa Z h0 a1 "java/lang/String") (Fc1 : Fld Z h0 a1 "java/lang/String" "coder" "B" (.int cd)) (Fv1 : Fld Z h0 a1 "java/lang/String" "value" "[B" (.ref b1)) (Eb1 : Exa Z h0 b1 "[B") (V1 : own_enc Z h0 b1 cd bl) (S_u8 : Sta Z h0 "java/nio/charset/StandardCharsets" "UTF_8" "Ljava/nio/charset/Charset;" (.ref u8)) (S_in : Sta Z h0 "sun/nio/cs/UTF_8" "INSTANCE" "Lsun/nio/cs/UTF_8;" (.ref u8)) (S_cs : Sta Z h0 "java/lang/String" "COMPACT_STRINGS" "Z" (.int cs)) (S_ad : Sta Z h0 "java/lang/StringUTF16" "$assertionsDisabled" "Z" (.int 1)) (S_hi : Sta Z h0 "java/lang/StringUTF16" "HI_BYTE_SHIFT" "I" (.int 0)) (S_lo : Sta Z h0 "java/lang/StringUTF16" "LO_BYTE_SHIFT" "I" (.int 8)) (hcs : ¬ cs = 0) :
    MetFree l Y18 (head1 (Jvm.Cond.code Y18 prog_21_method_2_code 1 (some (.array .byte)) :: ws) Rm10) (fun a U => a = #[(.ref a1)] ∧ Z.Warmed39 U.vm ∧ U.heap = h0) (fun _ _ _ _ _ => True) (fun _ U o U' => ∃ v L, o = .returned v ∧ Qrmof Z a1 b1 cd bl cs u8 h0 n0 v U'.heap L ∧ FrameEnd U o U' L Rm10.cells Rm10.slots) := by
 refine MetFree.of_bodySF (plainFor_of_name pn_6) hisR ?_
 intro p e s m args below meth c s₁ Bd hml0 hP hK
 obtain ⟨rfl, hZ, hh⟩ := hP
 have hx := Bd.exec
 have hby := Bd.bytes
 have hml : c.maxLocals = 1 := hml0
 have hown : s.vm.findClass "com/example/sibyl/sibyl/core/KeyBytes" = some m.cls := findClass_of_methodNamed Bd.named
 have hnm := (name_of_methodNamed Bd.named Bd.method).1
 have X0 : Stand p l e Rm10 s m #[(.ref a1)] below meth c s₁ [] 0 0 := Stand.of_body Bd
 have e0 : s₁.heap = h0 := by rw [← hh, Bd.state]; rfl
 have N0 := Fr.nil n0
 show Go p.tables e below (fun o U' => ∃ v L, o = .returned v ∧ Qrmof Z a1 b1 cd bl cs u8 h0 n0 v U'.heap L ∧ FrameEnd s o U' L Rm10.cells Rm10.slots) _
 refine Go.step (fun t kt => castTop (ef_rmof m a1 b1 cd bl cs u8) kt) ?_
 show Go p.tables e below _ (s₁.setTop (mkF m 0 #[vR a1] []))
 have K101 : Keep h0 h0 [] := (Keep.refl h0 [])
 refine Go.step (fun _ kt => XS.aloadN X0.here hx rfl (hb hby d9_0) rfl rfl kt) ?_
 obtain ⟨T102, X102, e102, st102⟩ := getS2 X0 hx hZ hown (host := "") (Or.inl (w43 hw)) Via.refl e0 S_u8 (g := (mkF m 1 #[vR a1] [(.ref a1)])) rfl (hb hby d9_1)
 refine Go.step st102 ?_
 show Go p.tables e below _ (T102.setTop (mkF m 4 #[vR a1] [(.ref u8), (.ref a1)]))
 obtain ⟨cq103, kq103, q103a, q103b, q103c⟩ := isOf hZ e102 E1
 obtain ⟨_, _, ⟨T103, L103, k103, n103⟩, -, X103, ⟨Lc103, hQ103, l103, y103, z103⟩, st103⟩ := X102.virtualBack hx (y := Y17) (z := Y17) hown (mvT hZ (w45 hw)) (mvT hZ (w46 hw)) (notFace_of_selects (args := #[]) (mvT hZ (w48 hw))) (mvT hZ (w48 hw)) (mvT hZ (w47 hw)) (by decide) (backOf (W := 0) (rmgb l Z a0 hw [] a1 u8 b1 cd bl cs h0 n0 Z0 E1 Fc1 Fv1 Eb1 V1 S_in S_cs S_ad S_hi S_lo hcs) hZ (w49 hw) (w4 hw) (by decide) (by decide)) q103a q103c (g := (mkF m 4 #[vR a1] [(.ref u8), (.ref a1)])) rfl hml.symm (Steps.refl _) (argsL := [(.ref u8)]) (rest := []) (lenOf pd_13 rfl) rfl (Nat.le_of_eq rfl) (hb hby d9_4) (fun _ _ => ⟨rfl, e102, (by decide : 0 + 2 ≤ _), (by decide : 0 + 12 ≤ _)⟩)
 dsimp only [Pt.U, Pt.locs, Pt.cells, Pt.slots] at X103 l103 y103 z103 st103 hQ103
 subst l103 y103 z103
 obtain ⟨b103r, b103kr, rfl, N103q, Kq103, P104, P105, g_b103r, szq_b103r⟩ := hQ103
 have ne_a1_b103r : a1 ≠ b103r := Nat.ne_of_lt (Nat.lt_of_lt_of_le E1.lt szq_b103r)
 have ne_b1_b103r : b1 ≠ b103r := Nat.ne_of_lt (Nat.lt_of_lt_of_le Eb1.lt szq_b103r)
 have sz_b103r : h0.size ≤ b103r := Nat.le_trans K101.1 szq_b103r
 have F106 := (E1.keep Kq103)
 have F107 := (Fc1.keep Kq103 (by simp))
 have F108 := (Fv1.keep Kq103 (by simp))
 have F109 := (Eb1.keep Kq103)
 have F110 := (V1.keep Kq103 (by simp))
 have F111 := (own_sta_keep0 S_u8 Kq103)
 have F112 := (own_sta_keep0 S_in Kq103)
 have F113 := (own_sta_keep0 S_cs Kq103)
 have F114 := (own_sta_keep0 S_ad Kq103)
 have F115 := (own_sta_keep0 S_hi Kq103)
 have F116 := (own_sta_keep0 S_lo Kq103)
 have Z117 : n0 ≤ T103.heap.size := (Nat.le_trans Z0 Kq103.1)
 have K118 : Keep h0 T103.heap [] := (K101.trans Kq103 (by intro x hx; cases hx))
 have N103 := Fr.app N0 N103q
 refine Go.step (fun _ kt => st103.trans kt) ?_
 show Go p.tables e below _ (T103.setTop (mkF m 7 #[vR a1] [(.ref b103r)]))
 obtain ⟨fs, hr, hrun, hended, hW, hsame⟩ := X103.leave (v := some (.ref b103r)) (fun h => by rw [Bd.returns] at h; cases h)
 refine ⟨_, _, retOut X103 hx Bd.returns rfl (Or.inr (Or.inr (Or.inr (Or.inr ⟨rfl, rfl, rfl⟩)))) (hb hby d9_7) hr, hrun, hended, _, _, rfl, ?_, ⟨_, rfl⟩, hW, hsame.mono (by decide) (by decide)⟩
 show Qrmof Z a1 b1 cd bl cs u8 h0 n0 _ T103.heap _
 refine ⟨b103r, b103kr, ?_, N103, K118, P104, P105, g_b103r, sz_b103r⟩
 rfl
theorem d8_0 : dC19 0 (.iload_n 2, 1) := by decide +kernel
theorem d8_1 : dC19 1 (.istore_n 3, 1) := by decide +kernel
theorem d8_2 : dC19 2 (.iload_n 3, 1) := by decide +kernel
theorem d8_3 : dC19 3 (.sipush 128, 3) := by decide +kernel
theorem d8_6 : dC19 6 (.if_icmp .ge 12, 3) := by decide +kernel
theorem d8_9 : dC19 9 (.aload_n 0, 1) := by decide +kernel
theorem d8_10 : dC19 10 (.iload_n 1, 1) := by decide +kernel
theorem d8_11 : dC19 11 (.iload_n 3, 1) := by decide +kernel
theorem d8_12 : dC19 12 (.i2b, 1) := by decide +kernel
theorem d8_13 : dC19 13 (.bastore, 1) := by decide +kernel
theorem d8_14 : dC19 14 (.iload_n 1, 1) := by decide +kernel
theorem d8_15 : dC19 15 (.iconst 1, 1) := by decide +kernel
theorem d8_16 : dC19 16 (.iadd, 1) := by decide +kernel
theorem d8_17 : dC19 17 (.ireturn, 1) := by decide +kernel
theorem d8_18 : dC19 18 (.iload_n 3, 1) := by decide +kernel
theorem d8_19 : dC19 19 (.sipush 2048, 3) := by decide +kernel
theorem d8_22 : dC19 22 (.if_icmp .ge 33, 3) := by decide +kernel
theorem d8_25 : dC19 25 (.aload_n 0, 1) := by decide +kernel
theorem d8_26 : dC19 26 (.iload_n 1, 1) := by decide +kernel
theorem d8_27 : dC19 27 (.sipush 192, 3) := by decide +kernel
theorem d8_30 : dC19 30 (.iload_n 3, 1) := by decide +kernel
theorem d8_31 : dC19 31 (.bipush 6, 2) := by decide +kernel
theorem d8_33 : dC19 33 (.ishr, 1) := by decide +kernel
theorem d8_34 : dC19 34 (.ior, 1) := by decide +kernel
theorem d8_35 : dC19 35 (.i2b, 1) := by decide +kernel
theorem d8_36 : dC19 36 (.bastore, 1) := by decide +kernel
theorem d8_37 : dC19 37 (.aload_n 0, 1) := by decide +kernel
theorem d8_38 : dC19 38 (.iload_n 1, 1) := by decide +kernel
theorem d8_39 : dC19 39 (.iconst 1, 1) := by decide +kernel
theorem d8_40 : dC19 40 (.iadd, 1) := by decide +kernel
theorem d8_41 : dC19 41 (.sipush 128, 3) := by decide +kernel
theorem d8_44 : dC19 44 (.iload_n 3, 1) := by decide +kernel
theorem d8_45 : dC19 45 (.bipush 63, 2) := by decide +kernel
theorem d8_47 : dC19 47 (.iand, 1) := by decide +kernel
theorem d8_48 : dC19 48 (.ior, 1) := by decide +kernel
theorem d8_49 : dC19 49 (.i2b, 1) := by decide +kernel
theorem d8_50 : dC19 50 (.bastore, 1) := by decide +kernel
theorem d8_51 : dC19 51 (.iload_n 1, 1) := by decide +kernel
theorem d8_52 : dC19 52 (.iconst 2, 1) := by decide +kernel
theorem d8_53 : dC19 53 (.iadd, 1) := by decide +kernel
theorem d8_54 : dC19 54 (.ireturn, 1) := by decide +kernel
theorem d8_55 : dC19 55 (.iload_n 3, 1) := by decide +kernel
theorem d8_56 : dC19 56 (.ldc 8, 2) := by decide +kernel
theorem d8_58 : dC19 58 (.if_icmp .lt 18, 3) := by decide +kernel
theorem d8_61 : dC19 61 (.iload_n 3, 1) := by decide +kernel
theorem d8_62 : dC19 62 (.ldc 43, 2) := by decide +kernel
theorem d8_64 : dC19 64 (.if_icmp .gt 12, 3) := by decide +kernel
theorem d8_67 : dC19 67 (.aload_n 0, 1) := by decide +kernel
theorem d8_68 : dC19 68 (.iload_n 1, 1) := by decide +kernel
theorem d8_69 : dC19 69 (.bipush 63, 2) := by decide +kernel
theorem d8_71 : dC19 71 (.bastore, 1) := by decide +kernel
theorem d8_72 : dC19 72 (.iload_n 1, 1) := by decide +kernel
theorem d8_73 : dC19 73 (.iconst 1, 1) := by decide +kernel
theorem d8_74 : dC19 74 (.iadd, 1) := by decide +kernel
theorem d8_75 : dC19 75 (.ireturn, 1) := by decide +kernel
theorem d8_76 : dC19 76 (.aload_n 0, 1) := by decide +kernel
theorem d8_77 : dC19 77 (.iload_n 1, 1) := by decide +kernel
theorem d8_78 : dC19 78 (.sipush 224, 3) := by decide +kernel
theorem d8_81 : dC19 81 (.iload_n 3, 1) := by decide +kernel
theorem d8_82 : dC19 82 (.bipush 12, 2) := by decide +kernel
theorem d8_84 : dC19 84 (.ishr, 1) := by decide +kernel
theorem d8_85 : dC19 85 (.ior, 1) := by decide +kernel
theorem d8_86 : dC19 86 (.i2b, 1) := by decide +kernel
theorem d8_87 : dC19 87 (.bastore, 1) := by decide +kernel
theorem d8_88 : dC19 88 (.aload_n 0, 1) := by decide +kernel
theorem d8_89 : dC19 89 (.iload_n 1, 1) := by decide +kernel
theorem d8_90 : dC19 90 (.iconst 1, 1) := by decide +kernel
theorem d8_91 : dC19 91 (.iadd, 1) := by decide +kernel
theorem d8_92 : dC19 92 (.sipush 128, 3) := by decide +kernel
theorem d8_95 : dC19 95 (.iload_n 3, 1) := by decide +kernel
theorem d8_96 : dC19 96 (.bipush 6, 2) := by decide +kernel
theorem d8_98 : dC19 98 (.ishr, 1) := by decide +kernel
theorem d8_99 : dC19 99 (.bipush 63, 2) := by decide +kernel
theorem d8_101 : dC19 101 (.iand, 1) := by decide +kernel
theorem d8_102 : dC19 102 (.ior, 1) := by decide +kernel
theorem d8_103 : dC19 103 (.i2b, 1) := by decide +kernel
theorem d8_104 : dC19 104 (.bastore, 1) := by decide +kernel
theorem d8_105 : dC19 105 (.aload_n 0, 1) := by decide +kernel
theorem d8_106 : dC19 106 (.iload_n 1, 1) := by decide +kernel
theorem d8_107 : dC19 107 (.iconst 2, 1) := by decide +kernel
theorem d8_108 : dC19 108 (.iadd, 1) := by decide +kernel
theorem d8_109 : dC19 109 (.sipush 128, 3) := by decide +kernel
theorem d8_112 : dC19 112 (.iload_n 3, 1) := by decide +kernel
theorem d8_113 : dC19 113 (.bipush 63, 2) := by decide +kernel
theorem d8_115 : dC19 115 (.iand, 1) := by decide +kernel
theorem d8_116 : dC19 116 (.ior, 1) := by decide +kernel
theorem d8_117 : dC19 117 (.i2b, 1) := by decide +kernel
theorem d8_118 : dC19 118 (.bastore, 1) := by decide +kernel
theorem d8_119 : dC19 119 (.iload_n 1, 1) := by decide +kernel
theorem d8_120 : dC19 120 (.iconst 3, 1) := by decide +kernel
theorem d8_121 : dC19 121 (.iadd, 1) := by decide +kernel
theorem d8_122 : dC19 122 (.ireturn, 1) := by decide +kernel
theorem ef_rmunit (m : MethodId) (a1 : Addr) (cx : Int32) (k1 : ClassId) (bs : List Int32) : entryFrame m #[(.ref a1), (.int (own_len bs)), (.int cx)] 4 = mkF m 0 #[vR a1, vI (own_len bs), vI cx, uS] [] := by first | (simp [entryFrame, mkF, argsToLocals, Value.category]; done) | rfl
def Qrmunit (Z : State) (a1 : Addr) (cx : Int32) (k1 : ClassId) (bs : List Int32) (h0 : Heap) (n0 : Nat) (v : Option Value) (h : Heap) (L : List Loc) : Prop := v = some (.int (own_len (bs ++ own_u cx))) ∧ Fr n0 L ∧ Keep h0 h [a1] ∧ Exa Z h a1 "[B" ∧ Arv Z h a1 k1 .byte (8 : Int32) ((bs ++ own_u cx).map Value.int) (.int 0)
set_option maxRecDepth 65536 in
set_option maxHeartbeats 40000000 in
theorem rmunit (l : Launch) (Z : State) (a0 : Array Value) (hw : ∀ d ∈ tables_1, d.before a0 Z = true) (ws : List Jvm.Cond) (a1 : Addr) (cx : Int32) (k1 : ClassId) (bs : List Int32) (h0 : Heap) (n0 : Nat) (Z0 : n0 ≤ h0.size) (E1 : Exa Z h0 a1 "[B") (V1 : Arv Z h0 a1 k1 .byte (8 : Int32) (bs.map Value.int) (.int 0)) (g_a1 : n0 ≤ a1) (hb3 : bs.length ≤ 3) :
    MetFree l Y19 (head1 (Jvm.Cond.code Y19 method_5_code 4 (some .int) :: ws) Rm0) (fun a U => a = #[(.ref a1), (.int (own_len bs)), (.int cx)] ∧ Z.Warmed39 U.vm ∧ U.heap = h0) (fun _ _ _ _ _ => True) (fun _ U o U' => ∃ v L, o = .returned v ∧ Qrmunit Z a1 cx k1 bs h0 n0 v U'.heap L ∧ FrameEnd U o U' L Rm0.cells Rm0.slots) := by
 refine MetFree.of_bodySF (plainFor_of_name pn_2) hisR ?_
 intro p e s m args below meth c s₁ Bd hml0 hP hK
 obtain ⟨rfl, hZ, hh⟩ := hP
 have hx := Bd.exec
 have hby := Bd.bytes
 have hml : c.maxLocals = 4 := hml0
 have hown : s.vm.findClass "com/example/sibyl/sibyl/core/KeyBytesOfPinLaw" = some m.cls := findClass_of_methodNamed Bd.named
 have hnm := (name_of_methodNamed Bd.named Bd.method).1
 have X0 : Stand p l e Rm0 s m #[(.ref a1), (.int (own_len bs)), (.int cx)] below meth c s₁ [] 0 0 := Stand.of_body Bd
 have e0 : s₁.heap = h0 := by rw [← hh, Bd.state]; rfl
 have N0 := Fr.nil n0
 show Go p.tables e below (fun o U' => ∃ v L, o = .returned v ∧ Qrmunit Z a1 cx k1 bs h0 n0 v U'.heap L ∧ FrameEnd s o U' L Rm0.cells Rm0.slots) _
 refine Go.step (fun t kt => castTop (ef_rmunit m a1 cx k1 bs) kt) ?_
 show Go p.tables e below _ (s₁.setTop (mkF m 0 #[vR a1, vI (own_len bs), vI cx, uS] []))
 have K101 : Keep h0 h0 [a1] := (Keep.refl h0 [a1])
 refine Go.step (fun _ kt => XS.iloadN X0.here hx rfl (hb hby d8_0) rfl (XS.istoreN X0.here hx rfl (hb hby d8_1) rfl (l' := #[vR a1, vI (own_len bs), vI cx, vI cx]) rfl (XS.iloadN X0.here hx rfl (hb hby d8_2) rfl (XS.sipush X0.here hx rfl (hb hby d8_3) kt)))) ?_
 show Go p.tables e below _ (s₁.setTop (mkF m 6 #[vR a1, vI (own_len bs), vI cx, vI cx] [(.int 128), (.int cx)]))
 by_cases hc6_102 : cx < (128 : Int32)
 ·refine Go.step (fun _ kt => XS.icmpNo X0.here hx rfl (hb hby d8_6) rfl (tlt hc6_102).2.1 (XS.aloadN X0.here hx rfl (hb hby d8_9) rfl rfl (XS.iloadN X0.here hx rfl (hb hby d8_10) rfl (XS.iloadN X0.here hx rfl (hb hby d8_11) rfl (XS.i2b X0.here hx rfl (hb hby d8_12) rfl kt))))) ?_
  show Go p.tables e below _ (s₁.setTop (mkF m 13 #[vR a1, vI (own_len bs), vI cx, vI cx] [(.int (cx.toInt8.toInt32)), (.int (own_len bs)), (.ref a1)]))
  have q103 : (cx.toInt8.toInt32) = (own_by cx) := rfl
  rw [q103]
  obtain ⟨cl104, Ar104, qa104, Sa104, Na104, Ha104, Ga104⟩ := (id V1)
  obtain ⟨T104, h104, X104, e104, W104, st104⟩ := stB X0 hx hZ e0 Ar104 (j := (own_len bs)) (own_in Sa104 (n := 8) (by decide) (by decide) (by first | omega | decide | (simp only [List.length_append, List.length_cons, List.length_nil]; omega))) (g := (mkF m 13 #[vR a1, vI (own_len bs), vI cx, vI cx] [(.int (own_by cx)), (.int (own_len bs)), (.ref a1)])) rfl rfl (hb hby d8_13)
  refine Go.step st104 ?_
  have V105 := own_push (y := (own_by cx)) V1 (own_ix (by first | omega | decide | (simp only [List.length_append, List.length_cons, List.length_nil]; omega))).1 W104 (own_bb _) (by first | omega | decide | (simp only [List.length_append, List.length_cons, List.length_nil]; omega))
  have N104 := Fr.snoc X104 N0 g_a1
  have F106 := (E1.wr W104)
  have Z107 : n0 ≤ h104.size := (Nat.le_trans Z0 (Nat.le_of_eq W104.size.symm))
  have K108 : Keep h0 h104 [a1] := (K101.wr W104 (Or.inl (List.mem_of_getElem? (i := 0) rfl)))
  show Go p.tables e below _ (T104.setTop (mkF m 14 #[vR a1, vI (own_len bs), vI cx, vI cx] []))
  refine Go.step (fun _ kt => XS.iloadN X104.here hx rfl (hb hby d8_14) rfl (XS.iconst X104.here hx rfl (hb hby d8_15) (XS.iadd X104.here hx rfl (hb hby d8_16) rfl kt))) ?_
  show Go p.tables e below _ (T104.setTop (mkF m 17 #[vR a1, vI (own_len bs), vI cx, vI cx] [(.int ((own_len bs) + (1 : Int32)))]))
  have q109 : ((own_len bs) + (1 : Int32)) = (own_len (bs ++ [(own_by cx)])) := own_len1 _ _
  rw [q109]
  show Go p.tables e below _ (T104.setTop (mkF m 17 #[vR a1, vI (own_len bs), vI cx, vI cx] [(.int (own_len (bs ++ [(own_by cx)])))]))
  have q0 : bs ++ own_u cx = (bs ++ [(own_by cx)]) := (by rw [own_uA hc6_102]; try simp)
  have Vl110 : Arv Z h104 a1 k1 .byte (8 : Int32) ((bs ++ own_u cx).map Value.int) (.int 0) := by rw [q0]; exact V105
  obtain ⟨fs, hr, hrun, hended, hW, hsame⟩ := X104.leave (v := some (.int (own_len (bs ++ [(own_by cx)])))) (fun h => by rw [Bd.returns] at h; cases h)
  refine ⟨_, _, retI X104 hx Bd.returns (hb hby d8_17) hr, hrun, hended, _, _, rfl, ?_, ⟨_, rfl⟩, hW, hsame.mono (by decide) (by decide)⟩
  show Qrmunit Z a1 cx k1 bs h0 n0 _ T104.heap _
  rw [e104]
  refine ⟨?_, N104, K108, F106, Vl110⟩
  rw [q0]
 ·refine Go.step (fun _ kt => XS.icmpYes X0.here hx rfl (pc0 := 6) (pc' := 18) rfl (hb hby d8_6) rfl (flt hc6_102).2.1 (by decide) (by decide) (XS.iloadN X0.here hx rfl (hb hby d8_18) rfl (XS.sipush X0.here hx rfl (hb hby d8_19) kt))) ?_
  show Go p.tables e below _ (s₁.setTop (mkF m 22 #[vR a1, vI (own_len bs), vI cx, vI cx] [(.int 2048), (.int cx)]))
  by_cases hc22_111 : cx < (2048 : Int32)
  ·refine Go.step (fun _ kt => XS.icmpNo X0.here hx rfl (hb hby d8_22) rfl (tlt hc22_111).2.1 (XS.aloadN X0.here hx rfl (hb hby d8_25) rfl rfl (XS.iloadN X0.here hx rfl (hb hby d8_26) rfl (XS.sipush X0.here hx rfl (hb hby d8_27) (XS.iloadN X0.here hx rfl (hb hby d8_30) rfl (XS.bipush X0.here hx rfl (hb hby d8_31) (XS.ishr X0.here hx rfl (hb hby d8_33) rfl (XS.ior X0.here hx rfl (hb hby d8_34) rfl (XS.i2b X0.here hx rfl (hb hby d8_35) rfl kt))))))))) ?_
   show Go p.tables e below _ (s₁.setTop (mkF m 36 #[vR a1, vI (own_len bs), vI cx, vI cx] [(.int (((192 : Int32) ||| (cx >>> ((6 : Int32) &&& 31))).toInt8.toInt32)), (.int (own_len bs)), (.ref a1)]))
   have q112 : (((192 : Int32) ||| (cx >>> ((6 : Int32) &&& 31))).toInt8.toInt32) = (own_by ((192 : Int32) ||| (cx >>> ((6 : Int32) &&& 31)))) := rfl
   rw [q112]
   obtain ⟨cl113, Ar113, qa113, Sa113, Na113, Ha113, Ga113⟩ := (id V1)
   obtain ⟨T113, h113, X113, e113, W113, st113⟩ := stB X0 hx hZ e0 Ar113 (j := (own_len bs)) (own_in Sa113 (n := 8) (by decide) (by decide) (by first | omega | decide | (simp only [List.length_append, List.length_cons, List.length_nil]; omega))) (g := (mkF m 36 #[vR a1, vI (own_len bs), vI cx, vI cx] [(.int (own_by ((192 : Int32) ||| (cx >>> ((6 : Int32) &&& 31))))), (.int (own_len bs)), (.ref a1)])) rfl rfl (hb hby d8_36)
   refine Go.step st113 ?_
   have V114 := own_push (y := (own_by ((192 : Int32) ||| (cx >>> ((6 : Int32) &&& 31))))) V1 (own_ix (by first | omega | decide | (simp only [List.length_append, List.length_cons, List.length_nil]; omega))).1 W113 (own_bb _) (by first | omega | decide | (simp only [List.length_append, List.length_cons, List.length_nil]; omega))
   have N113 := Fr.snoc X113 N0 g_a1
   have F115 := (E1.wr W113)
   have Z116 : n0 ≤ h113.size := (Nat.le_trans Z0 (Nat.le_of_eq W113.size.symm))
   have K117 : Keep h0 h113 [a1] := (K101.wr W113 (Or.inl (List.mem_of_getElem? (i := 0) rfl)))
   show Go p.tables e below _ (T113.setTop (mkF m 37 #[vR a1, vI (own_len bs), vI cx, vI cx] []))
   refine Go.step (fun _ kt => XS.aloadN X113.here hx rfl (hb hby d8_37) rfl rfl (XS.iloadN X113.here hx rfl (hb hby d8_38) rfl (XS.iconst X113.here hx rfl (hb hby d8_39) (XS.iadd X113.here hx rfl (hb hby d8_40) rfl kt)))) ?_
   show Go p.tables e below _ (T113.setTop (mkF m 41 #[vR a1, vI (own_len bs), vI cx, vI cx] [(.int ((own_len bs) + (1 : Int32))), (.ref a1)]))
   have q118 : ((own_len bs) + (1 : Int32)) = (own_len (bs ++ [(own_by ((192 : Int32) ||| (cx >>> ((6 : Int32) &&& 31))))])) := own_len1 _ _
   rw [q118]
   show Go p.tables e below _ (T113.setTop (mkF m 41 #[vR a1, vI (own_len bs), vI cx, vI cx] [(.int (own_len (bs ++ [(own_by ((192 : Int32) ||| (cx >>> ((6 : Int32) &&& 31))))]))), (.ref a1)]))
   refine Go.step (fun _ kt => XS.sipush X113.here hx rfl (hb hby d8_41) (XS.iloadN X113.here hx rfl (hb hby d8_44) rfl (XS.bipush X113.here hx rfl (hb hby d8_45) (XS.iand X113.here hx rfl (hb hby d8_47) rfl (XS.ior X113.here hx rfl (hb hby d8_48) rfl (XS.i2b X113.here hx rfl (hb hby d8_49) rfl kt)))))) ?_
   show Go p.tables e below _ (T113.setTop (mkF m 50 #[vR a1, vI (own_len bs), vI cx, vI cx] [(.int (((128 : Int32) ||| (cx &&& (63 : Int32))).toInt8.toInt32)), (.int (own_len (bs ++ [(own_by ((192 : Int32) ||| (cx >>> ((6 : Int32) &&& 31))))]))), (.ref a1)]))
   have q119 : (((128 : Int32) ||| (cx &&& (63 : Int32))).toInt8.toInt32) = (own_by ((128 : Int32) ||| (cx &&& (63 : Int32)))) := rfl
   rw [q119]
   obtain ⟨cl120, Ar120, qa120, Sa120, Na120, Ha120, Ga120⟩ := (id V114)
   obtain ⟨T120, h120, X120, e120, W120, st120⟩ := stB X113 hx hZ e113 Ar120 (j := (own_len (bs ++ [(own_by ((192 : Int32) ||| (cx >>> ((6 : Int32) &&& 31))))]))) (own_in Sa120 (n := 8) (by decide) (by decide) (by first | omega | decide | (simp only [List.length_append, List.length_cons, List.length_nil]; omega))) (g := (mkF m 50 #[vR a1, vI (own_len bs), vI cx, vI cx] [(.int (own_by ((128 : Int32) ||| (cx &&& (63 : Int32))))), (.int (own_len (bs ++ [(own_by ((192 : Int32) ||| (cx >>> ((6 : Int32) &&& 31))))]))), (.ref a1)])) rfl rfl (hb hby d8_50)
   refine Go.step st120 ?_
   have V121 := own_push (y := (own_by ((128 : Int32) ||| (cx &&& (63 : Int32))))) V114 (own_ix (by first | omega | decide | (simp only [List.length_append, List.length_cons, List.length_nil]; omega))).1 W120 (own_bb _) (by first | omega | decide | (simp only [List.length_append, List.length_cons, List.length_nil]; omega))
   have N120 := Fr.snoc X120 N113 g_a1
   have F122 := (F115.wr W120)
   have Z123 : n0 ≤ h120.size := (Nat.le_trans Z116 (Nat.le_of_eq W120.size.symm))
   have K124 : Keep h0 h120 [a1] := (K117.wr W120 (Or.inl (List.mem_of_getElem? (i := 0) rfl)))
   show Go p.tables e below _ (T120.setTop (mkF m 51 #[vR a1, vI (own_len bs), vI cx, vI cx] []))
   refine Go.step (fun _ kt => XS.iloadN X120.here hx rfl (hb hby d8_51) rfl (XS.iconst X120.here hx rfl (hb hby d8_52) (XS.iadd X120.here hx rfl (hb hby d8_53) rfl kt))) ?_
   show Go p.tables e below _ (T120.setTop (mkF m 54 #[vR a1, vI (own_len bs), vI cx, vI cx] [(.int ((own_len bs) + (2 : Int32)))]))
   have q125 : ((own_len bs) + (2 : Int32)) = (own_len ((bs ++ [(own_by ((192 : Int32) ||| (cx >>> ((6 : Int32) &&& 31))))]) ++ [(own_by ((128 : Int32) ||| (cx &&& (63 : Int32))))])) := own_len2 _ _ _
   rw [q125]
   show Go p.tables e below _ (T120.setTop (mkF m 54 #[vR a1, vI (own_len bs), vI cx, vI cx] [(.int (own_len ((bs ++ [(own_by ((192 : Int32) ||| (cx >>> ((6 : Int32) &&& 31))))]) ++ [(own_by ((128 : Int32) ||| (cx &&& (63 : Int32))))])))]))
   have q0 : bs ++ own_u cx = ((bs ++ [(own_by ((192 : Int32) ||| (cx >>> ((6 : Int32) &&& 31))))]) ++ [(own_by ((128 : Int32) ||| (cx &&& (63 : Int32))))]) := (by rw [own_uB hc6_102 hc22_111]; try simp)
   have Vl126 : Arv Z h120 a1 k1 .byte (8 : Int32) ((bs ++ own_u cx).map Value.int) (.int 0) := by rw [q0]; exact V121
   obtain ⟨fs, hr, hrun, hended, hW, hsame⟩ := X120.leave (v := some (.int (own_len ((bs ++ [(own_by ((192 : Int32) ||| (cx >>> ((6 : Int32) &&& 31))))]) ++ [(own_by ((128 : Int32) ||| (cx &&& (63 : Int32))))])))) (fun h => by rw [Bd.returns] at h; cases h)
   refine ⟨_, _, retI X120 hx Bd.returns (hb hby d8_54) hr, hrun, hended, _, _, rfl, ?_, ⟨_, rfl⟩, hW, hsame.mono (by decide) (by decide)⟩
   show Qrmunit Z a1 cx k1 bs h0 n0 _ T120.heap _
   rw [e120]
   refine ⟨?_, N120, K124, F122, Vl126⟩
   rw [q0]
  ·refine Go.step (fun _ kt => XS.icmpYes X0.here hx rfl (pc0 := 22) (pc' := 55) rfl (hb hby d8_22) rfl (flt hc22_111).2.1 (by decide) (by decide) (XS.iloadN X0.here hx rfl (hb hby d8_55) rfl kt)) ?_
   refine Go.step (X0.ldcInt hx hown (mvT hZ (w35 hw)) (g := (mkF m 56 #[vR a1, vI (own_len bs), vI cx, vI cx] [(.int cx)])) rfl (hb hby d8_56)) ?_
   show Go p.tables e below _ (s₁.setTop (mkF m 58 #[vR a1, vI (own_len bs), vI cx, vI cx] [(.int 55296), (.int cx)]))
   by_cases hc58_127 : cx < (55296 : Int32)
   ·refine Go.step (fun _ kt => XS.icmpYes X0.here hx rfl (pc0 := 58) (pc' := 76) rfl (hb hby d8_58) rfl (tlt hc58_127).1 (by decide) (by decide) (XS.aloadN X0.here hx rfl (hb hby d8_76) rfl rfl (XS.iloadN X0.here hx rfl (hb hby d8_77) rfl (XS.sipush X0.here hx rfl (hb hby d8_78) (XS.iloadN X0.here hx rfl (hb hby d8_81) rfl (XS.bipush X0.here hx rfl (hb hby d8_82) (XS.ishr X0.here hx rfl (hb hby d8_84) rfl (XS.ior X0.here hx rfl (hb hby d8_85) rfl (XS.i2b X0.here hx rfl (hb hby d8_86) rfl kt))))))))) ?_
    show Go p.tables e below _ (s₁.setTop (mkF m 87 #[vR a1, vI (own_len bs), vI cx, vI cx] [(.int (((224 : Int32) ||| (cx >>> ((12 : Int32) &&& 31))).toInt8.toInt32)), (.int (own_len bs)), (.ref a1)]))
    have q128 : (((224 : Int32) ||| (cx >>> ((12 : Int32) &&& 31))).toInt8.toInt32) = (own_by ((224 : Int32) ||| (cx >>> ((12 : Int32) &&& 31)))) := rfl
    rw [q128]
    obtain ⟨cl129, Ar129, qa129, Sa129, Na129, Ha129, Ga129⟩ := (id V1)
    obtain ⟨T129, h129, X129, e129, W129, st129⟩ := stB X0 hx hZ e0 Ar129 (j := (own_len bs)) (own_in Sa129 (n := 8) (by decide) (by decide) (by first | omega | decide | (simp only [List.length_append, List.length_cons, List.length_nil]; omega))) (g := (mkF m 87 #[vR a1, vI (own_len bs), vI cx, vI cx] [(.int (own_by ((224 : Int32) ||| (cx >>> ((12 : Int32) &&& 31))))), (.int (own_len bs)), (.ref a1)])) rfl rfl (hb hby d8_87)
    refine Go.step st129 ?_
    have V130 := own_push (y := (own_by ((224 : Int32) ||| (cx >>> ((12 : Int32) &&& 31))))) V1 (own_ix (by first | omega | decide | (simp only [List.length_append, List.length_cons, List.length_nil]; omega))).1 W129 (own_bb _) (by first | omega | decide | (simp only [List.length_append, List.length_cons, List.length_nil]; omega))
    have N129 := Fr.snoc X129 N0 g_a1
    have F131 := (E1.wr W129)
    have Z132 : n0 ≤ h129.size := (Nat.le_trans Z0 (Nat.le_of_eq W129.size.symm))
    have K133 : Keep h0 h129 [a1] := (K101.wr W129 (Or.inl (List.mem_of_getElem? (i := 0) rfl)))
    show Go p.tables e below _ (T129.setTop (mkF m 88 #[vR a1, vI (own_len bs), vI cx, vI cx] []))
    refine Go.step (fun _ kt => XS.aloadN X129.here hx rfl (hb hby d8_88) rfl rfl (XS.iloadN X129.here hx rfl (hb hby d8_89) rfl (XS.iconst X129.here hx rfl (hb hby d8_90) (XS.iadd X129.here hx rfl (hb hby d8_91) rfl kt)))) ?_
    show Go p.tables e below _ (T129.setTop (mkF m 92 #[vR a1, vI (own_len bs), vI cx, vI cx] [(.int ((own_len bs) + (1 : Int32))), (.ref a1)]))
    have q134 : ((own_len bs) + (1 : Int32)) = (own_len (bs ++ [(own_by ((224 : Int32) ||| (cx >>> ((12 : Int32) &&& 31))))])) := own_len1 _ _
    rw [q134]
    show Go p.tables e below _ (T129.setTop (mkF m 92 #[vR a1, vI (own_len bs), vI cx, vI cx] [(.int (own_len (bs ++ [(own_by ((224 : Int32) ||| (cx >>> ((12 : Int32) &&& 31))))]))), (.ref a1)]))
    refine Go.step (fun _ kt => XS.sipush X129.here hx rfl (hb hby d8_92) (XS.iloadN X129.here hx rfl (hb hby d8_95) rfl (XS.bipush X129.here hx rfl (hb hby d8_96) (XS.ishr X129.here hx rfl (hb hby d8_98) rfl (XS.bipush X129.here hx rfl (hb hby d8_99) (XS.iand X129.here hx rfl (hb hby d8_101) rfl (XS.ior X129.here hx rfl (hb hby d8_102) rfl (XS.i2b X129.here hx rfl (hb hby d8_103) rfl kt)))))))) ?_
    show Go p.tables e below _ (T129.setTop (mkF m 104 #[vR a1, vI (own_len bs), vI cx, vI cx] [(.int (((128 : Int32) ||| ((cx >>> ((6 : Int32) &&& 31)) &&& (63 : Int32))).toInt8.toInt32)), (.int (own_len (bs ++ [(own_by ((224 : Int32) ||| (cx >>> ((12 : Int32) &&& 31))))]))), (.ref a1)]))
    have q135 : (((128 : Int32) ||| ((cx >>> ((6 : Int32) &&& 31)) &&& (63 : Int32))).toInt8.toInt32) = (own_by ((128 : Int32) ||| ((cx >>> ((6 : Int32) &&& 31)) &&& (63 : Int32)))) := rfl
    rw [q135]
    obtain ⟨cl136, Ar136, qa136, Sa136, Na136, Ha136, Ga136⟩ := (id V130)
    obtain ⟨T136, h136, X136, e136, W136, st136⟩ := stB X129 hx hZ e129 Ar136 (j := (own_len (bs ++ [(own_by ((224 : Int32) ||| (cx >>> ((12 : Int32) &&& 31))))]))) (own_in Sa136 (n := 8) (by decide) (by decide) (by first | omega | decide | (simp only [List.length_append, List.length_cons, List.length_nil]; omega))) (g := (mkF m 104 #[vR a1, vI (own_len bs), vI cx, vI cx] [(.int (own_by ((128 : Int32) ||| ((cx >>> ((6 : Int32) &&& 31)) &&& (63 : Int32))))), (.int (own_len (bs ++ [(own_by ((224 : Int32) ||| (cx >>> ((12 : Int32) &&& 31))))]))), (.ref a1)])) rfl rfl (hb hby d8_104)
    refine Go.step st136 ?_
    have V137 := own_push (y := (own_by ((128 : Int32) ||| ((cx >>> ((6 : Int32) &&& 31)) &&& (63 : Int32))))) V130 (own_ix (by first | omega | decide | (simp only [List.length_append, List.length_cons, List.length_nil]; omega))).1 W136 (own_bb _) (by first | omega | decide | (simp only [List.length_append, List.length_cons, List.length_nil]; omega))
    have N136 := Fr.snoc X136 N129 g_a1
    have F138 := (F131.wr W136)
    have Z139 : n0 ≤ h136.size := (Nat.le_trans Z132 (Nat.le_of_eq W136.size.symm))
    have K140 : Keep h0 h136 [a1] := (K133.wr W136 (Or.inl (List.mem_of_getElem? (i := 0) rfl)))
    show Go p.tables e below _ (T136.setTop (mkF m 105 #[vR a1, vI (own_len bs), vI cx, vI cx] []))
    refine Go.step (fun _ kt => XS.aloadN X136.here hx rfl (hb hby d8_105) rfl rfl (XS.iloadN X136.here hx rfl (hb hby d8_106) rfl (XS.iconst X136.here hx rfl (hb hby d8_107) (XS.iadd X136.here hx rfl (hb hby d8_108) rfl kt)))) ?_
    show Go p.tables e below _ (T136.setTop (mkF m 109 #[vR a1, vI (own_len bs), vI cx, vI cx] [(.int ((own_len bs) + (2 : Int32))), (.ref a1)]))
    have q141 : ((own_len bs) + (2 : Int32)) = (own_len ((bs ++ [(own_by ((224 : Int32) ||| (cx >>> ((12 : Int32) &&& 31))))]) ++ [(own_by ((128 : Int32) ||| ((cx >>> ((6 : Int32) &&& 31)) &&& (63 : Int32))))])) := own_len2 _ _ _
    rw [q141]
    show Go p.tables e below _ (T136.setTop (mkF m 109 #[vR a1, vI (own_len bs), vI cx, vI cx] [(.int (own_len ((bs ++ [(own_by ((224 : Int32) ||| (cx >>> ((12 : Int32) &&& 31))))]) ++ [(own_by ((128 : Int32) ||| ((cx >>> ((6 : Int32) &&& 31)) &&& (63 : Int32))))]))), (.ref a1)]))
    refine Go.step (fun _ kt => XS.sipush X136.here hx rfl (hb hby d8_109) (XS.iloadN X136.here hx rfl (hb hby d8_112) rfl (XS.bipush X136.here hx rfl (hb hby d8_113) (XS.iand X136.here hx rfl (hb hby d8_115) rfl (XS.ior X136.here hx rfl (hb hby d8_116) rfl (XS.i2b X136.here hx rfl (hb hby d8_117) rfl kt)))))) ?_
    show Go p.tables e below _ (T136.setTop (mkF m 118 #[vR a1, vI (own_len bs), vI cx, vI cx] [(.int (((128 : Int32) ||| (cx &&& (63 : Int32))).toInt8.toInt32)), (.int (own_len ((bs ++ [(own_by ((224 : Int32) ||| (cx >>> ((12 : Int32) &&& 31))))]) ++ [(own_by ((128 : Int32) ||| ((cx >>> ((6 : Int32) &&& 31)) &&& (63 : Int32))))]))), (.ref a1)]))
    have q142 : (((128 : Int32) ||| (cx &&& (63 : Int32))).toInt8.toInt32) = (own_by ((128 : Int32) ||| (cx &&& (63 : Int32)))) := rfl
    rw [q142]
    obtain ⟨cl143, Ar143, qa143, Sa143, Na143, Ha143, Ga143⟩ := (id V137)
    obtain ⟨T143, h143, X143, e143, W143, st143⟩ := stB X136 hx hZ e136 Ar143 (j := (own_len ((bs ++ [(own_by ((224 : Int32) ||| (cx >>> ((12 : Int32) &&& 31))))]) ++ [(own_by ((128 : Int32) ||| ((cx >>> ((6 : Int32) &&& 31)) &&& (63 : Int32))))]))) (own_in Sa143 (n := 8) (by decide) (by decide) (by first | omega | decide | (simp only [List.length_append, List.length_cons, List.length_nil]; omega))) (g := (mkF m 118 #[vR a1, vI (own_len bs), vI cx, vI cx] [(.int (own_by ((128 : Int32) ||| (cx &&& (63 : Int32))))), (.int (own_len ((bs ++ [(own_by ((224 : Int32) ||| (cx >>> ((12 : Int32) &&& 31))))]) ++ [(own_by ((128 : Int32) ||| ((cx >>> ((6 : Int32) &&& 31)) &&& (63 : Int32))))]))), (.ref a1)])) rfl rfl (hb hby d8_118)
    refine Go.step st143 ?_
    have V144 := own_push (y := (own_by ((128 : Int32) ||| (cx &&& (63 : Int32))))) V137 (own_ix (by first | omega | decide | (simp only [List.length_append, List.length_cons, List.length_nil]; omega))).1 W143 (own_bb _) (by first | omega | decide | (simp only [List.length_append, List.length_cons, List.length_nil]; omega))
    have N143 := Fr.snoc X143 N136 g_a1
    have F145 := (F138.wr W143)
    have Z146 : n0 ≤ h143.size := (Nat.le_trans Z139 (Nat.le_of_eq W143.size.symm))
    have K147 : Keep h0 h143 [a1] := (K140.wr W143 (Or.inl (List.mem_of_getElem? (i := 0) rfl)))
    show Go p.tables e below _ (T143.setTop (mkF m 119 #[vR a1, vI (own_len bs), vI cx, vI cx] []))
    refine Go.step (fun _ kt => XS.iloadN X143.here hx rfl (hb hby d8_119) rfl (XS.iconst X143.here hx rfl (hb hby d8_120) (XS.iadd X143.here hx rfl (hb hby d8_121) rfl kt))) ?_
    show Go p.tables e below _ (T143.setTop (mkF m 122 #[vR a1, vI (own_len bs), vI cx, vI cx] [(.int ((own_len bs) + (3 : Int32)))]))
    have q148 : ((own_len bs) + (3 : Int32)) = (own_len (((bs ++ [(own_by ((224 : Int32) ||| (cx >>> ((12 : Int32) &&& 31))))]) ++ [(own_by ((128 : Int32) ||| ((cx >>> ((6 : Int32) &&& 31)) &&& (63 : Int32))))]) ++ [(own_by ((128 : Int32) ||| (cx &&& (63 : Int32))))])) := own_len3 _ _ _ _
    rw [q148]
    show Go p.tables e below _ (T143.setTop (mkF m 122 #[vR a1, vI (own_len bs), vI cx, vI cx] [(.int (own_len (((bs ++ [(own_by ((224 : Int32) ||| (cx >>> ((12 : Int32) &&& 31))))]) ++ [(own_by ((128 : Int32) ||| ((cx >>> ((6 : Int32) &&& 31)) &&& (63 : Int32))))]) ++ [(own_by ((128 : Int32) ||| (cx &&& (63 : Int32))))])))]))
    have q0 : bs ++ own_u cx = (((bs ++ [(own_by ((224 : Int32) ||| (cx >>> ((12 : Int32) &&& 31))))]) ++ [(own_by ((128 : Int32) ||| ((cx >>> ((6 : Int32) &&& 31)) &&& (63 : Int32))))]) ++ [(own_by ((128 : Int32) ||| (cx &&& (63 : Int32))))]) := (by rw [own_uC hc6_102 hc22_111 (own_su1 hc58_127)]; try simp)
    have Vl149 : Arv Z h143 a1 k1 .byte (8 : Int32) ((bs ++ own_u cx).map Value.int) (.int 0) := by rw [q0]; exact V144
    obtain ⟨fs, hr, hrun, hended, hW, hsame⟩ := X143.leave (v := some (.int (own_len (((bs ++ [(own_by ((224 : Int32) ||| (cx >>> ((12 : Int32) &&& 31))))]) ++ [(own_by ((128 : Int32) ||| ((cx >>> ((6 : Int32) &&& 31)) &&& (63 : Int32))))]) ++ [(own_by ((128 : Int32) ||| (cx &&& (63 : Int32))))])))) (fun h => by rw [Bd.returns] at h; cases h)
    refine ⟨_, _, retI X143 hx Bd.returns (hb hby d8_122) hr, hrun, hended, _, _, rfl, ?_, ⟨_, rfl⟩, hW, hsame.mono (by decide) (by decide)⟩
    show Qrmunit Z a1 cx k1 bs h0 n0 _ T143.heap _
    rw [e143]
    refine ⟨?_, N143, K147, F145, Vl149⟩
    rw [q0]
   ·refine Go.step (fun _ kt => XS.icmpNo X0.here hx rfl (hb hby d8_58) rfl (flt hc58_127).1 (XS.iloadN X0.here hx rfl (hb hby d8_61) rfl kt)) ?_
    refine Go.step (X0.ldcInt hx hown (mvT hZ (w105 hw)) (g := (mkF m 62 #[vR a1, vI (own_len bs), vI cx, vI cx] [(.int cx)])) rfl (hb hby d8_62)) ?_
    show Go p.tables e below _ (s₁.setTop (mkF m 64 #[vR a1, vI (own_len bs), vI cx, vI cx] [(.int 57343), (.int cx)]))
    by_cases hc64_150 : (57343 : Int32) < cx
    ·refine Go.step (fun _ kt => XS.icmpYes X0.here hx rfl (pc0 := 64) (pc' := 76) rfl (hb hby d8_64) rfl (tlt hc64_150).2.2.1 (by decide) (by decide) (XS.aloadN X0.here hx rfl (hb hby d8_76) rfl rfl (XS.iloadN X0.here hx rfl (hb hby d8_77) rfl (XS.sipush X0.here hx rfl (hb hby d8_78) (XS.iloadN X0.here hx rfl (hb hby d8_81) rfl (XS.bipush X0.here hx rfl (hb hby d8_82) (XS.ishr X0.here hx rfl (hb hby d8_84) rfl (XS.ior X0.here hx rfl (hb hby d8_85) rfl (XS.i2b X0.here hx rfl (hb hby d8_86) rfl kt))))))))) ?_
     show Go p.tables e below _ (s₁.setTop (mkF m 87 #[vR a1, vI (own_len bs), vI cx, vI cx] [(.int (((224 : Int32) ||| (cx >>> ((12 : Int32) &&& 31))).toInt8.toInt32)), (.int (own_len bs)), (.ref a1)]))
     have q151 : (((224 : Int32) ||| (cx >>> ((12 : Int32) &&& 31))).toInt8.toInt32) = (own_by ((224 : Int32) ||| (cx >>> ((12 : Int32) &&& 31)))) := rfl
     rw [q151]
     obtain ⟨cl152, Ar152, qa152, Sa152, Na152, Ha152, Ga152⟩ := (id V1)
     obtain ⟨T152, h152, X152, e152, W152, st152⟩ := stB X0 hx hZ e0 Ar152 (j := (own_len bs)) (own_in Sa152 (n := 8) (by decide) (by decide) (by first | omega | decide | (simp only [List.length_append, List.length_cons, List.length_nil]; omega))) (g := (mkF m 87 #[vR a1, vI (own_len bs), vI cx, vI cx] [(.int (own_by ((224 : Int32) ||| (cx >>> ((12 : Int32) &&& 31))))), (.int (own_len bs)), (.ref a1)])) rfl rfl (hb hby d8_87)
     refine Go.step st152 ?_
     have V153 := own_push (y := (own_by ((224 : Int32) ||| (cx >>> ((12 : Int32) &&& 31))))) V1 (own_ix (by first | omega | decide | (simp only [List.length_append, List.length_cons, List.length_nil]; omega))).1 W152 (own_bb _) (by first | omega | decide | (simp only [List.length_append, List.length_cons, List.length_nil]; omega))
     have N152 := Fr.snoc X152 N0 g_a1
     have F154 := (E1.wr W152)
     have Z155 : n0 ≤ h152.size := (Nat.le_trans Z0 (Nat.le_of_eq W152.size.symm))
     have K156 : Keep h0 h152 [a1] := (K101.wr W152 (Or.inl (List.mem_of_getElem? (i := 0) rfl)))
     show Go p.tables e below _ (T152.setTop (mkF m 88 #[vR a1, vI (own_len bs), vI cx, vI cx] []))
     refine Go.step (fun _ kt => XS.aloadN X152.here hx rfl (hb hby d8_88) rfl rfl (XS.iloadN X152.here hx rfl (hb hby d8_89) rfl (XS.iconst X152.here hx rfl (hb hby d8_90) (XS.iadd X152.here hx rfl (hb hby d8_91) rfl kt)))) ?_
     show Go p.tables e below _ (T152.setTop (mkF m 92 #[vR a1, vI (own_len bs), vI cx, vI cx] [(.int ((own_len bs) + (1 : Int32))), (.ref a1)]))
     have q157 : ((own_len bs) + (1 : Int32)) = (own_len (bs ++ [(own_by ((224 : Int32) ||| (cx >>> ((12 : Int32) &&& 31))))])) := own_len1 _ _
     rw [q157]
     show Go p.tables e below _ (T152.setTop (mkF m 92 #[vR a1, vI (own_len bs), vI cx, vI cx] [(.int (own_len (bs ++ [(own_by ((224 : Int32) ||| (cx >>> ((12 : Int32) &&& 31))))]))), (.ref a1)]))
     refine Go.step (fun _ kt => XS.sipush X152.here hx rfl (hb hby d8_92) (XS.iloadN X152.here hx rfl (hb hby d8_95) rfl (XS.bipush X152.here hx rfl (hb hby d8_96) (XS.ishr X152.here hx rfl (hb hby d8_98) rfl (XS.bipush X152.here hx rfl (hb hby d8_99) (XS.iand X152.here hx rfl (hb hby d8_101) rfl (XS.ior X152.here hx rfl (hb hby d8_102) rfl (XS.i2b X152.here hx rfl (hb hby d8_103) rfl kt)))))))) ?_
     show Go p.tables e below _ (T152.setTop (mkF m 104 #[vR a1, vI (own_len bs), vI cx, vI cx] [(.int (((128 : Int32) ||| ((cx >>> ((6 : Int32) &&& 31)) &&& (63 : Int32))).toInt8.toInt32)), (.int (own_len (bs ++ [(own_by ((224 : Int32) ||| (cx >>> ((12 : Int32) &&& 31))))]))), (.ref a1)]))
     have q158 : (((128 : Int32) ||| ((cx >>> ((6 : Int32) &&& 31)) &&& (63 : Int32))).toInt8.toInt32) = (own_by ((128 : Int32) ||| ((cx >>> ((6 : Int32) &&& 31)) &&& (63 : Int32)))) := rfl
     rw [q158]
     obtain ⟨cl159, Ar159, qa159, Sa159, Na159, Ha159, Ga159⟩ := (id V153)
     obtain ⟨T159, h159, X159, e159, W159, st159⟩ := stB X152 hx hZ e152 Ar159 (j := (own_len (bs ++ [(own_by ((224 : Int32) ||| (cx >>> ((12 : Int32) &&& 31))))]))) (own_in Sa159 (n := 8) (by decide) (by decide) (by first | omega | decide | (simp only [List.length_append, List.length_cons, List.length_nil]; omega))) (g := (mkF m 104 #[vR a1, vI (own_len bs), vI cx, vI cx] [(.int (own_by ((128 : Int32) ||| ((cx >>> ((6 : Int32) &&& 31)) &&& (63 : Int32))))), (.int (own_len (bs ++ [(own_by ((224 : Int32) ||| (cx >>> ((12 : Int32) &&& 31))))]))), (.ref a1)])) rfl rfl (hb hby d8_104)
     refine Go.step st159 ?_
     have V160 := own_push (y := (own_by ((128 : Int32) ||| ((cx >>> ((6 : Int32) &&& 31)) &&& (63 : Int32))))) V153 (own_ix (by first | omega | decide | (simp only [List.length_append, List.length_cons, List.length_nil]; omega))).1 W159 (own_bb _) (by first | omega | decide | (simp only [List.length_append, List.length_cons, List.length_nil]; omega))
     have N159 := Fr.snoc X159 N152 g_a1
     have F161 := (F154.wr W159)
     have Z162 : n0 ≤ h159.size := (Nat.le_trans Z155 (Nat.le_of_eq W159.size.symm))
     have K163 : Keep h0 h159 [a1] := (K156.wr W159 (Or.inl (List.mem_of_getElem? (i := 0) rfl)))
     show Go p.tables e below _ (T159.setTop (mkF m 105 #[vR a1, vI (own_len bs), vI cx, vI cx] []))
     refine Go.step (fun _ kt => XS.aloadN X159.here hx rfl (hb hby d8_105) rfl rfl (XS.iloadN X159.here hx rfl (hb hby d8_106) rfl (XS.iconst X159.here hx rfl (hb hby d8_107) (XS.iadd X159.here hx rfl (hb hby d8_108) rfl kt)))) ?_
     show Go p.tables e below _ (T159.setTop (mkF m 109 #[vR a1, vI (own_len bs), vI cx, vI cx] [(.int ((own_len bs) + (2 : Int32))), (.ref a1)]))
     have q164 : ((own_len bs) + (2 : Int32)) = (own_len ((bs ++ [(own_by ((224 : Int32) ||| (cx >>> ((12 : Int32) &&& 31))))]) ++ [(own_by ((128 : Int32) ||| ((cx >>> ((6 : Int32) &&& 31)) &&& (63 : Int32))))])) := own_len2 _ _ _
     rw [q164]
     show Go p.tables e below _ (T159.setTop (mkF m 109 #[vR a1, vI (own_len bs), vI cx, vI cx] [(.int (own_len ((bs ++ [(own_by ((224 : Int32) ||| (cx >>> ((12 : Int32) &&& 31))))]) ++ [(own_by ((128 : Int32) ||| ((cx >>> ((6 : Int32) &&& 31)) &&& (63 : Int32))))]))), (.ref a1)]))
     refine Go.step (fun _ kt => XS.sipush X159.here hx rfl (hb hby d8_109) (XS.iloadN X159.here hx rfl (hb hby d8_112) rfl (XS.bipush X159.here hx rfl (hb hby d8_113) (XS.iand X159.here hx rfl (hb hby d8_115) rfl (XS.ior X159.here hx rfl (hb hby d8_116) rfl (XS.i2b X159.here hx rfl (hb hby d8_117) rfl kt)))))) ?_
     show Go p.tables e below _ (T159.setTop (mkF m 118 #[vR a1, vI (own_len bs), vI cx, vI cx] [(.int (((128 : Int32) ||| (cx &&& (63 : Int32))).toInt8.toInt32)), (.int (own_len ((bs ++ [(own_by ((224 : Int32) ||| (cx >>> ((12 : Int32) &&& 31))))]) ++ [(own_by ((128 : Int32) ||| ((cx >>> ((6 : Int32) &&& 31)) &&& (63 : Int32))))]))), (.ref a1)]))
     have q165 : (((128 : Int32) ||| (cx &&& (63 : Int32))).toInt8.toInt32) = (own_by ((128 : Int32) ||| (cx &&& (63 : Int32)))) := rfl
     rw [q165]
     obtain ⟨cl166, Ar166, qa166, Sa166, Na166, Ha166, Ga166⟩ := (id V160)
     obtain ⟨T166, h166, X166, e166, W166, st166⟩ := stB X159 hx hZ e159 Ar166 (j := (own_len ((bs ++ [(own_by ((224 : Int32) ||| (cx >>> ((12 : Int32) &&& 31))))]) ++ [(own_by ((128 : Int32) ||| ((cx >>> ((6 : Int32) &&& 31)) &&& (63 : Int32))))]))) (own_in Sa166 (n := 8) (by decide) (by decide) (by first | omega | decide | (simp only [List.length_append, List.length_cons, List.length_nil]; omega))) (g := (mkF m 118 #[vR a1, vI (own_len bs), vI cx, vI cx] [(.int (own_by ((128 : Int32) ||| (cx &&& (63 : Int32))))), (.int (own_len ((bs ++ [(own_by ((224 : Int32) ||| (cx >>> ((12 : Int32) &&& 31))))]) ++ [(own_by ((128 : Int32) ||| ((cx >>> ((6 : Int32) &&& 31)) &&& (63 : Int32))))]))), (.ref a1)])) rfl rfl (hb hby d8_118)
     refine Go.step st166 ?_
     have V167 := own_push (y := (own_by ((128 : Int32) ||| (cx &&& (63 : Int32))))) V160 (own_ix (by first | omega | decide | (simp only [List.length_append, List.length_cons, List.length_nil]; omega))).1 W166 (own_bb _) (by first | omega | decide | (simp only [List.length_append, List.length_cons, List.length_nil]; omega))
     have N166 := Fr.snoc X166 N159 g_a1
     have F168 := (F161.wr W166)
     have Z169 : n0 ≤ h166.size := (Nat.le_trans Z162 (Nat.le_of_eq W166.size.symm))
     have K170 : Keep h0 h166 [a1] := (K163.wr W166 (Or.inl (List.mem_of_getElem? (i := 0) rfl)))
     show Go p.tables e below _ (T166.setTop (mkF m 119 #[vR a1, vI (own_len bs), vI cx, vI cx] []))
     refine Go.step (fun _ kt => XS.iloadN X166.here hx rfl (hb hby d8_119) rfl (XS.iconst X166.here hx rfl (hb hby d8_120) (XS.iadd X166.here hx rfl (hb hby d8_121) rfl kt))) ?_
     show Go p.tables e below _ (T166.setTop (mkF m 122 #[vR a1, vI (own_len bs), vI cx, vI cx] [(.int ((own_len bs) + (3 : Int32)))]))
     have q171 : ((own_len bs) + (3 : Int32)) = (own_len (((bs ++ [(own_by ((224 : Int32) ||| (cx >>> ((12 : Int32) &&& 31))))]) ++ [(own_by ((128 : Int32) ||| ((cx >>> ((6 : Int32) &&& 31)) &&& (63 : Int32))))]) ++ [(own_by ((128 : Int32) ||| (cx &&& (63 : Int32))))])) := own_len3 _ _ _ _
     rw [q171]
     show Go p.tables e below _ (T166.setTop (mkF m 122 #[vR a1, vI (own_len bs), vI cx, vI cx] [(.int (own_len (((bs ++ [(own_by ((224 : Int32) ||| (cx >>> ((12 : Int32) &&& 31))))]) ++ [(own_by ((128 : Int32) ||| ((cx >>> ((6 : Int32) &&& 31)) &&& (63 : Int32))))]) ++ [(own_by ((128 : Int32) ||| (cx &&& (63 : Int32))))])))]))
     have q0 : bs ++ own_u cx = (((bs ++ [(own_by ((224 : Int32) ||| (cx >>> ((12 : Int32) &&& 31))))]) ++ [(own_by ((128 : Int32) ||| ((cx >>> ((6 : Int32) &&& 31)) &&& (63 : Int32))))]) ++ [(own_by ((128 : Int32) ||| (cx &&& (63 : Int32))))]) := (by rw [own_uC hc6_102 hc22_111 (own_su2 hc58_127 hc64_150)]; try simp)
     have Vl172 : Arv Z h166 a1 k1 .byte (8 : Int32) ((bs ++ own_u cx).map Value.int) (.int 0) := by rw [q0]; exact V167
     obtain ⟨fs, hr, hrun, hended, hW, hsame⟩ := X166.leave (v := some (.int (own_len (((bs ++ [(own_by ((224 : Int32) ||| (cx >>> ((12 : Int32) &&& 31))))]) ++ [(own_by ((128 : Int32) ||| ((cx >>> ((6 : Int32) &&& 31)) &&& (63 : Int32))))]) ++ [(own_by ((128 : Int32) ||| (cx &&& (63 : Int32))))])))) (fun h => by rw [Bd.returns] at h; cases h)
     refine ⟨_, _, retI X166 hx Bd.returns (hb hby d8_122) hr, hrun, hended, _, _, rfl, ?_, ⟨_, rfl⟩, hW, hsame.mono (by decide) (by decide)⟩
     show Qrmunit Z a1 cx k1 bs h0 n0 _ T166.heap _
     rw [e166]
     refine ⟨?_, N166, K170, F168, Vl172⟩
     rw [q0]
    ·refine Go.step (fun _ kt => XS.icmpNo X0.here hx rfl (hb hby d8_64) rfl (flt hc64_150).2.2.1 (XS.aloadN X0.here hx rfl (hb hby d8_67) rfl rfl (XS.iloadN X0.here hx rfl (hb hby d8_68) rfl (XS.bipush X0.here hx rfl (hb hby d8_69) kt)))) ?_
     obtain ⟨cl173, Ar173, qa173, Sa173, Na173, Ha173, Ga173⟩ := (id V1)
     obtain ⟨T173, h173, X173, e173, W173, st173⟩ := stB X0 hx hZ e0 Ar173 (j := (own_len bs)) (own_in Sa173 (n := 8) (by decide) (by decide) (by first | omega | decide | (simp only [List.length_append, List.length_cons, List.length_nil]; omega))) (g := (mkF m 71 #[vR a1, vI (own_len bs), vI cx, vI cx] [(.int 63), (.int (own_len bs)), (.ref a1)])) rfl rfl (hb hby d8_71)
     refine Go.step st173 ?_
     have V174 := own_push (y := (63 : Int32)) V1 (own_ix (by first | omega | decide | (simp only [List.length_append, List.length_cons, List.length_nil]; omega))).1 W173 (by decide) (by first | omega | decide | (simp only [List.length_append, List.length_cons, List.length_nil]; omega))
     have N173 := Fr.snoc X173 N0 g_a1
     have F175 := (E1.wr W173)
     have Z176 : n0 ≤ h173.size := (Nat.le_trans Z0 (Nat.le_of_eq W173.size.symm))
     have K177 : Keep h0 h173 [a1] := (K101.wr W173 (Or.inl (List.mem_of_getElem? (i := 0) rfl)))
     show Go p.tables e below _ (T173.setTop (mkF m 72 #[vR a1, vI (own_len bs), vI cx, vI cx] []))
     refine Go.step (fun _ kt => XS.iloadN X173.here hx rfl (hb hby d8_72) rfl (XS.iconst X173.here hx rfl (hb hby d8_73) (XS.iadd X173.here hx rfl (hb hby d8_74) rfl kt))) ?_
     show Go p.tables e below _ (T173.setTop (mkF m 75 #[vR a1, vI (own_len bs), vI cx, vI cx] [(.int ((own_len bs) + (1 : Int32)))]))
     have q178 : ((own_len bs) + (1 : Int32)) = (own_len (bs ++ [(63 : Int32)])) := own_len1 _ _
     rw [q178]
     show Go p.tables e below _ (T173.setTop (mkF m 75 #[vR a1, vI (own_len bs), vI cx, vI cx] [(.int (own_len (bs ++ [(63 : Int32)])))]))
     have q0 : bs ++ own_u cx = (bs ++ [(63 : Int32)]) := (by rw [own_uS hc6_102 hc22_111 (own_su3 hc58_127 hc64_150)]; try simp)
     have Vl179 : Arv Z h173 a1 k1 .byte (8 : Int32) ((bs ++ own_u cx).map Value.int) (.int 0) := by rw [q0]; exact V174
     obtain ⟨fs, hr, hrun, hended, hW, hsame⟩ := X173.leave (v := some (.int (own_len (bs ++ [(63 : Int32)])))) (fun h => by rw [Bd.returns] at h; cases h)
     refine ⟨_, _, retI X173 hx Bd.returns (hb hby d8_75) hr, hrun, hended, _, _, rfl, ?_, ⟨_, rfl⟩, hW, hsame.mono (by decide) (by decide)⟩
     show Qrmunit Z a1 cx k1 bs h0 n0 _ T173.heap _
     rw [e173]
     refine ⟨?_, N173, K177, F175, Vl179⟩
     rw [q0]
theorem d28_0 : dC20 0 (.ldc 44, 2) := by decide +kernel
theorem d28_2 : dC20 2 (.iload_n 1, 1) := by decide +kernel
theorem d28_3 : dC20 3 (.ldc 8, 2) := by decide +kernel
theorem d28_5 : dC20 5 (.isub, 1) := by decide +kernel
theorem d28_6 : dC20 6 (.bipush 10, 2) := by decide +kernel
theorem d28_8 : dC20 8 (.ishl, 1) := by decide +kernel
theorem d28_9 : dC20 9 (.iadd, 1) := by decide +kernel
theorem d28_10 : dC20 10 (.iload_n 2, 1) := by decide +kernel
theorem d28_11 : dC20 11 (.ldc 9, 2) := by decide +kernel
theorem d28_13 : dC20 13 (.isub, 1) := by decide +kernel
theorem d28_14 : dC20 14 (.iadd, 1) := by decide +kernel
theorem d28_15 : dC20 15 (.istore_n 3, 1) := by decide +kernel
theorem d28_16 : dC20 16 (.aload_n 0, 1) := by decide +kernel
theorem d28_17 : dC20 17 (.iconst 0, 1) := by decide +kernel
theorem d28_18 : dC20 18 (.sipush 240, 3) := by decide +kernel
theorem d28_21 : dC20 21 (.iload_n 3, 1) := by decide +kernel
theorem d28_22 : dC20 22 (.bipush 18, 2) := by decide +kernel
theorem d28_24 : dC20 24 (.ishr, 1) := by decide +kernel
theorem d28_25 : dC20 25 (.ior, 1) := by decide +kernel
theorem d28_26 : dC20 26 (.i2b, 1) := by decide +kernel
theorem d28_27 : dC20 27 (.bastore, 1) := by decide +kernel
theorem d28_28 : dC20 28 (.aload_n 0, 1) := by decide +kernel
theorem d28_29 : dC20 29 (.iconst 1, 1) := by decide +kernel
theorem d28_30 : dC20 30 (.sipush 128, 3) := by decide +kernel
theorem d28_33 : dC20 33 (.iload_n 3, 1) := by decide +kernel
theorem d28_34 : dC20 34 (.bipush 12, 2) := by decide +kernel
theorem d28_36 : dC20 36 (.ishr, 1) := by decide +kernel
theorem d28_37 : dC20 37 (.bipush 63, 2) := by decide +kernel
theorem d28_39 : dC20 39 (.iand, 1) := by decide +kernel
theorem d28_40 : dC20 40 (.ior, 1) := by decide +kernel
theorem d28_41 : dC20 41 (.i2b, 1) := by decide +kernel
theorem d28_42 : dC20 42 (.bastore, 1) := by decide +kernel
theorem d28_43 : dC20 43 (.aload_n 0, 1) := by decide +kernel
theorem d28_44 : dC20 44 (.iconst 2, 1) := by decide +kernel
theorem d28_45 : dC20 45 (.sipush 128, 3) := by decide +kernel
theorem d28_48 : dC20 48 (.iload_n 3, 1) := by decide +kernel
theorem d28_49 : dC20 49 (.bipush 6, 2) := by decide +kernel
theorem d28_51 : dC20 51 (.ishr, 1) := by decide +kernel
theorem d28_52 : dC20 52 (.bipush 63, 2) := by decide +kernel
theorem d28_54 : dC20 54 (.iand, 1) := by decide +kernel
theorem d28_55 : dC20 55 (.ior, 1) := by decide +kernel
theorem d28_56 : dC20 56 (.i2b, 1) := by decide +kernel
theorem d28_57 : dC20 57 (.bastore, 1) := by decide +kernel
theorem d28_58 : dC20 58 (.aload_n 0, 1) := by decide +kernel
theorem d28_59 : dC20 59 (.iconst 3, 1) := by decide +kernel
theorem d28_60 : dC20 60 (.sipush 128, 3) := by decide +kernel
theorem d28_63 : dC20 63 (.iload_n 3, 1) := by decide +kernel
theorem d28_64 : dC20 64 (.bipush 63, 2) := by decide +kernel
theorem d28_66 : dC20 66 (.iand, 1) := by decide +kernel
theorem d28_67 : dC20 67 (.ior, 1) := by decide +kernel
theorem d28_68 : dC20 68 (.i2b, 1) := by decide +kernel
theorem d28_69 : dC20 69 (.bastore, 1) := by decide +kernel
theorem d28_70 : dC20 70 (.iconst 4, 1) := by decide +kernel
theorem d28_71 : dC20 71 (.ireturn, 1) := by decide +kernel
theorem ef_rmpair (m : MethodId) (a1 : Addr) (ca : Int32) (cb : Int32) (k1 : ClassId) : entryFrame m #[(.ref a1), (.int ca), (.int cb)] 4 = mkF m 0 #[vR a1, vI ca, vI cb, uS] [] := by first | (simp [entryFrame, mkF, argsToLocals, Value.category]; done) | rfl
def Qrmpair (Z : State) (a1 : Addr) (ca : Int32) (cb : Int32) (k1 : ClassId) (h0 : Heap) (n0 : Nat) (v : Option Value) (h : Heap) (L : List Loc) : Prop := v = some (.int (own_len (own_p ca cb))) ∧ Fr n0 L ∧ Keep h0 h [a1] ∧ Exa Z h a1 "[B" ∧ Arv Z h a1 k1 .byte (8 : Int32) ((own_p ca cb).map Value.int) (.int 0)
set_option maxRecDepth 65536 in
set_option maxHeartbeats 40000000 in
theorem rmpair (l : Launch) (Z : State) (a0 : Array Value) (hw : ∀ d ∈ tables_1, d.before a0 Z = true) (ws : List Jvm.Cond) (a1 : Addr) (ca : Int32) (cb : Int32) (k1 : ClassId) (h0 : Heap) (n0 : Nat) (Z0 : n0 ≤ h0.size) (E1 : Exa Z h0 a1 "[B") (V1 : Arv Z h0 a1 k1 .byte (8 : Int32) (([] : List Int32).map Value.int) (.int 0)) (g_a1 : n0 ≤ a1) (hp1 : ¬ own_hs ca = 0) (hp2 : ¬ own_ls cb = 0) :
    MetFree l Y20 (head1 (Jvm.Cond.code Y20 method_6_code 4 (some .int) :: ws) Rm0) (fun a U => a = #[(.ref a1), (.int ca), (.int cb)] ∧ Z.Warmed39 U.vm ∧ U.heap = h0) (fun _ _ _ _ _ => True) (fun _ U o U' => ∃ v L, o = .returned v ∧ Qrmpair Z a1 ca cb k1 h0 n0 v U'.heap L ∧ FrameEnd U o U' L Rm0.cells Rm0.slots) := by
 refine MetFree.of_bodySF (plainFor_of_name pn_2) hisR ?_
 intro p e s m args below meth c s₁ Bd hml0 hP hK
 obtain ⟨rfl, hZ, hh⟩ := hP
 have hx := Bd.exec
 have hby := Bd.bytes
 have hml : c.maxLocals = 4 := hml0
 have hown : s.vm.findClass "com/example/sibyl/sibyl/core/KeyBytesOfPinLaw" = some m.cls := findClass_of_methodNamed Bd.named
 have hnm := (name_of_methodNamed Bd.named Bd.method).1
 have X0 : Stand p l e Rm0 s m #[(.ref a1), (.int ca), (.int cb)] below meth c s₁ [] 0 0 := Stand.of_body Bd
 have e0 : s₁.heap = h0 := by rw [← hh, Bd.state]; rfl
 have N0 := Fr.nil n0
 show Go p.tables e below (fun o U' => ∃ v L, o = .returned v ∧ Qrmpair Z a1 ca cb k1 h0 n0 v U'.heap L ∧ FrameEnd s o U' L Rm0.cells Rm0.slots) _
 refine Go.step (fun t kt => castTop (ef_rmpair m a1 ca cb k1) kt) ?_
 show Go p.tables e below _ (s₁.setTop (mkF m 0 #[vR a1, vI ca, vI cb, uS] []))
 have K101 : Keep h0 h0 [a1] := (Keep.refl h0 [a1])
 refine Go.step (X0.ldcInt hx hown (mvT hZ (w139 hw)) (g := (mkF m 0 #[vR a1, vI ca, vI cb, uS] [])) rfl (hb hby d28_0)) ?_
 show Go p.tables e below _ (s₁.setTop (mkF m 2 #[vR a1, vI ca, vI cb, uS] [(.int 65536)]))
 refine Go.step (fun _ kt => XS.iloadN X0.here hx rfl (hb hby d28_2) rfl kt) ?_
 refine Go.step (X0.ldcInt hx hown (mvT hZ (w35 hw)) (g := (mkF m 3 #[vR a1, vI ca, vI cb, uS] [(.int ca), (.int 65536)])) rfl (hb hby d28_3)) ?_
 show Go p.tables e below _ (s₁.setTop (mkF m 5 #[vR a1, vI ca, vI cb, uS] [(.int 55296), (.int ca), (.int 65536)]))
 refine Go.step (fun _ kt => XS.isub X0.here hx rfl (hb hby d28_5) rfl (XS.bipush X0.here hx rfl (hb hby d28_6) (XS.ishl X0.here hx rfl (hb hby d28_8) rfl (XS.iadd X0.here hx rfl (hb hby d28_9) rfl (XS.iloadN X0.here hx rfl (hb hby d28_10) rfl kt))))) ?_
 refine Go.step (X0.ldcInt hx hown (mvT hZ (w85 hw)) (g := (mkF m 11 #[vR a1, vI ca, vI cb, uS] [(.int cb), (.int ((65536 : Int32) + ((ca - (55296 : Int32)) <<< ((10 : Int32) &&& 31))))])) rfl (hb hby d28_11)) ?_
 show Go p.tables e below _ (s₁.setTop (mkF m 13 #[vR a1, vI ca, vI cb, uS] [(.int 56320), (.int cb), (.int ((65536 : Int32) + ((ca - (55296 : Int32)) <<< ((10 : Int32) &&& 31))))]))
 refine Go.step (fun _ kt => XS.isub X0.here hx rfl (hb hby d28_13) rfl (XS.iadd X0.here hx rfl (hb hby d28_14) rfl kt)) ?_
 show Go p.tables e below _ (s₁.setTop (mkF m 15 #[vR a1, vI ca, vI cb, uS] [(.int (((65536 : Int32) + ((ca - (55296 : Int32)) <<< ((10 : Int32) &&& 31))) + (cb - (56320 : Int32))))]))
 have q102 : (((65536 : Int32) + ((ca - (55296 : Int32)) <<< ((10 : Int32) &&& 31))) + (cb - (56320 : Int32))) = (own_cp ca cb) := own_cpe hp1 hp2
 rw [q102]
 show Go p.tables e below _ (s₁.setTop (mkF m 15 #[vR a1, vI ca, vI cb, uS] [(.int (own_cp ca cb))]))
 refine Go.step (fun _ kt => XS.istoreN X0.here hx rfl (hb hby d28_15) rfl (l' := #[vR a1, vI ca, vI cb, vI (own_cp ca cb)]) rfl (XS.aloadN X0.here hx rfl (hb hby d28_16) rfl rfl (XS.iconst X0.here hx rfl (hb hby d28_17) kt))) ?_
 show Go p.tables e below _ (s₁.setTop (mkF m 18 #[vR a1, vI ca, vI cb, vI (own_cp ca cb)] [(.int 0), (.ref a1)]))
 have q103 : (0 : Int32) = (own_len ([] : List Int32)) := rfl
 rw [q103]
 show Go p.tables e below _ (s₁.setTop (mkF m 18 #[vR a1, vI ca, vI cb, vI (own_cp ca cb)] [(.int (own_len ([] : List Int32))), (.ref a1)]))
 refine Go.step (fun _ kt => XS.sipush X0.here hx rfl (hb hby d28_18) (XS.iloadN X0.here hx rfl (hb hby d28_21) rfl (XS.bipush X0.here hx rfl (hb hby d28_22) (XS.ishr X0.here hx rfl (hb hby d28_24) rfl (XS.ior X0.here hx rfl (hb hby d28_25) rfl (XS.i2b X0.here hx rfl (hb hby d28_26) rfl kt)))))) ?_
 show Go p.tables e below _ (s₁.setTop (mkF m 27 #[vR a1, vI ca, vI cb, vI (own_cp ca cb)] [(.int (((240 : Int32) ||| ((own_cp ca cb) >>> ((18 : Int32) &&& 31))).toInt8.toInt32)), (.int (own_len ([] : List Int32))), (.ref a1)]))
 have q104 : (((240 : Int32) ||| ((own_cp ca cb) >>> ((18 : Int32) &&& 31))).toInt8.toInt32) = (own_by ((240 : Int32) ||| ((own_cp ca cb) >>> ((18 : Int32) &&& 31)))) := rfl
 rw [q104]
 obtain ⟨cl105, Ar105, qa105, Sa105, Na105, Ha105, Ga105⟩ := (id V1)
 obtain ⟨T105, h105, X105, e105, W105, st105⟩ := stB X0 hx hZ e0 Ar105 (j := (own_len ([] : List Int32))) (own_in Sa105 (n := 8) (by decide) (by decide) (by first | omega | decide | (simp only [List.length_append, List.length_cons, List.length_nil]; omega))) (g := (mkF m 27 #[vR a1, vI ca, vI cb, vI (own_cp ca cb)] [(.int (own_by ((240 : Int32) ||| ((own_cp ca cb) >>> ((18 : Int32) &&& 31))))), (.int (own_len ([] : List Int32))), (.ref a1)])) rfl rfl (hb hby d28_27)
 refine Go.step st105 ?_
 have V106 := own_push (y := (own_by ((240 : Int32) ||| ((own_cp ca cb) >>> ((18 : Int32) &&& 31))))) V1 (own_ix (by first | omega | decide | (simp only [List.length_append, List.length_cons, List.length_nil]; omega))).1 W105 (own_bb _) (by first | omega | decide | (simp only [List.length_append, List.length_cons, List.length_nil]; omega))
 have N105 := Fr.snoc X105 N0 g_a1
 have F107 := (E1.wr W105)
 have Z108 : n0 ≤ h105.size := (Nat.le_trans Z0 (Nat.le_of_eq W105.size.symm))
 have K109 : Keep h0 h105 [a1] := (K101.wr W105 (Or.inl (List.mem_of_getElem? (i := 0) rfl)))
 show Go p.tables e below _ (T105.setTop (mkF m 28 #[vR a1, vI ca, vI cb, vI (own_cp ca cb)] []))
 refine Go.step (fun _ kt => XS.aloadN X105.here hx rfl (hb hby d28_28) rfl rfl (XS.iconst X105.here hx rfl (hb hby d28_29) kt)) ?_
 show Go p.tables e below _ (T105.setTop (mkF m 30 #[vR a1, vI ca, vI cb, vI (own_cp ca cb)] [(.int 1), (.ref a1)]))
 have q110 : (1 : Int32) = (own_len (([] : List Int32) ++ [(own_by ((240 : Int32) ||| ((own_cp ca cb) >>> ((18 : Int32) &&& 31))))])) := rfl
 rw [q110]
 show Go p.tables e below _ (T105.setTop (mkF m 30 #[vR a1, vI ca, vI cb, vI (own_cp ca cb)] [(.int (own_len (([] : List Int32) ++ [(own_by ((240 : Int32) ||| ((own_cp ca cb) >>> ((18 : Int32) &&& 31))))]))), (.ref a1)]))
 refine Go.step (fun _ kt => XS.sipush X105.here hx rfl (hb hby d28_30) (XS.iloadN X105.here hx rfl (hb hby d28_33) rfl (XS.bipush X105.here hx rfl (hb hby d28_34) (XS.ishr X105.here hx rfl (hb hby d28_36) rfl (XS.bipush X105.here hx rfl (hb hby d28_37) (XS.iand X105.here hx rfl (hb hby d28_39) rfl (XS.ior X105.here hx rfl (hb hby d28_40) rfl (XS.i2b X105.here hx rfl (hb hby d28_41) rfl kt)))))))) ?_
 show Go p.tables e below _ (T105.setTop (mkF m 42 #[vR a1, vI ca, vI cb, vI (own_cp ca cb)] [(.int (((128 : Int32) ||| (((own_cp ca cb) >>> ((12 : Int32) &&& 31)) &&& (63 : Int32))).toInt8.toInt32)), (.int (own_len (([] : List Int32) ++ [(own_by ((240 : Int32) ||| ((own_cp ca cb) >>> ((18 : Int32) &&& 31))))]))), (.ref a1)]))
 have q111 : (((128 : Int32) ||| (((own_cp ca cb) >>> ((12 : Int32) &&& 31)) &&& (63 : Int32))).toInt8.toInt32) = (own_by ((128 : Int32) ||| (((own_cp ca cb) >>> ((12 : Int32) &&& 31)) &&& (63 : Int32)))) := rfl
 rw [q111]
 obtain ⟨cl112, Ar112, qa112, Sa112, Na112, Ha112, Ga112⟩ := (id V106)
 obtain ⟨T112, h112, X112, e112, W112, st112⟩ := stB X105 hx hZ e105 Ar112 (j := (own_len (([] : List Int32) ++ [(own_by ((240 : Int32) ||| ((own_cp ca cb) >>> ((18 : Int32) &&& 31))))]))) (own_in Sa112 (n := 8) (by decide) (by decide) (by first | omega | decide | (simp only [List.length_append, List.length_cons, List.length_nil]; omega))) (g := (mkF m 42 #[vR a1, vI ca, vI cb, vI (own_cp ca cb)] [(.int (own_by ((128 : Int32) ||| (((own_cp ca cb) >>> ((12 : Int32) &&& 31)) &&& (63 : Int32))))), (.int (own_len (([] : List Int32) ++ [(own_by ((240 : Int32) ||| ((own_cp ca cb) >>> ((18 : Int32) &&& 31))))]))), (.ref a1)])) rfl rfl (hb hby d28_42)
 refine Go.step st112 ?_
 have V113 := own_push (y := (own_by ((128 : Int32) ||| (((own_cp ca cb) >>> ((12 : Int32) &&& 31)) &&& (63 : Int32))))) V106 (own_ix (by first | omega | decide | (simp only [List.length_append, List.length_cons, List.length_nil]; omega))).1 W112 (own_bb _) (by first | omega | decide | (simp only [List.length_append, List.length_cons, List.length_nil]; omega))
 have N112 := Fr.snoc X112 N105 g_a1
 have F114 := (F107.wr W112)
 have Z115 : n0 ≤ h112.size := (Nat.le_trans Z108 (Nat.le_of_eq W112.size.symm))
 have K116 : Keep h0 h112 [a1] := (K109.wr W112 (Or.inl (List.mem_of_getElem? (i := 0) rfl)))
 show Go p.tables e below _ (T112.setTop (mkF m 43 #[vR a1, vI ca, vI cb, vI (own_cp ca cb)] []))
 refine Go.step (fun _ kt => XS.aloadN X112.here hx rfl (hb hby d28_43) rfl rfl (XS.iconst X112.here hx rfl (hb hby d28_44) kt)) ?_
 show Go p.tables e below _ (T112.setTop (mkF m 45 #[vR a1, vI ca, vI cb, vI (own_cp ca cb)] [(.int 2), (.ref a1)]))
 have q117 : (2 : Int32) = (own_len ((([] : List Int32) ++ [(own_by ((240 : Int32) ||| ((own_cp ca cb) >>> ((18 : Int32) &&& 31))))]) ++ [(own_by ((128 : Int32) ||| (((own_cp ca cb) >>> ((12 : Int32) &&& 31)) &&& (63 : Int32))))])) := rfl
 rw [q117]
 show Go p.tables e below _ (T112.setTop (mkF m 45 #[vR a1, vI ca, vI cb, vI (own_cp ca cb)] [(.int (own_len ((([] : List Int32) ++ [(own_by ((240 : Int32) ||| ((own_cp ca cb) >>> ((18 : Int32) &&& 31))))]) ++ [(own_by ((128 : Int32) ||| (((own_cp ca cb) >>> ((12 : Int32) &&& 31)) &&& (63 : Int32))))]))), (.ref a1)]))
 refine Go.step (fun _ kt => XS.sipush X112.here hx rfl (hb hby d28_45) (XS.iloadN X112.here hx rfl (hb hby d28_48) rfl (XS.bipush X112.here hx rfl (hb hby d28_49) (XS.ishr X112.here hx rfl (hb hby d28_51) rfl (XS.bipush X112.here hx rfl (hb hby d28_52) (XS.iand X112.here hx rfl (hb hby d28_54) rfl (XS.ior X112.here hx rfl (hb hby d28_55) rfl (XS.i2b X112.here hx rfl (hb hby d28_56) rfl kt)))))))) ?_
 show Go p.tables e below _ (T112.setTop (mkF m 57 #[vR a1, vI ca, vI cb, vI (own_cp ca cb)] [(.int (((128 : Int32) ||| (((own_cp ca cb) >>> ((6 : Int32) &&& 31)) &&& (63 : Int32))).toInt8.toInt32)), (.int (own_len ((([] : List Int32) ++ [(own_by ((240 : Int32) ||| ((own_cp ca cb) >>> ((18 : Int32) &&& 31))))]) ++ [(own_by ((128 : Int32) ||| (((own_cp ca cb) >>> ((12 : Int32) &&& 31)) &&& (63 : Int32))))]))), (.ref a1)]))
 have q118 : (((128 : Int32) ||| (((own_cp ca cb) >>> ((6 : Int32) &&& 31)) &&& (63 : Int32))).toInt8.toInt32) = (own_by ((128 : Int32) ||| (((own_cp ca cb) >>> ((6 : Int32) &&& 31)) &&& (63 : Int32)))) := rfl
 rw [q118]
 obtain ⟨cl119, Ar119, qa119, Sa119, Na119, Ha119, Ga119⟩ := (id V113)
 obtain ⟨T119, h119, X119, e119, W119, st119⟩ := stB X112 hx hZ e112 Ar119 (j := (own_len ((([] : List Int32) ++ [(own_by ((240 : Int32) ||| ((own_cp ca cb) >>> ((18 : Int32) &&& 31))))]) ++ [(own_by ((128 : Int32) ||| (((own_cp ca cb) >>> ((12 : Int32) &&& 31)) &&& (63 : Int32))))]))) (own_in Sa119 (n := 8) (by decide) (by decide) (by first | omega | decide | (simp only [List.length_append, List.length_cons, List.length_nil]; omega))) (g := (mkF m 57 #[vR a1, vI ca, vI cb, vI (own_cp ca cb)] [(.int (own_by ((128 : Int32) ||| (((own_cp ca cb) >>> ((6 : Int32) &&& 31)) &&& (63 : Int32))))), (.int (own_len ((([] : List Int32) ++ [(own_by ((240 : Int32) ||| ((own_cp ca cb) >>> ((18 : Int32) &&& 31))))]) ++ [(own_by ((128 : Int32) ||| (((own_cp ca cb) >>> ((12 : Int32) &&& 31)) &&& (63 : Int32))))]))), (.ref a1)])) rfl rfl (hb hby d28_57)
 refine Go.step st119 ?_
 have V120 := own_push (y := (own_by ((128 : Int32) ||| (((own_cp ca cb) >>> ((6 : Int32) &&& 31)) &&& (63 : Int32))))) V113 (own_ix (by first | omega | decide | (simp only [List.length_append, List.length_cons, List.length_nil]; omega))).1 W119 (own_bb _) (by first | omega | decide | (simp only [List.length_append, List.length_cons, List.length_nil]; omega))
 have N119 := Fr.snoc X119 N112 g_a1
 have F121 := (F114.wr W119)
 have Z122 : n0 ≤ h119.size := (Nat.le_trans Z115 (Nat.le_of_eq W119.size.symm))
 have K123 : Keep h0 h119 [a1] := (K116.wr W119 (Or.inl (List.mem_of_getElem? (i := 0) rfl)))
 show Go p.tables e below _ (T119.setTop (mkF m 58 #[vR a1, vI ca, vI cb, vI (own_cp ca cb)] []))
 refine Go.step (fun _ kt => XS.aloadN X119.here hx rfl (hb hby d28_58) rfl rfl (XS.iconst X119.here hx rfl (hb hby d28_59) kt)) ?_
 show Go p.tables e below _ (T119.setTop (mkF m 60 #[vR a1, vI ca, vI cb, vI (own_cp ca cb)] [(.int 3), (.ref a1)]))
 have q124 : (3 : Int32) = (own_len (((([] : List Int32) ++ [(own_by ((240 : Int32) ||| ((own_cp ca cb) >>> ((18 : Int32) &&& 31))))]) ++ [(own_by ((128 : Int32) ||| (((own_cp ca cb) >>> ((12 : Int32) &&& 31)) &&& (63 : Int32))))]) ++ [(own_by ((128 : Int32) ||| (((own_cp ca cb) >>> ((6 : Int32) &&& 31)) &&& (63 : Int32))))])) := rfl
 rw [q124]
 show Go p.tables e below _ (T119.setTop (mkF m 60 #[vR a1, vI ca, vI cb, vI (own_cp ca cb)] [(.int (own_len (((([] : List Int32) ++ [(own_by ((240 : Int32) ||| ((own_cp ca cb) >>> ((18 : Int32) &&& 31))))]) ++ [(own_by ((128 : Int32) ||| (((own_cp ca cb) >>> ((12 : Int32) &&& 31)) &&& (63 : Int32))))]) ++ [(own_by ((128 : Int32) ||| (((own_cp ca cb) >>> ((6 : Int32) &&& 31)) &&& (63 : Int32))))]))), (.ref a1)]))
 refine Go.step (fun _ kt => XS.sipush X119.here hx rfl (hb hby d28_60) (XS.iloadN X119.here hx rfl (hb hby d28_63) rfl (XS.bipush X119.here hx rfl (hb hby d28_64) (XS.iand X119.here hx rfl (hb hby d28_66) rfl (XS.ior X119.here hx rfl (hb hby d28_67) rfl (XS.i2b X119.here hx rfl (hb hby d28_68) rfl kt)))))) ?_
 show Go p.tables e below _ (T119.setTop (mkF m 69 #[vR a1, vI ca, vI cb, vI (own_cp ca cb)] [(.int (((128 : Int32) ||| ((own_cp ca cb) &&& (63 : Int32))).toInt8.toInt32)), (.int (own_len (((([] : List Int32) ++ [(own_by ((240 : Int32) ||| ((own_cp ca cb) >>> ((18 : Int32) &&& 31))))]) ++ [(own_by ((128 : Int32) ||| (((own_cp ca cb) >>> ((12 : Int32) &&& 31)) &&& (63 : Int32))))]) ++ [(own_by ((128 : Int32) ||| (((own_cp ca cb) >>> ((6 : Int32) &&& 31)) &&& (63 : Int32))))]))), (.ref a1)]))
 have q125 : (((128 : Int32) ||| ((own_cp ca cb) &&& (63 : Int32))).toInt8.toInt32) = (own_by ((128 : Int32) ||| ((own_cp ca cb) &&& (63 : Int32)))) := rfl
 rw [q125]
 obtain ⟨cl126, Ar126, qa126, Sa126, Na126, Ha126, Ga126⟩ := (id V120)
 obtain ⟨T126, h126, X126, e126, W126, st126⟩ := stB X119 hx hZ e119 Ar126 (j := (own_len (((([] : List Int32) ++ [(own_by ((240 : Int32) ||| ((own_cp ca cb) >>> ((18 : Int32) &&& 31))))]) ++ [(own_by ((128 : Int32) ||| (((own_cp ca cb) >>> ((12 : Int32) &&& 31)) &&& (63 : Int32))))]) ++ [(own_by ((128 : Int32) ||| (((own_cp ca cb) >>> ((6 : Int32) &&& 31)) &&& (63 : Int32))))]))) (own_in Sa126 (n := 8) (by decide) (by decide) (by first | omega | decide | (simp only [List.length_append, List.length_cons, List.length_nil]; omega))) (g := (mkF m 69 #[vR a1, vI ca, vI cb, vI (own_cp ca cb)] [(.int (own_by ((128 : Int32) ||| ((own_cp ca cb) &&& (63 : Int32))))), (.int (own_len (((([] : List Int32) ++ [(own_by ((240 : Int32) ||| ((own_cp ca cb) >>> ((18 : Int32) &&& 31))))]) ++ [(own_by ((128 : Int32) ||| (((own_cp ca cb) >>> ((12 : Int32) &&& 31)) &&& (63 : Int32))))]) ++ [(own_by ((128 : Int32) ||| (((own_cp ca cb) >>> ((6 : Int32) &&& 31)) &&& (63 : Int32))))]))), (.ref a1)])) rfl rfl (hb hby d28_69)
 refine Go.step st126 ?_
 have V127 := own_push (y := (own_by ((128 : Int32) ||| ((own_cp ca cb) &&& (63 : Int32))))) V120 (own_ix (by first | omega | decide | (simp only [List.length_append, List.length_cons, List.length_nil]; omega))).1 W126 (own_bb _) (by first | omega | decide | (simp only [List.length_append, List.length_cons, List.length_nil]; omega))
 have N126 := Fr.snoc X126 N119 g_a1
 have F128 := (F121.wr W126)
 have Z129 : n0 ≤ h126.size := (Nat.le_trans Z122 (Nat.le_of_eq W126.size.symm))
 have K130 : Keep h0 h126 [a1] := (K123.wr W126 (Or.inl (List.mem_of_getElem? (i := 0) rfl)))
 show Go p.tables e below _ (T126.setTop (mkF m 70 #[vR a1, vI ca, vI cb, vI (own_cp ca cb)] []))
 refine Go.step (fun _ kt => XS.iconst X126.here hx rfl (hb hby d28_70) kt) ?_
 show Go p.tables e below _ (T126.setTop (mkF m 71 #[vR a1, vI ca, vI cb, vI (own_cp ca cb)] [(.int 4)]))
 have Vl131 : Arv Z h126 a1 k1 .byte (8 : Int32) ((own_p ca cb).map Value.int) (.int 0) := V127
 obtain ⟨fs, hr, hrun, hended, hW, hsame⟩ := X126.leave (v := some (.int 4)) (fun h => by rw [Bd.returns] at h; cases h)
 refine ⟨_, _, retI X126 hx Bd.returns (hb hby d28_71) hr, hrun, hended, _, _, rfl, ?_, ⟨_, rfl⟩, hW, hsame.mono (by decide) (by decide)⟩
 show Qrmpair Z a1 ca cb k1 h0 n0 _ T126.heap _
 rw [e126]
 refine ⟨?_, N126, K130, F128, Vl131⟩
 rfl
theorem d16_0 : dC21 0 (.iload_n 2, 1) := by decide +kernel
theorem d16_1 : dC21 1 (.aload_n 0, 1) := by decide +kernel
theorem d16_2 : dC21 2 (.arraylength, 1) := by decide +kernel
theorem d16_3 : dC21 3 (.if_icmp .ge 12, 3) := by decide +kernel
theorem d16_6 : dC21 6 (.aload_n 0, 1) := by decide +kernel
theorem d16_7 : dC21 7 (.iload_n 2, 1) := by decide +kernel
theorem d16_8 : dC21 8 (.baload, 1) := by decide +kernel
theorem d16_9 : dC21 9 (.aload_n 1, 1) := by decide +kernel
theorem d16_10 : dC21 10 (.iload_n 2, 1) := by decide +kernel
theorem d16_11 : dC21 11 (.baload, 1) := by decide +kernel
theorem d16_12 : dC21 12 (.if_icmp .ne 7, 3) := by decide +kernel
theorem d16_15 : dC21 15 (.iconst 1, 1) := by decide +kernel
theorem d16_16 : dC21 16 (.goto 4, 3) := by decide +kernel
theorem d16_20 : dC21 20 (.ireturn, 1) := by decide +kernel
theorem ef_rmeqb (m : MethodId) (a1 : Addr) (a2 : Addr) (ix : Int32) (k1 : ClassId) (k2 : ClassId) (bs : List Int32) : entryFrame m #[(.ref a1), (.ref a2), (.int ix)] 3 = mkF m 0 #[vR a1, vR a2, vI ix] [] := by first | (simp [entryFrame, mkF, argsToLocals, Value.category]; done) | rfl
def Qrmeqb (Z : State) (a1 : Addr) (a2 : Addr) (ix : Int32) (k1 : ClassId) (k2 : ClassId) (bs : List Int32) (h0 : Heap) (n0 : Nat) (v : Option Value) (h : Heap) (L : List Loc) : Prop := v = some (.int 1) ∧ Fr n0 L ∧ h = h0
set_option maxRecDepth 65536 in
set_option maxHeartbeats 40000000 in
theorem rmeqb (l : Launch) (Z : State) (a0 : Array Value) (hw : ∀ d ∈ tables_1, d.before a0 Z = true) (ws : List Jvm.Cond) (a1 : Addr) (a2 : Addr) (ix : Int32) (k1 : ClassId) (k2 : ClassId) (bs : List Int32) (h0 : Heap) (n0 : Nat) (Z0 : n0 ≤ h0.size) (V1 : Arv Z h0 a1 k1 .byte (own_len bs) (bs.map Value.int) (.int 0)) (V2 : Arv Z h0 a2 k2 .byte (8 : Int32) (bs.map Value.int) (.int 0)) (hi : ¬ ix < 0 ∧ ix < (8 : Int32)) :
    MetFree l Y21 (head1 (Jvm.Cond.code Y21 method_7_code 3 (some .boolean) :: ws) Rm0) (fun a U => a = #[(.ref a1), (.ref a2), (.int ix)] ∧ Z.Warmed39 U.vm ∧ U.heap = h0) (fun _ _ _ _ _ => True) (fun _ U o U' => ∃ v L, o = .returned v ∧ Qrmeqb Z a1 a2 ix k1 k2 bs h0 n0 v U'.heap L ∧ FrameEnd U o U' L Rm0.cells Rm0.slots) := by
 refine MetFree.of_bodySF (plainFor_of_name pn_2) hisR ?_
 intro p e s m args below meth c s₁ Bd hml0 hP hK
 obtain ⟨rfl, hZ, hh⟩ := hP
 have hx := Bd.exec
 have hby := Bd.bytes
 have hml : c.maxLocals = 3 := hml0
 have hown : s.vm.findClass "com/example/sibyl/sibyl/core/KeyBytesOfPinLaw" = some m.cls := findClass_of_methodNamed Bd.named
 have hnm := (name_of_methodNamed Bd.named Bd.method).1
 have X0 : Stand p l e Rm0 s m #[(.ref a1), (.ref a2), (.int ix)] below meth c s₁ [] 0 0 := Stand.of_body Bd
 have e0 : s₁.heap = h0 := by rw [← hh, Bd.state]; rfl
 have N0 := Fr.nil n0
 show Go p.tables e below (fun o U' => ∃ v L, o = .returned v ∧ Qrmeqb Z a1 a2 ix k1 k2 bs h0 n0 v U'.heap L ∧ FrameEnd s o U' L Rm0.cells Rm0.slots) _
 refine Go.step (fun t kt => castTop (ef_rmeqb m a1 a2 ix k1 k2 bs) kt) ?_
 show Go p.tables e below _ (s₁.setTop (mkF m 0 #[vR a1, vR a2, vI ix] []))
 refine Go.step (fun _ kt => XS.iloadN X0.here hx rfl (hb hby d16_0) rfl (XS.aloadN X0.here hx rfl (hb hby d16_1) rfl rfl kt)) ?_
 obtain ⟨cl101, Ar101, qa101, Sa101, Na101, Ha101, Ga101⟩ := (id V1)
 refine Go.step (X0.arraylength hx (by rw [e0]; exact Ar101.1) (State.isArrayOf_alike hZ.alike Ar101.2.1) (g := (mkF m 2 #[vR a1, vR a2, vI ix] [(.ref a1), (.int ix)])) rfl rfl (hb hby d16_2)) ?_
 rw [len_of Sa101 Na101]
 show Go p.tables e below _ (s₁.setTop (mkF m 3 #[vR a1, vR a2, vI ix] [(.int (own_len bs)), (.int ix)]))
 by_cases hc3_102 : ix < (own_len bs)
 ·refine Go.step (fun _ kt => XS.icmpNo X0.here hx rfl (hb hby d16_3) rfl (tlt hc3_102).2.1 (XS.aloadN X0.here hx rfl (hb hby d16_6) rfl rfl (XS.iloadN X0.here hx rfl (hb hby d16_7) rfl kt))) ?_
  obtain ⟨cl103, Ar103, qa103, Sa103, Na103, Ha103, Ga103⟩ := (id V1)
  have hin103 : ¬ (ix < 0 ∨ cl103.slots.size ≤ (ix).toNatClampNeg) := own_inb Sa103 hi.1 hc3_102
  have hat103 : cl103.slots[(ix).toNatClampNeg]? = some (.int (bs.getD (ix).toNatClampNeg 0)) := at_of Ha103 hin103 (own_getD bs _)
  refine Go.step (X0.baloadBytes hx (j := ix) (v := (.int (bs.getD (ix).toNatClampNeg 0))) (by rw [e0]; exact Ar103.1) (State.isArrayOf_alike hZ.alike Ar103.2.1) Ar103.2.2 hin103 hat103 (g := (mkF m 8 #[vR a1, vR a2, vI ix] [(.int ix), (.ref a1)])) rfl rfl (hb hby d16_8)) ?_
  show Go p.tables e below _ (s₁.setTop (mkF m 9 #[vR a1, vR a2, vI ix] [(.int (bs.getD (ix).toNatClampNeg 0))]))
  refine Go.step (fun _ kt => XS.aloadN X0.here hx rfl (hb hby d16_9) rfl rfl (XS.iloadN X0.here hx rfl (hb hby d16_10) rfl kt)) ?_
  obtain ⟨cl104, Ar104, qa104, Sa104, Na104, Ha104, Ga104⟩ := (id V2)
  have hin104 : ¬ (ix < 0 ∨ cl104.slots.size ≤ (ix).toNatClampNeg) := own_inb Sa104 hi.1 hi.2
  have hat104 : cl104.slots[(ix).toNatClampNeg]? = some (.int (bs.getD (ix).toNatClampNeg 0)) := at_of Ha104 hin104 (own_getD bs _)
  refine Go.step (X0.baloadBytes hx (j := ix) (v := (.int (bs.getD (ix).toNatClampNeg 0))) (by rw [e0]; exact Ar104.1) (State.isArrayOf_alike hZ.alike Ar104.2.1) Ar104.2.2 hin104 hat104 (g := (mkF m 11 #[vR a1, vR a2, vI ix] [(.int ix), (.ref a2), (.int (bs.getD (ix).toNatClampNeg 0))])) rfl rfl (hb hby d16_11)) ?_
  show Go p.tables e below _ (s₁.setTop (mkF m 12 #[vR a1, vR a2, vI ix] [(.int (bs.getD (ix).toNatClampNeg 0)), (.int (bs.getD (ix).toNatClampNeg 0))]))
  refine Go.step (fun _ kt => XS.icmpNo X0.here hx rfl (hb hby d16_12) rfl (teq (rfl : (bs.getD (ix).toNatClampNeg 0) = (bs.getD (ix).toNatClampNeg 0))).2 (XS.iconst X0.here hx rfl (hb hby d16_15) (XS.goto X0.here hx rfl (pc0 := 16) (pc' := 20) rfl (hb hby d16_16) (by decide) (by decide) kt))) ?_
  show Go p.tables e below _ (s₁.setTop (mkF m 20 #[vR a1, vR a2, vI ix] [(.int 1)]))
  obtain ⟨fs, hr, hrun, hended, hW, hsame⟩ := X0.leave (v := some (.int 1)) (fun h => by rw [Bd.returns] at h; cases h)
  refine ⟨_, _, retN X0 hx (t := .boolean) Bd.returns (by simp) (hb hby d16_20) hr, hrun, hended, _, _, rfl, ?_, ⟨_, rfl⟩, hW, hsame.mono (by decide) (by decide)⟩
  show Qrmeqb Z a1 a2 ix k1 k2 bs h0 n0 _ s₁.heap _
  rw [e0]
  refine ⟨?_, N0, rfl⟩
  rfl
 ·refine Go.step (fun _ kt => XS.icmpYes X0.here hx rfl (pc0 := 3) (pc' := 15) rfl (hb hby d16_3) rfl (flt hc3_102).2.1 (by decide) (by decide) (XS.iconst X0.here hx rfl (hb hby d16_15) (XS.goto X0.here hx rfl (pc0 := 16) (pc' := 20) rfl (hb hby d16_16) (by decide) (by decide) kt))) ?_
  show Go p.tables e below _ (s₁.setTop (mkF m 20 #[vR a1, vR a2, vI ix] [(.int 1)]))
  obtain ⟨fs, hr, hrun, hended, hW, hsame⟩ := X0.leave (v := some (.int 1)) (fun h => by rw [Bd.returns] at h; cases h)
  refine ⟨_, _, retN X0 hx (t := .boolean) Bd.returns (by simp) (hb hby d16_20) hr, hrun, hended, _, _, rfl, ?_, ⟨_, rfl⟩, hW, hsame.mono (by decide) (by decide)⟩
  show Qrmeqb Z a1 a2 ix k1 k2 bs h0 n0 _ s₁.heap _
  rw [e0]
  refine ⟨?_, N0, rfl⟩
  rfl
theorem pd_14 : parseMethodDescriptor "([B[BI)Z" = some ⟨[(.array .byte), (.array .byte), .int], some .boolean⟩ := by decide +kernel
theorem d2_0 : dC22 0 (.aload_n 0, 1) := by decide +kernel
theorem d2_1 : dC22 1 (.invokespecial 1, 3) := by decide +kernel
theorem d2_4 : dC22 4 (.iload_n 3, 1) := by decide +kernel
theorem d2_5 : dC22 5 (.ifCond .ne 22, 3) := by decide +kernel
theorem d2_8 : dC22 8 (.aload_n 0, 1) := by decide +kernel
theorem d2_9 : dC22 9 (.ldc 7, 2) := by decide +kernel
theorem d2_11 : dC22 11 (.getfield 9, 3) := by decide +kernel
theorem d2_14 : dC22 14 (.putfield 9, 3) := by decide +kernel
theorem d2_17 : dC22 17 (.aload_n 0, 1) := by decide +kernel
theorem d2_18 : dC22 18 (.ldc 7, 2) := by decide +kernel
theorem d2_20 : dC22 20 (.getfield 15, 3) := by decide +kernel
theorem d2_23 : dC22 23 (.putfield 15, 3) := by decide +kernel
theorem d2_26 : dC22 26 (.return_, 1) := by decide +kernel
theorem ef_rmct40_L (m : MethodId) (a1 : Addr) (a2 : Addr) (u1 : Value) (u2 : Value) (k2 : ClassId) (cs : Int32) : entryFrame m #[(.ref a1), (.ref a2), (.int 0), (.int 0), .null] 6 = mkF m 0 #[vR a1, vR a2, vI 0, vI 0, .val .null, uS] [] := by first | (simp [entryFrame, mkF, argsToLocals, Value.category]; done) | rfl
def Qrmct40_L (Z : State) (a1 : Addr) (a2 : Addr) (u1 : Value) (u2 : Value) (k2 : ClassId) (cs : Int32) (h0 : Heap) (n0 : Nat) (v : Option Value) (h : Heap) (L : List Loc) : Prop := ∃ b : Addr, ∃ cd : Int32, v = none ∧ Fr n0 L ∧ Keep h0 h [a1] ∧ Exa Z h a1 "java/lang/String" ∧ Fld Z h a1 "java/lang/String" "coder" "B" (.int cd) ∧ Fld Z h a1 "java/lang/String" "value" "[B" (.ref b) ∧ Exa Z h b "[B" ∧ own_enc Z h b cd ([] : List Int32)
set_option maxRecDepth 65536 in
set_option maxHeartbeats 40000000 in
theorem rmct40_L (l : Launch) (Z : State) (a0 : Array Value) (hw : ∀ d ∈ tables_1, d.before a0 Z = true) (ws : List Jvm.Cond) (a1 : Addr) (a2 : Addr) (u1 : Value) (u2 : Value) (k2 : ClassId) (cs : Int32) (h0 : Heap) (n0 : Nat) (Z0 : n0 ≤ h0.size) (E1 : Exa Z h0 a1 "java/lang/String") (Fc : Fld Z h0 a1 "java/lang/String" "coder" "B" u1) (Fv : Fld Z h0 a1 "java/lang/String" "value" "[B" u2) (V2 : Arv Z h0 a2 k2 .char (0 : Int32) [] (.int 0)) (S_cs : Sta Z h0 "java/lang/String" "COMPACT_STRINGS" "Z" (.int cs)) (g_a1 : n0 ≤ a1) (hcs : ¬ cs = 0) (ne21 : a2 ≠ a1) :
    MetFree l Y22 (head1 (Jvm.Cond.code Y22 jdk_42_method_149_code 6 none :: ws) Rm11) (fun a U => a = #[(.ref a1), (.ref a2), (.int 0), (.int 0), .null] ∧ Z.Warmed39 U.vm ∧ U.heap = h0 ∧ CHv Z own_EL U.vm h0 ∧ ∀ x ∈ [a1], Safe Z own_EL U.vm h0 x) (fun _ _ _ _ _ => True) (fun _ U o U' => ∃ v L, o = .returned v ∧ Qrmct40_L Z a1 a2 u1 u2 k2 cs h0 n0 v U'.heap L ∧ CHr Z own_EL U.vm U.heap U'.vm U'.heap ∧ ReturnedEndW U o U' L Rm11.cells Rm11.slots) := by
 refine MetFree.of_bodySF (plainFor_of_name pn_5) hisR ?_
 intro p e s m args below meth c s₁ Bd hml0 hP hK
 obtain ⟨rfl, hZ, hh, hCH, hSf⟩ := hP
 have hx := Bd.exec
 have hby := Bd.bytes
 have hml : c.maxLocals = 6 := hml0
 have hown : s.vm.findClass "java/lang/String" = some m.cls := findClass_of_methodNamed Bd.named
 have hnm := (name_of_methodNamed Bd.named Bd.method).1
 have X0 : Stand p l e Rm11 (s.setVm s.vm) m #[(.ref a1), (.ref a2), (.int 0), (.int 0), .null] below meth c s₁ [] 0 0 := Stand.of_body Bd
 have e0 : s₁.heap = h0 := by rw [← hh, Bd.state]; rfl
 have N0 := Fr.nil n0
 have hS0 : s.Since s.vm s.heap.size := (State.WarmedH.refl s).since _
 have hk0 : s.heap.size ≤ h0.size := Nat.le_of_eq (congrArg Array.size hh)
 have C0 := CHr.refl hCH
 show Go p.tables e below (fun o U' => ∃ v L, o = .returned v ∧ Qrmct40_L Z a1 a2 u1 u2 k2 cs h0 n0 v U'.heap L ∧ CHr Z own_EL s.vm s.heap U'.vm U'.heap ∧ ReturnedEndW s o U' L Rm11.cells Rm11.slots) _
 refine Go.step (fun t kt => castTop (ef_rmct40_L m a1 a2 u1 u2 k2 cs) kt) ?_
 show Go p.tables e below _ (s₁.setTop (mkF m 0 #[vR a1, vR a2, vI 0, vI 0, .val .null, uS] []))
 have K101 : Keep h0 h0 [a1] := (Keep.refl h0 [a1])
 refine Go.step (fun _ kt => XS.aloadN X0.here hx rfl (hb hby d2_0) rfl rfl kt) ?_
 obtain ⟨T102, X102, e102, st102⟩ := initO X0 hx hZ hown (w12 hw) (w13 hw) (w14 hw) e0 (g := (mkF m 1 #[vR a1, vR a2, vI 0, vI 0, .val .null, uS] [(.ref a1)])) rfl hml.symm rfl (hb hby d2_1) (by decide) (W := 0) (Nat.le_of_eq rfl) (by decide)
 refine Go.step st102 ?_
 show Go p.tables e below _ (T102.setTop (mkF m 4 #[vR a1, vR a2, vI 0, vI 0, .val .null, uS] []))
 refine Go.step (fun _ kt => XS.iloadN X102.here hx rfl (hb hby d2_4) rfl (XS.ifNo X102.here hx rfl (hb hby d2_5) rfl ((if0 _ _).trans (teq (by decide : (0 : Int32) = (0 : Int32))).2) (XS.aloadN X102.here hx rfl (hb hby d2_8) rfl rfl kt))) ?_
 obtain ⟨b103, T103, h103, k103, ba103, kc103, X103, e103, E103, hS103, hk103, hZ, hown, Ex103, Fc103, Fv103, Vb103, lt103, ltb103, Cq103, Li103, Ne103, st103⟩ := ldcCH (s := s) (EL := own_EL) X102 hx hZ hown (w82 hw) (own_wS hw) e102 hS0 hk0 (own_EW hw) (by decide) C0.1 (vs := []) (z := (0 : Int32)) (by decide) (by decide) rfl (g := (mkF m 9 #[vR a1, vR a2, vI 0, vI 0, .val .null, uS] [(.ref a1)])) rfl (hb hby d2_9) (n := 0) (by decide) (by decide) (by decide) (by decide)
 refine Go.step st103 ?_
 have F104 := (E1.ext E103)
 have F105 := (Fc.ext E103)
 have F106 := (Fv.ext E103)
 have F107 := (V2.ext E103)
 have F108 := (S_cs.ext E103)
 have Z109 : n0 ≤ h103.size := (Nat.le_trans Z0 E103.1)
 have Sf110 := (Cq103.safe E1.lt (hSf _ (List.mem_of_getElem? (i := 0) rfl)))
 have C111 := (C0.trans Cq103)
 have K112 : Keep h0 h103 [a1] := (K101.ext E103)
 have nq113 := Ne103 _ Sf110
 have nq114 := Ne103 _ (by obtain ⟨_, Ar_, _⟩ := F107; exact Safe.arr hZ.alike Ar_ (by decide))
 obtain ⟨T115, X115, e115, st115⟩ := getF X103 hx hZ hown (host := "") (Or.inl (w29 hw)) Via.refl e103 Fv103 (g := (mkF m 11 #[vR a1, vR a2, vI 0, vI 0, .val .null, uS] [(.ref b103), (.ref a1)])) rfl rfl (hb hby d2_11)
 refine Go.step st115 ?_
 show Go p.tables e below _ (T115.setTop (mkF m 14 #[vR a1, vR a2, vI 0, vI 0, .val .null, uS] [(.ref ba103), (.ref a1)]))
 have Eb103 := own_litB hZ (w82 hw) (by decide) Cq103.1 Li103 hown Fv103
 obtain ⟨T116, h116, X116, e116, W116, st116⟩ := putF X115 hx hZ hown (host := "") (Or.inl (w29 hw)) Via.refl e115 F106 F104 (Or.inr ⟨(w30 hw), rfl, hnm⟩) (w3 hw) (ty := (.array .byte)) (by decide) rfl rfl (g := (mkF m 14 #[vR a1, vR a2, vI 0, vI 0, .val .null, uS] [(.ref ba103), (.ref a1)])) rfl rfl (hb hby d2_14)
 refine Go.step st116 ?_
 have N116 := Fr.snoc X116 N0 g_a1
 have F117 := (F104.wr W116)
 have F118 := (F105.other W116 (Or.inr (slot_ne (Or.inr (w28 hw)) (Or.inr (w30 hw)) (by decide) (t := .byte) (t' := (.array .byte)) (by decide) (by decide))))
 have F119 := (F106.same W116)
 have F120 := (F107.other W116 ne21)
 have F121 := (F108.wr W116)
 have F122 := (Ex103.wr W116)
 have F123 := (Fc103.other W116 (Or.inl (Ne.symm nq113.1)))
 have F124 := (Fv103.other W116 (Or.inl (Ne.symm nq113.1)))
 have F125 := (Vb103.other W116 (Ne.symm nq113.2))
 have F126 := (Eb103.wr W116)
 have Z127 : n0 ≤ h116.size := (Nat.le_trans Z109 (Nat.le_of_eq W116.size.symm))
 have hk128 : _ ≤ h116.size := (Nat.le_trans hk103 (Nat.le_of_eq W116.size.symm))
 have Sf129 := (Safe.wr W116 Sf110 C111.1 Sf110)
 have C130 := (C111.trans (CHr.wr W116 Sf110 C111.1))
 have K131 : Keep h0 h116 [a1] := (K112.wr W116 (Or.inl (List.mem_of_getElem? (i := 0) rfl)))
 show Go p.tables e below _ (T116.setTop (mkF m 17 #[vR a1, vR a2, vI 0, vI 0, .val .null, uS] []))
 refine Go.step (fun _ kt => XS.aloadN X116.here hx rfl (hb hby d2_17) rfl rfl kt) ?_
 obtain ⟨b132, T132, h132, k132, ba132, kc132, X132, e132, E132, hS132, hk132, hZ, hown, Ex132, Fc132, Fv132, Vb132, lt132, ltb132, Cq132, Li132, Ne132, st132⟩ := ldcCH (s := s) (EL := own_EL) X116 hx hZ hown (w82 hw) (own_wS hw) e116 hS103 hk128 (own_EW hw) (by decide) C130.1 (vs := []) (z := (0 : Int32)) (by decide) (by decide) rfl (g := (mkF m 18 #[vR a1, vR a2, vI 0, vI 0, .val .null, uS] [(.ref a1)])) rfl (hb hby d2_18) (n := 0) (by decide) (by decide) (by decide) (by decide)
 refine Go.step st132 ?_
 have F133 := (F117.ext E132)
 have F134 := (F118.ext E132)
 have F135 := (F119.ext E132)
 have F136 := (F120.ext E132)
 have F137 := (F121.ext E132)
 have F138 := (F122.ext E132)
 have F139 := (F123.ext E132)
 have F140 := (F124.ext E132)
 have F141 := (F125.ext E132)
 have F142 := (F126.ext E132)
 have Z143 : n0 ≤ h132.size := (Nat.le_trans Z127 E132.1)
 have Sf144 := (Cq132.safe F117.lt Sf129)
 have C145 := (C130.trans Cq132)
 have K146 : Keep h0 h132 [a1] := (K131.ext E132)
 have nq147 := Ne132 _ Sf144
 have nq148 := Ne132 _ (by obtain ⟨_, Ar_, _⟩ := F136; exact Safe.arr hZ.alike Ar_ (by decide))
 obtain ⟨T149, X149, e149, st149⟩ := getF X132 hx hZ hown (host := "") (Or.inl (w27 hw)) Via.refl e132 Fc132 (g := (mkF m 20 #[vR a1, vR a2, vI 0, vI 0, .val .null, uS] [(.ref b132), (.ref a1)])) rfl rfl (hb hby d2_20)
 refine Go.step st149 ?_
 obtain ⟨T150, h150, X150, e150, W150, st150⟩ := putFN X149 hx hZ hown (w27 hw) Via.refl e149 F134 F133 (Or.inr ⟨(w28 hw), rfl, hnm⟩) (w3 hw) (ty := .byte) (v' := (.int 0)) (by decide) rfl rfl (g := (mkF m 23 #[vR a1, vR a2, vI 0, vI 0, .val .null, uS] [(.int 0), (.ref a1)])) rfl rfl (hb hby d2_23)
 refine Go.step st150 ?_
 have N150 := Fr.snoc X150 N116 g_a1
 have F151 := (F133.wr W150)
 have F152 := (F134.same W150)
 have F153 := (F135.other W150 (Or.inr (slot_ne (Or.inr (w30 hw)) (Or.inr (w28 hw)) (by decide) (t := (.array .byte)) (t' := .byte) (by decide) (by decide))))
 have F154 := (F136.other W150 ne21)
 have F155 := (F137.wr W150)
 have F156 := (F138.wr W150)
 have F157 := (F139.other W150 (Or.inl (Ne.symm nq113.1)))
 have F158 := (F140.other W150 (Or.inl (Ne.symm nq113.1)))
 have F159 := (F141.other W150 (Ne.symm nq113.2))
 have F160 := (F142.wr W150)
 have F161 := (Ex132.wr W150)
 have F162 := (Fc132.other W150 (Or.inl (Ne.symm nq147.1)))
 have F163 := (Fv132.other W150 (Or.inl (Ne.symm nq147.1)))
 have F164 := (Vb132.other W150 (Ne.symm nq147.2))
 have Z165 : n0 ≤ h150.size := (Nat.le_trans Z143 (Nat.le_of_eq W150.size.symm))
 have hk166 : _ ≤ h150.size := (Nat.le_trans hk132 (Nat.le_of_eq W150.size.symm))
 have Sf167 := (Safe.wr W150 Sf144 C145.1 Sf144)
 have C168 := (C145.trans (CHr.wr W150 Sf144 C145.1))
 have K169 : Keep h0 h150 [a1] := (K146.wr W150 (Or.inl (List.mem_of_getElem? (i := 0) rfl)))
 show Go p.tables e below _ (T150.setTop (mkF m 26 #[vR a1, vR a2, vI 0, vI 0, .val .null, uS] []))
 have En170 : own_enc Z h150 ba103 (0 : Int32) ([] : List Int32) := ⟨F160, _, Or.inl ⟨rfl, rfl, F159⟩⟩
 obtain ⟨fs, hr, hrun, hended, hRW⟩ := X150.leaveW hS132 (by rw [e150]; exact hk166) (v := none) (fun _ => rfl)
 refine ⟨_, _, X150.returnOut hx Bd.returns (hb hby d2_26) hr, hrun, hended, _, _, rfl, ?_, (by have q := C168.trans (CHv.at X150 hZ (own_EW hw) C168.1); rw [hh]; rw [← e150] at q; exact q), hRW.1, hRW.2.1, hRW.2.2.1, hRW.2.2.2.mono (by decide) (by decide)⟩
 show Qrmct40_L Z a1 a2 u1 u2 k2 cs h0 n0 _ T150.heap _
 rw [e150]
 refine ⟨ba103, (0 : Int32), ?_, N150, K169, F151, F152, F153, F160, En170⟩
 rfl
theorem pd_15 : parseMethodDescriptor "([CIILjava/lang/Void;)V" = some ⟨[(.array .char), .int, .int, (.object "java/lang/Void")], none⟩ := by decide +kernel
theorem d1_0 : dC23 0 (.aload_n 0, 1) := by decide +kernel
theorem d1_1 : dC23 1 (.aload_n 1, 1) := by decide +kernel
theorem d1_2 : dC23 2 (.iconst 0, 1) := by decide +kernel
theorem d1_3 : dC23 3 (.aload_n 1, 1) := by decide +kernel
theorem d1_4 : dC23 4 (.arraylength, 1) := by decide +kernel
theorem d1_5 : dC23 5 (.aconst_null, 1) := by decide +kernel
theorem d1_6 : dC23 6 (.invokespecial 27, 3) := by decide +kernel
theorem d1_9 : dC23 9 (.return_, 1) := by decide +kernel
theorem ef_rmct10 (m : MethodId) (a1 : Addr) (a2 : Addr) (u1 : Value) (u2 : Value) (k2 : ClassId) (cs : Int32) : entryFrame m #[(.ref a1), (.ref a2)] 2 = mkF m 0 #[vR a1, vR a2] [] := by first | (simp [entryFrame, mkF, argsToLocals, Value.category]; done) | rfl
def Qrmct10 (Z : State) (a1 : Addr) (a2 : Addr) (u1 : Value) (u2 : Value) (k2 : ClassId) (cs : Int32) (h0 : Heap) (n0 : Nat) (v : Option Value) (h : Heap) (L : List Loc) : Prop := ∃ b : Addr, ∃ cd : Int32, v = none ∧ Fr n0 L ∧ Keep h0 h [a1] ∧ Exa Z h a1 "java/lang/String" ∧ Fld Z h a1 "java/lang/String" "coder" "B" (.int cd) ∧ Fld Z h a1 "java/lang/String" "value" "[B" (.ref b) ∧ Exa Z h b "[B" ∧ own_enc Z h b cd ([] : List Int32)
set_option maxRecDepth 65536 in
set_option maxHeartbeats 40000000 in
theorem rmct10 (l : Launch) (Z : State) (a0 : Array Value) (hw : ∀ d ∈ tables_1, d.before a0 Z = true) (ws : List Jvm.Cond) (a1 : Addr) (a2 : Addr) (u1 : Value) (u2 : Value) (k2 : ClassId) (cs : Int32) (h0 : Heap) (n0 : Nat) (Z0 : n0 ≤ h0.size) (E1 : Exa Z h0 a1 "java/lang/String") (Fc : Fld Z h0 a1 "java/lang/String" "coder" "B" u1) (Fv : Fld Z h0 a1 "java/lang/String" "value" "[B" u2) (V2 : Arv Z h0 a2 k2 .char (0 : Int32) [] (.int 0)) (S_cs : Sta Z h0 "java/lang/String" "COMPACT_STRINGS" "Z" (.int cs)) (g_a1 : n0 ≤ a1) (hcs : ¬ cs = 0) (ne21 : a2 ≠ a1) :
    MetFree l Y23 (head1 (Jvm.Cond.code Y23 jdk_42_method_3_code 2 none :: ws) Rm12) (fun a U => a = #[(.ref a1), (.ref a2)] ∧ Z.Warmed39 U.vm ∧ U.heap = h0 ∧ CHv Z own_EL U.vm h0 ∧ ∀ x ∈ [a1], Safe Z own_EL U.vm h0 x) (fun _ _ _ _ _ => True) (fun _ U o U' => ∃ v L, o = .returned v ∧ Qrmct10 Z a1 a2 u1 u2 k2 cs h0 n0 v U'.heap L ∧ CHr Z own_EL U.vm U.heap U'.vm U'.heap ∧ ReturnedEndW U o U' L Rm12.cells Rm12.slots) := by
 refine MetFree.of_bodySF (plainFor_of_name pn_5) hisR ?_
 intro p e s m args below meth c s₁ Bd hml0 hP hK
 obtain ⟨rfl, hZ, hh, hCH, hSf⟩ := hP
 have hx := Bd.exec
 have hby := Bd.bytes
 have hml : c.maxLocals = 2 := hml0
 have hown : s.vm.findClass "java/lang/String" = some m.cls := findClass_of_methodNamed Bd.named
 have hnm := (name_of_methodNamed Bd.named Bd.method).1
 have X0 : Stand p l e Rm12 (s.setVm s.vm) m #[(.ref a1), (.ref a2)] below meth c s₁ [] 0 0 := Stand.of_body Bd
 have e0 : s₁.heap = h0 := by rw [← hh, Bd.state]; rfl
 have N0 := Fr.nil n0
 have hS0 : s.Since s.vm s.heap.size := (State.WarmedH.refl s).since _
 have hk0 : s.heap.size ≤ h0.size := Nat.le_of_eq (congrArg Array.size hh)
 have C0 := CHr.refl hCH
 show Go p.tables e below (fun o U' => ∃ v L, o = .returned v ∧ Qrmct10 Z a1 a2 u1 u2 k2 cs h0 n0 v U'.heap L ∧ CHr Z own_EL s.vm s.heap U'.vm U'.heap ∧ ReturnedEndW s o U' L Rm12.cells Rm12.slots) _
 refine Go.step (fun t kt => castTop (ef_rmct10 m a1 a2 u1 u2 k2 cs) kt) ?_
 show Go p.tables e below _ (s₁.setTop (mkF m 0 #[vR a1, vR a2] []))
 have K101 : Keep h0 h0 [a1] := (Keep.refl h0 [a1])
 refine Go.step (fun _ kt => XS.aloadN X0.here hx rfl (hb hby d1_0) rfl rfl (XS.aloadN X0.here hx rfl (hb hby d1_1) rfl rfl (XS.iconst X0.here hx rfl (hb hby d1_2) (XS.aloadN X0.here hx rfl (hb hby d1_3) rfl rfl kt)))) ?_
 obtain ⟨cl102, Ar102, qa102, Sa102, Na102, Ha102, Ga102⟩ := (id V2)
 refine Go.step (X0.arraylength hx (by rw [e0]; exact Ar102.1) (State.isArrayOf_alike hZ.alike Ar102.2.1) (g := (mkF m 4 #[vR a1, vR a2] [(.ref a2), (.int 0), (.ref a2), (.ref a1)])) rfl rfl (hb hby d1_4)) ?_
 rw [len_of Sa102 Na102]
 show Go p.tables e below _ (s₁.setTop (mkF m 5 #[vR a1, vR a2] [(.int 0), (.int 0), (.ref a2), (.ref a1)]))
 refine Go.step (fun _ kt => XS.aconstNull X0.here hx rfl (hb hby d1_5) kt) ?_
 obtain ⟨_, _, ⟨T103, L103, k103, n103⟩, -, X103, hSq103, hgq103, ⟨Lc103, hQ103, l103, y103, z103, Cq103⟩, st103⟩ := X0.specialBackS hx (y := Y22) rfl hown (mvT hZ (w8 hw)) (mvT hZ (w9 hw)) (mvT hZ (w11 hw)) (by decide) (backOfSHx (s := s) (EL := own_EL) (W := 0) (ws := [a1]) (rmct40_L l Z a0 hw [] a1 a2 u1 u2 k2 cs h0 n0 Z0 E1 Fc Fv V2 S_cs g_a1 hcs ne21) hZ (w11 hw) (w4 hw) (by decide) (by decide) (own_EW hw) C0.1 (by intro x hx; cases List.mem_singleton.mp hx; exact ⟨E1.lt, (hSf _ (List.mem_of_getElem? (i := 0) rfl))⟩)) (g := (mkF m 6 #[vR a1, vR a2] [.null, (.int 0), (.int 0), (.ref a2), (.ref a1)])) rfl hml.symm (Steps.refl _) (a := a1) (argsL := [(.ref a2), (.int 0), (.int 0), .null]) (rest := []) (lenOf pd_15 rfl) rfl (Nat.le_of_eq rfl) (hb hby d1_6) (fun _ _ => ⟨rfl, e0, (by decide : 0 + 4 ≤ _), (by decide : 0 + 8 ≤ _)⟩)
 dsimp only [Pt.U, Pt.locs, Pt.cells, Pt.slots] at X103 l103 y103 z103 st103 hQ103 hSq103 hgq103
 subst l103 y103 z103
 obtain ⟨X103, hS103, hZ, hown⟩ := rebS hS0 (by rw [e0]; exact hk0) X103 hSq103 hgq103 hZ hown
 have hk103 : T103.heap.size ≤ T103.heap.size := Nat.le_refl _
 dsimp only [Pt.U] at Cq103
 obtain ⟨b103b, b103cd, rfl, N103q, Kq103, P104, P105, P106, P107, P108⟩ := hQ103
 have F109 := (E1.keep Kq103)
 have F110 := (V2.keep Kq103 (fun q => ne21 (List.mem_singleton.mp q)))
 have Z111 : n0 ≤ T103.heap.size := (Nat.le_trans Z0 Kq103.1)
 have Sf112 := (Cq103.safe E1.lt (hSf _ (List.mem_of_getElem? (i := 0) rfl)))
 have C113 := (C0.trans Cq103)
 have K114 : Keep h0 T103.heap [a1] := (K101.trans Kq103 (by intro x hx; cases List.mem_singleton.mp hx; exact (Or.inl (List.mem_of_getElem? (i := 0) rfl))))
 have N103 := Fr.app N0 N103q
 refine Go.step (fun _ kt => st103.trans kt) ?_
 show Go p.tables e below _ (T103.setTop (mkF m 9 #[vR a1, vR a2] []))
 obtain ⟨fs, hr, hrun, hended, hRW⟩ := X103.leaveW hS103 hk103 (v := none) (fun _ => rfl)
 refine ⟨_, _, X103.returnOut hx Bd.returns (hb hby d1_9) hr, hrun, hended, _, _, rfl, ?_, (by have q := C113.trans (CHv.at X103 hZ (own_EW hw) C113.1); rw [hh]; exact q), hRW.1, hRW.2.1, hRW.2.2.1, hRW.2.2.2.mono (by decide) (by decide)⟩
 show Qrmct10 Z a1 a2 u1 u2 k2 cs h0 n0 _ T103.heap _
 refine ⟨b103b, b103cd, ?_, N103, K114, P104, P105, P106, P107, P108⟩
 rfl
theorem pd_16 : parseMethodDescriptor "([C)V" = some ⟨[(.array .char)], none⟩ := by decide +kernel
theorem pd_17 : parseMethodDescriptor "(Ljava/lang/String;)[B" = some ⟨[(.object "java/lang/String")], some (.array .byte)⟩ := by decide +kernel
theorem d5_0 : dC24 0 (.iconst 0, 1) := by decide +kernel
theorem d5_1 : dC24 1 (.istore 5, 2) := by decide +kernel
theorem d5_3 : dC24 3 (.iload 5, 2) := by decide +kernel
theorem d5_5 : dC24 5 (.iload 4, 2) := by decide +kernel
theorem d5_7 : dC24 7 (.if_icmp .ge 37, 3) := by decide +kernel
theorem d5_10 : dC24 10 (.aload_n 0, 1) := by decide +kernel
theorem d5_11 : dC24 11 (.iload_n 1, 1) := by decide +kernel
theorem d5_12 : dC24 12 (.caload, 1) := by decide +kernel
theorem d5_13 : dC24 13 (.istore 6, 2) := by decide +kernel
theorem d5_15 : dC24 15 (.iload 6, 2) := by decide +kernel
theorem d5_17 : dC24 17 (.sipush 255, 3) := by decide +kernel
theorem d5_20 : dC24 20 (.if_icmp .le 6, 3) := by decide +kernel
theorem d5_23 : dC24 23 (.iload 5, 2) := by decide +kernel
theorem d5_25 : dC24 25 (.ireturn, 1) := by decide +kernel
theorem ef_rmkl1_F0 (m : MethodId) (a1 : Addr) (a2 : Addr) (k1 : ClassId) (c0 : Int32) : entryFrame m #[(.ref a1), (.int 0), (.ref a2), (.int 0), (.int 1)] 7 = mkF m 0 #[vR a1, vI 0, vR a2, vI 0, vI 1, uS, uS] [] := by first | (simp [entryFrame, mkF, argsToLocals, Value.category]; done) | rfl
def Qrmkl1_F0 (Z : State) (a1 : Addr) (a2 : Addr) (k1 : ClassId) (c0 : Int32) (h0 : Heap) (n0 : Nat) (v : Option Value) (h : Heap) (L : List Loc) : Prop := v = some (.int 0) ∧ Fr n0 L ∧ h = h0
set_option maxRecDepth 65536 in
set_option maxHeartbeats 40000000 in
theorem rmkl1_F0 (l : Launch) (Z : State) (a0 : Array Value) (hw : ∀ d ∈ tables_1, d.before a0 Z = true) (ws : List Jvm.Cond) (a1 : Addr) (a2 : Addr) (k1 : ClassId) (c0 : Int32) (h0 : Heap) (n0 : Nat) (Z0 : n0 ≤ h0.size) (V1 : Arv Z h0 a1 k1 .char (1 : Int32) [(.int c0)] (.int 0)) (hU0 : (255 : Int32) < c0) :
    MetFree l Y24 (head1 (Jvm.Cond.code Y24 jdk_52_method_21_code 7 (some .int) :: ws) Rm0) (fun a U => a = #[(.ref a1), (.int 0), (.ref a2), (.int 0), (.int 1)] ∧ Z.Warmed39 U.vm ∧ U.heap = h0) (fun _ _ _ _ _ => True) (fun _ U o U' => ∃ v L, o = .returned v ∧ Qrmkl1_F0 Z a1 a2 k1 c0 h0 n0 v U'.heap L ∧ FrameEnd U o U' L Rm0.cells Rm0.slots) := by
 refine MetFree.of_bodySF (plainFor_of_name pn_4) hisR ?_
 intro p e s m args below meth c s₁ Bd hml0 hP hK
 obtain ⟨rfl, hZ, hh⟩ := hP
 have hx := Bd.exec
 have hby := Bd.bytes
 have hml : c.maxLocals = 7 := hml0
 have hown : s.vm.findClass "java/lang/StringUTF16" = some m.cls := findClass_of_methodNamed Bd.named
 have hnm := (name_of_methodNamed Bd.named Bd.method).1
 have X0 : Stand p l e Rm0 s m #[(.ref a1), (.int 0), (.ref a2), (.int 0), (.int 1)] below meth c s₁ [] 0 0 := Stand.of_body Bd
 have e0 : s₁.heap = h0 := by rw [← hh, Bd.state]; rfl
 have N0 := Fr.nil n0
 show Go p.tables e below (fun o U' => ∃ v L, o = .returned v ∧ Qrmkl1_F0 Z a1 a2 k1 c0 h0 n0 v U'.heap L ∧ FrameEnd s o U' L Rm0.cells Rm0.slots) _
 refine Go.step (fun t kt => castTop (ef_rmkl1_F0 m a1 a2 k1 c0) kt) ?_
 show Go p.tables e below _ (s₁.setTop (mkF m 0 #[vR a1, vI 0, vR a2, vI 0, vI 1, uS, uS] []))
 refine Go.step (fun _ kt => XS.iconst X0.here hx rfl (hb hby d5_0) (XS.istore X0.here hx rfl (hb hby d5_1) rfl (l' := #[vR a1, vI 0, vR a2, vI 0, vI 1, vI 0, uS]) rfl (XS.iload X0.here hx rfl (hb hby d5_3) rfl (XS.iload X0.here hx rfl (hb hby d5_5) rfl (XS.icmpNo X0.here hx rfl (hb hby d5_7) rfl (tlt (by decide : (0 : Int32) < (1 : Int32))).2.1 (XS.aloadN X0.here hx rfl (hb hby d5_10) rfl rfl (XS.iloadN X0.here hx rfl (hb hby d5_11) rfl kt))))))) ?_
 show Go p.tables e below _ (s₁.setTop (mkF m 12 #[vR a1, vI 0, vR a2, vI 0, vI 1, vI 0, uS] [(.int 0), (.ref a1)]))
 obtain ⟨cl101, Ar101, qa101, Sa101, Na101, Ha101, Ga101⟩ := (id V1)
 have hin101 : ¬ ((0 : Int32) < 0 ∨ cl101.slots.size ≤ ((0 : Int32)).toNatClampNeg) := inb_of Sa101 ⟨by decide, by decide⟩
 have hat101 : cl101.slots[((0 : Int32)).toNatClampNeg]? = some (.int c0) := at_of Ha101 hin101 rfl
 refine Go.step (X0.caload hx (j := (0 : Int32)) (v := (.int c0)) (by rw [e0]; exact Ar101.1) (State.isArrayOf_alike hZ.alike Ar101.2.1) Ar101.2.2 hin101 hat101 (g := (mkF m 12 #[vR a1, vI 0, vR a2, vI 0, vI 1, vI 0, uS] [(.int 0), (.ref a1)])) rfl rfl (hb hby d5_12)) ?_
 show Go p.tables e below _ (s₁.setTop (mkF m 13 #[vR a1, vI 0, vR a2, vI 0, vI 1, vI 0, uS] [(.int c0)]))
 refine Go.step (fun _ kt => XS.istore X0.here hx rfl (hb hby d5_13) rfl (l' := #[vR a1, vI 0, vR a2, vI 0, vI 1, vI 0, vI c0]) rfl (XS.iload X0.here hx rfl (hb hby d5_15) rfl (XS.sipush X0.here hx rfl (hb hby d5_17) (XS.icmpNo X0.here hx rfl (hb hby d5_20) rfl (tlt hU0).2.2.2 (XS.iload X0.here hx rfl (hb hby d5_23) rfl kt))))) ?_
 show Go p.tables e below _ (s₁.setTop (mkF m 25 #[vR a1, vI 0, vR a2, vI 0, vI 1, vI 0, vI c0] [(.int 0)]))
 obtain ⟨fs, hr, hrun, hended, hW, hsame⟩ := X0.leave (v := some (.int 0)) (fun h => by rw [Bd.returns] at h; cases h)
 refine ⟨_, _, retI X0 hx Bd.returns (hb hby d5_25) hr, hrun, hended, _, _, rfl, ?_, ⟨_, rfl⟩, hW, hsame.mono (by decide) (by decide)⟩
 show Qrmkl1_F0 Z a1 a2 k1 c0 h0 n0 _ s₁.heap _
 rw [e0]
 refine ⟨?_, N0, rfl⟩
 rfl
theorem pd_18 : parseMethodDescriptor "([CI[BII)I" = some ⟨[(.array .char), .int, (.array .byte), .int, .int], some .int⟩ := by decide +kernel
theorem ef_rmnf1_V (m : MethodId)  : entryFrame m #[(.int 1)] 1 = mkF m 0 #[vI 1] [] := by first | (simp [entryFrame, mkF, argsToLocals, Value.category]; done) | rfl
def Qrmnf1_V (Z : State)  (h0 : Heap) (n0 : Nat) (v : Option Value) (h : Heap) (L : List Loc) : Prop := ∃ r : Addr, ∃ kr : ClassId, v = some (.ref r) ∧ Fr n0 L ∧ Keep h0 h [] ∧ Exa Z h r "[B" ∧ Arv Z h r kr .byte (2 : Int32) [(.int 0), (.int 0)] (.int 0) ∧ n0 ≤ r ∧ h0.size ≤ r
set_option maxRecDepth 65536 in
set_option maxHeartbeats 40000000 in
theorem rmnf1_V (l : Launch) (Z : State) (a0 : Array Value) (hw : ∀ d ∈ tables_1, d.before a0 Z = true) (ws : List Jvm.Cond)  (h0 : Heap) (n0 : Nat) (Z0 : n0 ≤ h0.size) :
    MetFree l Y11 (head1 (Jvm.Cond.code Y11 jdk_52_method_2_code 1 (some (.array .byte)) :: ws) Rm3) (fun a U => a = #[(.int 1)] ∧ Z.Warmed39 U.vm ∧ U.heap = h0) (fun _ _ _ _ _ => True) (fun _ U o U' => ∃ v L, o = .returned v ∧ Qrmnf1_V Z  h0 n0 v U'.heap L ∧ FrameEnd U o U' L Rm3.cells Rm3.slots) := by
 refine MetFree.of_bodySF (plainFor_of_name pn_4) hisR ?_
 intro p e s m args below meth c s₁ Bd hml0 hP hK
 obtain ⟨rfl, hZ, hh⟩ := hP
 have hx := Bd.exec
 have hby := Bd.bytes
 have hml : c.maxLocals = 1 := hml0
 have hown : s.vm.findClass "java/lang/StringUTF16" = some m.cls := findClass_of_methodNamed Bd.named
 have hnm := (name_of_methodNamed Bd.named Bd.method).1
 have X0 : Stand p l e Rm3 s m #[(.int 1)] below meth c s₁ [] 0 0 := Stand.of_body Bd
 have e0 : s₁.heap = h0 := by rw [← hh, Bd.state]; rfl
 have N0 := Fr.nil n0
 show Go p.tables e below (fun o U' => ∃ v L, o = .returned v ∧ Qrmnf1_V Z  h0 n0 v U'.heap L ∧ FrameEnd s o U' L Rm3.cells Rm3.slots) _
 refine Go.step (fun t kt => castTop (ef_rmnf1_V m ) kt) ?_
 show Go p.tables e below _ (s₁.setTop (mkF m 0 #[vI 1] []))
 have K101 : Keep h0 h0 [] := (Keep.refl h0 [])
 refine Go.step (fun _ kt => XS.iloadN X0.here hx rfl (hb hby d18_0) rfl kt) ?_
 obtain ⟨_, _, ⟨T102, L102, k102, n102⟩, -, X102, ⟨Lc102, hQ102, l102, y102, z102⟩, st102⟩ := Jvm.LawKit.callS X0 hx (y := Y10) hown (mvT hZ (w92 hw)) (mvT hZ (w93 hw)) (mvT hZ (w18 hw)) (mvT hZ (w94 hw)) (by decide) (backOf (W := 0) (rmnl1 l Z a0 hw []   h0 n0 Z0  ) hZ (w94 hw) (w18 hw) (by decide) (by decide)) (g := (mkF m 1 #[vI 1] [(.int 1)])) rfl hml.symm (argsL := [(.int 1)]) (rest := []) (lenOf pd_3 rfl) rfl (Nat.le_of_eq rfl) (hb hby d18_1) (fun _ _ => ⟨rfl, e0, (by decide : 0 + 0 ≤ _), (by decide : 0 + 0 ≤ _)⟩)
 dsimp only [Pt.U, Pt.locs, Pt.cells, Pt.slots] at X102 l102 y102 z102 st102 hQ102
 subst l102 y102 z102
 obtain ⟨rfl, N102q, eh102⟩ := hQ102
 have N102 := Fr.app N0 N102q
 refine Go.step st102 ?_
 obtain ⟨T103, h103, k103, X103, e103, E103, A103, Ex103, st103⟩ := newPE (aty := .byte) X102 hx hZ (w20 hw) eh102 (g := (mkF m 4 #[vI 1] [(.int 2)])) rfl (hb hby d18_4) rfl (by decide) (cap := 2) (by decide) (by decide) (by decide) (by decide) (ad := "[B") own_adB
 obtain ⟨b103, g103⟩ : ∃ z, z = h0.size := ⟨_, rfl⟩
 rw [← g103] at A103 Ex103 st103
 refine Go.step st103 ?_
 have g_b103 : n0 ≤ b103 := Nat.le_trans Z0 (Nat.le_of_eq g103.symm)
 have sz_b103 : h0.size ≤ b103 := Nat.le_trans K101.1 (Nat.le_of_eq g103.symm)
 have Z104 : n0 ≤ h103.size := (Nat.le_trans Z0 E103.1)
 have K105 : Keep h0 h103 [] := (K101.ext E103)
 have V106 : Arv Z h103 b103 k103 .byte (2 : Int32) [(.int 0), (.int 0)] (.int 0) := (Arv.new A103 (by decide)).pad (pad_rep [] (.int 0) 2)
 show Go p.tables e below _ (T103.setTop (mkF m 6 #[vI 1] [(.ref b103)]))
 obtain ⟨fs, hr, hrun, hended, hW, hsame⟩ := X103.leave (v := some (.ref b103)) (fun h => by rw [Bd.returns] at h; cases h)
 refine ⟨_, _, retOut X103 hx Bd.returns rfl (Or.inr (Or.inr (Or.inr (Or.inr ⟨rfl, rfl, rfl⟩)))) (hb hby d18_6) hr, hrun, hended, _, _, rfl, ?_, ⟨_, rfl⟩, hW, hsame.mono (by decide) (by decide)⟩
 show Qrmnf1_V Z  h0 n0 _ T103.heap _
 rw [e103]
 refine ⟨b103, k103, ?_, N102, K105, Ex103, V106, g_b103, sz_b103⟩
 rfl
theorem d20_0 : dC25 0 (.getstatic 44, 3) := by decide +kernel
theorem d20_3 : dC25 3 (.ifCond .ne 25, 3) := by decide +kernel
theorem d20_28 : dC25 28 (.iload_n 1, 1) := by decide +kernel
theorem d20_29 : dC25 29 (.iconst 1, 1) := by decide +kernel
theorem d20_30 : dC25 30 (.ishl, 1) := by decide +kernel
theorem d20_31 : dC25 31 (.istore_n 1, 1) := by decide +kernel
theorem d20_32 : dC25 32 (.aload_n 0, 1) := by decide +kernel
theorem d20_33 : dC25 33 (.iload_n 1, 1) := by decide +kernel
theorem d20_34 : dC25 34 (.iinc 1 1, 3) := by decide +kernel
theorem d20_37 : dC25 37 (.iload_n 2, 1) := by decide +kernel
theorem d20_38 : dC25 38 (.getstatic 59, 3) := by decide +kernel
theorem d20_41 : dC25 41 (.ishr, 1) := by decide +kernel
theorem d20_42 : dC25 42 (.i2b, 1) := by decide +kernel
theorem d20_43 : dC25 43 (.bastore, 1) := by decide +kernel
theorem d20_44 : dC25 44 (.aload_n 0, 1) := by decide +kernel
theorem d20_45 : dC25 45 (.iload_n 1, 1) := by decide +kernel
theorem d20_46 : dC25 46 (.iload_n 2, 1) := by decide +kernel
theorem d20_47 : dC25 47 (.getstatic 63, 3) := by decide +kernel
theorem d20_50 : dC25 50 (.ishr, 1) := by decide +kernel
theorem d20_51 : dC25 51 (.i2b, 1) := by decide +kernel
theorem d20_52 : dC25 52 (.bastore, 1) := by decide +kernel
theorem d20_53 : dC25 53 (.return_, 1) := by decide +kernel
theorem ef_rmpc1_0 (m : MethodId) (a1 : Addr) (cx : Int32) (k1 : ClassId) (v0 : Int32) (v1 : Int32) : entryFrame m #[(.ref a1), (.int 0), (.int cx)] 3 = mkF m 0 #[vR a1, vI 0, vI cx] [] := by first | (simp [entryFrame, mkF, argsToLocals, Value.category]; done) | rfl
def Qrmpc1_0 (Z : State) (a1 : Addr) (cx : Int32) (k1 : ClassId) (v0 : Int32) (v1 : Int32) (h0 : Heap) (n0 : Nat) (v : Option Value) (h : Heap) (L : List Loc) : Prop := v = none ∧ Fr n0 L ∧ Keep h0 h [a1] ∧ Arv Z h a1 k1 .byte (2 : Int32) [(.int (own_lo cx)), (.int (own_hi cx))] (.int 0)
set_option maxRecDepth 65536 in
set_option maxHeartbeats 40000000 in
theorem rmpc1_0 (l : Launch) (Z : State) (a0 : Array Value) (hw : ∀ d ∈ tables_1, d.before a0 Z = true) (ws : List Jvm.Cond) (a1 : Addr) (cx : Int32) (k1 : ClassId) (v0 : Int32) (v1 : Int32) (h0 : Heap) (n0 : Nat) (Z0 : n0 ≤ h0.size) (V1 : Arv Z h0 a1 k1 .byte (2 : Int32) [(.int v0), (.int v1)] (.int 0)) (S_ad : Sta Z h0 "java/lang/StringUTF16" "$assertionsDisabled" "Z" (.int 1)) (S_hi : Sta Z h0 "java/lang/StringUTF16" "HI_BYTE_SHIFT" "I" (.int 0)) (S_lo : Sta Z h0 "java/lang/StringUTF16" "LO_BYTE_SHIFT" "I" (.int 8)) (g_a1 : n0 ≤ a1) :
    MetFree l Y25 (head1 (Jvm.Cond.code Y25 jdk_52_method_4_code 3 none :: ws) Rm0) (fun a U => a = #[(.ref a1), (.int 0), (.int cx)] ∧ Z.Warmed39 U.vm ∧ U.heap = h0) (fun _ _ _ _ _ => True) (fun _ U o U' => ∃ v L, o = .returned v ∧ Qrmpc1_0 Z a1 cx k1 v0 v1 h0 n0 v U'.heap L ∧ FrameEnd U o U' L Rm0.cells Rm0.slots) := by
 refine MetFree.of_bodySF (plainFor_of_name pn_4) hisR ?_
 intro p e s m args below meth c s₁ Bd hml0 hP hK
 obtain ⟨rfl, hZ, hh⟩ := hP
 have hx := Bd.exec
 have hby := Bd.bytes
 have hml : c.maxLocals = 3 := hml0
 have hown : s.vm.findClass "java/lang/StringUTF16" = some m.cls := findClass_of_methodNamed Bd.named
 have hnm := (name_of_methodNamed Bd.named Bd.method).1
 have X0 : Stand p l e Rm0 s m #[(.ref a1), (.int 0), (.int cx)] below meth c s₁ [] 0 0 := Stand.of_body Bd
 have e0 : s₁.heap = h0 := by rw [← hh, Bd.state]; rfl
 have N0 := Fr.nil n0
 show Go p.tables e below (fun o U' => ∃ v L, o = .returned v ∧ Qrmpc1_0 Z a1 cx k1 v0 v1 h0 n0 v U'.heap L ∧ FrameEnd s o U' L Rm0.cells Rm0.slots) _
 refine Go.step (fun t kt => castTop (ef_rmpc1_0 m a1 cx k1 v0 v1) kt) ?_
 show Go p.tables e below _ (s₁.setTop (mkF m 0 #[vR a1, vI 0, vI cx] []))
 have K101 : Keep h0 h0 [a1] := (Keep.refl h0 [a1])
 obtain ⟨T102, X102, e102, st102⟩ := getS2 X0 hx hZ hown (host := "") (Or.inl (w99 hw)) Via.refl e0 S_ad (g := (mkF m 0 #[vR a1, vI 0, vI cx] [])) rfl (hb hby d20_0)
 refine Go.step st102 ?_
 show Go p.tables e below _ (T102.setTop (mkF m 3 #[vR a1, vI 0, vI cx] [(.int 1)]))
 refine Go.step (fun _ kt => XS.ifYes X102.here hx rfl (pc0 := 3) (pc' := 28) rfl (hb hby d20_3) rfl ((if0 _ _).trans (feq (by decide : ¬ ((1 : Int32) = (0 : Int32)))).2) (by decide) (by decide) (XS.iloadN X102.here hx rfl (hb hby d20_28) rfl (XS.iconst X102.here hx rfl (hb hby d20_29) (XS.ishl X102.here hx rfl (hb hby d20_30) rfl kt)))) ?_
 show Go p.tables e below _ (T102.setTop (mkF m 31 #[vR a1, vI 0, vI cx] [(.int ((0 : Int32) <<< ((1 : Int32) &&& 31)))]))
 have q103 : ((0 : Int32) <<< ((1 : Int32) &&& 31)) = (0 : Int32) := by decide
 rw [q103]
 show Go p.tables e below _ (T102.setTop (mkF m 31 #[vR a1, vI 0, vI cx] [(.int 0)]))
 refine Go.step (fun _ kt => XS.istoreN X102.here hx rfl (hb hby d20_31) rfl (l' := #[vR a1, vI 0, vI cx]) rfl (XS.aloadN X102.here hx rfl (hb hby d20_32) rfl rfl (XS.iloadN X102.here hx rfl (hb hby d20_33) rfl (XS.iinc X102.here hx rfl (hb hby d20_34) rfl (l' := #[vR a1, vI ((0 : Int32) + (1 : Int32)), vI cx]) rfl kt)))) ?_
 show Go p.tables e below _ (T102.setTop (mkF m 37 #[vR a1, vI ((0 : Int32) + (1 : Int32)), vI cx] [(.int 0), (.ref a1)]))
 have q104 : ((0 : Int32) + (1 : Int32)) = (1 : Int32) := by decide
 rw [q104]
 show Go p.tables e below _ (T102.setTop (mkF m 37 #[vR a1, vI 1, vI cx] [(.int 0), (.ref a1)]))
 refine Go.step (fun _ kt => XS.iloadN X102.here hx rfl (hb hby d20_37) rfl kt) ?_
 obtain ⟨T105, X105, e105, st105⟩ := getS2 X102 hx hZ hown (host := "") (Or.inl (w100 hw)) Via.refl e102 S_hi (g := (mkF m 38 #[vR a1, vI 1, vI cx] [(.int cx), (.int 0), (.ref a1)])) rfl (hb hby d20_38)
 refine Go.step st105 ?_
 show Go p.tables e below _ (T105.setTop (mkF m 41 #[vR a1, vI 1, vI cx] [(.int 0), (.int cx), (.int 0), (.ref a1)]))
 refine Go.step (fun _ kt => XS.ishr X105.here hx rfl (hb hby d20_41) rfl (XS.i2b X105.here hx rfl (hb hby d20_42) rfl kt)) ?_
 show Go p.tables e below _ (T105.setTop (mkF m 43 #[vR a1, vI 1, vI cx] [(.int ((cx >>> ((0 : Int32) &&& 31)).toInt8.toInt32)), (.int 0), (.ref a1)]))
 have q106 : ((cx >>> ((0 : Int32) &&& 31)).toInt8.toInt32) = (own_by (cx >>> ((0 : Int32) &&& 31))) := rfl
 rw [q106]
 show Go p.tables e below _ (T105.setTop (mkF m 43 #[vR a1, vI 1, vI cx] [(.int (own_by (cx >>> ((0 : Int32) &&& 31)))), (.int 0), (.ref a1)]))
 have q107 : (own_by (cx >>> ((0 : Int32) &&& 31))) = (own_lo cx) := rfl
 rw [q107]
 obtain ⟨cl108, Ar108, qa108, Sa108, Na108, Ha108, Ga108⟩ := (id V1)
 have hin108 : ¬ ((0 : Int32) < 0 ∨ cl108.slots.size ≤ ((0 : Int32)).toNatClampNeg) := inb_of Sa108 ⟨by decide, by decide⟩
 obtain ⟨T108, h108, X108, e108, W108, st108⟩ := stB X105 hx hZ e105 Ar108 (j := (0 : Int32)) hin108 (g := (mkF m 43 #[vR a1, vI 1, vI cx] [(.int (own_lo cx)), (.int 0), (.ref a1)])) rfl rfl (hb hby d20_43)
 refine Go.step st108 ?_
 have V109 := Arv.set Ar108 qa108 Sa108 Na108 Ha108 Ga108 (fits_nar_byte _) W108 0 rfl (Nat.le_of_ble_eq_true rfl)
 have N108 := Fr.snoc X108 N0 g_a1
 have F110 := (S_ad.wr W108)
 have F111 := (S_hi.wr W108)
 have F112 := (S_lo.wr W108)
 have Z113 : n0 ≤ h108.size := (Nat.le_trans Z0 (Nat.le_of_eq W108.size.symm))
 have K114 : Keep h0 h108 [a1] := (K101.wr W108 (Or.inl (List.mem_of_getElem? (i := 0) rfl)))
 show Go p.tables e below _ (T108.setTop (mkF m 44 #[vR a1, vI 1, vI cx] []))
 have Vn115 : Arv Z h108 a1 k1 .byte (2 : Int32) [(.int (own_lo cx)), (.int v1)] (.int 0) := by have q1 : ((own_lo cx)).toInt8.toInt32 = (own_lo cx) := (own_bl _); have q0 := V109; have q2 : nar .byte (own_lo cx) = (own_lo cx) := q1; first | (rw [q1] at q0; exact q0) | (rw [q2] at q0; exact q0)
 refine Go.step (fun _ kt => XS.aloadN X108.here hx rfl (hb hby d20_44) rfl rfl (XS.iloadN X108.here hx rfl (hb hby d20_45) rfl (XS.iloadN X108.here hx rfl (hb hby d20_46) rfl kt))) ?_
 obtain ⟨T116, X116, e116, st116⟩ := getS2 X108 hx hZ hown (host := "") (Or.inl (w101 hw)) Via.refl e108 F112 (g := (mkF m 47 #[vR a1, vI 1, vI cx] [(.int cx), (.int 1), (.ref a1)])) rfl (hb hby d20_47)
 refine Go.step st116 ?_
 show Go p.tables e below _ (T116.setTop (mkF m 50 #[vR a1, vI 1, vI cx] [(.int 8), (.int cx), (.int 1), (.ref a1)]))
 refine Go.step (fun _ kt => XS.ishr X116.here hx rfl (hb hby d20_50) rfl (XS.i2b X116.here hx rfl (hb hby d20_51) rfl kt)) ?_
 show Go p.tables e below _ (T116.setTop (mkF m 52 #[vR a1, vI 1, vI cx] [(.int ((cx >>> ((8 : Int32) &&& 31)).toInt8.toInt32)), (.int 1), (.ref a1)]))
 have q117 : ((cx >>> ((8 : Int32) &&& 31)).toInt8.toInt32) = (own_by (cx >>> ((8 : Int32) &&& 31))) := rfl
 rw [q117]
 show Go p.tables e below _ (T116.setTop (mkF m 52 #[vR a1, vI 1, vI cx] [(.int (own_by (cx >>> ((8 : Int32) &&& 31)))), (.int 1), (.ref a1)]))
 have q118 : (own_by (cx >>> ((8 : Int32) &&& 31))) = (own_hi cx) := rfl
 rw [q118]
 obtain ⟨cl119, Ar119, qa119, Sa119, Na119, Ha119, Ga119⟩ := (id Vn115)
 have hin119 : ¬ ((1 : Int32) < 0 ∨ cl119.slots.size ≤ ((1 : Int32)).toNatClampNeg) := inb_of Sa119 ⟨by decide, by decide⟩
 obtain ⟨T119, h119, X119, e119, W119, st119⟩ := stB X116 hx hZ e116 Ar119 (j := (1 : Int32)) hin119 (g := (mkF m 52 #[vR a1, vI 1, vI cx] [(.int (own_hi cx)), (.int 1), (.ref a1)])) rfl rfl (hb hby d20_52)
 refine Go.step st119 ?_
 have V120 := Arv.set Ar119 qa119 Sa119 Na119 Ha119 Ga119 (fits_nar_byte _) W119 1 rfl (Nat.le_of_ble_eq_true rfl)
 have N119 := Fr.snoc X119 N108 g_a1
 have F121 := (F110.wr W119)
 have F122 := (F111.wr W119)
 have F123 := (F112.wr W119)
 have Z124 : n0 ≤ h119.size := (Nat.le_trans Z113 (Nat.le_of_eq W119.size.symm))
 have K125 : Keep h0 h119 [a1] := (K114.wr W119 (Or.inl (List.mem_of_getElem? (i := 0) rfl)))
 show Go p.tables e below _ (T119.setTop (mkF m 53 #[vR a1, vI 1, vI cx] []))
 have Vn126 : Arv Z h119 a1 k1 .byte (2 : Int32) [(.int (own_lo cx)), (.int (own_hi cx))] (.int 0) := by have q1 : ((own_hi cx)).toInt8.toInt32 = (own_hi cx) := (own_bh _); have q0 := V120; have q2 : nar .byte (own_hi cx) = (own_hi cx) := q1; first | (rw [q1] at q0; exact q0) | (rw [q2] at q0; exact q0)
 obtain ⟨fs, hr, hrun, hended, hW, hsame⟩ := X119.leave (v := none) (fun _ => rfl)
 refine ⟨_, _, X119.returnOut hx Bd.returns (hb hby d20_53) hr, hrun, hended, _, _, rfl, ?_, ⟨_, rfl⟩, hW, hsame.mono (by decide) (by decide)⟩
 show Qrmpc1_0 Z a1 cx k1 v0 v1 h0 n0 _ T119.heap _
 rw [e119]
 refine ⟨?_, N119, K125, Vn126⟩
 rfl
theorem pd_19 : parseMethodDescriptor "([BII)V" = some ⟨[(.array .byte), .int, .int], none⟩ := by decide +kernel
theorem d17_0 : dC26 0 (.iload_n 2, 1) := by decide +kernel
theorem d17_1 : dC26 1 (.invokestatic 107, 3) := by decide +kernel
theorem d17_4 : dC26 4 (.astore_n 3, 1) := by decide +kernel
theorem d17_5 : dC26 5 (.iconst 0, 1) := by decide +kernel
theorem d17_6 : dC26 6 (.istore 4, 2) := by decide +kernel
theorem d17_8 : dC26 8 (.iload 4, 2) := by decide +kernel
theorem d17_10 : dC26 10 (.iload_n 2, 1) := by decide +kernel
theorem d17_11 : dC26 11 (.if_icmp .ge 21, 3) := by decide +kernel
theorem d17_14 : dC26 14 (.aload_n 3, 1) := by decide +kernel
theorem d17_15 : dC26 15 (.iload 4, 2) := by decide +kernel
theorem d17_17 : dC26 17 (.aload_n 0, 1) := by decide +kernel
theorem d17_18 : dC26 18 (.iload_n 1, 1) := by decide +kernel
theorem d17_19 : dC26 19 (.caload, 1) := by decide +kernel
theorem d17_20 : dC26 20 (.invokestatic 111, 3) := by decide +kernel
theorem d17_23 : dC26 23 (.iinc 1 1, 3) := by decide +kernel
theorem d17_26 : dC26 26 (.iinc 4 1, 3) := by decide +kernel
theorem d17_29 : dC26 29 (.goto (-21), 3) := by decide +kernel
theorem d17_32 : dC26 32 (.aload_n 3, 1) := by decide +kernel
theorem d17_33 : dC26 33 (.areturn, 1) := by decide +kernel
theorem ef_rmtb1 (m : MethodId) (a1 : Addr) (k1 : ClassId) (c0 : Int32) : entryFrame m #[(.ref a1), (.int 0), (.int 1)] 5 = mkF m 0 #[vR a1, vI 0, vI 1, uS, uS] [] := by first | (simp [entryFrame, mkF, argsToLocals, Value.category]; done) | rfl
def Qrmtb1 (Z : State) (a1 : Addr) (k1 : ClassId) (c0 : Int32) (h0 : Heap) (n0 : Nat) (v : Option Value) (h : Heap) (L : List Loc) : Prop := ∃ r : Addr, ∃ kr : ClassId, v = some (.ref r) ∧ Fr n0 L ∧ Keep h0 h [] ∧ Exa Z h r "[B" ∧ Arv Z h r kr .byte (2 : Int32) [(.int (own_lo c0)), (.int (own_hi c0))] (.int 0) ∧ n0 ≤ r ∧ h0.size ≤ r
set_option maxRecDepth 65536 in
set_option maxHeartbeats 40000000 in
theorem rmtb1 (l : Launch) (Z : State) (a0 : Array Value) (hw : ∀ d ∈ tables_1, d.before a0 Z = true) (ws : List Jvm.Cond) (a1 : Addr) (k1 : ClassId) (c0 : Int32) (h0 : Heap) (n0 : Nat) (Z0 : n0 ≤ h0.size) (V1 : Arv Z h0 a1 k1 .char (1 : Int32) [(.int c0)] (.int 0)) (S_ad : Sta Z h0 "java/lang/StringUTF16" "$assertionsDisabled" "Z" (.int 1)) (S_hi : Sta Z h0 "java/lang/StringUTF16" "HI_BYTE_SHIFT" "I" (.int 0)) (S_lo : Sta Z h0 "java/lang/StringUTF16" "LO_BYTE_SHIFT" "I" (.int 8)) :
    MetFree l Y26 (head1 (Jvm.Cond.code Y26 jdk_52_method_14_code 5 (some (.array .byte)) :: ws) Rm13) (fun a U => a = #[(.ref a1), (.int 0), (.int 1)] ∧ Z.Warmed39 U.vm ∧ U.heap = h0) (fun _ _ _ _ _ => True) (fun _ U o U' => ∃ v L, o = .returned v ∧ Qrmtb1 Z a1 k1 c0 h0 n0 v U'.heap L ∧ FrameEnd U o U' L Rm13.cells Rm13.slots) := by
 refine MetFree.of_bodySF (plainFor_of_name pn_4) hisR ?_
 intro p e s m args below meth c s₁ Bd hml0 hP hK
 obtain ⟨rfl, hZ, hh⟩ := hP
 have hx := Bd.exec
 have hby := Bd.bytes
 have hml : c.maxLocals = 5 := hml0
 have hown : s.vm.findClass "java/lang/StringUTF16" = some m.cls := findClass_of_methodNamed Bd.named
 have hnm := (name_of_methodNamed Bd.named Bd.method).1
 have X0 : Stand p l e Rm13 s m #[(.ref a1), (.int 0), (.int 1)] below meth c s₁ [] 0 0 := Stand.of_body Bd
 have e0 : s₁.heap = h0 := by rw [← hh, Bd.state]; rfl
 have N0 := Fr.nil n0
 show Go p.tables e below (fun o U' => ∃ v L, o = .returned v ∧ Qrmtb1 Z a1 k1 c0 h0 n0 v U'.heap L ∧ FrameEnd s o U' L Rm13.cells Rm13.slots) _
 refine Go.step (fun t kt => castTop (ef_rmtb1 m a1 k1 c0) kt) ?_
 show Go p.tables e below _ (s₁.setTop (mkF m 0 #[vR a1, vI 0, vI 1, uS, uS] []))
 have K101 : Keep h0 h0 [] := (Keep.refl h0 [])
 refine Go.step (fun _ kt => XS.iloadN X0.here hx rfl (hb hby d17_0) rfl kt) ?_
 obtain ⟨_, _, ⟨T102, L102, k102, n102⟩, -, X102, ⟨Lc102, hQ102, l102, y102, z102⟩, st102⟩ := Jvm.LawKit.callS X0 hx (y := Y11) hown (mvT hZ (w89 hw)) (mvT hZ (w90 hw)) (mvT hZ (w18 hw)) (mvT hZ (w91 hw)) (by decide) (backOf (W := 0) (rmnf1_V l Z a0 hw []   h0 n0 Z0  ) hZ (w91 hw) (w18 hw) (by decide) (by decide)) (g := (mkF m 1 #[vR a1, vI 0, vI 1, uS, uS] [(.int 1)])) rfl hml.symm (argsL := [(.int 1)]) (rest := []) (lenOf pd_4 rfl) rfl (Nat.le_of_eq rfl) (hb hby d17_1) (fun _ _ => ⟨rfl, e0, (by decide : 0 + 1 ≤ _), (by decide : 0 + 2 ≤ _)⟩)
 dsimp only [Pt.U, Pt.locs, Pt.cells, Pt.slots] at X102 l102 y102 z102 st102 hQ102
 subst l102 y102 z102
 obtain ⟨b102r, b102kr, rfl, N102q, Kq102, P103, P104, g_b102r, szq_b102r⟩ := hQ102
 have ne_a1_b102r : a1 ≠ b102r := Nat.ne_of_lt (Nat.lt_of_lt_of_le V1.lt szq_b102r)
 have sz_b102r : h0.size ≤ b102r := Nat.le_trans K101.1 szq_b102r
 have F105 := (V1.keep Kq102 (by simp))
 have F106 := (own_sta_keep0 S_ad Kq102)
 have F107 := (own_sta_keep0 S_hi Kq102)
 have F108 := (own_sta_keep0 S_lo Kq102)
 have Z109 : n0 ≤ T102.heap.size := (Nat.le_trans Z0 Kq102.1)
 have K110 : Keep h0 T102.heap [] := (K101.trans Kq102 (by intro x hx; cases hx))
 have N102 := Fr.app N0 N102q
 refine Go.step st102 ?_
 show Go p.tables e below _ (T102.setTop (mkF m 4 #[vR a1, vI 0, vI 1, uS, uS] [(.ref b102r)]))
 refine Go.step (fun _ kt => XS.astoreN X102.here hx rfl (hb hby d17_4) rfl rfl (l' := #[vR a1, vI 0, vI 1, vR b102r, uS]) rfl (XS.iconst X102.here hx rfl (hb hby d17_5) (XS.istore X102.here hx rfl (hb hby d17_6) rfl (l' := #[vR a1, vI 0, vI 1, vR b102r, vI 0]) rfl (XS.iload X102.here hx rfl (hb hby d17_8) rfl (XS.iloadN X102.here hx rfl (hb hby d17_10) rfl (XS.icmpNo X102.here hx rfl (hb hby d17_11) rfl (tlt (by decide : (0 : Int32) < (1 : Int32))).2.1 (XS.aloadN X102.here hx rfl (hb hby d17_14) rfl rfl (XS.iload X102.here hx rfl (hb hby d17_15) rfl (XS.aloadN X102.here hx rfl (hb hby d17_17) rfl rfl (XS.iloadN X102.here hx rfl (hb hby d17_18) rfl kt)))))))))) ?_
 show Go p.tables e below _ (T102.setTop (mkF m 19 #[vR a1, vI 0, vI 1, vR b102r, vI 0] [(.int 0), (.ref a1), (.int 0), (.ref b102r)]))
 obtain ⟨cl111, Ar111, qa111, Sa111, Na111, Ha111, Ga111⟩ := (id F105)
 have hin111 : ¬ ((0 : Int32) < 0 ∨ cl111.slots.size ≤ ((0 : Int32)).toNatClampNeg) := inb_of Sa111 ⟨by decide, by decide⟩
 have hat111 : cl111.slots[((0 : Int32)).toNatClampNeg]? = some (.int c0) := at_of Ha111 hin111 rfl
 refine Go.step (X102.caload hx (j := (0 : Int32)) (v := (.int c0)) Ar111.1 (State.isArrayOf_alike hZ.alike Ar111.2.1) Ar111.2.2 hin111 hat111 (g := (mkF m 19 #[vR a1, vI 0, vI 1, vR b102r, vI 0] [(.int 0), (.ref a1), (.int 0), (.ref b102r)])) rfl rfl (hb hby d17_19)) ?_
 obtain ⟨_, _, ⟨T112, L112, k112, n112⟩, -, X112, ⟨Lc112, hQ112, l112, y112, z112⟩, st112⟩ := Jvm.LawKit.callS X102 hx (y := Y25) hown (mvT hZ (w96 hw)) (mvT hZ (w97 hw)) (mvT hZ (w18 hw)) (mvT hZ (w98 hw)) (by decide) (backOf (W := 0) (rmpc1_0 l Z a0 hw [] b102r c0 b102kr (0 : Int32) (0 : Int32) T102.heap n0 Z109 P104 F106 F107 F108 g_b102r) hZ (w98 hw) (w18 hw) (by decide) (by decide)) (g := (mkF m 20 #[vR a1, vI 0, vI 1, vR b102r, vI 0] [(.int c0), (.int 0), (.ref b102r)])) rfl hml.symm (argsL := [(.ref b102r), (.int 0), (.int c0)]) (rest := []) (lenOf pd_19 rfl) rfl (Nat.le_of_eq rfl) (hb hby d17_20) (fun _ _ => ⟨rfl, rfl, (by decide : 1 + 0 ≤ _), (by decide : 2 + 0 ≤ _)⟩)
 dsimp only [Pt.U, Pt.locs, Pt.cells, Pt.slots] at X112 l112 y112 z112 st112 hQ112
 subst l112 y112 z112
 obtain ⟨rfl, N112q, Kq112, P113⟩ := hQ112
 have F114 := (F105.keep Kq112 (fun q => ne_a1_b102r (List.mem_singleton.mp q)))
 have F115 := (own_sta_keep F106 P103 Kq112)
 have F116 := (own_sta_keep F107 P103 Kq112)
 have F117 := (own_sta_keep F108 P103 Kq112)
 have F118 := (P103.keep Kq112)
 have Z119 : n0 ≤ T112.heap.size := (Nat.le_trans Z109 Kq112.1)
 have K120 : Keep h0 T112.heap [] := (K110.trans Kq112 (by intro x hx; cases List.mem_singleton.mp hx; exact (Or.inr sz_b102r)))
 have N112 := Fr.app N102 N112q
 refine Go.step st112 ?_
 show Go p.tables e below _ (T112.setTop (mkF m 23 #[vR a1, vI 0, vI 1, vR b102r, vI 0] []))
 refine Go.step (fun _ kt => XS.iinc X112.here hx rfl (hb hby d17_23) rfl (l' := #[vR a1, vI ((0 : Int32) + (1 : Int32)), vI 1, vR b102r, vI 0]) rfl kt) ?_
 show Go p.tables e below _ (T112.setTop (mkF m 26 #[vR a1, vI ((0 : Int32) + (1 : Int32)), vI 1, vR b102r, vI 0] []))
 have q121 : ((0 : Int32) + (1 : Int32)) = (1 : Int32) := by decide
 rw [q121]
 show Go p.tables e below _ (T112.setTop (mkF m 26 #[vR a1, vI 1, vI 1, vR b102r, vI 0] []))
 refine Go.step (fun _ kt => XS.iinc X112.here hx rfl (hb hby d17_26) rfl (l' := #[vR a1, vI 1, vI 1, vR b102r, vI ((0 : Int32) + (1 : Int32))]) rfl kt) ?_
 show Go p.tables e below _ (T112.setTop (mkF m 29 #[vR a1, vI 1, vI 1, vR b102r, vI ((0 : Int32) + (1 : Int32))] []))
 have q122 : ((0 : Int32) + (1 : Int32)) = (1 : Int32) := by decide
 rw [q122]
 show Go p.tables e below _ (T112.setTop (mkF m 29 #[vR a1, vI 1, vI 1, vR b102r, vI 1] []))
 refine Go.step (fun _ kt => XS.goto X112.here hx rfl (pc0 := 29) (pc' := 8) rfl (hb hby d17_29) (by decide) (by decide) (XS.iload X112.here hx rfl (hb hby d17_8) rfl (XS.iloadN X112.here hx rfl (hb hby d17_10) rfl (XS.icmpYes X112.here hx rfl (pc0 := 11) (pc' := 32) rfl (hb hby d17_11) rfl (flt (by decide : ¬ ((1 : Int32) < (1 : Int32)))).2.1 (by decide) (by decide) (XS.aloadN X112.here hx rfl (hb hby d17_32) rfl rfl kt))))) ?_
 show Go p.tables e below _ (T112.setTop (mkF m 33 #[vR a1, vI 1, vI 1, vR b102r, vI 1] [(.ref b102r)]))
 obtain ⟨fs, hr, hrun, hended, hW, hsame⟩ := X112.leave (v := some (.ref b102r)) (fun h => by rw [Bd.returns] at h; cases h)
 refine ⟨_, _, retOut X112 hx Bd.returns rfl (Or.inr (Or.inr (Or.inr (Or.inr ⟨rfl, rfl, rfl⟩)))) (hb hby d17_33) hr, hrun, hended, _, _, rfl, ?_, ⟨_, rfl⟩, hW, hsame.mono (by decide) (by decide)⟩
 show Qrmtb1 Z a1 k1 c0 h0 n0 _ T112.heap _
 refine ⟨b102r, b102kr, ?_, N112, K120, F118, P113, g_b102r, sz_b102r⟩
 rfl
theorem pd_20 : parseMethodDescriptor "([CII)[B" = some ⟨[(.array .char), .int, .int], some (.array .byte)⟩ := by decide +kernel
theorem d4_0 : dC27 0 (.iload_n 2, 1) := by decide +kernel
theorem d4_1 : dC27 1 (.newarray .byte, 2) := by decide +kernel
theorem d4_3 : dC27 3 (.astore_n 3, 1) := by decide +kernel
theorem d4_4 : dC27 4 (.aload_n 0, 1) := by decide +kernel
theorem d4_5 : dC27 5 (.iload_n 1, 1) := by decide +kernel
theorem d4_6 : dC27 6 (.aload_n 3, 1) := by decide +kernel
theorem d4_7 : dC27 7 (.iconst 0, 1) := by decide +kernel
theorem d4_8 : dC27 8 (.iload_n 2, 1) := by decide +kernel
theorem d4_9 : dC27 9 (.invokestatic 115, 3) := by decide +kernel
theorem d4_12 : dC27 12 (.istore 4, 2) := by decide +kernel
theorem d4_14 : dC27 14 (.iload 4, 2) := by decide +kernel
theorem d4_16 : dC27 16 (.iload_n 2, 1) := by decide +kernel
theorem d4_17 : dC27 17 (.if_icmp .eq 40, 3) := by decide +kernel
theorem d4_20 : dC27 20 (.aload_n 0, 1) := by decide +kernel
theorem d4_21 : dC27 21 (.iload_n 1, 1) := by decide +kernel
theorem d4_22 : dC27 22 (.iload_n 2, 1) := by decide +kernel
theorem d4_23 : dC27 23 (.invokestatic 119, 3) := by decide +kernel
theorem d4_26 : dC27 26 (.astore 5, 2) := by decide +kernel
theorem d4_28 : dC27 28 (.aload 5, 2) := by decide +kernel
theorem d4_30 : dC27 30 (.iload 4, 2) := by decide +kernel
theorem d4_32 : dC27 32 (.invokestatic 71, 3) := by decide +kernel
theorem d4_35 : dC27 35 (.sipush 255, 3) := by decide +kernel
theorem d4_38 : dC27 38 (.if_icmp .gt 16, 3) := by decide +kernel
theorem d4_54 : dC27 54 (.aload 5, 2) := by decide +kernel
theorem d4_56 : dC27 56 (.areturn, 1) := by decide +kernel
theorem ef_rmk1_U (m : MethodId) (a1 : Addr) (k1 : ClassId) (c0 : Int32) : entryFrame m #[(.ref a1), (.int 0), (.int 1)] 6 = mkF m 0 #[vR a1, vI 0, vI 1, uS, uS, uS] [] := by first | (simp [entryFrame, mkF, argsToLocals, Value.category]; done) | rfl
def Qrmk1_U (Z : State) (a1 : Addr) (k1 : ClassId) (c0 : Int32) (h0 : Heap) (n0 : Nat) (v : Option Value) (h : Heap) (L : List Loc) : Prop := ∃ r : Addr, ∃ kr : ClassId, v = some (.ref r) ∧ Fr n0 L ∧ Keep h0 h [] ∧ Exa Z h r "[B" ∧ Arv Z h r kr .byte (2 : Int32) [(.int (own_lo c0)), (.int (own_hi c0))] (.int 0) ∧ n0 ≤ r ∧ h0.size ≤ r
set_option maxRecDepth 65536 in
set_option maxHeartbeats 40000000 in
theorem rmk1_U (l : Launch) (Z : State) (a0 : Array Value) (hw : ∀ d ∈ tables_1, d.before a0 Z = true) (ws : List Jvm.Cond) (a1 : Addr) (k1 : ClassId) (c0 : Int32) (h0 : Heap) (n0 : Nat) (Z0 : n0 ≤ h0.size) (V1 : Arv Z h0 a1 k1 .char (1 : Int32) [(.int c0)] (.int 0)) (S_ad : Sta Z h0 "java/lang/StringUTF16" "$assertionsDisabled" "Z" (.int 1)) (S_hi : Sta Z h0 "java/lang/StringUTF16" "HI_BYTE_SHIFT" "I" (.int 0)) (S_lo : Sta Z h0 "java/lang/StringUTF16" "LO_BYTE_SHIFT" "I" (.int 8)) (hR0 : own_R c0) (hU : (255 : Int32) < c0) :
    MetFree l Y27 (head1 (Jvm.Cond.code Y27 jdk_52_method_16_code 6 (some (.array .byte)) :: ws) Rm14) (fun a U => a = #[(.ref a1), (.int 0), (.int 1)] ∧ Z.Warmed39 U.vm ∧ U.heap = h0) (fun _ _ _ _ _ => True) (fun _ U o U' => ∃ v L, o = .returned v ∧ Qrmk1_U Z a1 k1 c0 h0 n0 v U'.heap L ∧ FrameEnd U o U' L Rm14.cells Rm14.slots) := by
 refine MetFree.of_bodySF (plainFor_of_name pn_4) hisR ?_
 intro p e s m args below meth c s₁ Bd hml0 hP hK
 obtain ⟨rfl, hZ, hh⟩ := hP
 have hx := Bd.exec
 have hby := Bd.bytes
 have hml : c.maxLocals = 6 := hml0
 have hown : s.vm.findClass "java/lang/StringUTF16" = some m.cls := findClass_of_methodNamed Bd.named
 have hnm := (name_of_methodNamed Bd.named Bd.method).1
 have X0 : Stand p l e Rm14 s m #[(.ref a1), (.int 0), (.int 1)] below meth c s₁ [] 0 0 := Stand.of_body Bd
 have e0 : s₁.heap = h0 := by rw [← hh, Bd.state]; rfl
 have N0 := Fr.nil n0
 show Go p.tables e below (fun o U' => ∃ v L, o = .returned v ∧ Qrmk1_U Z a1 k1 c0 h0 n0 v U'.heap L ∧ FrameEnd s o U' L Rm14.cells Rm14.slots) _
 refine Go.step (fun t kt => castTop (ef_rmk1_U m a1 k1 c0) kt) ?_
 show Go p.tables e below _ (s₁.setTop (mkF m 0 #[vR a1, vI 0, vI 1, uS, uS, uS] []))
 have K101 : Keep h0 h0 [] := (Keep.refl h0 [])
 have hU0 := hU
 refine Go.step (fun _ kt => XS.iloadN X0.here hx rfl (hb hby d4_0) rfl kt) ?_
 obtain ⟨T102, h102, k102, X102, e102, E102, A102, Ex102, st102⟩ := newPE (aty := .byte) X0 hx hZ (w20 hw) e0 (g := (mkF m 1 #[vR a1, vI 0, vI 1, uS, uS, uS] [(.int 1)])) rfl (hb hby d4_1) rfl (by decide) (cap := 1) (by decide) (by decide) (by decide) (by decide) (ad := "[B") own_adB
 obtain ⟨b102, g102⟩ : ∃ z, z = h0.size := ⟨_, rfl⟩
 rw [← g102] at A102 Ex102 st102
 refine Go.step st102 ?_
 have ne_a1_b102 : a1 ≠ b102 := Nat.ne_of_lt (Nat.lt_of_lt_of_le V1.lt (Nat.le_of_eq g102.symm))
 have g_b102 : n0 ≤ b102 := Nat.le_trans Z0 (Nat.le_of_eq g102.symm)
 have sz_b102 : h0.size ≤ b102 := Nat.le_trans K101.1 (Nat.le_of_eq g102.symm)
 have F103 := (V1.ext E102)
 have F104 := (S_ad.ext E102)
 have F105 := (S_hi.ext E102)
 have F106 := (S_lo.ext E102)
 have Z107 : n0 ≤ h102.size := (Nat.le_trans Z0 E102.1)
 have K108 : Keep h0 h102 [] := (K101.ext E102)
 have V109 : Arv Z h102 b102 k102 .byte (1 : Int32) [(.int 0)] (.int 0) := (Arv.new A102 (by decide)).pad (pad_rep [] (.int 0) 1)
 show Go p.tables e below _ (T102.setTop (mkF m 3 #[vR a1, vI 0, vI 1, uS, uS, uS] [(.ref b102)]))
 refine Go.step (fun _ kt => XS.astoreN X102.here hx rfl (hb hby d4_3) rfl rfl (l' := #[vR a1, vI 0, vI 1, vR b102, uS, uS]) rfl (XS.aloadN X102.here hx rfl (hb hby d4_4) rfl rfl (XS.iloadN X102.here hx rfl (hb hby d4_5) rfl (XS.aloadN X102.here hx rfl (hb hby d4_6) rfl rfl (XS.iconst X102.here hx rfl (hb hby d4_7) (XS.iloadN X102.here hx rfl (hb hby d4_8) rfl kt)))))) ?_
 show Go p.tables e below _ (T102.setTop (mkF m 9 #[vR a1, vI 0, vI 1, vR b102, uS, uS] [(.int 1), (.int 0), (.ref b102), (.int 0), (.ref a1)]))
 obtain ⟨_, _, ⟨T110, L110, k110, n110⟩, -, X110, ⟨Lc110, hQ110, l110, y110, z110⟩, st110⟩ := Jvm.LawKit.callS X102 hx (y := Y24) hown (mvT hZ (w21 hw)) (mvT hZ (w22 hw)) (mvT hZ (w18 hw)) (mvT hZ (w23 hw)) (by decide) (backOf (W := 0) (rmkl1_F0 l Z a0 hw [] a1 b102 k1 c0 h102 n0 Z107 F103 hU0) hZ (w23 hw) (w18 hw) (by decide) (by decide)) (g := (mkF m 9 #[vR a1, vI 0, vI 1, vR b102, uS, uS] [(.int 1), (.int 0), (.ref b102), (.int 0), (.ref a1)])) rfl hml.symm (argsL := [(.ref a1), (.int 0), (.ref b102), (.int 0), (.int 1)]) (rest := []) (lenOf pd_18 rfl) rfl (Nat.le_of_eq rfl) (hb hby d4_9) (fun _ _ => ⟨rfl, e102, (by decide : 1 + 0 ≤ _), (by decide : 1 + 0 ≤ _)⟩)
 dsimp only [Pt.U, Pt.locs, Pt.cells, Pt.slots] at X110 l110 y110 z110 st110 hQ110
 subst l110 y110 z110
 obtain ⟨rfl, N110q, eh110⟩ := hQ110
 have N110 := Fr.app N0 N110q
 refine Go.step st110 ?_
 show Go p.tables e below _ (T110.setTop (mkF m 12 #[vR a1, vI 0, vI 1, vR b102, uS, uS] [(.int 0)]))
 refine Go.step (fun _ kt => XS.istore X110.here hx rfl (hb hby d4_12) rfl (l' := #[vR a1, vI 0, vI 1, vR b102, vI 0, uS]) rfl (XS.iload X110.here hx rfl (hb hby d4_14) rfl (XS.iloadN X110.here hx rfl (hb hby d4_16) rfl (XS.icmpNo X110.here hx rfl (hb hby d4_17) rfl (feq (by decide : ¬ ((0 : Int32) = (1 : Int32)))).1 (XS.aloadN X110.here hx rfl (hb hby d4_20) rfl rfl (XS.iloadN X110.here hx rfl (hb hby d4_21) rfl (XS.iloadN X110.here hx rfl (hb hby d4_22) rfl kt))))))) ?_
 show Go p.tables e below _ (T110.setTop (mkF m 23 #[vR a1, vI 0, vI 1, vR b102, vI 0, uS] [(.int 1), (.int 0), (.ref a1)]))
 obtain ⟨_, _, ⟨T111, L111, k111, n111⟩, -, X111, ⟨Lc111, hQ111, l111, y111, z111⟩, st111⟩ := Jvm.LawKit.callS X110 hx (y := Y26) hown (mvT hZ (w86 hw)) (mvT hZ (w87 hw)) (mvT hZ (w18 hw)) (mvT hZ (w88 hw)) (by decide) (backOf (W := 0) (rmtb1 l Z a0 hw [] a1 k1 c0 h102 n0 Z107 F103 F104 F105 F106 ) hZ (w88 hw) (w18 hw) (by decide) (by decide)) (g := (mkF m 23 #[vR a1, vI 0, vI 1, vR b102, vI 0, uS] [(.int 1), (.int 0), (.ref a1)])) rfl hml.symm (argsL := [(.ref a1), (.int 0), (.int 1)]) (rest := []) (lenOf pd_20 rfl) rfl (Nat.le_of_eq rfl) (hb hby d4_23) (fun _ _ => ⟨rfl, eh110, (by decide : 1 + 1 ≤ _), (by decide : 1 + 2 ≤ _)⟩)
 dsimp only [Pt.U, Pt.locs, Pt.cells, Pt.slots] at X111 l111 y111 z111 st111 hQ111
 subst l111 y111 z111
 obtain ⟨b111r, b111kr, rfl, N111q, Kq111, P112, P113, g_b111r, szq_b111r⟩ := hQ111
 have ne_a1_b111r : a1 ≠ b111r := Nat.ne_of_lt (Nat.lt_of_lt_of_le F103.lt szq_b111r)
 have ne_b102_b111r : b102 ≠ b111r := Nat.ne_of_lt (Nat.lt_of_lt_of_le V109.lt szq_b111r)
 have sz_b111r : h0.size ≤ b111r := Nat.le_trans K108.1 szq_b111r
 have F114 := (F103.keep Kq111 (by simp))
 have F115 := (own_sta_keep0 F104 Kq111)
 have F116 := (own_sta_keep0 F105 Kq111)
 have F117 := (own_sta_keep0 F106 Kq111)
 have F118 := (V109.keep Kq111 (by simp))
 have F119 := (Ex102.keep Kq111)
 have Z120 : n0 ≤ T111.heap.size := (Nat.le_trans Z107 Kq111.1)
 have K121 : Keep h0 T111.heap [] := (K108.trans Kq111 (by intro x hx; cases hx))
 have N111 := Fr.app N110 N111q
 refine Go.step st111 ?_
 show Go p.tables e below _ (T111.setTop (mkF m 26 #[vR a1, vI 0, vI 1, vR b102, vI 0, uS] [(.ref b111r)]))
 refine Go.step (fun _ kt => XS.astore X111.here hx rfl (hb hby d4_26) rfl rfl (l' := #[vR a1, vI 0, vI 1, vR b102, vI 0, vR b111r]) rfl (XS.aload X111.here hx rfl (hb hby d4_28) rfl rfl (XS.iload X111.here hx rfl (hb hby d4_30) rfl kt))) ?_
 obtain ⟨_, _, ⟨T122, L122, k122, n122⟩, -, X122, ⟨Lc122, hQ122, l122, y122, z122⟩, st122⟩ := Jvm.LawKit.callS X111 hx (y := Y12) hown (mvT hZ (w102 hw)) (mvT hZ (w103 hw)) (mvT hZ (w18 hw)) (mvT hZ (w104 hw)) (by decide) (backOf (W := 0) (rmgc1_0 l Z a0 hw [] b111r b111kr c0 T111.heap n0 Z120 P113 F115 F116 F117 hR0) hZ (w104 hw) (w18 hw) (by decide) (by decide)) (g := (mkF m 32 #[vR a1, vI 0, vI 1, vR b102, vI 0, vR b111r] [(.int 0), (.ref b111r)])) rfl hml.symm (argsL := [(.ref b111r), (.int 0)]) (rest := []) (lenOf pd_6 rfl) rfl (Nat.le_of_eq rfl) (hb hby d4_32) (fun _ _ => ⟨rfl, rfl, (by decide : 2 + 0 ≤ _), (by decide : 3 + 0 ≤ _)⟩)
 dsimp only [Pt.U, Pt.locs, Pt.cells, Pt.slots] at X122 l122 y122 z122 st122 hQ122
 subst l122 y122 z122
 obtain ⟨rfl, N122q, eh122⟩ := hQ122
 have N122 := Fr.app N111 N122q
 refine Go.step st122 ?_
 show Go p.tables e below _ (T122.setTop (mkF m 35 #[vR a1, vI 0, vI 1, vR b102, vI 0, vR b111r] [(.int c0)]))
 refine Go.step (fun _ kt => XS.sipush X122.here hx rfl (hb hby d4_35) (XS.icmpYes X122.here hx rfl (pc0 := 38) (pc' := 54) rfl (hb hby d4_38) rfl (tlt hU0).2.2.1 (by decide) (by decide) (XS.aload X122.here hx rfl (hb hby d4_54) rfl rfl kt))) ?_
 show Go p.tables e below _ (T122.setTop (mkF m 56 #[vR a1, vI 0, vI 1, vR b102, vI 0, vR b111r] [(.ref b111r)]))
 obtain ⟨fs, hr, hrun, hended, hW, hsame⟩ := X122.leave (v := some (.ref b111r)) (fun h => by rw [Bd.returns] at h; cases h)
 refine ⟨_, _, retOut X122 hx Bd.returns rfl (Or.inr (Or.inr (Or.inr (Or.inr ⟨rfl, rfl, rfl⟩)))) (hb hby d4_56) hr, hrun, hended, _, _, rfl, ?_, ⟨_, rfl⟩, hW, hsame.mono (by decide) (by decide)⟩
 show Qrmk1_U Z a1 k1 c0 h0 n0 _ T122.heap _
 rw [eh122]
 refine ⟨b111r, b111kr, ?_, N122, K121, P112, P113, g_b111r, sz_b111r⟩
 rfl
theorem d6_0 : dC28 0 (.iload_n 1, 1) := by decide +kernel
theorem d6_1 : dC28 1 (.aload_n 0, 1) := by decide +kernel
theorem d6_2 : dC28 2 (.arraylength, 1) := by decide +kernel
theorem d6_3 : dC28 3 (.isub, 1) := by decide +kernel
theorem d6_4 : dC28 4 (.bipush 31, 2) := by decide +kernel
theorem d6_6 : dC28 6 (.iushr, 1) := by decide +kernel
theorem d6_7 : dC28 7 (.i2b, 1) := by decide +kernel
theorem d6_8 : dC28 8 (.ireturn, 1) := by decide +kernel
theorem ef_rmcf1_2 (m : MethodId) (a1 : Addr) (k1 : ClassId) (v0 : Int32) (v1 : Int32) : entryFrame m #[(.ref a1), (.int 1)] 2 = mkF m 0 #[vR a1, vI 1] [] := by first | (simp [entryFrame, mkF, argsToLocals, Value.category]; done) | rfl
def Qrmcf1_2 (Z : State) (a1 : Addr) (k1 : ClassId) (v0 : Int32) (v1 : Int32) (h0 : Heap) (n0 : Nat) (v : Option Value) (h : Heap) (L : List Loc) : Prop := v = some (.int 1) ∧ Fr n0 L ∧ h = h0
set_option maxRecDepth 65536 in
set_option maxHeartbeats 40000000 in
theorem rmcf1_2 (l : Launch) (Z : State) (a0 : Array Value) (hw : ∀ d ∈ tables_1, d.before a0 Z = true) (ws : List Jvm.Cond) (a1 : Addr) (k1 : ClassId) (v0 : Int32) (v1 : Int32) (h0 : Heap) (n0 : Nat) (Z0 : n0 ≤ h0.size) (V1 : Arv Z h0 a1 k1 .byte (2 : Int32) [(.int v0), (.int v1)] (.int 0)) :
    MetFree l Y28 (head1 (Jvm.Cond.code Y28 jdk_52_method_15_code 2 (some .byte) :: ws) Rm0) (fun a U => a = #[(.ref a1), (.int 1)] ∧ Z.Warmed39 U.vm ∧ U.heap = h0) (fun _ _ _ _ _ => True) (fun _ U o U' => ∃ v L, o = .returned v ∧ Qrmcf1_2 Z a1 k1 v0 v1 h0 n0 v U'.heap L ∧ FrameEnd U o U' L Rm0.cells Rm0.slots) := by
 refine MetFree.of_bodySF (plainFor_of_name pn_4) hisR ?_
 intro p e s m args below meth c s₁ Bd hml0 hP hK
 obtain ⟨rfl, hZ, hh⟩ := hP
 have hx := Bd.exec
 have hby := Bd.bytes
 have hml : c.maxLocals = 2 := hml0
 have hown : s.vm.findClass "java/lang/StringUTF16" = some m.cls := findClass_of_methodNamed Bd.named
 have hnm := (name_of_methodNamed Bd.named Bd.method).1
 have X0 : Stand p l e Rm0 s m #[(.ref a1), (.int 1)] below meth c s₁ [] 0 0 := Stand.of_body Bd
 have e0 : s₁.heap = h0 := by rw [← hh, Bd.state]; rfl
 have N0 := Fr.nil n0
 show Go p.tables e below (fun o U' => ∃ v L, o = .returned v ∧ Qrmcf1_2 Z a1 k1 v0 v1 h0 n0 v U'.heap L ∧ FrameEnd s o U' L Rm0.cells Rm0.slots) _
 refine Go.step (fun t kt => castTop (ef_rmcf1_2 m a1 k1 v0 v1) kt) ?_
 show Go p.tables e below _ (s₁.setTop (mkF m 0 #[vR a1, vI 1] []))
 refine Go.step (fun _ kt => XS.iloadN X0.here hx rfl (hb hby d6_0) rfl (XS.aloadN X0.here hx rfl (hb hby d6_1) rfl rfl kt)) ?_
 obtain ⟨cl101, Ar101, qa101, Sa101, Na101, Ha101, Ga101⟩ := (id V1)
 refine Go.step (X0.arraylength hx (by rw [e0]; exact Ar101.1) (State.isArrayOf_alike hZ.alike Ar101.2.1) (g := (mkF m 2 #[vR a1, vI 1] [(.ref a1), (.int 1)])) rfl rfl (hb hby d6_2)) ?_
 rw [len_of Sa101 Na101]
 show Go p.tables e below _ (s₁.setTop (mkF m 3 #[vR a1, vI 1] [(.int 2), (.int 1)]))
 refine Go.step (fun _ kt => XS.isub X0.here hx rfl (hb hby d6_3) rfl kt) ?_
 show Go p.tables e below _ (s₁.setTop (mkF m 4 #[vR a1, vI 1] [(.int ((1 : Int32) - (2 : Int32)))]))
 have q102 : ((1 : Int32) - (2 : Int32)) = (-1 : Int32) := by decide
 rw [q102]
 show Go p.tables e below _ (s₁.setTop (mkF m 4 #[vR a1, vI 1] [(.int (-1 : Int32))]))
 refine Go.step (fun _ kt => XS.bipush X0.here hx rfl (hb hby d6_4) (XS.iushr X0.here hx rfl (hb hby d6_6) rfl kt)) ?_
 show Go p.tables e below _ (s₁.setTop (mkF m 7 #[vR a1, vI 1] [(.int (((-1 : Int32).toUInt32 >>> ((31 : Int32) &&& 31).toUInt32).toInt32))]))
 have q103 : (((-1 : Int32).toUInt32 >>> ((31 : Int32) &&& 31).toUInt32).toInt32) = (1 : Int32) := by decide
 rw [q103]
 show Go p.tables e below _ (s₁.setTop (mkF m 7 #[vR a1, vI 1] [(.int 1)]))
 refine Go.step (fun _ kt => XS.i2b X0.here hx rfl (hb hby d6_7) rfl kt) ?_
 show Go p.tables e below _ (s₁.setTop (mkF m 8 #[vR a1, vI 1] [(.int ((1 : Int32).toInt8.toInt32))]))
 have q104 : ((1 : Int32).toInt8.toInt32) = (1 : Int32) := by decide
 rw [q104]
 show Go p.tables e below _ (s₁.setTop (mkF m 8 #[vR a1, vI 1] [(.int 1)]))
 obtain ⟨fs, hr, hrun, hended, hW, hsame⟩ := X0.leave (v := some (.int 1)) (fun h => by rw [Bd.returns] at h; cases h)
 refine ⟨_, _, retN X0 hx (t := .byte) Bd.returns (by simp) (hb hby d6_8) hr, hrun, hended, _, _, rfl, ?_, ⟨_, rfl⟩, hW, hsame.mono (by decide) (by decide)⟩
 show Qrmcf1_2 Z a1 k1 v0 v1 h0 n0 _ s₁.heap _
 rw [e0]
 refine ⟨?_, N0, rfl⟩
 rfl
theorem pd_21 : parseMethodDescriptor "([BI)B" = some ⟨[(.array .byte), .int], some .byte⟩ := by decide +kernel
theorem d2_27 : dC22 27 (.getstatic 38, 3) := by decide +kernel
theorem d2_30 : dC22 30 (.ifCond .eq 28, 3) := by decide +kernel
theorem d2_33 : dC22 33 (.aload_n 1, 1) := by decide +kernel
theorem d2_34 : dC22 34 (.iload_n 2, 1) := by decide +kernel
theorem d2_35 : dC22 35 (.iload_n 3, 1) := by decide +kernel
theorem d2_36 : dC22 36 (.invokestatic 177, 3) := by decide +kernel
theorem d2_39 : dC22 39 (.astore 5, 2) := by decide +kernel
theorem d2_41 : dC22 41 (.aload_n 0, 1) := by decide +kernel
theorem d2_42 : dC22 42 (.aload 5, 2) := by decide +kernel
theorem d2_44 : dC22 44 (.iload_n 3, 1) := by decide +kernel
theorem d2_45 : dC22 45 (.invokestatic 47, 3) := by decide +kernel
theorem d2_48 : dC22 48 (.putfield 15, 3) := by decide +kernel
theorem d2_51 : dC22 51 (.aload_n 0, 1) := by decide +kernel
theorem d2_52 : dC22 52 (.aload 5, 2) := by decide +kernel
theorem d2_54 : dC22 54 (.putfield 9, 3) := by decide +kernel
theorem d2_57 : dC22 57 (.return_, 1) := by decide +kernel
theorem ef_rmct41_U (m : MethodId) (a1 : Addr) (a2 : Addr) (u1 : Value) (u2 : Value) (k2 : ClassId) (cs : Int32) (c0 : Int32) : entryFrame m #[(.ref a1), (.ref a2), (.int 0), (.int 1), .null] 6 = mkF m 0 #[vR a1, vR a2, vI 0, vI 1, .val .null, uS] [] := by first | (simp [entryFrame, mkF, argsToLocals, Value.category]; done) | rfl
def Qrmct41_U (Z : State) (a1 : Addr) (a2 : Addr) (u1 : Value) (u2 : Value) (k2 : ClassId) (cs : Int32) (c0 : Int32) (h0 : Heap) (n0 : Nat) (v : Option Value) (h : Heap) (L : List Loc) : Prop := ∃ b : Addr, ∃ cd : Int32, v = none ∧ Fr n0 L ∧ Keep h0 h [a1] ∧ Exa Z h a1 "java/lang/String" ∧ Fld Z h a1 "java/lang/String" "coder" "B" (.int cd) ∧ Fld Z h a1 "java/lang/String" "value" "[B" (.ref b) ∧ Exa Z h b "[B" ∧ own_enc Z h b cd (own_u c0)
set_option maxRecDepth 65536 in
set_option maxHeartbeats 40000000 in
theorem rmct41_U (l : Launch) (Z : State) (a0 : Array Value) (hw : ∀ d ∈ tables_1, d.before a0 Z = true) (ws : List Jvm.Cond) (a1 : Addr) (a2 : Addr) (u1 : Value) (u2 : Value) (k2 : ClassId) (cs : Int32) (c0 : Int32) (h0 : Heap) (n0 : Nat) (Z0 : n0 ≤ h0.size) (E1 : Exa Z h0 a1 "java/lang/String") (Fc : Fld Z h0 a1 "java/lang/String" "coder" "B" u1) (Fv : Fld Z h0 a1 "java/lang/String" "value" "[B" u2) (V2 : Arv Z h0 a2 k2 .char (1 : Int32) [(.int c0)] (.int 0)) (S_cs : Sta Z h0 "java/lang/String" "COMPACT_STRINGS" "Z" (.int cs)) (S_ad : Sta Z h0 "java/lang/StringUTF16" "$assertionsDisabled" "Z" (.int 1)) (S_hi : Sta Z h0 "java/lang/StringUTF16" "HI_BYTE_SHIFT" "I" (.int 0)) (S_lo : Sta Z h0 "java/lang/StringUTF16" "LO_BYTE_SHIFT" "I" (.int 8)) (g_a1 : n0 ≤ a1) (hcs : ¬ cs = 0) (ne21 : a2 ≠ a1) (hR0 : own_R c0) (hU : (255 : Int32) < c0) :
    MetFree l Y22 (head1 (Jvm.Cond.code Y22 jdk_42_method_149_code 6 none :: ws) Rm15) (fun a U => a = #[(.ref a1), (.ref a2), (.int 0), (.int 1), .null] ∧ Z.Warmed39 U.vm ∧ U.heap = h0) (fun _ _ _ _ _ => True) (fun _ U o U' => ∃ v L, o = .returned v ∧ Qrmct41_U Z a1 a2 u1 u2 k2 cs c0 h0 n0 v U'.heap L ∧ FrameEnd U o U' L Rm15.cells Rm15.slots) := by
 refine MetFree.of_bodySF (plainFor_of_name pn_5) hisR ?_
 intro p e s m args below meth c s₁ Bd hml0 hP hK
 obtain ⟨rfl, hZ, hh⟩ := hP
 have hx := Bd.exec
 have hby := Bd.bytes
 have hml : c.maxLocals = 6 := hml0
 have hown : s.vm.findClass "java/lang/String" = some m.cls := findClass_of_methodNamed Bd.named
 have hnm := (name_of_methodNamed Bd.named Bd.method).1
 have X0 : Stand p l e Rm15 s m #[(.ref a1), (.ref a2), (.int 0), (.int 1), .null] below meth c s₁ [] 0 0 := Stand.of_body Bd
 have e0 : s₁.heap = h0 := by rw [← hh, Bd.state]; rfl
 have N0 := Fr.nil n0
 show Go p.tables e below (fun o U' => ∃ v L, o = .returned v ∧ Qrmct41_U Z a1 a2 u1 u2 k2 cs c0 h0 n0 v U'.heap L ∧ FrameEnd s o U' L Rm15.cells Rm15.slots) _
 refine Go.step (fun t kt => castTop (ef_rmct41_U m a1 a2 u1 u2 k2 cs c0) kt) ?_
 show Go p.tables e below _ (s₁.setTop (mkF m 0 #[vR a1, vR a2, vI 0, vI 1, .val .null, uS] []))
 have K101 : Keep h0 h0 [a1] := (Keep.refl h0 [a1])
 refine Go.step (fun _ kt => XS.aloadN X0.here hx rfl (hb hby d2_0) rfl rfl kt) ?_
 obtain ⟨T102, X102, e102, st102⟩ := initO X0 hx hZ hown (w12 hw) (w13 hw) (w14 hw) e0 (g := (mkF m 1 #[vR a1, vR a2, vI 0, vI 1, .val .null, uS] [(.ref a1)])) rfl hml.symm rfl (hb hby d2_1) (by decide) (W := 0) (Nat.le_of_eq rfl) (by decide)
 refine Go.step st102 ?_
 show Go p.tables e below _ (T102.setTop (mkF m 4 #[vR a1, vR a2, vI 0, vI 1, .val .null, uS] []))
 refine Go.step (fun _ kt => XS.iloadN X102.here hx rfl (hb hby d2_4) rfl (XS.ifYes X102.here hx rfl (pc0 := 5) (pc' := 27) rfl (hb hby d2_5) rfl ((if0 _ _).trans (feq (by decide : ¬ ((1 : Int32) = (0 : Int32)))).2) (by decide) (by decide) kt)) ?_
 obtain ⟨T103, X103, e103, st103⟩ := getS2 X102 hx hZ hown (host := "") (Or.inl (w15 hw)) Via.refl e102 S_cs (g := (mkF m 27 #[vR a1, vR a2, vI 0, vI 1, .val .null, uS] [])) rfl (hb hby d2_27)
 refine Go.step st103 ?_
 show Go p.tables e below _ (T103.setTop (mkF m 30 #[vR a1, vR a2, vI 0, vI 1, .val .null, uS] [(.int cs)]))
 refine Go.step (fun _ kt => XS.ifNo X103.here hx rfl (hb hby d2_30) rfl ((if0 _ _).trans (feq hcs).1) (XS.aloadN X103.here hx rfl (hb hby d2_33) rfl rfl (XS.iloadN X103.here hx rfl (hb hby d2_34) rfl (XS.iloadN X103.here hx rfl (hb hby d2_35) rfl kt)))) ?_
 obtain ⟨_, _, ⟨T104, L104, k104, n104⟩, -, X104, ⟨Lc104, hQ104, l104, y104, z104⟩, st104⟩ := Jvm.LawKit.callS X103 hx (y := Y27) hown (mvT hZ (w16 hw)) (mvT hZ (w17 hw)) (mvT hZ (w18 hw)) (mvT hZ (w19 hw)) (by decide) (backOf (W := 0) (rmk1_U l Z a0 hw [] a2 k2 c0 h0 n0 Z0 V2 S_ad S_hi S_lo hR0 hU) hZ (w19 hw) (w18 hw) (by decide) (by decide)) (g := (mkF m 36 #[vR a1, vR a2, vI 0, vI 1, .val .null, uS] [(.int 1), (.int 0), (.ref a2)])) rfl hml.symm (argsL := [(.ref a2), (.int 0), (.int 1)]) (rest := []) (lenOf pd_20 rfl) rfl (Nat.le_of_eq rfl) (hb hby d2_36) (fun _ _ => ⟨rfl, e103, (by decide : 0 + 2 ≤ _), (by decide : 0 + 3 ≤ _)⟩)
 dsimp only [Pt.U, Pt.locs, Pt.cells, Pt.slots] at X104 l104 y104 z104 st104 hQ104
 subst l104 y104 z104
 obtain ⟨b104r, b104kr, rfl, N104q, Kq104, P105, P106, g_b104r, szq_b104r⟩ := hQ104
 have ne_a1_b104r : a1 ≠ b104r := Nat.ne_of_lt (Nat.lt_of_lt_of_le E1.lt szq_b104r)
 have ne_a2_b104r : a2 ≠ b104r := Nat.ne_of_lt (Nat.lt_of_lt_of_le V2.lt szq_b104r)
 have sz_b104r : h0.size ≤ b104r := Nat.le_trans K101.1 szq_b104r
 have F107 := (E1.keep Kq104)
 have F108 := (Fc.keep Kq104 (by simp))
 have F109 := (Fv.keep Kq104 (by simp))
 have F110 := (V2.keep Kq104 (by simp))
 have F111 := (own_sta_keep0 S_cs Kq104)
 have F112 := (own_sta_keep0 S_ad Kq104)
 have F113 := (own_sta_keep0 S_hi Kq104)
 have F114 := (own_sta_keep0 S_lo Kq104)
 have Z115 : n0 ≤ T104.heap.size := (Nat.le_trans Z0 Kq104.1)
 have K116 : Keep h0 T104.heap [a1] := (K101.trans Kq104 (by intro x hx; cases hx))
 have N104 := Fr.app N0 N104q
 refine Go.step st104 ?_
 show Go p.tables e below _ (T104.setTop (mkF m 39 #[vR a1, vR a2, vI 0, vI 1, .val .null, uS] [(.ref b104r)]))
 refine Go.step (fun _ kt => XS.astore X104.here hx rfl (hb hby d2_39) rfl rfl (l' := #[vR a1, vR a2, vI 0, vI 1, .val .null, vR b104r]) rfl (XS.aloadN X104.here hx rfl (hb hby d2_41) rfl rfl (XS.aload X104.here hx rfl (hb hby d2_42) rfl rfl (XS.iloadN X104.here hx rfl (hb hby d2_44) rfl kt)))) ?_
 show Go p.tables e below _ (T104.setTop (mkF m 45 #[vR a1, vR a2, vI 0, vI 1, .val .null, vR b104r] [(.int 1), (.ref b104r), (.ref a1)]))
 obtain ⟨_, _, ⟨T117, L117, k117, n117⟩, -, X117, ⟨Lc117, hQ117, l117, y117, z117⟩, st117⟩ := Jvm.LawKit.callS X104 hx (y := Y28) hown (mvT hZ (w24 hw)) (mvT hZ (w25 hw)) (mvT hZ (w18 hw)) (mvT hZ (w26 hw)) (by decide) (backOf (W := 1) (rmcf1_2 l Z a0 hw [] b104r b104kr (own_lo c0) (own_hi c0) T104.heap n0 Z115 P106 ) hZ (w26 hw) (w18 hw) (by decide) (by decide)) (g := (mkF m 45 #[vR a1, vR a2, vI 0, vI 1, .val .null, vR b104r] [(.int 1), (.ref b104r), (.ref a1)])) rfl hml.symm (argsL := [(.ref b104r), (.int 1)]) (rest := [(.ref a1)]) (lenOf pd_21 rfl) rfl (Nat.le_of_eq rfl) (hb hby d2_45) (fun _ _ => ⟨rfl, rfl, (by decide : 2 + 0 ≤ _), (by decide : 3 + 0 ≤ _)⟩)
 dsimp only [Pt.U, Pt.locs, Pt.cells, Pt.slots] at X117 l117 y117 z117 st117 hQ117
 subst l117 y117 z117
 obtain ⟨rfl, N117q, eh117⟩ := hQ117
 have N117 := Fr.app N104 N117q
 refine Go.step st117 ?_
 obtain ⟨T118, h118, X118, e118, W118, st118⟩ := putFN X117 hx hZ hown (w27 hw) Via.refl eh117 F108 F107 (Or.inr ⟨(w28 hw), rfl, hnm⟩) (w3 hw) (ty := .byte) (v' := (.int 1)) (by decide) rfl rfl (g := (mkF m 48 #[vR a1, vR a2, vI 0, vI 1, .val .null, vR b104r] [(.int 1), (.ref a1)])) rfl rfl (hb hby d2_48)
 refine Go.step st118 ?_
 have N118 := Fr.snoc X118 N117 g_a1
 have F119 := (F107.wr W118)
 have F120 := (F108.same W118)
 have F121 := (F109.other W118 (Or.inr (slot_ne (Or.inr (w30 hw)) (Or.inr (w28 hw)) (by decide) (t := (.array .byte)) (t' := .byte) (by decide) (by decide))))
 have F122 := (F110.other W118 ne21)
 have F123 := (F111.wr W118)
 have F124 := (F112.wr W118)
 have F125 := (F113.wr W118)
 have F126 := (F114.wr W118)
 have F127 := (P105.wr W118)
 have F128 := (P106.other W118 (Ne.symm ne_a1_b104r))
 have Z129 : n0 ≤ h118.size := (Nat.le_trans Z115 (Nat.le_of_eq W118.size.symm))
 have K130 : Keep h0 h118 [a1] := (K116.wr W118 (Or.inl (List.mem_of_getElem? (i := 0) rfl)))
 show Go p.tables e below _ (T118.setTop (mkF m 51 #[vR a1, vR a2, vI 0, vI 1, .val .null, vR b104r] []))
 refine Go.step (fun _ kt => XS.aloadN X118.here hx rfl (hb hby d2_51) rfl rfl (XS.aload X118.here hx rfl (hb hby d2_52) rfl rfl kt)) ?_
 obtain ⟨T131, h131, X131, e131, W131, st131⟩ := putF X118 hx hZ hown (host := "") (Or.inl (w29 hw)) Via.refl e118 F121 F119 (Or.inr ⟨(w30 hw), rfl, hnm⟩) (w3 hw) (ty := (.array .byte)) (by decide) rfl rfl (g := (mkF m 54 #[vR a1, vR a2, vI 0, vI 1, .val .null, vR b104r] [(.ref b104r), (.ref a1)])) rfl rfl (hb hby d2_54)
 refine Go.step st131 ?_
 have N131 := Fr.snoc X131 N118 g_a1
 have F132 := (F119.wr W131)
 have F133 := (F120.other W131 (Or.inr (slot_ne (Or.inr (w28 hw)) (Or.inr (w30 hw)) (by decide) (t := .byte) (t' := (.array .byte)) (by decide) (by decide))))
 have F134 := (F121.same W131)
 have F135 := (F122.other W131 ne21)
 have F136 := (F123.wr W131)
 have F137 := (F124.wr W131)
 have F138 := (F125.wr W131)
 have F139 := (F126.wr W131)
 have F140 := (F127.wr W131)
 have F141 := (F128.other W131 (Ne.symm ne_a1_b104r))
 have Z142 : n0 ≤ h131.size := (Nat.le_trans Z129 (Nat.le_of_eq W131.size.symm))
 have K143 : Keep h0 h131 [a1] := (K130.wr W131 (Or.inl (List.mem_of_getElem? (i := 0) rfl)))
 show Go p.tables e below _ (T131.setTop (mkF m 57 #[vR a1, vR a2, vI 0, vI 1, .val .null, vR b104r] []))
 have En144 : own_enc Z h131 b104r (1 : Int32) (own_u c0) := ⟨F140, _, Or.inr (Or.inr (Or.inr (Or.inl ⟨rfl, c0, hR0, rfl, F141⟩)))⟩
 obtain ⟨fs, hr, hrun, hended, hW, hsame⟩ := X131.leave (v := none) (fun _ => rfl)
 refine ⟨_, _, X131.returnOut hx Bd.returns (hb hby d2_57) hr, hrun, hended, _, _, rfl, ?_, ⟨_, rfl⟩, hW, hsame.mono (by decide) (by decide)⟩
 show Qrmct41_U Z a1 a2 u1 u2 k2 cs c0 h0 n0 _ T131.heap _
 rw [e131]
 refine ⟨b104r, (1 : Int32), ?_, N131, K143, F132, F133, F134, F140, En144⟩
 rfl
theorem d5_26 : dC24 26 (.aload_n 2, 1) := by decide +kernel
theorem d5_27 : dC24 27 (.iload_n 3, 1) := by decide +kernel
theorem d5_28 : dC24 28 (.iload 6, 2) := by decide +kernel
theorem d5_30 : dC24 30 (.i2b, 1) := by decide +kernel
theorem d5_31 : dC24 31 (.bastore, 1) := by decide +kernel
theorem d5_32 : dC24 32 (.iinc 1 1, 3) := by decide +kernel
theorem d5_35 : dC24 35 (.iinc 3 1, 3) := by decide +kernel
theorem d5_38 : dC24 38 (.iinc 5 1, 3) := by decide +kernel
theorem d5_41 : dC24 41 (.goto (-38), 3) := by decide +kernel
theorem d5_44 : dC24 44 (.iload 4, 2) := by decide +kernel
theorem d5_46 : dC24 46 (.ireturn, 1) := by decide +kernel
theorem ef_rmkl1_L (m : MethodId) (a1 : Addr) (a2 : Addr) (k1 : ClassId) (k2 : ClassId) (c0 : Int32) : entryFrame m #[(.ref a1), (.int 0), (.ref a2), (.int 0), (.int 1)] 7 = mkF m 0 #[vR a1, vI 0, vR a2, vI 0, vI 1, uS, uS] [] := by first | (simp [entryFrame, mkF, argsToLocals, Value.category]; done) | rfl
def Qrmkl1_L (Z : State) (a1 : Addr) (a2 : Addr) (k1 : ClassId) (k2 : ClassId) (c0 : Int32) (h0 : Heap) (n0 : Nat) (v : Option Value) (h : Heap) (L : List Loc) : Prop := v = some (.int 1) ∧ Fr n0 L ∧ Keep h0 h [a2] ∧ Arv Z h a2 k2 .byte (1 : Int32) [(.int (own_by c0))] (.int 0)
set_option maxRecDepth 65536 in
set_option maxHeartbeats 40000000 in
theorem rmkl1_L (l : Launch) (Z : State) (a0 : Array Value) (hw : ∀ d ∈ tables_1, d.before a0 Z = true) (ws : List Jvm.Cond) (a1 : Addr) (a2 : Addr) (k1 : ClassId) (k2 : ClassId) (c0 : Int32) (h0 : Heap) (n0 : Nat) (Z0 : n0 ≤ h0.size) (V1 : Arv Z h0 a1 k1 .char (1 : Int32) [(.int c0)] (.int 0)) (V2 : Arv Z h0 a2 k2 .byte (1 : Int32) [(.int 0)] (.int 0)) (g_a2 : n0 ≤ a2) (ne12 : a1 ≠ a2) (hb0 : own_L c0) :
    MetFree l Y24 (head1 (Jvm.Cond.code Y24 jdk_52_method_21_code 7 (some .int) :: ws) Rm0) (fun a U => a = #[(.ref a1), (.int 0), (.ref a2), (.int 0), (.int 1)] ∧ Z.Warmed39 U.vm ∧ U.heap = h0) (fun _ _ _ _ _ => True) (fun _ U o U' => ∃ v L, o = .returned v ∧ Qrmkl1_L Z a1 a2 k1 k2 c0 h0 n0 v U'.heap L ∧ FrameEnd U o U' L Rm0.cells Rm0.slots) := by
 refine MetFree.of_bodySF (plainFor_of_name pn_4) hisR ?_
 intro p e s m args below meth c s₁ Bd hml0 hP hK
 obtain ⟨rfl, hZ, hh⟩ := hP
 have hx := Bd.exec
 have hby := Bd.bytes
 have hml : c.maxLocals = 7 := hml0
 have hown : s.vm.findClass "java/lang/StringUTF16" = some m.cls := findClass_of_methodNamed Bd.named
 have hnm := (name_of_methodNamed Bd.named Bd.method).1
 have X0 : Stand p l e Rm0 s m #[(.ref a1), (.int 0), (.ref a2), (.int 0), (.int 1)] below meth c s₁ [] 0 0 := Stand.of_body Bd
 have e0 : s₁.heap = h0 := by rw [← hh, Bd.state]; rfl
 have N0 := Fr.nil n0
 show Go p.tables e below (fun o U' => ∃ v L, o = .returned v ∧ Qrmkl1_L Z a1 a2 k1 k2 c0 h0 n0 v U'.heap L ∧ FrameEnd s o U' L Rm0.cells Rm0.slots) _
 refine Go.step (fun t kt => castTop (ef_rmkl1_L m a1 a2 k1 k2 c0) kt) ?_
 show Go p.tables e below _ (s₁.setTop (mkF m 0 #[vR a1, vI 0, vR a2, vI 0, vI 1, uS, uS] []))
 have K101 : Keep h0 h0 [a2] := (Keep.refl h0 [a2])
 refine Go.step (fun _ kt => XS.iconst X0.here hx rfl (hb hby d5_0) (XS.istore X0.here hx rfl (hb hby d5_1) rfl (l' := #[vR a1, vI 0, vR a2, vI 0, vI 1, vI 0, uS]) rfl (XS.iload X0.here hx rfl (hb hby d5_3) rfl (XS.iload X0.here hx rfl (hb hby d5_5) rfl (XS.icmpNo X0.here hx rfl (hb hby d5_7) rfl (tlt (by decide : (0 : Int32) < (1 : Int32))).2.1 (XS.aloadN X0.here hx rfl (hb hby d5_10) rfl rfl (XS.iloadN X0.here hx rfl (hb hby d5_11) rfl kt))))))) ?_
 show Go p.tables e below _ (s₁.setTop (mkF m 12 #[vR a1, vI 0, vR a2, vI 0, vI 1, vI 0, uS] [(.int 0), (.ref a1)]))
 obtain ⟨cl102, Ar102, qa102, Sa102, Na102, Ha102, Ga102⟩ := (id V1)
 have hin102 : ¬ ((0 : Int32) < 0 ∨ cl102.slots.size ≤ ((0 : Int32)).toNatClampNeg) := inb_of Sa102 ⟨by decide, by decide⟩
 have hat102 : cl102.slots[((0 : Int32)).toNatClampNeg]? = some (.int c0) := at_of Ha102 hin102 rfl
 refine Go.step (X0.caload hx (j := (0 : Int32)) (v := (.int c0)) (by rw [e0]; exact Ar102.1) (State.isArrayOf_alike hZ.alike Ar102.2.1) Ar102.2.2 hin102 hat102 (g := (mkF m 12 #[vR a1, vI 0, vR a2, vI 0, vI 1, vI 0, uS] [(.int 0), (.ref a1)])) rfl rfl (hb hby d5_12)) ?_
 show Go p.tables e below _ (s₁.setTop (mkF m 13 #[vR a1, vI 0, vR a2, vI 0, vI 1, vI 0, uS] [(.int c0)]))
 refine Go.step (fun _ kt => XS.istore X0.here hx rfl (hb hby d5_13) rfl (l' := #[vR a1, vI 0, vR a2, vI 0, vI 1, vI 0, vI c0]) rfl (XS.iload X0.here hx rfl (hb hby d5_15) rfl (XS.sipush X0.here hx rfl (hb hby d5_17) (XS.icmpYes X0.here hx rfl (pc0 := 20) (pc' := 26) rfl (hb hby d5_20) rfl (flt hb0.2).2.2.2 (by decide) (by decide) (XS.aloadN X0.here hx rfl (hb hby d5_26) rfl rfl (XS.iloadN X0.here hx rfl (hb hby d5_27) rfl (XS.iload X0.here hx rfl (hb hby d5_28) rfl (XS.i2b X0.here hx rfl (hb hby d5_30) rfl kt)))))))) ?_
 show Go p.tables e below _ (s₁.setTop (mkF m 31 #[vR a1, vI 0, vR a2, vI 0, vI 1, vI 0, vI c0] [(.int (c0.toInt8.toInt32)), (.int 0), (.ref a2)]))
 have q103 : (c0.toInt8.toInt32) = (own_by c0) := rfl
 rw [q103]
 obtain ⟨cl104, Ar104, qa104, Sa104, Na104, Ha104, Ga104⟩ := (id V2)
 have hin104 : ¬ ((0 : Int32) < 0 ∨ cl104.slots.size ≤ ((0 : Int32)).toNatClampNeg) := inb_of Sa104 ⟨by decide, by decide⟩
 obtain ⟨T104, h104, X104, e104, W104, st104⟩ := stB X0 hx hZ e0 Ar104 (j := (0 : Int32)) hin104 (g := (mkF m 31 #[vR a1, vI 0, vR a2, vI 0, vI 1, vI 0, vI c0] [(.int (own_by c0)), (.int 0), (.ref a2)])) rfl rfl (hb hby d5_31)
 refine Go.step st104 ?_
 have V105 := Arv.set Ar104 qa104 Sa104 Na104 Ha104 Ga104 (fits_nar_byte _) W104 0 rfl (Nat.le_of_ble_eq_true rfl)
 have N104 := Fr.snoc X104 N0 g_a2
 have F106 := (V1.other W104 ne12)
 have Z107 : n0 ≤ h104.size := (Nat.le_trans Z0 (Nat.le_of_eq W104.size.symm))
 have K108 : Keep h0 h104 [a2] := (K101.wr W104 (Or.inl (List.mem_of_getElem? (i := 0) rfl)))
 show Go p.tables e below _ (T104.setTop (mkF m 32 #[vR a1, vI 0, vR a2, vI 0, vI 1, vI 0, vI c0] []))
 have Vn109 : Arv Z h104 a2 k2 .byte (1 : Int32) [(.int (own_by c0))] (.int 0) := by have q1 : ((own_by c0)).toInt8.toInt32 = (own_by c0) := (own_bb _); have q0 := V105; have q2 : nar .byte (own_by c0) = (own_by c0) := q1; first | (rw [q1] at q0; exact q0) | (rw [q2] at q0; exact q0)
 refine Go.step (fun _ kt => XS.iinc X104.here hx rfl (hb hby d5_32) rfl (l' := #[vR a1, vI ((0 : Int32) + (1 : Int32)), vR a2, vI 0, vI 1, vI 0, vI c0]) rfl kt) ?_
 show Go p.tables e below _ (T104.setTop (mkF m 35 #[vR a1, vI ((0 : Int32) + (1 : Int32)), vR a2, vI 0, vI 1, vI 0, vI c0] []))
 have q110 : ((0 : Int32) + (1 : Int32)) = (1 : Int32) := by decide
 rw [q110]
 show Go p.tables e below _ (T104.setTop (mkF m 35 #[vR a1, vI 1, vR a2, vI 0, vI 1, vI 0, vI c0] []))
 refine Go.step (fun _ kt => XS.iinc X104.here hx rfl (hb hby d5_35) rfl (l' := #[vR a1, vI 1, vR a2, vI ((0 : Int32) + (1 : Int32)), vI 1, vI 0, vI c0]) rfl kt) ?_
 show Go p.tables e below _ (T104.setTop (mkF m 38 #[vR a1, vI 1, vR a2, vI ((0 : Int32) + (1 : Int32)), vI 1, vI 0, vI c0] []))
 have q111 : ((0 : Int32) + (1 : Int32)) = (1 : Int32) := by decide
 rw [q111]
 show Go p.tables e below _ (T104.setTop (mkF m 38 #[vR a1, vI 1, vR a2, vI 1, vI 1, vI 0, vI c0] []))
 refine Go.step (fun _ kt => XS.iinc X104.here hx rfl (hb hby d5_38) rfl (l' := #[vR a1, vI 1, vR a2, vI 1, vI 1, vI ((0 : Int32) + (1 : Int32)), vI c0]) rfl kt) ?_
 show Go p.tables e below _ (T104.setTop (mkF m 41 #[vR a1, vI 1, vR a2, vI 1, vI 1, vI ((0 : Int32) + (1 : Int32)), vI c0] []))
 have q112 : ((0 : Int32) + (1 : Int32)) = (1 : Int32) := by decide
 rw [q112]
 show Go p.tables e below _ (T104.setTop (mkF m 41 #[vR a1, vI 1, vR a2, vI 1, vI 1, vI 1, vI c0] []))
 refine Go.step (fun _ kt => XS.goto X104.here hx rfl (pc0 := 41) (pc' := 3) rfl (hb hby d5_41) (by decide) (by decide) (XS.iload X104.here hx rfl (hb hby d5_3) rfl (XS.iload X104.here hx rfl (hb hby d5_5) rfl (XS.icmpYes X104.here hx rfl (pc0 := 7) (pc' := 44) rfl (hb hby d5_7) rfl (flt (by decide : ¬ ((1 : Int32) < (1 : Int32)))).2.1 (by decide) (by decide) (XS.iload X104.here hx rfl (hb hby d5_44) rfl kt))))) ?_
 show Go p.tables e below _ (T104.setTop (mkF m 46 #[vR a1, vI 1, vR a2, vI 1, vI 1, vI 1, vI c0] [(.int 1)]))
 obtain ⟨fs, hr, hrun, hended, hW, hsame⟩ := X104.leave (v := some (.int 1)) (fun h => by rw [Bd.returns] at h; cases h)
 refine ⟨_, _, retI X104 hx Bd.returns (hb hby d5_46) hr, hrun, hended, _, _, rfl, ?_, ⟨_, rfl⟩, hW, hsame.mono (by decide) (by decide)⟩
 show Qrmkl1_L Z a1 a2 k1 k2 c0 h0 n0 _ T104.heap _
 rw [e104]
 refine ⟨?_, N104, K108, Vn109⟩
 rfl
theorem d4_57 : dC27 57 (.aload_n 3, 1) := by decide +kernel
theorem d4_58 : dC27 58 (.areturn, 1) := by decide +kernel
theorem ef_rmk1_L (m : MethodId) (a1 : Addr) (k1 : ClassId) (c0 : Int32) : entryFrame m #[(.ref a1), (.int 0), (.int 1)] 6 = mkF m 0 #[vR a1, vI 0, vI 1, uS, uS, uS] [] := by first | (simp [entryFrame, mkF, argsToLocals, Value.category]; done) | rfl
def Qrmk1_L (Z : State) (a1 : Addr) (k1 : ClassId) (c0 : Int32) (h0 : Heap) (n0 : Nat) (v : Option Value) (h : Heap) (L : List Loc) : Prop := ∃ r : Addr, ∃ kr : ClassId, v = some (.ref r) ∧ Fr n0 L ∧ Keep h0 h [] ∧ Exa Z h r "[B" ∧ Arv Z h r kr .byte (1 : Int32) [(.int (own_by c0))] (.int 0) ∧ n0 ≤ r ∧ h0.size ≤ r
set_option maxRecDepth 65536 in
set_option maxHeartbeats 40000000 in
theorem rmk1_L (l : Launch) (Z : State) (a0 : Array Value) (hw : ∀ d ∈ tables_1, d.before a0 Z = true) (ws : List Jvm.Cond) (a1 : Addr) (k1 : ClassId) (c0 : Int32) (h0 : Heap) (n0 : Nat) (Z0 : n0 ≤ h0.size) (V1 : Arv Z h0 a1 k1 .char (1 : Int32) [(.int c0)] (.int 0)) (hb0 : own_L c0) :
    MetFree l Y27 (head1 (Jvm.Cond.code Y27 jdk_52_method_16_code 6 (some (.array .byte)) :: ws) Rm16) (fun a U => a = #[(.ref a1), (.int 0), (.int 1)] ∧ Z.Warmed39 U.vm ∧ U.heap = h0) (fun _ _ _ _ _ => True) (fun _ U o U' => ∃ v L, o = .returned v ∧ Qrmk1_L Z a1 k1 c0 h0 n0 v U'.heap L ∧ FrameEnd U o U' L Rm16.cells Rm16.slots) := by
 refine MetFree.of_bodySF (plainFor_of_name pn_4) hisR ?_
 intro p e s m args below meth c s₁ Bd hml0 hP hK
 obtain ⟨rfl, hZ, hh⟩ := hP
 have hx := Bd.exec
 have hby := Bd.bytes
 have hml : c.maxLocals = 6 := hml0
 have hown : s.vm.findClass "java/lang/StringUTF16" = some m.cls := findClass_of_methodNamed Bd.named
 have hnm := (name_of_methodNamed Bd.named Bd.method).1
 have X0 : Stand p l e Rm16 s m #[(.ref a1), (.int 0), (.int 1)] below meth c s₁ [] 0 0 := Stand.of_body Bd
 have e0 : s₁.heap = h0 := by rw [← hh, Bd.state]; rfl
 have N0 := Fr.nil n0
 show Go p.tables e below (fun o U' => ∃ v L, o = .returned v ∧ Qrmk1_L Z a1 k1 c0 h0 n0 v U'.heap L ∧ FrameEnd s o U' L Rm16.cells Rm16.slots) _
 refine Go.step (fun t kt => castTop (ef_rmk1_L m a1 k1 c0) kt) ?_
 show Go p.tables e below _ (s₁.setTop (mkF m 0 #[vR a1, vI 0, vI 1, uS, uS, uS] []))
 have K101 : Keep h0 h0 [] := (Keep.refl h0 [])
 refine Go.step (fun _ kt => XS.iloadN X0.here hx rfl (hb hby d4_0) rfl kt) ?_
 obtain ⟨T102, h102, k102, X102, e102, E102, A102, Ex102, st102⟩ := newPE (aty := .byte) X0 hx hZ (w20 hw) e0 (g := (mkF m 1 #[vR a1, vI 0, vI 1, uS, uS, uS] [(.int 1)])) rfl (hb hby d4_1) rfl (by decide) (cap := 1) (by decide) (by decide) (by decide) (by decide) (ad := "[B") own_adB
 obtain ⟨b102, g102⟩ : ∃ z, z = h0.size := ⟨_, rfl⟩
 rw [← g102] at A102 Ex102 st102
 refine Go.step st102 ?_
 have ne_a1_b102 : a1 ≠ b102 := Nat.ne_of_lt (Nat.lt_of_lt_of_le V1.lt (Nat.le_of_eq g102.symm))
 have g_b102 : n0 ≤ b102 := Nat.le_trans Z0 (Nat.le_of_eq g102.symm)
 have sz_b102 : h0.size ≤ b102 := Nat.le_trans K101.1 (Nat.le_of_eq g102.symm)
 have F103 := (V1.ext E102)
 have Z104 : n0 ≤ h102.size := (Nat.le_trans Z0 E102.1)
 have K105 : Keep h0 h102 [] := (K101.ext E102)
 have V106 : Arv Z h102 b102 k102 .byte (1 : Int32) [(.int 0)] (.int 0) := (Arv.new A102 (by decide)).pad (pad_rep [] (.int 0) 1)
 show Go p.tables e below _ (T102.setTop (mkF m 3 #[vR a1, vI 0, vI 1, uS, uS, uS] [(.ref b102)]))
 refine Go.step (fun _ kt => XS.astoreN X102.here hx rfl (hb hby d4_3) rfl rfl (l' := #[vR a1, vI 0, vI 1, vR b102, uS, uS]) rfl (XS.aloadN X102.here hx rfl (hb hby d4_4) rfl rfl (XS.iloadN X102.here hx rfl (hb hby d4_5) rfl (XS.aloadN X102.here hx rfl (hb hby d4_6) rfl rfl (XS.iconst X102.here hx rfl (hb hby d4_7) (XS.iloadN X102.here hx rfl (hb hby d4_8) rfl kt)))))) ?_
 show Go p.tables e below _ (T102.setTop (mkF m 9 #[vR a1, vI 0, vI 1, vR b102, uS, uS] [(.int 1), (.int 0), (.ref b102), (.int 0), (.ref a1)]))
 obtain ⟨_, _, ⟨T107, L107, k107, n107⟩, -, X107, ⟨Lc107, hQ107, l107, y107, z107⟩, st107⟩ := Jvm.LawKit.callS X102 hx (y := Y24) hown (mvT hZ (w21 hw)) (mvT hZ (w22 hw)) (mvT hZ (w18 hw)) (mvT hZ (w23 hw)) (by decide) (backOf (W := 0) (rmkl1_L l Z a0 hw [] a1 b102 k1 k102 c0 h102 n0 Z104 F103 V106 g_b102 ne_a1_b102 hb0) hZ (w23 hw) (w18 hw) (by decide) (by decide)) (g := (mkF m 9 #[vR a1, vI 0, vI 1, vR b102, uS, uS] [(.int 1), (.int 0), (.ref b102), (.int 0), (.ref a1)])) rfl hml.symm (argsL := [(.ref a1), (.int 0), (.ref b102), (.int 0), (.int 1)]) (rest := []) (lenOf pd_18 rfl) rfl (Nat.le_of_eq rfl) (hb hby d4_9) (fun _ _ => ⟨rfl, e102, (by decide : 1 + 0 ≤ _), (by decide : 1 + 0 ≤ _)⟩)
 dsimp only [Pt.U, Pt.locs, Pt.cells, Pt.slots] at X107 l107 y107 z107 st107 hQ107
 subst l107 y107 z107
 obtain ⟨rfl, N107q, Kq107, P108⟩ := hQ107
 have F109 := (F103.keep Kq107 (fun q => ne_a1_b102 (List.mem_singleton.mp q)))
 have F110 := (Ex102.keep Kq107)
 have Z111 : n0 ≤ T107.heap.size := (Nat.le_trans Z104 Kq107.1)
 have K112 : Keep h0 T107.heap [] := (K105.trans Kq107 (by intro x hx; cases List.mem_singleton.mp hx; exact (Or.inr sz_b102)))
 have N107 := Fr.app N0 N107q
 refine Go.step st107 ?_
 show Go p.tables e below _ (T107.setTop (mkF m 12 #[vR a1, vI 0, vI 1, vR b102, uS, uS] [(.int 1)]))
 refine Go.step (fun _ kt => XS.istore X107.here hx rfl (hb hby d4_12) rfl (l' := #[vR a1, vI 0, vI 1, vR b102, vI 1, uS]) rfl (XS.iload X107.here hx rfl (hb hby d4_14) rfl (XS.iloadN X107.here hx rfl (hb hby d4_16) rfl (XS.icmpYes X107.here hx rfl (pc0 := 17) (pc' := 57) rfl (hb hby d4_17) rfl (teq (by decide : (1 : Int32) = (1 : Int32))).1 (by decide) (by decide) (XS.aloadN X107.here hx rfl (hb hby d4_57) rfl rfl kt))))) ?_
 show Go p.tables e below _ (T107.setTop (mkF m 58 #[vR a1, vI 0, vI 1, vR b102, vI 1, uS] [(.ref b102)]))
 obtain ⟨fs, hr, hrun, hended, hW, hsame⟩ := X107.leave (v := some (.ref b102)) (fun h => by rw [Bd.returns] at h; cases h)
 refine ⟨_, _, retOut X107 hx Bd.returns rfl (Or.inr (Or.inr (Or.inr (Or.inr ⟨rfl, rfl, rfl⟩)))) (hb hby d4_58) hr, hrun, hended, _, _, rfl, ?_, ⟨_, rfl⟩, hW, hsame.mono (by decide) (by decide)⟩
 show Qrmk1_L Z a1 k1 c0 h0 n0 _ T107.heap _
 refine ⟨b102, k102, ?_, N107, K112, F110, P108, g_b102, sz_b102⟩
 rfl
theorem ef_rmcf1_1 (m : MethodId) (a1 : Addr) (k1 : ClassId) (v0 : Int32) : entryFrame m #[(.ref a1), (.int 1)] 2 = mkF m 0 #[vR a1, vI 1] [] := by first | (simp [entryFrame, mkF, argsToLocals, Value.category]; done) | rfl
def Qrmcf1_1 (Z : State) (a1 : Addr) (k1 : ClassId) (v0 : Int32) (h0 : Heap) (n0 : Nat) (v : Option Value) (h : Heap) (L : List Loc) : Prop := v = some (.int 0) ∧ Fr n0 L ∧ h = h0
set_option maxRecDepth 65536 in
set_option maxHeartbeats 40000000 in
theorem rmcf1_1 (l : Launch) (Z : State) (a0 : Array Value) (hw : ∀ d ∈ tables_1, d.before a0 Z = true) (ws : List Jvm.Cond) (a1 : Addr) (k1 : ClassId) (v0 : Int32) (h0 : Heap) (n0 : Nat) (Z0 : n0 ≤ h0.size) (V1 : Arv Z h0 a1 k1 .byte (1 : Int32) [(.int v0)] (.int 0)) :
    MetFree l Y28 (head1 (Jvm.Cond.code Y28 jdk_52_method_15_code 2 (some .byte) :: ws) Rm0) (fun a U => a = #[(.ref a1), (.int 1)] ∧ Z.Warmed39 U.vm ∧ U.heap = h0) (fun _ _ _ _ _ => True) (fun _ U o U' => ∃ v L, o = .returned v ∧ Qrmcf1_1 Z a1 k1 v0 h0 n0 v U'.heap L ∧ FrameEnd U o U' L Rm0.cells Rm0.slots) := by
 refine MetFree.of_bodySF (plainFor_of_name pn_4) hisR ?_
 intro p e s m args below meth c s₁ Bd hml0 hP hK
 obtain ⟨rfl, hZ, hh⟩ := hP
 have hx := Bd.exec
 have hby := Bd.bytes
 have hml : c.maxLocals = 2 := hml0
 have hown : s.vm.findClass "java/lang/StringUTF16" = some m.cls := findClass_of_methodNamed Bd.named
 have hnm := (name_of_methodNamed Bd.named Bd.method).1
 have X0 : Stand p l e Rm0 s m #[(.ref a1), (.int 1)] below meth c s₁ [] 0 0 := Stand.of_body Bd
 have e0 : s₁.heap = h0 := by rw [← hh, Bd.state]; rfl
 have N0 := Fr.nil n0
 show Go p.tables e below (fun o U' => ∃ v L, o = .returned v ∧ Qrmcf1_1 Z a1 k1 v0 h0 n0 v U'.heap L ∧ FrameEnd s o U' L Rm0.cells Rm0.slots) _
 refine Go.step (fun t kt => castTop (ef_rmcf1_1 m a1 k1 v0) kt) ?_
 show Go p.tables e below _ (s₁.setTop (mkF m 0 #[vR a1, vI 1] []))
 refine Go.step (fun _ kt => XS.iloadN X0.here hx rfl (hb hby d6_0) rfl (XS.aloadN X0.here hx rfl (hb hby d6_1) rfl rfl kt)) ?_
 obtain ⟨cl101, Ar101, qa101, Sa101, Na101, Ha101, Ga101⟩ := (id V1)
 refine Go.step (X0.arraylength hx (by rw [e0]; exact Ar101.1) (State.isArrayOf_alike hZ.alike Ar101.2.1) (g := (mkF m 2 #[vR a1, vI 1] [(.ref a1), (.int 1)])) rfl rfl (hb hby d6_2)) ?_
 rw [len_of Sa101 Na101]
 show Go p.tables e below _ (s₁.setTop (mkF m 3 #[vR a1, vI 1] [(.int 1), (.int 1)]))
 refine Go.step (fun _ kt => XS.isub X0.here hx rfl (hb hby d6_3) rfl kt) ?_
 show Go p.tables e below _ (s₁.setTop (mkF m 4 #[vR a1, vI 1] [(.int ((1 : Int32) - (1 : Int32)))]))
 have q102 : ((1 : Int32) - (1 : Int32)) = (0 : Int32) := by decide
 rw [q102]
 show Go p.tables e below _ (s₁.setTop (mkF m 4 #[vR a1, vI 1] [(.int 0)]))
 refine Go.step (fun _ kt => XS.bipush X0.here hx rfl (hb hby d6_4) (XS.iushr X0.here hx rfl (hb hby d6_6) rfl kt)) ?_
 show Go p.tables e below _ (s₁.setTop (mkF m 7 #[vR a1, vI 1] [(.int (((0 : Int32).toUInt32 >>> ((31 : Int32) &&& 31).toUInt32).toInt32))]))
 have q103 : (((0 : Int32).toUInt32 >>> ((31 : Int32) &&& 31).toUInt32).toInt32) = (0 : Int32) := by decide
 rw [q103]
 show Go p.tables e below _ (s₁.setTop (mkF m 7 #[vR a1, vI 1] [(.int 0)]))
 refine Go.step (fun _ kt => XS.i2b X0.here hx rfl (hb hby d6_7) rfl kt) ?_
 show Go p.tables e below _ (s₁.setTop (mkF m 8 #[vR a1, vI 1] [(.int ((0 : Int32).toInt8.toInt32))]))
 have q104 : ((0 : Int32).toInt8.toInt32) = (0 : Int32) := by decide
 rw [q104]
 show Go p.tables e below _ (s₁.setTop (mkF m 8 #[vR a1, vI 1] [(.int 0)]))
 obtain ⟨fs, hr, hrun, hended, hW, hsame⟩ := X0.leave (v := some (.int 0)) (fun h => by rw [Bd.returns] at h; cases h)
 refine ⟨_, _, retN X0 hx (t := .byte) Bd.returns (by simp) (hb hby d6_8) hr, hrun, hended, _, _, rfl, ?_, ⟨_, rfl⟩, hW, hsame.mono (by decide) (by decide)⟩
 show Qrmcf1_1 Z a1 k1 v0 h0 n0 _ s₁.heap _
 rw [e0]
 refine ⟨?_, N0, rfl⟩
 rfl
theorem ef_rmct41_L (m : MethodId) (a1 : Addr) (a2 : Addr) (u1 : Value) (u2 : Value) (k2 : ClassId) (cs : Int32) (c0 : Int32) : entryFrame m #[(.ref a1), (.ref a2), (.int 0), (.int 1), .null] 6 = mkF m 0 #[vR a1, vR a2, vI 0, vI 1, .val .null, uS] [] := by first | (simp [entryFrame, mkF, argsToLocals, Value.category]; done) | rfl
def Qrmct41_L (Z : State) (a1 : Addr) (a2 : Addr) (u1 : Value) (u2 : Value) (k2 : ClassId) (cs : Int32) (c0 : Int32) (h0 : Heap) (n0 : Nat) (v : Option Value) (h : Heap) (L : List Loc) : Prop := ∃ b : Addr, ∃ cd : Int32, v = none ∧ Fr n0 L ∧ Keep h0 h [a1] ∧ Exa Z h a1 "java/lang/String" ∧ Fld Z h a1 "java/lang/String" "coder" "B" (.int cd) ∧ Fld Z h a1 "java/lang/String" "value" "[B" (.ref b) ∧ Exa Z h b "[B" ∧ own_enc Z h b cd (own_u c0)
set_option maxRecDepth 65536 in
set_option maxHeartbeats 40000000 in
theorem rmct41_L (l : Launch) (Z : State) (a0 : Array Value) (hw : ∀ d ∈ tables_1, d.before a0 Z = true) (ws : List Jvm.Cond) (a1 : Addr) (a2 : Addr) (u1 : Value) (u2 : Value) (k2 : ClassId) (cs : Int32) (c0 : Int32) (h0 : Heap) (n0 : Nat) (Z0 : n0 ≤ h0.size) (E1 : Exa Z h0 a1 "java/lang/String") (Fc : Fld Z h0 a1 "java/lang/String" "coder" "B" u1) (Fv : Fld Z h0 a1 "java/lang/String" "value" "[B" u2) (V2 : Arv Z h0 a2 k2 .char (1 : Int32) [(.int c0)] (.int 0)) (S_cs : Sta Z h0 "java/lang/String" "COMPACT_STRINGS" "Z" (.int cs)) (g_a1 : n0 ≤ a1) (hcs : ¬ cs = 0) (ne21 : a2 ≠ a1) (hb0 : own_L c0) :
    MetFree l Y22 (head1 (Jvm.Cond.code Y22 jdk_42_method_149_code 6 none :: ws) Rm17) (fun a U => a = #[(.ref a1), (.ref a2), (.int 0), (.int 1), .null] ∧ Z.Warmed39 U.vm ∧ U.heap = h0) (fun _ _ _ _ _ => True) (fun _ U o U' => ∃ v L, o = .returned v ∧ Qrmct41_L Z a1 a2 u1 u2 k2 cs c0 h0 n0 v U'.heap L ∧ FrameEnd U o U' L Rm17.cells Rm17.slots) := by
 refine MetFree.of_bodySF (plainFor_of_name pn_5) hisR ?_
 intro p e s m args below meth c s₁ Bd hml0 hP hK
 obtain ⟨rfl, hZ, hh⟩ := hP
 have hx := Bd.exec
 have hby := Bd.bytes
 have hml : c.maxLocals = 6 := hml0
 have hown : s.vm.findClass "java/lang/String" = some m.cls := findClass_of_methodNamed Bd.named
 have hnm := (name_of_methodNamed Bd.named Bd.method).1
 have X0 : Stand p l e Rm17 s m #[(.ref a1), (.ref a2), (.int 0), (.int 1), .null] below meth c s₁ [] 0 0 := Stand.of_body Bd
 have e0 : s₁.heap = h0 := by rw [← hh, Bd.state]; rfl
 have N0 := Fr.nil n0
 show Go p.tables e below (fun o U' => ∃ v L, o = .returned v ∧ Qrmct41_L Z a1 a2 u1 u2 k2 cs c0 h0 n0 v U'.heap L ∧ FrameEnd s o U' L Rm17.cells Rm17.slots) _
 refine Go.step (fun t kt => castTop (ef_rmct41_L m a1 a2 u1 u2 k2 cs c0) kt) ?_
 show Go p.tables e below _ (s₁.setTop (mkF m 0 #[vR a1, vR a2, vI 0, vI 1, .val .null, uS] []))
 have K101 : Keep h0 h0 [a1] := (Keep.refl h0 [a1])
 refine Go.step (fun _ kt => XS.aloadN X0.here hx rfl (hb hby d2_0) rfl rfl kt) ?_
 obtain ⟨T102, X102, e102, st102⟩ := initO X0 hx hZ hown (w12 hw) (w13 hw) (w14 hw) e0 (g := (mkF m 1 #[vR a1, vR a2, vI 0, vI 1, .val .null, uS] [(.ref a1)])) rfl hml.symm rfl (hb hby d2_1) (by decide) (W := 0) (Nat.le_of_eq rfl) (by decide)
 refine Go.step st102 ?_
 show Go p.tables e below _ (T102.setTop (mkF m 4 #[vR a1, vR a2, vI 0, vI 1, .val .null, uS] []))
 refine Go.step (fun _ kt => XS.iloadN X102.here hx rfl (hb hby d2_4) rfl (XS.ifYes X102.here hx rfl (pc0 := 5) (pc' := 27) rfl (hb hby d2_5) rfl ((if0 _ _).trans (feq (by decide : ¬ ((1 : Int32) = (0 : Int32)))).2) (by decide) (by decide) kt)) ?_
 obtain ⟨T103, X103, e103, st103⟩ := getS2 X102 hx hZ hown (host := "") (Or.inl (w15 hw)) Via.refl e102 S_cs (g := (mkF m 27 #[vR a1, vR a2, vI 0, vI 1, .val .null, uS] [])) rfl (hb hby d2_27)
 refine Go.step st103 ?_
 show Go p.tables e below _ (T103.setTop (mkF m 30 #[vR a1, vR a2, vI 0, vI 1, .val .null, uS] [(.int cs)]))
 refine Go.step (fun _ kt => XS.ifNo X103.here hx rfl (hb hby d2_30) rfl ((if0 _ _).trans (feq hcs).1) (XS.aloadN X103.here hx rfl (hb hby d2_33) rfl rfl (XS.iloadN X103.here hx rfl (hb hby d2_34) rfl (XS.iloadN X103.here hx rfl (hb hby d2_35) rfl kt)))) ?_
 obtain ⟨_, _, ⟨T104, L104, k104, n104⟩, -, X104, ⟨Lc104, hQ104, l104, y104, z104⟩, st104⟩ := Jvm.LawKit.callS X103 hx (y := Y27) hown (mvT hZ (w16 hw)) (mvT hZ (w17 hw)) (mvT hZ (w18 hw)) (mvT hZ (w19 hw)) (by decide) (backOf (W := 0) (rmk1_L l Z a0 hw [] a2 k2 c0 h0 n0 Z0 V2 hb0) hZ (w19 hw) (w18 hw) (by decide) (by decide)) (g := (mkF m 36 #[vR a1, vR a2, vI 0, vI 1, .val .null, uS] [(.int 1), (.int 0), (.ref a2)])) rfl hml.symm (argsL := [(.ref a2), (.int 0), (.int 1)]) (rest := []) (lenOf pd_20 rfl) rfl (Nat.le_of_eq rfl) (hb hby d2_36) (fun _ _ => ⟨rfl, e103, (by decide : 0 + 1 ≤ _), (by decide : 0 + 1 ≤ _)⟩)
 dsimp only [Pt.U, Pt.locs, Pt.cells, Pt.slots] at X104 l104 y104 z104 st104 hQ104
 subst l104 y104 z104
 obtain ⟨b104r, b104kr, rfl, N104q, Kq104, P105, P106, g_b104r, szq_b104r⟩ := hQ104
 have ne_a1_b104r : a1 ≠ b104r := Nat.ne_of_lt (Nat.lt_of_lt_of_le E1.lt szq_b104r)
 have ne_a2_b104r : a2 ≠ b104r := Nat.ne_of_lt (Nat.lt_of_lt_of_le V2.lt szq_b104r)
 have sz_b104r : h0.size ≤ b104r := Nat.le_trans K101.1 szq_b104r
 have F107 := (E1.keep Kq104)
 have F108 := (Fc.keep Kq104 (by simp))
 have F109 := (Fv.keep Kq104 (by simp))
 have F110 := (V2.keep Kq104 (by simp))
 have F111 := (own_sta_keep0 S_cs Kq104)
 have Z112 : n0 ≤ T104.heap.size := (Nat.le_trans Z0 Kq104.1)
 have K113 : Keep h0 T104.heap [a1] := (K101.trans Kq104 (by intro x hx; cases hx))
 have N104 := Fr.app N0 N104q
 refine Go.step st104 ?_
 show Go p.tables e below _ (T104.setTop (mkF m 39 #[vR a1, vR a2, vI 0, vI 1, .val .null, uS] [(.ref b104r)]))
 refine Go.step (fun _ kt => XS.astore X104.here hx rfl (hb hby d2_39) rfl rfl (l' := #[vR a1, vR a2, vI 0, vI 1, .val .null, vR b104r]) rfl (XS.aloadN X104.here hx rfl (hb hby d2_41) rfl rfl (XS.aload X104.here hx rfl (hb hby d2_42) rfl rfl (XS.iloadN X104.here hx rfl (hb hby d2_44) rfl kt)))) ?_
 show Go p.tables e below _ (T104.setTop (mkF m 45 #[vR a1, vR a2, vI 0, vI 1, .val .null, vR b104r] [(.int 1), (.ref b104r), (.ref a1)]))
 obtain ⟨_, _, ⟨T114, L114, k114, n114⟩, -, X114, ⟨Lc114, hQ114, l114, y114, z114⟩, st114⟩ := Jvm.LawKit.callS X104 hx (y := Y28) hown (mvT hZ (w24 hw)) (mvT hZ (w25 hw)) (mvT hZ (w18 hw)) (mvT hZ (w26 hw)) (by decide) (backOf (W := 1) (rmcf1_1 l Z a0 hw [] b104r b104kr (own_by c0) T104.heap n0 Z112 P106 ) hZ (w26 hw) (w18 hw) (by decide) (by decide)) (g := (mkF m 45 #[vR a1, vR a2, vI 0, vI 1, .val .null, vR b104r] [(.int 1), (.ref b104r), (.ref a1)])) rfl hml.symm (argsL := [(.ref b104r), (.int 1)]) (rest := [(.ref a1)]) (lenOf pd_21 rfl) rfl (Nat.le_of_eq rfl) (hb hby d2_45) (fun _ _ => ⟨rfl, rfl, (by decide : 1 + 0 ≤ _), (by decide : 1 + 0 ≤ _)⟩)
 dsimp only [Pt.U, Pt.locs, Pt.cells, Pt.slots] at X114 l114 y114 z114 st114 hQ114
 subst l114 y114 z114
 obtain ⟨rfl, N114q, eh114⟩ := hQ114
 have N114 := Fr.app N104 N114q
 refine Go.step st114 ?_
 obtain ⟨T115, h115, X115, e115, W115, st115⟩ := putFN X114 hx hZ hown (w27 hw) Via.refl eh114 F108 F107 (Or.inr ⟨(w28 hw), rfl, hnm⟩) (w3 hw) (ty := .byte) (v' := (.int 0)) (by decide) rfl rfl (g := (mkF m 48 #[vR a1, vR a2, vI 0, vI 1, .val .null, vR b104r] [(.int 0), (.ref a1)])) rfl rfl (hb hby d2_48)
 refine Go.step st115 ?_
 have N115 := Fr.snoc X115 N114 g_a1
 have F116 := (F107.wr W115)
 have F117 := (F108.same W115)
 have F118 := (F109.other W115 (Or.inr (slot_ne (Or.inr (w30 hw)) (Or.inr (w28 hw)) (by decide) (t := (.array .byte)) (t' := .byte) (by decide) (by decide))))
 have F119 := (F110.other W115 ne21)
 have F120 := (F111.wr W115)
 have F121 := (P105.wr W115)
 have F122 := (P106.other W115 (Ne.symm ne_a1_b104r))
 have Z123 : n0 ≤ h115.size := (Nat.le_trans Z112 (Nat.le_of_eq W115.size.symm))
 have K124 : Keep h0 h115 [a1] := (K113.wr W115 (Or.inl (List.mem_of_getElem? (i := 0) rfl)))
 show Go p.tables e below _ (T115.setTop (mkF m 51 #[vR a1, vR a2, vI 0, vI 1, .val .null, vR b104r] []))
 refine Go.step (fun _ kt => XS.aloadN X115.here hx rfl (hb hby d2_51) rfl rfl (XS.aload X115.here hx rfl (hb hby d2_52) rfl rfl kt)) ?_
 obtain ⟨T125, h125, X125, e125, W125, st125⟩ := putF X115 hx hZ hown (host := "") (Or.inl (w29 hw)) Via.refl e115 F118 F116 (Or.inr ⟨(w30 hw), rfl, hnm⟩) (w3 hw) (ty := (.array .byte)) (by decide) rfl rfl (g := (mkF m 54 #[vR a1, vR a2, vI 0, vI 1, .val .null, vR b104r] [(.ref b104r), (.ref a1)])) rfl rfl (hb hby d2_54)
 refine Go.step st125 ?_
 have N125 := Fr.snoc X125 N115 g_a1
 have F126 := (F116.wr W125)
 have F127 := (F117.other W125 (Or.inr (slot_ne (Or.inr (w28 hw)) (Or.inr (w30 hw)) (by decide) (t := .byte) (t' := (.array .byte)) (by decide) (by decide))))
 have F128 := (F118.same W125)
 have F129 := (F119.other W125 ne21)
 have F130 := (F120.wr W125)
 have F131 := (F121.wr W125)
 have F132 := (F122.other W125 (Ne.symm ne_a1_b104r))
 have Z133 : n0 ≤ h125.size := (Nat.le_trans Z123 (Nat.le_of_eq W125.size.symm))
 have K134 : Keep h0 h125 [a1] := (K124.wr W125 (Or.inl (List.mem_of_getElem? (i := 0) rfl)))
 show Go p.tables e below _ (T125.setTop (mkF m 57 #[vR a1, vR a2, vI 0, vI 1, .val .null, vR b104r] []))
 have En135 : own_enc Z h125 b104r (0 : Int32) (own_u c0) := ⟨F131, _, Or.inr (Or.inl ⟨rfl, c0, hb0, rfl, F132⟩)⟩
 obtain ⟨fs, hr, hrun, hended, hW, hsame⟩ := X125.leave (v := none) (fun _ => rfl)
 refine ⟨_, _, X125.returnOut hx Bd.returns (hb hby d2_57) hr, hrun, hended, _, _, rfl, ?_, ⟨_, rfl⟩, hW, hsame.mono (by decide) (by decide)⟩
 show Qrmct41_L Z a1 a2 u1 u2 k2 cs c0 h0 n0 _ T125.heap _
 rw [e125]
 refine ⟨b104r, (0 : Int32), ?_, N125, K134, F126, F127, F128, F131, En135⟩
 rfl
theorem ef_rmct11 (m : MethodId) (a1 : Addr) (a2 : Addr) (u1 : Value) (u2 : Value) (k2 : ClassId) (cs : Int32) (c0 : Int32) : entryFrame m #[(.ref a1), (.ref a2)] 2 = mkF m 0 #[vR a1, vR a2] [] := by first | (simp [entryFrame, mkF, argsToLocals, Value.category]; done) | rfl
def Qrmct11 (Z : State) (a1 : Addr) (a2 : Addr) (u1 : Value) (u2 : Value) (k2 : ClassId) (cs : Int32) (c0 : Int32) (h0 : Heap) (n0 : Nat) (v : Option Value) (h : Heap) (L : List Loc) : Prop := ∃ b : Addr, ∃ cd : Int32, v = none ∧ Fr n0 L ∧ Keep h0 h [a1] ∧ Exa Z h a1 "java/lang/String" ∧ Fld Z h a1 "java/lang/String" "coder" "B" (.int cd) ∧ Fld Z h a1 "java/lang/String" "value" "[B" (.ref b) ∧ Exa Z h b "[B" ∧ own_enc Z h b cd (own_u c0)
set_option maxRecDepth 65536 in
set_option maxHeartbeats 40000000 in
theorem rmct11 (l : Launch) (Z : State) (a0 : Array Value) (hw : ∀ d ∈ tables_1, d.before a0 Z = true) (ws : List Jvm.Cond) (a1 : Addr) (a2 : Addr) (u1 : Value) (u2 : Value) (k2 : ClassId) (cs : Int32) (c0 : Int32) (h0 : Heap) (n0 : Nat) (Z0 : n0 ≤ h0.size) (E1 : Exa Z h0 a1 "java/lang/String") (Fc : Fld Z h0 a1 "java/lang/String" "coder" "B" u1) (Fv : Fld Z h0 a1 "java/lang/String" "value" "[B" u2) (V2 : Arv Z h0 a2 k2 .char (1 : Int32) [(.int c0)] (.int 0)) (S_cs : Sta Z h0 "java/lang/String" "COMPACT_STRINGS" "Z" (.int cs)) (S_ad : Sta Z h0 "java/lang/StringUTF16" "$assertionsDisabled" "Z" (.int 1)) (S_hi : Sta Z h0 "java/lang/StringUTF16" "HI_BYTE_SHIFT" "I" (.int 0)) (S_lo : Sta Z h0 "java/lang/StringUTF16" "LO_BYTE_SHIFT" "I" (.int 8)) (g_a1 : n0 ≤ a1) (hcs : ¬ cs = 0) (ne21 : a2 ≠ a1) (hR0 : own_R c0) :
    MetFree l Y23 (head1 (Jvm.Cond.code Y23 jdk_42_method_3_code 2 none :: ws) Rm18) (fun a U => a = #[(.ref a1), (.ref a2)] ∧ Z.Warmed39 U.vm ∧ U.heap = h0) (fun _ _ _ _ _ => True) (fun _ U o U' => ∃ v L, o = .returned v ∧ Qrmct11 Z a1 a2 u1 u2 k2 cs c0 h0 n0 v U'.heap L ∧ FrameEnd U o U' L Rm18.cells Rm18.slots) := by
 refine MetFree.of_bodySF (plainFor_of_name pn_5) hisR ?_
 intro p e s m args below meth c s₁ Bd hml0 hP hK
 obtain ⟨rfl, hZ, hh⟩ := hP
 have hx := Bd.exec
 have hby := Bd.bytes
 have hml : c.maxLocals = 2 := hml0
 have hown : s.vm.findClass "java/lang/String" = some m.cls := findClass_of_methodNamed Bd.named
 have hnm := (name_of_methodNamed Bd.named Bd.method).1
 have X0 : Stand p l e Rm18 s m #[(.ref a1), (.ref a2)] below meth c s₁ [] 0 0 := Stand.of_body Bd
 have e0 : s₁.heap = h0 := by rw [← hh, Bd.state]; rfl
 have N0 := Fr.nil n0
 show Go p.tables e below (fun o U' => ∃ v L, o = .returned v ∧ Qrmct11 Z a1 a2 u1 u2 k2 cs c0 h0 n0 v U'.heap L ∧ FrameEnd s o U' L Rm18.cells Rm18.slots) _
 refine Go.step (fun t kt => castTop (ef_rmct11 m a1 a2 u1 u2 k2 cs c0) kt) ?_
 show Go p.tables e below _ (s₁.setTop (mkF m 0 #[vR a1, vR a2] []))
 have K101 : Keep h0 h0 [a1] := (Keep.refl h0 [a1])
 by_cases hk102 : (255 : Int32) < c0
 ·have hU := hk102
  show Go p.tables e below _ (s₁.setTop (mkF m 0 #[vR a1, vR a2] []))
  refine Go.step (fun _ kt => XS.aloadN X0.here hx rfl (hb hby d1_0) rfl rfl (XS.aloadN X0.here hx rfl (hb hby d1_1) rfl rfl (XS.iconst X0.here hx rfl (hb hby d1_2) (XS.aloadN X0.here hx rfl (hb hby d1_3) rfl rfl kt)))) ?_
  obtain ⟨cl103, Ar103, qa103, Sa103, Na103, Ha103, Ga103⟩ := (id V2)
  refine Go.step (X0.arraylength hx (by rw [e0]; exact Ar103.1) (State.isArrayOf_alike hZ.alike Ar103.2.1) (g := (mkF m 4 #[vR a1, vR a2] [(.ref a2), (.int 0), (.ref a2), (.ref a1)])) rfl rfl (hb hby d1_4)) ?_
  rw [len_of Sa103 Na103]
  show Go p.tables e below _ (s₁.setTop (mkF m 5 #[vR a1, vR a2] [(.int 1), (.int 0), (.ref a2), (.ref a1)]))
  refine Go.step (fun _ kt => XS.aconstNull X0.here hx rfl (hb hby d1_5) kt) ?_
  obtain ⟨_, _, ⟨T104, L104, k104, n104⟩, -, X104, ⟨Lc104, hQ104, l104, y104, z104⟩, st104⟩ := X0.specialBack hx (y := Y22) rfl hown (mvT hZ (w8 hw)) (mvT hZ (w9 hw)) (mvT hZ (w11 hw)) (by decide) (backOf (W := 0) (rmct41_U l Z a0 hw [] a1 a2 u1 u2 k2 cs c0 h0 n0 Z0 E1 Fc Fv V2 S_cs S_ad S_hi S_lo g_a1 hcs ne21 hR0 hU) hZ (w11 hw) (w4 hw) (by decide) (by decide)) (g := (mkF m 6 #[vR a1, vR a2] [.null, (.int 1), (.int 0), (.ref a2), (.ref a1)])) rfl hml.symm (Steps.refl _) (a := a1) (argsL := [(.ref a2), (.int 0), (.int 1), .null]) (rest := []) (lenOf pd_15 rfl) rfl (Nat.le_of_eq rfl) (hb hby d1_6) (fun _ _ => ⟨rfl, e0, (by decide : 0 + 2 ≤ _), (by decide : 0 + 3 ≤ _)⟩)
  dsimp only [Pt.U, Pt.locs, Pt.cells, Pt.slots] at X104 l104 y104 z104 st104 hQ104
  subst l104 y104 z104
  obtain ⟨b104b, b104cd, rfl, N104q, Kq104, P105, P106, P107, P108, P109⟩ := hQ104
  have F110 := (E1.keep Kq104)
  have F111 := (V2.keep Kq104 (fun q => ne21 (List.mem_singleton.mp q)))
  have Z112 : n0 ≤ T104.heap.size := (Nat.le_trans Z0 Kq104.1)
  have K113 : Keep h0 T104.heap [a1] := (K101.trans Kq104 (by intro x hx; cases List.mem_singleton.mp hx; exact (Or.inl (List.mem_of_getElem? (i := 0) rfl))))
  have N104 := Fr.app N0 N104q
  refine Go.step (fun _ kt => st104.trans kt) ?_
  show Go p.tables e below _ (T104.setTop (mkF m 9 #[vR a1, vR a2] []))
  obtain ⟨fs, hr, hrun, hended, hW, hsame⟩ := X104.leave (v := none) (fun _ => rfl)
  refine ⟨_, _, X104.returnOut hx Bd.returns (hb hby d1_9) hr, hrun, hended, _, _, rfl, ?_, ⟨_, rfl⟩, hW, hsame.mono (by decide) (by decide)⟩
  show Qrmct11 Z a1 a2 u1 u2 k2 cs c0 h0 n0 _ T104.heap _
  refine ⟨b104b, b104cd, ?_, N104, K113, P105, P106, P107, P108, P109⟩
  rfl
 ·have hb0 : own_L c0 := ⟨hR0.1, hk102⟩
  show Go p.tables e below _ (s₁.setTop (mkF m 0 #[vR a1, vR a2] []))
  refine Go.step (fun _ kt => XS.aloadN X0.here hx rfl (hb hby d1_0) rfl rfl (XS.aloadN X0.here hx rfl (hb hby d1_1) rfl rfl (XS.iconst X0.here hx rfl (hb hby d1_2) (XS.aloadN X0.here hx rfl (hb hby d1_3) rfl rfl kt)))) ?_
  obtain ⟨cl114, Ar114, qa114, Sa114, Na114, Ha114, Ga114⟩ := (id V2)
  refine Go.step (X0.arraylength hx (by rw [e0]; exact Ar114.1) (State.isArrayOf_alike hZ.alike Ar114.2.1) (g := (mkF m 4 #[vR a1, vR a2] [(.ref a2), (.int 0), (.ref a2), (.ref a1)])) rfl rfl (hb hby d1_4)) ?_
  rw [len_of Sa114 Na114]
  show Go p.tables e below _ (s₁.setTop (mkF m 5 #[vR a1, vR a2] [(.int 1), (.int 0), (.ref a2), (.ref a1)]))
  refine Go.step (fun _ kt => XS.aconstNull X0.here hx rfl (hb hby d1_5) kt) ?_
  obtain ⟨_, _, ⟨T115, L115, k115, n115⟩, -, X115, ⟨Lc115, hQ115, l115, y115, z115⟩, st115⟩ := X0.specialBack hx (y := Y22) rfl hown (mvT hZ (w8 hw)) (mvT hZ (w9 hw)) (mvT hZ (w11 hw)) (by decide) (backOf (W := 0) (rmct41_L l Z a0 hw [] a1 a2 u1 u2 k2 cs c0 h0 n0 Z0 E1 Fc Fv V2 S_cs g_a1 hcs ne21 hb0) hZ (w11 hw) (w4 hw) (by decide) (by decide)) (g := (mkF m 6 #[vR a1, vR a2] [.null, (.int 1), (.int 0), (.ref a2), (.ref a1)])) rfl hml.symm (Steps.refl _) (a := a1) (argsL := [(.ref a2), (.int 0), (.int 1), .null]) (rest := []) (lenOf pd_15 rfl) rfl (Nat.le_of_eq rfl) (hb hby d1_6) (fun _ _ => ⟨rfl, e0, (by decide : 0 + 1 ≤ _), (by decide : 0 + 1 ≤ _)⟩)
  dsimp only [Pt.U, Pt.locs, Pt.cells, Pt.slots] at X115 l115 y115 z115 st115 hQ115
  subst l115 y115 z115
  obtain ⟨b115b, b115cd, rfl, N115q, Kq115, P116, P117, P118, P119, P120⟩ := hQ115
  have F121 := (E1.keep Kq115)
  have F122 := (V2.keep Kq115 (fun q => ne21 (List.mem_singleton.mp q)))
  have Z123 : n0 ≤ T115.heap.size := (Nat.le_trans Z0 Kq115.1)
  have K124 : Keep h0 T115.heap [a1] := (K101.trans Kq115 (by intro x hx; cases List.mem_singleton.mp hx; exact (Or.inl (List.mem_of_getElem? (i := 0) rfl))))
  have N115 := Fr.app N0 N115q
  refine Go.step (fun _ kt => st115.trans kt) ?_
  show Go p.tables e below _ (T115.setTop (mkF m 9 #[vR a1, vR a2] []))
  obtain ⟨fs, hr, hrun, hended, hW, hsame⟩ := X115.leave (v := none) (fun _ => rfl)
  refine ⟨_, _, X115.returnOut hx Bd.returns (hb hby d1_9) hr, hrun, hended, _, _, rfl, ?_, ⟨_, rfl⟩, hW, hsame.mono (by decide) (by decide)⟩
  show Qrmct11 Z a1 a2 u1 u2 k2 cs c0 h0 n0 _ T115.heap _
  refine ⟨b115b, b115cd, ?_, N115, K124, P116, P117, P118, P119, P120⟩
  rfl
theorem pd_22 : parseMethodDescriptor "([BIC)I" = some ⟨[(.array .byte), .int, .char], some .int⟩ := by decide +kernel
theorem ef_rmkl2_F0 (m : MethodId) (a1 : Addr) (a2 : Addr) (k1 : ClassId) (c0 : Int32) (c1 : Int32) : entryFrame m #[(.ref a1), (.int 0), (.ref a2), (.int 0), (.int 2)] 7 = mkF m 0 #[vR a1, vI 0, vR a2, vI 0, vI 2, uS, uS] [] := by first | (simp [entryFrame, mkF, argsToLocals, Value.category]; done) | rfl
def Qrmkl2_F0 (Z : State) (a1 : Addr) (a2 : Addr) (k1 : ClassId) (c0 : Int32) (c1 : Int32) (h0 : Heap) (n0 : Nat) (v : Option Value) (h : Heap) (L : List Loc) : Prop := v = some (.int 0) ∧ Fr n0 L ∧ h = h0
set_option maxRecDepth 65536 in
set_option maxHeartbeats 40000000 in
theorem rmkl2_F0 (l : Launch) (Z : State) (a0 : Array Value) (hw : ∀ d ∈ tables_1, d.before a0 Z = true) (ws : List Jvm.Cond) (a1 : Addr) (a2 : Addr) (k1 : ClassId) (c0 : Int32) (c1 : Int32) (h0 : Heap) (n0 : Nat) (Z0 : n0 ≤ h0.size) (V1 : Arv Z h0 a1 k1 .char (2 : Int32) [(.int c0), (.int c1)] (.int 0)) (hU0 : (255 : Int32) < c0) :
    MetFree l Y24 (head1 (Jvm.Cond.code Y24 jdk_52_method_21_code 7 (some .int) :: ws) Rm0) (fun a U => a = #[(.ref a1), (.int 0), (.ref a2), (.int 0), (.int 2)] ∧ Z.Warmed39 U.vm ∧ U.heap = h0) (fun _ _ _ _ _ => True) (fun _ U o U' => ∃ v L, o = .returned v ∧ Qrmkl2_F0 Z a1 a2 k1 c0 c1 h0 n0 v U'.heap L ∧ FrameEnd U o U' L Rm0.cells Rm0.slots) := by
 refine MetFree.of_bodySF (plainFor_of_name pn_4) hisR ?_
 intro p e s m args below meth c s₁ Bd hml0 hP hK
 obtain ⟨rfl, hZ, hh⟩ := hP
 have hx := Bd.exec
 have hby := Bd.bytes
 have hml : c.maxLocals = 7 := hml0
 have hown : s.vm.findClass "java/lang/StringUTF16" = some m.cls := findClass_of_methodNamed Bd.named
 have hnm := (name_of_methodNamed Bd.named Bd.method).1
 have X0 : Stand p l e Rm0 s m #[(.ref a1), (.int 0), (.ref a2), (.int 0), (.int 2)] below meth c s₁ [] 0 0 := Stand.of_body Bd
 have e0 : s₁.heap = h0 := by rw [← hh, Bd.state]; rfl
 have N0 := Fr.nil n0
 show Go p.tables e below (fun o U' => ∃ v L, o = .returned v ∧ Qrmkl2_F0 Z a1 a2 k1 c0 c1 h0 n0 v U'.heap L ∧ FrameEnd s o U' L Rm0.cells Rm0.slots) _
 refine Go.step (fun t kt => castTop (ef_rmkl2_F0 m a1 a2 k1 c0 c1) kt) ?_
 show Go p.tables e below _ (s₁.setTop (mkF m 0 #[vR a1, vI 0, vR a2, vI 0, vI 2, uS, uS] []))
 refine Go.step (fun _ kt => XS.iconst X0.here hx rfl (hb hby d5_0) (XS.istore X0.here hx rfl (hb hby d5_1) rfl (l' := #[vR a1, vI 0, vR a2, vI 0, vI 2, vI 0, uS]) rfl (XS.iload X0.here hx rfl (hb hby d5_3) rfl (XS.iload X0.here hx rfl (hb hby d5_5) rfl (XS.icmpNo X0.here hx rfl (hb hby d5_7) rfl (tlt (by decide : (0 : Int32) < (2 : Int32))).2.1 (XS.aloadN X0.here hx rfl (hb hby d5_10) rfl rfl (XS.iloadN X0.here hx rfl (hb hby d5_11) rfl kt))))))) ?_
 show Go p.tables e below _ (s₁.setTop (mkF m 12 #[vR a1, vI 0, vR a2, vI 0, vI 2, vI 0, uS] [(.int 0), (.ref a1)]))
 obtain ⟨cl101, Ar101, qa101, Sa101, Na101, Ha101, Ga101⟩ := (id V1)
 have hin101 : ¬ ((0 : Int32) < 0 ∨ cl101.slots.size ≤ ((0 : Int32)).toNatClampNeg) := inb_of Sa101 ⟨by decide, by decide⟩
 have hat101 : cl101.slots[((0 : Int32)).toNatClampNeg]? = some (.int c0) := at_of Ha101 hin101 rfl
 refine Go.step (X0.caload hx (j := (0 : Int32)) (v := (.int c0)) (by rw [e0]; exact Ar101.1) (State.isArrayOf_alike hZ.alike Ar101.2.1) Ar101.2.2 hin101 hat101 (g := (mkF m 12 #[vR a1, vI 0, vR a2, vI 0, vI 2, vI 0, uS] [(.int 0), (.ref a1)])) rfl rfl (hb hby d5_12)) ?_
 show Go p.tables e below _ (s₁.setTop (mkF m 13 #[vR a1, vI 0, vR a2, vI 0, vI 2, vI 0, uS] [(.int c0)]))
 refine Go.step (fun _ kt => XS.istore X0.here hx rfl (hb hby d5_13) rfl (l' := #[vR a1, vI 0, vR a2, vI 0, vI 2, vI 0, vI c0]) rfl (XS.iload X0.here hx rfl (hb hby d5_15) rfl (XS.sipush X0.here hx rfl (hb hby d5_17) (XS.icmpNo X0.here hx rfl (hb hby d5_20) rfl (tlt hU0).2.2.2 (XS.iload X0.here hx rfl (hb hby d5_23) rfl kt))))) ?_
 show Go p.tables e below _ (s₁.setTop (mkF m 25 #[vR a1, vI 0, vR a2, vI 0, vI 2, vI 0, vI c0] [(.int 0)]))
 obtain ⟨fs, hr, hrun, hended, hW, hsame⟩ := X0.leave (v := some (.int 0)) (fun h => by rw [Bd.returns] at h; cases h)
 refine ⟨_, _, retI X0 hx Bd.returns (hb hby d5_25) hr, hrun, hended, _, _, rfl, ?_, ⟨_, rfl⟩, hW, hsame.mono (by decide) (by decide)⟩
 show Qrmkl2_F0 Z a1 a2 k1 c0 c1 h0 n0 _ s₁.heap _
 rw [e0]
 refine ⟨?_, N0, rfl⟩
 rfl
theorem ef_rmnf2_V (m : MethodId)  : entryFrame m #[(.int 2)] 1 = mkF m 0 #[vI 2] [] := by first | (simp [entryFrame, mkF, argsToLocals, Value.category]; done) | rfl
def Qrmnf2_V (Z : State)  (h0 : Heap) (n0 : Nat) (v : Option Value) (h : Heap) (L : List Loc) : Prop := ∃ r : Addr, ∃ kr : ClassId, v = some (.ref r) ∧ Fr n0 L ∧ Keep h0 h [] ∧ Exa Z h r "[B" ∧ Arv Z h r kr .byte (4 : Int32) [(.int 0), (.int 0), (.int 0), (.int 0)] (.int 0) ∧ n0 ≤ r ∧ h0.size ≤ r
set_option maxRecDepth 65536 in
set_option maxHeartbeats 40000000 in
theorem rmnf2_V (l : Launch) (Z : State) (a0 : Array Value) (hw : ∀ d ∈ tables_1, d.before a0 Z = true) (ws : List Jvm.Cond)  (h0 : Heap) (n0 : Nat) (Z0 : n0 ≤ h0.size) :
    MetFree l Y11 (head1 (Jvm.Cond.code Y11 jdk_52_method_2_code 1 (some (.array .byte)) :: ws) Rm4) (fun a U => a = #[(.int 2)] ∧ Z.Warmed39 U.vm ∧ U.heap = h0) (fun _ _ _ _ _ => True) (fun _ U o U' => ∃ v L, o = .returned v ∧ Qrmnf2_V Z  h0 n0 v U'.heap L ∧ FrameEnd U o U' L Rm4.cells Rm4.slots) := by
 refine MetFree.of_bodySF (plainFor_of_name pn_4) hisR ?_
 intro p e s m args below meth c s₁ Bd hml0 hP hK
 obtain ⟨rfl, hZ, hh⟩ := hP
 have hx := Bd.exec
 have hby := Bd.bytes
 have hml : c.maxLocals = 1 := hml0
 have hown : s.vm.findClass "java/lang/StringUTF16" = some m.cls := findClass_of_methodNamed Bd.named
 have hnm := (name_of_methodNamed Bd.named Bd.method).1
 have X0 : Stand p l e Rm4 s m #[(.int 2)] below meth c s₁ [] 0 0 := Stand.of_body Bd
 have e0 : s₁.heap = h0 := by rw [← hh, Bd.state]; rfl
 have N0 := Fr.nil n0
 show Go p.tables e below (fun o U' => ∃ v L, o = .returned v ∧ Qrmnf2_V Z  h0 n0 v U'.heap L ∧ FrameEnd s o U' L Rm4.cells Rm4.slots) _
 refine Go.step (fun t kt => castTop (ef_rmnf2_V m ) kt) ?_
 show Go p.tables e below _ (s₁.setTop (mkF m 0 #[vI 2] []))
 have K101 : Keep h0 h0 [] := (Keep.refl h0 [])
 refine Go.step (fun _ kt => XS.iloadN X0.here hx rfl (hb hby d18_0) rfl kt) ?_
 obtain ⟨_, _, ⟨T102, L102, k102, n102⟩, -, X102, ⟨Lc102, hQ102, l102, y102, z102⟩, st102⟩ := Jvm.LawKit.callS X0 hx (y := Y10) hown (mvT hZ (w92 hw)) (mvT hZ (w93 hw)) (mvT hZ (w18 hw)) (mvT hZ (w94 hw)) (by decide) (backOf (W := 0) (rmnl2 l Z a0 hw []   h0 n0 Z0  ) hZ (w94 hw) (w18 hw) (by decide) (by decide)) (g := (mkF m 1 #[vI 2] [(.int 2)])) rfl hml.symm (argsL := [(.int 2)]) (rest := []) (lenOf pd_3 rfl) rfl (Nat.le_of_eq rfl) (hb hby d18_1) (fun _ _ => ⟨rfl, e0, (by decide : 0 + 0 ≤ _), (by decide : 0 + 0 ≤ _)⟩)
 dsimp only [Pt.U, Pt.locs, Pt.cells, Pt.slots] at X102 l102 y102 z102 st102 hQ102
 subst l102 y102 z102
 obtain ⟨rfl, N102q, eh102⟩ := hQ102
 have N102 := Fr.app N0 N102q
 refine Go.step st102 ?_
 obtain ⟨T103, h103, k103, X103, e103, E103, A103, Ex103, st103⟩ := newPE (aty := .byte) X102 hx hZ (w20 hw) eh102 (g := (mkF m 4 #[vI 2] [(.int 4)])) rfl (hb hby d18_4) rfl (by decide) (cap := 4) (by decide) (by decide) (by decide) (by decide) (ad := "[B") own_adB
 obtain ⟨b103, g103⟩ : ∃ z, z = h0.size := ⟨_, rfl⟩
 rw [← g103] at A103 Ex103 st103
 refine Go.step st103 ?_
 have g_b103 : n0 ≤ b103 := Nat.le_trans Z0 (Nat.le_of_eq g103.symm)
 have sz_b103 : h0.size ≤ b103 := Nat.le_trans K101.1 (Nat.le_of_eq g103.symm)
 have Z104 : n0 ≤ h103.size := (Nat.le_trans Z0 E103.1)
 have K105 : Keep h0 h103 [] := (K101.ext E103)
 have V106 : Arv Z h103 b103 k103 .byte (4 : Int32) [(.int 0), (.int 0), (.int 0), (.int 0)] (.int 0) := (Arv.new A103 (by decide)).pad (pad_rep [] (.int 0) 4)
 show Go p.tables e below _ (T103.setTop (mkF m 6 #[vI 2] [(.ref b103)]))
 obtain ⟨fs, hr, hrun, hended, hW, hsame⟩ := X103.leave (v := some (.ref b103)) (fun h => by rw [Bd.returns] at h; cases h)
 refine ⟨_, _, retOut X103 hx Bd.returns rfl (Or.inr (Or.inr (Or.inr (Or.inr ⟨rfl, rfl, rfl⟩)))) (hb hby d18_6) hr, hrun, hended, _, _, rfl, ?_, ⟨_, rfl⟩, hW, hsame.mono (by decide) (by decide)⟩
 show Qrmnf2_V Z  h0 n0 _ T103.heap _
 rw [e103]
 refine ⟨b103, k103, ?_, N102, K105, Ex103, V106, g_b103, sz_b103⟩
 rfl
theorem ef_rmpc2_0 (m : MethodId) (a1 : Addr) (cx : Int32) (k1 : ClassId) (v0 : Int32) (v1 : Int32) (v2 : Int32) (v3 : Int32) : entryFrame m #[(.ref a1), (.int 0), (.int cx)] 3 = mkF m 0 #[vR a1, vI 0, vI cx] [] := by first | (simp [entryFrame, mkF, argsToLocals, Value.category]; done) | rfl
def Qrmpc2_0 (Z : State) (a1 : Addr) (cx : Int32) (k1 : ClassId) (v0 : Int32) (v1 : Int32) (v2 : Int32) (v3 : Int32) (h0 : Heap) (n0 : Nat) (v : Option Value) (h : Heap) (L : List Loc) : Prop := v = none ∧ Fr n0 L ∧ Keep h0 h [a1] ∧ Arv Z h a1 k1 .byte (4 : Int32) [(.int (own_lo cx)), (.int (own_hi cx)), (.int v2), (.int v3)] (.int 0)
set_option maxRecDepth 65536 in
set_option maxHeartbeats 40000000 in
theorem rmpc2_0 (l : Launch) (Z : State) (a0 : Array Value) (hw : ∀ d ∈ tables_1, d.before a0 Z = true) (ws : List Jvm.Cond) (a1 : Addr) (cx : Int32) (k1 : ClassId) (v0 : Int32) (v1 : Int32) (v2 : Int32) (v3 : Int32) (h0 : Heap) (n0 : Nat) (Z0 : n0 ≤ h0.size) (V1 : Arv Z h0 a1 k1 .byte (4 : Int32) [(.int v0), (.int v1), (.int v2), (.int v3)] (.int 0)) (S_ad : Sta Z h0 "java/lang/StringUTF16" "$assertionsDisabled" "Z" (.int 1)) (S_hi : Sta Z h0 "java/lang/StringUTF16" "HI_BYTE_SHIFT" "I" (.int 0)) (S_lo : Sta Z h0 "java/lang/StringUTF16" "LO_BYTE_SHIFT" "I" (.int 8)) (g_a1 : n0 ≤ a1) :
    MetFree l Y25 (head1 (Jvm.Cond.code Y25 jdk_52_method_4_code 3 none :: ws) Rm0) (fun a U => a = #[(.ref a1), (.int 0), (.int cx)] ∧ Z.Warmed39 U.vm ∧ U.heap = h0) (fun _ _ _ _ _ => True) (fun _ U o U' => ∃ v L, o = .returned v ∧ Qrmpc2_0 Z a1 cx k1 v0 v1 v2 v3 h0 n0 v U'.heap L ∧ FrameEnd U o U' L Rm0.cells Rm0.slots) := by
 refine MetFree.of_bodySF (plainFor_of_name pn_4) hisR ?_
 intro p e s m args below meth c s₁ Bd hml0 hP hK
 obtain ⟨rfl, hZ, hh⟩ := hP
 have hx := Bd.exec
 have hby := Bd.bytes
 have hml : c.maxLocals = 3 := hml0
 have hown : s.vm.findClass "java/lang/StringUTF16" = some m.cls := findClass_of_methodNamed Bd.named
 have hnm := (name_of_methodNamed Bd.named Bd.method).1
 have X0 : Stand p l e Rm0 s m #[(.ref a1), (.int 0), (.int cx)] below meth c s₁ [] 0 0 := Stand.of_body Bd
 have e0 : s₁.heap = h0 := by rw [← hh, Bd.state]; rfl
 have N0 := Fr.nil n0
 show Go p.tables e below (fun o U' => ∃ v L, o = .returned v ∧ Qrmpc2_0 Z a1 cx k1 v0 v1 v2 v3 h0 n0 v U'.heap L ∧ FrameEnd s o U' L Rm0.cells Rm0.slots) _
 refine Go.step (fun t kt => castTop (ef_rmpc2_0 m a1 cx k1 v0 v1 v2 v3) kt) ?_
 show Go p.tables e below _ (s₁.setTop (mkF m 0 #[vR a1, vI 0, vI cx] []))
 have K101 : Keep h0 h0 [a1] := (Keep.refl h0 [a1])
 obtain ⟨T102, X102, e102, st102⟩ := getS2 X0 hx hZ hown (host := "") (Or.inl (w99 hw)) Via.refl e0 S_ad (g := (mkF m 0 #[vR a1, vI 0, vI cx] [])) rfl (hb hby d20_0)
 refine Go.step st102 ?_
 show Go p.tables e below _ (T102.setTop (mkF m 3 #[vR a1, vI 0, vI cx] [(.int 1)]))
 refine Go.step (fun _ kt => XS.ifYes X102.here hx rfl (pc0 := 3) (pc' := 28) rfl (hb hby d20_3) rfl ((if0 _ _).trans (feq (by decide : ¬ ((1 : Int32) = (0 : Int32)))).2) (by decide) (by decide) (XS.iloadN X102.here hx rfl (hb hby d20_28) rfl (XS.iconst X102.here hx rfl (hb hby d20_29) (XS.ishl X102.here hx rfl (hb hby d20_30) rfl kt)))) ?_
 show Go p.tables e below _ (T102.setTop (mkF m 31 #[vR a1, vI 0, vI cx] [(.int ((0 : Int32) <<< ((1 : Int32) &&& 31)))]))
 have q103 : ((0 : Int32) <<< ((1 : Int32) &&& 31)) = (0 : Int32) := by decide
 rw [q103]
 show Go p.tables e below _ (T102.setTop (mkF m 31 #[vR a1, vI 0, vI cx] [(.int 0)]))
 refine Go.step (fun _ kt => XS.istoreN X102.here hx rfl (hb hby d20_31) rfl (l' := #[vR a1, vI 0, vI cx]) rfl (XS.aloadN X102.here hx rfl (hb hby d20_32) rfl rfl (XS.iloadN X102.here hx rfl (hb hby d20_33) rfl (XS.iinc X102.here hx rfl (hb hby d20_34) rfl (l' := #[vR a1, vI ((0 : Int32) + (1 : Int32)), vI cx]) rfl kt)))) ?_
 show Go p.tables e below _ (T102.setTop (mkF m 37 #[vR a1, vI ((0 : Int32) + (1 : Int32)), vI cx] [(.int 0), (.ref a1)]))
 have q104 : ((0 : Int32) + (1 : Int32)) = (1 : Int32) := by decide
 rw [q104]
 show Go p.tables e below _ (T102.setTop (mkF m 37 #[vR a1, vI 1, vI cx] [(.int 0), (.ref a1)]))
 refine Go.step (fun _ kt => XS.iloadN X102.here hx rfl (hb hby d20_37) rfl kt) ?_
 obtain ⟨T105, X105, e105, st105⟩ := getS2 X102 hx hZ hown (host := "") (Or.inl (w100 hw)) Via.refl e102 S_hi (g := (mkF m 38 #[vR a1, vI 1, vI cx] [(.int cx), (.int 0), (.ref a1)])) rfl (hb hby d20_38)
 refine Go.step st105 ?_
 show Go p.tables e below _ (T105.setTop (mkF m 41 #[vR a1, vI 1, vI cx] [(.int 0), (.int cx), (.int 0), (.ref a1)]))
 refine Go.step (fun _ kt => XS.ishr X105.here hx rfl (hb hby d20_41) rfl (XS.i2b X105.here hx rfl (hb hby d20_42) rfl kt)) ?_
 show Go p.tables e below _ (T105.setTop (mkF m 43 #[vR a1, vI 1, vI cx] [(.int ((cx >>> ((0 : Int32) &&& 31)).toInt8.toInt32)), (.int 0), (.ref a1)]))
 have q106 : ((cx >>> ((0 : Int32) &&& 31)).toInt8.toInt32) = (own_by (cx >>> ((0 : Int32) &&& 31))) := rfl
 rw [q106]
 show Go p.tables e below _ (T105.setTop (mkF m 43 #[vR a1, vI 1, vI cx] [(.int (own_by (cx >>> ((0 : Int32) &&& 31)))), (.int 0), (.ref a1)]))
 have q107 : (own_by (cx >>> ((0 : Int32) &&& 31))) = (own_lo cx) := rfl
 rw [q107]
 obtain ⟨cl108, Ar108, qa108, Sa108, Na108, Ha108, Ga108⟩ := (id V1)
 have hin108 : ¬ ((0 : Int32) < 0 ∨ cl108.slots.size ≤ ((0 : Int32)).toNatClampNeg) := inb_of Sa108 ⟨by decide, by decide⟩
 obtain ⟨T108, h108, X108, e108, W108, st108⟩ := stB X105 hx hZ e105 Ar108 (j := (0 : Int32)) hin108 (g := (mkF m 43 #[vR a1, vI 1, vI cx] [(.int (own_lo cx)), (.int 0), (.ref a1)])) rfl rfl (hb hby d20_43)
 refine Go.step st108 ?_
 have V109 := Arv.set Ar108 qa108 Sa108 Na108 Ha108 Ga108 (fits_nar_byte _) W108 0 rfl (Nat.le_of_ble_eq_true rfl)
 have N108 := Fr.snoc X108 N0 g_a1
 have F110 := (S_ad.wr W108)
 have F111 := (S_hi.wr W108)
 have F112 := (S_lo.wr W108)
 have Z113 : n0 ≤ h108.size := (Nat.le_trans Z0 (Nat.le_of_eq W108.size.symm))
 have K114 : Keep h0 h108 [a1] := (K101.wr W108 (Or.inl (List.mem_of_getElem? (i := 0) rfl)))
 show Go p.tables e below _ (T108.setTop (mkF m 44 #[vR a1, vI 1, vI cx] []))
 have Vn115 : Arv Z h108 a1 k1 .byte (4 : Int32) [(.int (own_lo cx)), (.int v1), (.int v2), (.int v3)] (.int 0) := by have q1 : ((own_lo cx)).toInt8.toInt32 = (own_lo cx) := (own_bl _); have q0 := V109; have q2 : nar .byte (own_lo cx) = (own_lo cx) := q1; first | (rw [q1] at q0; exact q0) | (rw [q2] at q0; exact q0)
 refine Go.step (fun _ kt => XS.aloadN X108.here hx rfl (hb hby d20_44) rfl rfl (XS.iloadN X108.here hx rfl (hb hby d20_45) rfl (XS.iloadN X108.here hx rfl (hb hby d20_46) rfl kt))) ?_
 obtain ⟨T116, X116, e116, st116⟩ := getS2 X108 hx hZ hown (host := "") (Or.inl (w101 hw)) Via.refl e108 F112 (g := (mkF m 47 #[vR a1, vI 1, vI cx] [(.int cx), (.int 1), (.ref a1)])) rfl (hb hby d20_47)
 refine Go.step st116 ?_
 show Go p.tables e below _ (T116.setTop (mkF m 50 #[vR a1, vI 1, vI cx] [(.int 8), (.int cx), (.int 1), (.ref a1)]))
 refine Go.step (fun _ kt => XS.ishr X116.here hx rfl (hb hby d20_50) rfl (XS.i2b X116.here hx rfl (hb hby d20_51) rfl kt)) ?_
 show Go p.tables e below _ (T116.setTop (mkF m 52 #[vR a1, vI 1, vI cx] [(.int ((cx >>> ((8 : Int32) &&& 31)).toInt8.toInt32)), (.int 1), (.ref a1)]))
 have q117 : ((cx >>> ((8 : Int32) &&& 31)).toInt8.toInt32) = (own_by (cx >>> ((8 : Int32) &&& 31))) := rfl
 rw [q117]
 show Go p.tables e below _ (T116.setTop (mkF m 52 #[vR a1, vI 1, vI cx] [(.int (own_by (cx >>> ((8 : Int32) &&& 31)))), (.int 1), (.ref a1)]))
 have q118 : (own_by (cx >>> ((8 : Int32) &&& 31))) = (own_hi cx) := rfl
 rw [q118]
 obtain ⟨cl119, Ar119, qa119, Sa119, Na119, Ha119, Ga119⟩ := (id Vn115)
 have hin119 : ¬ ((1 : Int32) < 0 ∨ cl119.slots.size ≤ ((1 : Int32)).toNatClampNeg) := inb_of Sa119 ⟨by decide, by decide⟩
 obtain ⟨T119, h119, X119, e119, W119, st119⟩ := stB X116 hx hZ e116 Ar119 (j := (1 : Int32)) hin119 (g := (mkF m 52 #[vR a1, vI 1, vI cx] [(.int (own_hi cx)), (.int 1), (.ref a1)])) rfl rfl (hb hby d20_52)
 refine Go.step st119 ?_
 have V120 := Arv.set Ar119 qa119 Sa119 Na119 Ha119 Ga119 (fits_nar_byte _) W119 1 rfl (Nat.le_of_ble_eq_true rfl)
 have N119 := Fr.snoc X119 N108 g_a1
 have F121 := (F110.wr W119)
 have F122 := (F111.wr W119)
 have F123 := (F112.wr W119)
 have Z124 : n0 ≤ h119.size := (Nat.le_trans Z113 (Nat.le_of_eq W119.size.symm))
 have K125 : Keep h0 h119 [a1] := (K114.wr W119 (Or.inl (List.mem_of_getElem? (i := 0) rfl)))
 show Go p.tables e below _ (T119.setTop (mkF m 53 #[vR a1, vI 1, vI cx] []))
 have Vn126 : Arv Z h119 a1 k1 .byte (4 : Int32) [(.int (own_lo cx)), (.int (own_hi cx)), (.int v2), (.int v3)] (.int 0) := by have q1 : ((own_hi cx)).toInt8.toInt32 = (own_hi cx) := (own_bh _); have q0 := V120; have q2 : nar .byte (own_hi cx) = (own_hi cx) := q1; first | (rw [q1] at q0; exact q0) | (rw [q2] at q0; exact q0)
 obtain ⟨fs, hr, hrun, hended, hW, hsame⟩ := X119.leave (v := none) (fun _ => rfl)
 refine ⟨_, _, X119.returnOut hx Bd.returns (hb hby d20_53) hr, hrun, hended, _, _, rfl, ?_, ⟨_, rfl⟩, hW, hsame.mono (by decide) (by decide)⟩
 show Qrmpc2_0 Z a1 cx k1 v0 v1 v2 v3 h0 n0 _ T119.heap _
 rw [e119]
 refine ⟨?_, N119, K125, Vn126⟩
 rfl
theorem ef_rmpc2_1 (m : MethodId) (a1 : Addr) (cx : Int32) (k1 : ClassId) (v0 : Int32) (v1 : Int32) (v2 : Int32) (v3 : Int32) : entryFrame m #[(.ref a1), (.int 1), (.int cx)] 3 = mkF m 0 #[vR a1, vI 1, vI cx] [] := by first | (simp [entryFrame, mkF, argsToLocals, Value.category]; done) | rfl
def Qrmpc2_1 (Z : State) (a1 : Addr) (cx : Int32) (k1 : ClassId) (v0 : Int32) (v1 : Int32) (v2 : Int32) (v3 : Int32) (h0 : Heap) (n0 : Nat) (v : Option Value) (h : Heap) (L : List Loc) : Prop := v = none ∧ Fr n0 L ∧ Keep h0 h [a1] ∧ Arv Z h a1 k1 .byte (4 : Int32) [(.int v0), (.int v1), (.int (own_lo cx)), (.int (own_hi cx))] (.int 0)
set_option maxRecDepth 65536 in
set_option maxHeartbeats 40000000 in
theorem rmpc2_1 (l : Launch) (Z : State) (a0 : Array Value) (hw : ∀ d ∈ tables_1, d.before a0 Z = true) (ws : List Jvm.Cond) (a1 : Addr) (cx : Int32) (k1 : ClassId) (v0 : Int32) (v1 : Int32) (v2 : Int32) (v3 : Int32) (h0 : Heap) (n0 : Nat) (Z0 : n0 ≤ h0.size) (V1 : Arv Z h0 a1 k1 .byte (4 : Int32) [(.int v0), (.int v1), (.int v2), (.int v3)] (.int 0)) (S_ad : Sta Z h0 "java/lang/StringUTF16" "$assertionsDisabled" "Z" (.int 1)) (S_hi : Sta Z h0 "java/lang/StringUTF16" "HI_BYTE_SHIFT" "I" (.int 0)) (S_lo : Sta Z h0 "java/lang/StringUTF16" "LO_BYTE_SHIFT" "I" (.int 8)) (g_a1 : n0 ≤ a1) :
    MetFree l Y25 (head1 (Jvm.Cond.code Y25 jdk_52_method_4_code 3 none :: ws) Rm0) (fun a U => a = #[(.ref a1), (.int 1), (.int cx)] ∧ Z.Warmed39 U.vm ∧ U.heap = h0) (fun _ _ _ _ _ => True) (fun _ U o U' => ∃ v L, o = .returned v ∧ Qrmpc2_1 Z a1 cx k1 v0 v1 v2 v3 h0 n0 v U'.heap L ∧ FrameEnd U o U' L Rm0.cells Rm0.slots) := by
 refine MetFree.of_bodySF (plainFor_of_name pn_4) hisR ?_
 intro p e s m args below meth c s₁ Bd hml0 hP hK
 obtain ⟨rfl, hZ, hh⟩ := hP
 have hx := Bd.exec
 have hby := Bd.bytes
 have hml : c.maxLocals = 3 := hml0
 have hown : s.vm.findClass "java/lang/StringUTF16" = some m.cls := findClass_of_methodNamed Bd.named
 have hnm := (name_of_methodNamed Bd.named Bd.method).1
 have X0 : Stand p l e Rm0 s m #[(.ref a1), (.int 1), (.int cx)] below meth c s₁ [] 0 0 := Stand.of_body Bd
 have e0 : s₁.heap = h0 := by rw [← hh, Bd.state]; rfl
 have N0 := Fr.nil n0
 show Go p.tables e below (fun o U' => ∃ v L, o = .returned v ∧ Qrmpc2_1 Z a1 cx k1 v0 v1 v2 v3 h0 n0 v U'.heap L ∧ FrameEnd s o U' L Rm0.cells Rm0.slots) _
 refine Go.step (fun t kt => castTop (ef_rmpc2_1 m a1 cx k1 v0 v1 v2 v3) kt) ?_
 show Go p.tables e below _ (s₁.setTop (mkF m 0 #[vR a1, vI 1, vI cx] []))
 have K101 : Keep h0 h0 [a1] := (Keep.refl h0 [a1])
 obtain ⟨T102, X102, e102, st102⟩ := getS2 X0 hx hZ hown (host := "") (Or.inl (w99 hw)) Via.refl e0 S_ad (g := (mkF m 0 #[vR a1, vI 1, vI cx] [])) rfl (hb hby d20_0)
 refine Go.step st102 ?_
 show Go p.tables e below _ (T102.setTop (mkF m 3 #[vR a1, vI 1, vI cx] [(.int 1)]))
 refine Go.step (fun _ kt => XS.ifYes X102.here hx rfl (pc0 := 3) (pc' := 28) rfl (hb hby d20_3) rfl ((if0 _ _).trans (feq (by decide : ¬ ((1 : Int32) = (0 : Int32)))).2) (by decide) (by decide) (XS.iloadN X102.here hx rfl (hb hby d20_28) rfl (XS.iconst X102.here hx rfl (hb hby d20_29) (XS.ishl X102.here hx rfl (hb hby d20_30) rfl kt)))) ?_
 show Go p.tables e below _ (T102.setTop (mkF m 31 #[vR a1, vI 1, vI cx] [(.int ((1 : Int32) <<< ((1 : Int32) &&& 31)))]))
 have q103 : ((1 : Int32) <<< ((1 : Int32) &&& 31)) = (2 : Int32) := by decide
 rw [q103]
 show Go p.tables e below _ (T102.setTop (mkF m 31 #[vR a1, vI 1, vI cx] [(.int 2)]))
 refine Go.step (fun _ kt => XS.istoreN X102.here hx rfl (hb hby d20_31) rfl (l' := #[vR a1, vI 2, vI cx]) rfl (XS.aloadN X102.here hx rfl (hb hby d20_32) rfl rfl (XS.iloadN X102.here hx rfl (hb hby d20_33) rfl (XS.iinc X102.here hx rfl (hb hby d20_34) rfl (l' := #[vR a1, vI ((2 : Int32) + (1 : Int32)), vI cx]) rfl kt)))) ?_
 show Go p.tables e below _ (T102.setTop (mkF m 37 #[vR a1, vI ((2 : Int32) + (1 : Int32)), vI cx] [(.int 2), (.ref a1)]))
 have q104 : ((2 : Int32) + (1 : Int32)) = (3 : Int32) := by decide
 rw [q104]
 show Go p.tables e below _ (T102.setTop (mkF m 37 #[vR a1, vI 3, vI cx] [(.int 2), (.ref a1)]))
 refine Go.step (fun _ kt => XS.iloadN X102.here hx rfl (hb hby d20_37) rfl kt) ?_
 obtain ⟨T105, X105, e105, st105⟩ := getS2 X102 hx hZ hown (host := "") (Or.inl (w100 hw)) Via.refl e102 S_hi (g := (mkF m 38 #[vR a1, vI 3, vI cx] [(.int cx), (.int 2), (.ref a1)])) rfl (hb hby d20_38)
 refine Go.step st105 ?_
 show Go p.tables e below _ (T105.setTop (mkF m 41 #[vR a1, vI 3, vI cx] [(.int 0), (.int cx), (.int 2), (.ref a1)]))
 refine Go.step (fun _ kt => XS.ishr X105.here hx rfl (hb hby d20_41) rfl (XS.i2b X105.here hx rfl (hb hby d20_42) rfl kt)) ?_
 show Go p.tables e below _ (T105.setTop (mkF m 43 #[vR a1, vI 3, vI cx] [(.int ((cx >>> ((0 : Int32) &&& 31)).toInt8.toInt32)), (.int 2), (.ref a1)]))
 have q106 : ((cx >>> ((0 : Int32) &&& 31)).toInt8.toInt32) = (own_by (cx >>> ((0 : Int32) &&& 31))) := rfl
 rw [q106]
 show Go p.tables e below _ (T105.setTop (mkF m 43 #[vR a1, vI 3, vI cx] [(.int (own_by (cx >>> ((0 : Int32) &&& 31)))), (.int 2), (.ref a1)]))
 have q107 : (own_by (cx >>> ((0 : Int32) &&& 31))) = (own_lo cx) := rfl
 rw [q107]
 obtain ⟨cl108, Ar108, qa108, Sa108, Na108, Ha108, Ga108⟩ := (id V1)
 have hin108 : ¬ ((2 : Int32) < 0 ∨ cl108.slots.size ≤ ((2 : Int32)).toNatClampNeg) := inb_of Sa108 ⟨by decide, by decide⟩
 obtain ⟨T108, h108, X108, e108, W108, st108⟩ := stB X105 hx hZ e105 Ar108 (j := (2 : Int32)) hin108 (g := (mkF m 43 #[vR a1, vI 3, vI cx] [(.int (own_lo cx)), (.int 2), (.ref a1)])) rfl rfl (hb hby d20_43)
 refine Go.step st108 ?_
 have V109 := Arv.set Ar108 qa108 Sa108 Na108 Ha108 Ga108 (fits_nar_byte _) W108 2 rfl (Nat.le_of_ble_eq_true rfl)
 have N108 := Fr.snoc X108 N0 g_a1
 have F110 := (S_ad.wr W108)
 have F111 := (S_hi.wr W108)
 have F112 := (S_lo.wr W108)
 have Z113 : n0 ≤ h108.size := (Nat.le_trans Z0 (Nat.le_of_eq W108.size.symm))
 have K114 : Keep h0 h108 [a1] := (K101.wr W108 (Or.inl (List.mem_of_getElem? (i := 0) rfl)))
 show Go p.tables e below _ (T108.setTop (mkF m 44 #[vR a1, vI 3, vI cx] []))
 have Vn115 : Arv Z h108 a1 k1 .byte (4 : Int32) [(.int v0), (.int v1), (.int (own_lo cx)), (.int v3)] (.int 0) := by have q1 : ((own_lo cx)).toInt8.toInt32 = (own_lo cx) := (own_bl _); have q0 := V109; have q2 : nar .byte (own_lo cx) = (own_lo cx) := q1; first | (rw [q1] at q0; exact q0) | (rw [q2] at q0; exact q0)
 refine Go.step (fun _ kt => XS.aloadN X108.here hx rfl (hb hby d20_44) rfl rfl (XS.iloadN X108.here hx rfl (hb hby d20_45) rfl (XS.iloadN X108.here hx rfl (hb hby d20_46) rfl kt))) ?_
 obtain ⟨T116, X116, e116, st116⟩ := getS2 X108 hx hZ hown (host := "") (Or.inl (w101 hw)) Via.refl e108 F112 (g := (mkF m 47 #[vR a1, vI 3, vI cx] [(.int cx), (.int 3), (.ref a1)])) rfl (hb hby d20_47)
 refine Go.step st116 ?_
 show Go p.tables e below _ (T116.setTop (mkF m 50 #[vR a1, vI 3, vI cx] [(.int 8), (.int cx), (.int 3), (.ref a1)]))
 refine Go.step (fun _ kt => XS.ishr X116.here hx rfl (hb hby d20_50) rfl (XS.i2b X116.here hx rfl (hb hby d20_51) rfl kt)) ?_
 show Go p.tables e below _ (T116.setTop (mkF m 52 #[vR a1, vI 3, vI cx] [(.int ((cx >>> ((8 : Int32) &&& 31)).toInt8.toInt32)), (.int 3), (.ref a1)]))
 have q117 : ((cx >>> ((8 : Int32) &&& 31)).toInt8.toInt32) = (own_by (cx >>> ((8 : Int32) &&& 31))) := rfl
 rw [q117]
 show Go p.tables e below _ (T116.setTop (mkF m 52 #[vR a1, vI 3, vI cx] [(.int (own_by (cx >>> ((8 : Int32) &&& 31)))), (.int 3), (.ref a1)]))
 have q118 : (own_by (cx >>> ((8 : Int32) &&& 31))) = (own_hi cx) := rfl
 rw [q118]
 obtain ⟨cl119, Ar119, qa119, Sa119, Na119, Ha119, Ga119⟩ := (id Vn115)
 have hin119 : ¬ ((3 : Int32) < 0 ∨ cl119.slots.size ≤ ((3 : Int32)).toNatClampNeg) := inb_of Sa119 ⟨by decide, by decide⟩
 obtain ⟨T119, h119, X119, e119, W119, st119⟩ := stB X116 hx hZ e116 Ar119 (j := (3 : Int32)) hin119 (g := (mkF m 52 #[vR a1, vI 3, vI cx] [(.int (own_hi cx)), (.int 3), (.ref a1)])) rfl rfl (hb hby d20_52)
 refine Go.step st119 ?_
 have V120 := Arv.set Ar119 qa119 Sa119 Na119 Ha119 Ga119 (fits_nar_byte _) W119 3 rfl (Nat.le_of_ble_eq_true rfl)
 have N119 := Fr.snoc X119 N108 g_a1
 have F121 := (F110.wr W119)
 have F122 := (F111.wr W119)
 have F123 := (F112.wr W119)
 have Z124 : n0 ≤ h119.size := (Nat.le_trans Z113 (Nat.le_of_eq W119.size.symm))
 have K125 : Keep h0 h119 [a1] := (K114.wr W119 (Or.inl (List.mem_of_getElem? (i := 0) rfl)))
 show Go p.tables e below _ (T119.setTop (mkF m 53 #[vR a1, vI 3, vI cx] []))
 have Vn126 : Arv Z h119 a1 k1 .byte (4 : Int32) [(.int v0), (.int v1), (.int (own_lo cx)), (.int (own_hi cx))] (.int 0) := by have q1 : ((own_hi cx)).toInt8.toInt32 = (own_hi cx) := (own_bh _); have q0 := V120; have q2 : nar .byte (own_hi cx) = (own_hi cx) := q1; first | (rw [q1] at q0; exact q0) | (rw [q2] at q0; exact q0)
 obtain ⟨fs, hr, hrun, hended, hW, hsame⟩ := X119.leave (v := none) (fun _ => rfl)
 refine ⟨_, _, X119.returnOut hx Bd.returns (hb hby d20_53) hr, hrun, hended, _, _, rfl, ?_, ⟨_, rfl⟩, hW, hsame.mono (by decide) (by decide)⟩
 show Qrmpc2_1 Z a1 cx k1 v0 v1 v2 v3 h0 n0 _ T119.heap _
 rw [e119]
 refine ⟨?_, N119, K125, Vn126⟩
 rfl
theorem ef_rmtb2 (m : MethodId) (a1 : Addr) (k1 : ClassId) (c0 : Int32) (c1 : Int32) : entryFrame m #[(.ref a1), (.int 0), (.int 2)] 5 = mkF m 0 #[vR a1, vI 0, vI 2, uS, uS] [] := by first | (simp [entryFrame, mkF, argsToLocals, Value.category]; done) | rfl
def Qrmtb2 (Z : State) (a1 : Addr) (k1 : ClassId) (c0 : Int32) (c1 : Int32) (h0 : Heap) (n0 : Nat) (v : Option Value) (h : Heap) (L : List Loc) : Prop := ∃ r : Addr, ∃ kr : ClassId, v = some (.ref r) ∧ Fr n0 L ∧ Keep h0 h [] ∧ Exa Z h r "[B" ∧ Arv Z h r kr .byte (4 : Int32) [(.int (own_lo c0)), (.int (own_hi c0)), (.int (own_lo c1)), (.int (own_hi c1))] (.int 0) ∧ n0 ≤ r ∧ h0.size ≤ r
set_option maxRecDepth 65536 in
set_option maxHeartbeats 40000000 in
theorem rmtb2 (l : Launch) (Z : State) (a0 : Array Value) (hw : ∀ d ∈ tables_1, d.before a0 Z = true) (ws : List Jvm.Cond) (a1 : Addr) (k1 : ClassId) (c0 : Int32) (c1 : Int32) (h0 : Heap) (n0 : Nat) (Z0 : n0 ≤ h0.size) (V1 : Arv Z h0 a1 k1 .char (2 : Int32) [(.int c0), (.int c1)] (.int 0)) (S_ad : Sta Z h0 "java/lang/StringUTF16" "$assertionsDisabled" "Z" (.int 1)) (S_hi : Sta Z h0 "java/lang/StringUTF16" "HI_BYTE_SHIFT" "I" (.int 0)) (S_lo : Sta Z h0 "java/lang/StringUTF16" "LO_BYTE_SHIFT" "I" (.int 8)) :
    MetFree l Y26 (head1 (Jvm.Cond.code Y26 jdk_52_method_14_code 5 (some (.array .byte)) :: ws) Rm19) (fun a U => a = #[(.ref a1), (.int 0), (.int 2)] ∧ Z.Warmed39 U.vm ∧ U.heap = h0) (fun _ _ _ _ _ => True) (fun _ U o U' => ∃ v L, o = .returned v ∧ Qrmtb2 Z a1 k1 c0 c1 h0 n0 v U'.heap L ∧ FrameEnd U o U' L Rm19.cells Rm19.slots) := by
 refine MetFree.of_bodySF (plainFor_of_name pn_4) hisR ?_
 intro p e s m args below meth c s₁ Bd hml0 hP hK
 obtain ⟨rfl, hZ, hh⟩ := hP
 have hx := Bd.exec
 have hby := Bd.bytes
 have hml : c.maxLocals = 5 := hml0
 have hown : s.vm.findClass "java/lang/StringUTF16" = some m.cls := findClass_of_methodNamed Bd.named
 have hnm := (name_of_methodNamed Bd.named Bd.method).1
 have X0 : Stand p l e Rm19 s m #[(.ref a1), (.int 0), (.int 2)] below meth c s₁ [] 0 0 := Stand.of_body Bd
 have e0 : s₁.heap = h0 := by rw [← hh, Bd.state]; rfl
 have N0 := Fr.nil n0
 show Go p.tables e below (fun o U' => ∃ v L, o = .returned v ∧ Qrmtb2 Z a1 k1 c0 c1 h0 n0 v U'.heap L ∧ FrameEnd s o U' L Rm19.cells Rm19.slots) _
 refine Go.step (fun t kt => castTop (ef_rmtb2 m a1 k1 c0 c1) kt) ?_
 show Go p.tables e below _ (s₁.setTop (mkF m 0 #[vR a1, vI 0, vI 2, uS, uS] []))
 have K101 : Keep h0 h0 [] := (Keep.refl h0 [])
 refine Go.step (fun _ kt => XS.iloadN X0.here hx rfl (hb hby d17_0) rfl kt) ?_
 obtain ⟨_, _, ⟨T102, L102, k102, n102⟩, -, X102, ⟨Lc102, hQ102, l102, y102, z102⟩, st102⟩ := Jvm.LawKit.callS X0 hx (y := Y11) hown (mvT hZ (w89 hw)) (mvT hZ (w90 hw)) (mvT hZ (w18 hw)) (mvT hZ (w91 hw)) (by decide) (backOf (W := 0) (rmnf2_V l Z a0 hw []   h0 n0 Z0  ) hZ (w91 hw) (w18 hw) (by decide) (by decide)) (g := (mkF m 1 #[vR a1, vI 0, vI 2, uS, uS] [(.int 2)])) rfl hml.symm (argsL := [(.int 2)]) (rest := []) (lenOf pd_4 rfl) rfl (Nat.le_of_eq rfl) (hb hby d17_1) (fun _ _ => ⟨rfl, e0, (by decide : 0 + 1 ≤ _), (by decide : 0 + 4 ≤ _)⟩)
 dsimp only [Pt.U, Pt.locs, Pt.cells, Pt.slots] at X102 l102 y102 z102 st102 hQ102
 subst l102 y102 z102
 obtain ⟨b102r, b102kr, rfl, N102q, Kq102, P103, P104, g_b102r, szq_b102r⟩ := hQ102
 have ne_a1_b102r : a1 ≠ b102r := Nat.ne_of_lt (Nat.lt_of_lt_of_le V1.lt szq_b102r)
 have sz_b102r : h0.size ≤ b102r := Nat.le_trans K101.1 szq_b102r
 have F105 := (V1.keep Kq102 (by simp))
 have F106 := (own_sta_keep0 S_ad Kq102)
 have F107 := (own_sta_keep0 S_hi Kq102)
 have F108 := (own_sta_keep0 S_lo Kq102)
 have Z109 : n0 ≤ T102.heap.size := (Nat.le_trans Z0 Kq102.1)
 have K110 : Keep h0 T102.heap [] := (K101.trans Kq102 (by intro x hx; cases hx))
 have N102 := Fr.app N0 N102q
 refine Go.step st102 ?_
 show Go p.tables e below _ (T102.setTop (mkF m 4 #[vR a1, vI 0, vI 2, uS, uS] [(.ref b102r)]))
 refine Go.step (fun _ kt => XS.astoreN X102.here hx rfl (hb hby d17_4) rfl rfl (l' := #[vR a1, vI 0, vI 2, vR b102r, uS]) rfl (XS.iconst X102.here hx rfl (hb hby d17_5) (XS.istore X102.here hx rfl (hb hby d17_6) rfl (l' := #[vR a1, vI 0, vI 2, vR b102r, vI 0]) rfl (XS.iload X102.here hx rfl (hb hby d17_8) rfl (XS.iloadN X102.here hx rfl (hb hby d17_10) rfl (XS.icmpNo X102.here hx rfl (hb hby d17_11) rfl (tlt (by decide : (0 : Int32) < (2 : Int32))).2.1 (XS.aloadN X102.here hx rfl (hb hby d17_14) rfl rfl (XS.iload X102.here hx rfl (hb hby d17_15) rfl (XS.aloadN X102.here hx rfl (hb hby d17_17) rfl rfl (XS.iloadN X102.here hx rfl (hb hby d17_18) rfl kt)))))))))) ?_
 show Go p.tables e below _ (T102.setTop (mkF m 19 #[vR a1, vI 0, vI 2, vR b102r, vI 0] [(.int 0), (.ref a1), (.int 0), (.ref b102r)]))
 obtain ⟨cl111, Ar111, qa111, Sa111, Na111, Ha111, Ga111⟩ := (id F105)
 have hin111 : ¬ ((0 : Int32) < 0 ∨ cl111.slots.size ≤ ((0 : Int32)).toNatClampNeg) := inb_of Sa111 ⟨by decide, by decide⟩
 have hat111 : cl111.slots[((0 : Int32)).toNatClampNeg]? = some (.int c0) := at_of Ha111 hin111 rfl
 refine Go.step (X102.caload hx (j := (0 : Int32)) (v := (.int c0)) Ar111.1 (State.isArrayOf_alike hZ.alike Ar111.2.1) Ar111.2.2 hin111 hat111 (g := (mkF m 19 #[vR a1, vI 0, vI 2, vR b102r, vI 0] [(.int 0), (.ref a1), (.int 0), (.ref b102r)])) rfl rfl (hb hby d17_19)) ?_
 obtain ⟨_, _, ⟨T112, L112, k112, n112⟩, -, X112, ⟨Lc112, hQ112, l112, y112, z112⟩, st112⟩ := Jvm.LawKit.callS X102 hx (y := Y25) hown (mvT hZ (w96 hw)) (mvT hZ (w97 hw)) (mvT hZ (w18 hw)) (mvT hZ (w98 hw)) (by decide) (backOf (W := 0) (rmpc2_0 l Z a0 hw [] b102r c0 b102kr (0 : Int32) (0 : Int32) (0 : Int32) (0 : Int32) T102.heap n0 Z109 P104 F106 F107 F108 g_b102r) hZ (w98 hw) (w18 hw) (by decide) (by decide)) (g := (mkF m 20 #[vR a1, vI 0, vI 2, vR b102r, vI 0] [(.int c0), (.int 0), (.ref b102r)])) rfl hml.symm (argsL := [(.ref b102r), (.int 0), (.int c0)]) (rest := []) (lenOf pd_19 rfl) rfl (Nat.le_of_eq rfl) (hb hby d17_20) (fun _ _ => ⟨rfl, rfl, (by decide : 1 + 0 ≤ _), (by decide : 4 + 0 ≤ _)⟩)
 dsimp only [Pt.U, Pt.locs, Pt.cells, Pt.slots] at X112 l112 y112 z112 st112 hQ112
 subst l112 y112 z112
 obtain ⟨rfl, N112q, Kq112, P113⟩ := hQ112
 have F114 := (F105.keep Kq112 (fun q => ne_a1_b102r (List.mem_singleton.mp q)))
 have F115 := (own_sta_keep F106 P103 Kq112)
 have F116 := (own_sta_keep F107 P103 Kq112)
 have F117 := (own_sta_keep F108 P103 Kq112)
 have F118 := (P103.keep Kq112)
 have Z119 : n0 ≤ T112.heap.size := (Nat.le_trans Z109 Kq112.1)
 have K120 : Keep h0 T112.heap [] := (K110.trans Kq112 (by intro x hx; cases List.mem_singleton.mp hx; exact (Or.inr sz_b102r)))
 have N112 := Fr.app N102 N112q
 refine Go.step st112 ?_
 show Go p.tables e below _ (T112.setTop (mkF m 23 #[vR a1, vI 0, vI 2, vR b102r, vI 0] []))
 refine Go.step (fun _ kt => XS.iinc X112.here hx rfl (hb hby d17_23) rfl (l' := #[vR a1, vI ((0 : Int32) + (1 : Int32)), vI 2, vR b102r, vI 0]) rfl kt) ?_
 show Go p.tables e below _ (T112.setTop (mkF m 26 #[vR a1, vI ((0 : Int32) + (1 : Int32)), vI 2, vR b102r, vI 0] []))
 have q121 : ((0 : Int32) + (1 : Int32)) = (1 : Int32) := by decide
 rw [q121]
 show Go p.tables e below _ (T112.setTop (mkF m 26 #[vR a1, vI 1, vI 2, vR b102r, vI 0] []))
 refine Go.step (fun _ kt => XS.iinc X112.here hx rfl (hb hby d17_26) rfl (l' := #[vR a1, vI 1, vI 2, vR b102r, vI ((0 : Int32) + (1 : Int32))]) rfl kt) ?_
 show Go p.tables e below _ (T112.setTop (mkF m 29 #[vR a1, vI 1, vI 2, vR b102r, vI ((0 : Int32) + (1 : Int32))] []))
 have q122 : ((0 : Int32) + (1 : Int32)) = (1 : Int32) := by decide
 rw [q122]
 show Go p.tables e below _ (T112.setTop (mkF m 29 #[vR a1, vI 1, vI 2, vR b102r, vI 1] []))
 refine Go.step (fun _ kt => XS.goto X112.here hx rfl (pc0 := 29) (pc' := 8) rfl (hb hby d17_29) (by decide) (by decide) (XS.iload X112.here hx rfl (hb hby d17_8) rfl (XS.iloadN X112.here hx rfl (hb hby d17_10) rfl (XS.icmpNo X112.here hx rfl (hb hby d17_11) rfl (tlt (by decide : (1 : Int32) < (2 : Int32))).2.1 (XS.aloadN X112.here hx rfl (hb hby d17_14) rfl rfl (XS.iload X112.here hx rfl (hb hby d17_15) rfl (XS.aloadN X112.here hx rfl (hb hby d17_17) rfl rfl (XS.iloadN X112.here hx rfl (hb hby d17_18) rfl kt)))))))) ?_
 show Go p.tables e below _ (T112.setTop (mkF m 19 #[vR a1, vI 1, vI 2, vR b102r, vI 1] [(.int 1), (.ref a1), (.int 1), (.ref b102r)]))
 obtain ⟨cl123, Ar123, qa123, Sa123, Na123, Ha123, Ga123⟩ := (id F114)
 have hin123 : ¬ ((1 : Int32) < 0 ∨ cl123.slots.size ≤ ((1 : Int32)).toNatClampNeg) := inb_of Sa123 ⟨by decide, by decide⟩
 have hat123 : cl123.slots[((1 : Int32)).toNatClampNeg]? = some (.int c1) := at_of Ha123 hin123 rfl
 refine Go.step (X112.caload hx (j := (1 : Int32)) (v := (.int c1)) Ar123.1 (State.isArrayOf_alike hZ.alike Ar123.2.1) Ar123.2.2 hin123 hat123 (g := (mkF m 19 #[vR a1, vI 1, vI 2, vR b102r, vI 1] [(.int 1), (.ref a1), (.int 1), (.ref b102r)])) rfl rfl (hb hby d17_19)) ?_
 obtain ⟨_, _, ⟨T124, L124, k124, n124⟩, -, X124, ⟨Lc124, hQ124, l124, y124, z124⟩, st124⟩ := Jvm.LawKit.callS X112 hx (y := Y25) hown (mvT hZ (w96 hw)) (mvT hZ (w97 hw)) (mvT hZ (w18 hw)) (mvT hZ (w98 hw)) (by decide) (backOf (W := 0) (rmpc2_1 l Z a0 hw [] b102r c1 b102kr (own_lo c0) (own_hi c0) (0 : Int32) (0 : Int32) T112.heap n0 Z119 P113 F115 F116 F117 g_b102r) hZ (w98 hw) (w18 hw) (by decide) (by decide)) (g := (mkF m 20 #[vR a1, vI 1, vI 2, vR b102r, vI 1] [(.int c1), (.int 1), (.ref b102r)])) rfl hml.symm (argsL := [(.ref b102r), (.int 1), (.int c1)]) (rest := []) (lenOf pd_19 rfl) rfl (Nat.le_of_eq rfl) (hb hby d17_20) (fun _ _ => ⟨rfl, rfl, (by decide : 1 + 0 ≤ _), (by decide : 4 + 0 ≤ _)⟩)
 dsimp only [Pt.U, Pt.locs, Pt.cells, Pt.slots] at X124 l124 y124 z124 st124 hQ124
 subst l124 y124 z124
 obtain ⟨rfl, N124q, Kq124, P125⟩ := hQ124
 have F126 := (F114.keep Kq124 (fun q => ne_a1_b102r (List.mem_singleton.mp q)))
 have F127 := (own_sta_keep F115 F118 Kq124)
 have F128 := (own_sta_keep F116 F118 Kq124)
 have F129 := (own_sta_keep F117 F118 Kq124)
 have F130 := (F118.keep Kq124)
 have Z131 : n0 ≤ T124.heap.size := (Nat.le_trans Z119 Kq124.1)
 have K132 : Keep h0 T124.heap [] := (K120.trans Kq124 (by intro x hx; cases List.mem_singleton.mp hx; exact (Or.inr sz_b102r)))
 have N124 := Fr.app N112 N124q
 refine Go.step st124 ?_
 show Go p.tables e below _ (T124.setTop (mkF m 23 #[vR a1, vI 1, vI 2, vR b102r, vI 1] []))
 refine Go.step (fun _ kt => XS.iinc X124.here hx rfl (hb hby d17_23) rfl (l' := #[vR a1, vI ((1 : Int32) + (1 : Int32)), vI 2, vR b102r, vI 1]) rfl kt) ?_
 show Go p.tables e below _ (T124.setTop (mkF m 26 #[vR a1, vI ((1 : Int32) + (1 : Int32)), vI 2, vR b102r, vI 1] []))
 have q133 : ((1 : Int32) + (1 : Int32)) = (2 : Int32) := by decide
 rw [q133]
 show Go p.tables e below _ (T124.setTop (mkF m 26 #[vR a1, vI 2, vI 2, vR b102r, vI 1] []))
 refine Go.step (fun _ kt => XS.iinc X124.here hx rfl (hb hby d17_26) rfl (l' := #[vR a1, vI 2, vI 2, vR b102r, vI ((1 : Int32) + (1 : Int32))]) rfl kt) ?_
 show Go p.tables e below _ (T124.setTop (mkF m 29 #[vR a1, vI 2, vI 2, vR b102r, vI ((1 : Int32) + (1 : Int32))] []))
 have q134 : ((1 : Int32) + (1 : Int32)) = (2 : Int32) := by decide
 rw [q134]
 show Go p.tables e below _ (T124.setTop (mkF m 29 #[vR a1, vI 2, vI 2, vR b102r, vI 2] []))
 refine Go.step (fun _ kt => XS.goto X124.here hx rfl (pc0 := 29) (pc' := 8) rfl (hb hby d17_29) (by decide) (by decide) (XS.iload X124.here hx rfl (hb hby d17_8) rfl (XS.iloadN X124.here hx rfl (hb hby d17_10) rfl (XS.icmpYes X124.here hx rfl (pc0 := 11) (pc' := 32) rfl (hb hby d17_11) rfl (flt (by decide : ¬ ((2 : Int32) < (2 : Int32)))).2.1 (by decide) (by decide) (XS.aloadN X124.here hx rfl (hb hby d17_32) rfl rfl kt))))) ?_
 show Go p.tables e below _ (T124.setTop (mkF m 33 #[vR a1, vI 2, vI 2, vR b102r, vI 2] [(.ref b102r)]))
 obtain ⟨fs, hr, hrun, hended, hW, hsame⟩ := X124.leave (v := some (.ref b102r)) (fun h => by rw [Bd.returns] at h; cases h)
 refine ⟨_, _, retOut X124 hx Bd.returns rfl (Or.inr (Or.inr (Or.inr (Or.inr ⟨rfl, rfl, rfl⟩)))) (hb hby d17_33) hr, hrun, hended, _, _, rfl, ?_, ⟨_, rfl⟩, hW, hsame.mono (by decide) (by decide)⟩
 show Qrmtb2 Z a1 k1 c0 c1 h0 n0 _ T124.heap _
 refine ⟨b102r, b102kr, ?_, N124, K132, F130, P125, g_b102r, sz_b102r⟩
 rfl
theorem ef_rmkl2_F1 (m : MethodId) (a1 : Addr) (a2 : Addr) (k1 : ClassId) (k2 : ClassId) (c0 : Int32) (c1 : Int32) : entryFrame m #[(.ref a1), (.int 0), (.ref a2), (.int 0), (.int 2)] 7 = mkF m 0 #[vR a1, vI 0, vR a2, vI 0, vI 2, uS, uS] [] := by first | (simp [entryFrame, mkF, argsToLocals, Value.category]; done) | rfl
def Qrmkl2_F1 (Z : State) (a1 : Addr) (a2 : Addr) (k1 : ClassId) (k2 : ClassId) (c0 : Int32) (c1 : Int32) (h0 : Heap) (n0 : Nat) (v : Option Value) (h : Heap) (L : List Loc) : Prop := v = some (.int 1) ∧ Fr n0 L ∧ Keep h0 h [a2]
set_option maxRecDepth 65536 in
set_option maxHeartbeats 40000000 in
theorem rmkl2_F1 (l : Launch) (Z : State) (a0 : Array Value) (hw : ∀ d ∈ tables_1, d.before a0 Z = true) (ws : List Jvm.Cond) (a1 : Addr) (a2 : Addr) (k1 : ClassId) (k2 : ClassId) (c0 : Int32) (c1 : Int32) (h0 : Heap) (n0 : Nat) (Z0 : n0 ≤ h0.size) (V1 : Arv Z h0 a1 k1 .char (2 : Int32) [(.int c0), (.int c1)] (.int 0)) (V2 : Arv Z h0 a2 k2 .byte (2 : Int32) [(.int 0), (.int 0)] (.int 0)) (g_a2 : n0 ≤ a2) (ne12 : a1 ≠ a2) (hb0 : own_L c0) (hU1 : (255 : Int32) < c1) :
    MetFree l Y24 (head1 (Jvm.Cond.code Y24 jdk_52_method_21_code 7 (some .int) :: ws) Rm0) (fun a U => a = #[(.ref a1), (.int 0), (.ref a2), (.int 0), (.int 2)] ∧ Z.Warmed39 U.vm ∧ U.heap = h0) (fun _ _ _ _ _ => True) (fun _ U o U' => ∃ v L, o = .returned v ∧ Qrmkl2_F1 Z a1 a2 k1 k2 c0 c1 h0 n0 v U'.heap L ∧ FrameEnd U o U' L Rm0.cells Rm0.slots) := by
 refine MetFree.of_bodySF (plainFor_of_name pn_4) hisR ?_
 intro p e s m args below meth c s₁ Bd hml0 hP hK
 obtain ⟨rfl, hZ, hh⟩ := hP
 have hx := Bd.exec
 have hby := Bd.bytes
 have hml : c.maxLocals = 7 := hml0
 have hown : s.vm.findClass "java/lang/StringUTF16" = some m.cls := findClass_of_methodNamed Bd.named
 have hnm := (name_of_methodNamed Bd.named Bd.method).1
 have X0 : Stand p l e Rm0 s m #[(.ref a1), (.int 0), (.ref a2), (.int 0), (.int 2)] below meth c s₁ [] 0 0 := Stand.of_body Bd
 have e0 : s₁.heap = h0 := by rw [← hh, Bd.state]; rfl
 have N0 := Fr.nil n0
 show Go p.tables e below (fun o U' => ∃ v L, o = .returned v ∧ Qrmkl2_F1 Z a1 a2 k1 k2 c0 c1 h0 n0 v U'.heap L ∧ FrameEnd s o U' L Rm0.cells Rm0.slots) _
 refine Go.step (fun t kt => castTop (ef_rmkl2_F1 m a1 a2 k1 k2 c0 c1) kt) ?_
 show Go p.tables e below _ (s₁.setTop (mkF m 0 #[vR a1, vI 0, vR a2, vI 0, vI 2, uS, uS] []))
 have K101 : Keep h0 h0 [a2] := (Keep.refl h0 [a2])
 refine Go.step (fun _ kt => XS.iconst X0.here hx rfl (hb hby d5_0) (XS.istore X0.here hx rfl (hb hby d5_1) rfl (l' := #[vR a1, vI 0, vR a2, vI 0, vI 2, vI 0, uS]) rfl (XS.iload X0.here hx rfl (hb hby d5_3) rfl (XS.iload X0.here hx rfl (hb hby d5_5) rfl (XS.icmpNo X0.here hx rfl (hb hby d5_7) rfl (tlt (by decide : (0 : Int32) < (2 : Int32))).2.1 (XS.aloadN X0.here hx rfl (hb hby d5_10) rfl rfl (XS.iloadN X0.here hx rfl (hb hby d5_11) rfl kt))))))) ?_
 show Go p.tables e below _ (s₁.setTop (mkF m 12 #[vR a1, vI 0, vR a2, vI 0, vI 2, vI 0, uS] [(.int 0), (.ref a1)]))
 obtain ⟨cl102, Ar102, qa102, Sa102, Na102, Ha102, Ga102⟩ := (id V1)
 have hin102 : ¬ ((0 : Int32) < 0 ∨ cl102.slots.size ≤ ((0 : Int32)).toNatClampNeg) := inb_of Sa102 ⟨by decide, by decide⟩
 have hat102 : cl102.slots[((0 : Int32)).toNatClampNeg]? = some (.int c0) := at_of Ha102 hin102 rfl
 refine Go.step (X0.caload hx (j := (0 : Int32)) (v := (.int c0)) (by rw [e0]; exact Ar102.1) (State.isArrayOf_alike hZ.alike Ar102.2.1) Ar102.2.2 hin102 hat102 (g := (mkF m 12 #[vR a1, vI 0, vR a2, vI 0, vI 2, vI 0, uS] [(.int 0), (.ref a1)])) rfl rfl (hb hby d5_12)) ?_
 show Go p.tables e below _ (s₁.setTop (mkF m 13 #[vR a1, vI 0, vR a2, vI 0, vI 2, vI 0, uS] [(.int c0)]))
 refine Go.step (fun _ kt => XS.istore X0.here hx rfl (hb hby d5_13) rfl (l' := #[vR a1, vI 0, vR a2, vI 0, vI 2, vI 0, vI c0]) rfl (XS.iload X0.here hx rfl (hb hby d5_15) rfl (XS.sipush X0.here hx rfl (hb hby d5_17) (XS.icmpYes X0.here hx rfl (pc0 := 20) (pc' := 26) rfl (hb hby d5_20) rfl (flt hb0.2).2.2.2 (by decide) (by decide) (XS.aloadN X0.here hx rfl (hb hby d5_26) rfl rfl (XS.iloadN X0.here hx rfl (hb hby d5_27) rfl (XS.iload X0.here hx rfl (hb hby d5_28) rfl (XS.i2b X0.here hx rfl (hb hby d5_30) rfl kt)))))))) ?_
 show Go p.tables e below _ (s₁.setTop (mkF m 31 #[vR a1, vI 0, vR a2, vI 0, vI 2, vI 0, vI c0] [(.int (c0.toInt8.toInt32)), (.int 0), (.ref a2)]))
 have q103 : (c0.toInt8.toInt32) = (own_by c0) := rfl
 rw [q103]
 obtain ⟨cl104, Ar104, qa104, Sa104, Na104, Ha104, Ga104⟩ := (id V2)
 have hin104 : ¬ ((0 : Int32) < 0 ∨ cl104.slots.size ≤ ((0 : Int32)).toNatClampNeg) := inb_of Sa104 ⟨by decide, by decide⟩
 obtain ⟨T104, h104, X104, e104, W104, st104⟩ := stB X0 hx hZ e0 Ar104 (j := (0 : Int32)) hin104 (g := (mkF m 31 #[vR a1, vI 0, vR a2, vI 0, vI 2, vI 0, vI c0] [(.int (own_by c0)), (.int 0), (.ref a2)])) rfl rfl (hb hby d5_31)
 refine Go.step st104 ?_
 have V105 := Arv.set Ar104 qa104 Sa104 Na104 Ha104 Ga104 (fits_nar_byte _) W104 0 rfl (Nat.le_of_ble_eq_true rfl)
 have N104 := Fr.snoc X104 N0 g_a2
 have F106 := (V1.other W104 ne12)
 have Z107 : n0 ≤ h104.size := (Nat.le_trans Z0 (Nat.le_of_eq W104.size.symm))
 have K108 : Keep h0 h104 [a2] := (K101.wr W104 (Or.inl (List.mem_of_getElem? (i := 0) rfl)))
 show Go p.tables e below _ (T104.setTop (mkF m 32 #[vR a1, vI 0, vR a2, vI 0, vI 2, vI 0, vI c0] []))
 have Vn109 : Arv Z h104 a2 k2 .byte (2 : Int32) [(.int (own_by c0)), (.int 0)] (.int 0) := by have q1 : ((own_by c0)).toInt8.toInt32 = (own_by c0) := (own_bb _); have q0 := V105; have q2 : nar .byte (own_by c0) = (own_by c0) := q1; first | (rw [q1] at q0; exact q0) | (rw [q2] at q0; exact q0)
 refine Go.step (fun _ kt => XS.iinc X104.here hx rfl (hb hby d5_32) rfl (l' := #[vR a1, vI ((0 : Int32) + (1 : Int32)), vR a2, vI 0, vI 2, vI 0, vI c0]) rfl kt) ?_
 show Go p.tables e below _ (T104.setTop (mkF m 35 #[vR a1, vI ((0 : Int32) + (1 : Int32)), vR a2, vI 0, vI 2, vI 0, vI c0] []))
 have q110 : ((0 : Int32) + (1 : Int32)) = (1 : Int32) := by decide
 rw [q110]
 show Go p.tables e below _ (T104.setTop (mkF m 35 #[vR a1, vI 1, vR a2, vI 0, vI 2, vI 0, vI c0] []))
 refine Go.step (fun _ kt => XS.iinc X104.here hx rfl (hb hby d5_35) rfl (l' := #[vR a1, vI 1, vR a2, vI ((0 : Int32) + (1 : Int32)), vI 2, vI 0, vI c0]) rfl kt) ?_
 show Go p.tables e below _ (T104.setTop (mkF m 38 #[vR a1, vI 1, vR a2, vI ((0 : Int32) + (1 : Int32)), vI 2, vI 0, vI c0] []))
 have q111 : ((0 : Int32) + (1 : Int32)) = (1 : Int32) := by decide
 rw [q111]
 show Go p.tables e below _ (T104.setTop (mkF m 38 #[vR a1, vI 1, vR a2, vI 1, vI 2, vI 0, vI c0] []))
 refine Go.step (fun _ kt => XS.iinc X104.here hx rfl (hb hby d5_38) rfl (l' := #[vR a1, vI 1, vR a2, vI 1, vI 2, vI ((0 : Int32) + (1 : Int32)), vI c0]) rfl kt) ?_
 show Go p.tables e below _ (T104.setTop (mkF m 41 #[vR a1, vI 1, vR a2, vI 1, vI 2, vI ((0 : Int32) + (1 : Int32)), vI c0] []))
 have q112 : ((0 : Int32) + (1 : Int32)) = (1 : Int32) := by decide
 rw [q112]
 show Go p.tables e below _ (T104.setTop (mkF m 41 #[vR a1, vI 1, vR a2, vI 1, vI 2, vI 1, vI c0] []))
 refine Go.step (fun _ kt => XS.goto X104.here hx rfl (pc0 := 41) (pc' := 3) rfl (hb hby d5_41) (by decide) (by decide) (XS.iload X104.here hx rfl (hb hby d5_3) rfl (XS.iload X104.here hx rfl (hb hby d5_5) rfl (XS.icmpNo X104.here hx rfl (hb hby d5_7) rfl (tlt (by decide : (1 : Int32) < (2 : Int32))).2.1 (XS.aloadN X104.here hx rfl (hb hby d5_10) rfl rfl (XS.iloadN X104.here hx rfl (hb hby d5_11) rfl kt)))))) ?_
 show Go p.tables e below _ (T104.setTop (mkF m 12 #[vR a1, vI 1, vR a2, vI 1, vI 2, vI 1, vI c0] [(.int 1), (.ref a1)]))
 obtain ⟨cl113, Ar113, qa113, Sa113, Na113, Ha113, Ga113⟩ := (id F106)
 have hin113 : ¬ ((1 : Int32) < 0 ∨ cl113.slots.size ≤ ((1 : Int32)).toNatClampNeg) := inb_of Sa113 ⟨by decide, by decide⟩
 have hat113 : cl113.slots[((1 : Int32)).toNatClampNeg]? = some (.int c1) := at_of Ha113 hin113 rfl
 refine Go.step (X104.caload hx (j := (1 : Int32)) (v := (.int c1)) (by rw [e104]; exact Ar113.1) (State.isArrayOf_alike hZ.alike Ar113.2.1) Ar113.2.2 hin113 hat113 (g := (mkF m 12 #[vR a1, vI 1, vR a2, vI 1, vI 2, vI 1, vI c0] [(.int 1), (.ref a1)])) rfl rfl (hb hby d5_12)) ?_
 show Go p.tables e below _ (T104.setTop (mkF m 13 #[vR a1, vI 1, vR a2, vI 1, vI 2, vI 1, vI c0] [(.int c1)]))
 refine Go.step (fun _ kt => XS.istore X104.here hx rfl (hb hby d5_13) rfl (l' := #[vR a1, vI 1, vR a2, vI 1, vI 2, vI 1, vI c1]) rfl (XS.iload X104.here hx rfl (hb hby d5_15) rfl (XS.sipush X104.here hx rfl (hb hby d5_17) (XS.icmpNo X104.here hx rfl (hb hby d5_20) rfl (tlt hU1).2.2.2 (XS.iload X104.here hx rfl (hb hby d5_23) rfl kt))))) ?_
 show Go p.tables e below _ (T104.setTop (mkF m 25 #[vR a1, vI 1, vR a2, vI 1, vI 2, vI 1, vI c1] [(.int 1)]))
 obtain ⟨fs, hr, hrun, hended, hW, hsame⟩ := X104.leave (v := some (.int 1)) (fun h => by rw [Bd.returns] at h; cases h)
 refine ⟨_, _, retI X104 hx Bd.returns (hb hby d5_25) hr, hrun, hended, _, _, rfl, ?_, ⟨_, rfl⟩, hW, hsame.mono (by decide) (by decide)⟩
 show Qrmkl2_F1 Z a1 a2 k1 k2 c0 c1 h0 n0 _ T104.heap _
 rw [e104]
 refine ⟨?_, N104, K108⟩
 rfl
theorem ef_rmk2_U (m : MethodId) (a1 : Addr) (k1 : ClassId) (c0 : Int32) (c1 : Int32) : entryFrame m #[(.ref a1), (.int 0), (.int 2)] 6 = mkF m 0 #[vR a1, vI 0, vI 2, uS, uS, uS] [] := by first | (simp [entryFrame, mkF, argsToLocals, Value.category]; done) | rfl
def Qrmk2_U (Z : State) (a1 : Addr) (k1 : ClassId) (c0 : Int32) (c1 : Int32) (h0 : Heap) (n0 : Nat) (v : Option Value) (h : Heap) (L : List Loc) : Prop := ∃ r : Addr, ∃ kr : ClassId, v = some (.ref r) ∧ Fr n0 L ∧ Keep h0 h [] ∧ Exa Z h r "[B" ∧ Arv Z h r kr .byte (4 : Int32) [(.int (own_lo c0)), (.int (own_hi c0)), (.int (own_lo c1)), (.int (own_hi c1))] (.int 0) ∧ n0 ≤ r ∧ h0.size ≤ r
set_option maxRecDepth 65536 in
set_option maxHeartbeats 40000000 in
theorem rmk2_U (l : Launch) (Z : State) (a0 : Array Value) (hw : ∀ d ∈ tables_1, d.before a0 Z = true) (ws : List Jvm.Cond) (a1 : Addr) (k1 : ClassId) (c0 : Int32) (c1 : Int32) (h0 : Heap) (n0 : Nat) (Z0 : n0 ≤ h0.size) (V1 : Arv Z h0 a1 k1 .char (2 : Int32) [(.int c0), (.int c1)] (.int 0)) (S_ad : Sta Z h0 "java/lang/StringUTF16" "$assertionsDisabled" "Z" (.int 1)) (S_hi : Sta Z h0 "java/lang/StringUTF16" "HI_BYTE_SHIFT" "I" (.int 0)) (S_lo : Sta Z h0 "java/lang/StringUTF16" "LO_BYTE_SHIFT" "I" (.int 8)) (hR0 : own_R c0) (hR1 : own_R c1) (hU : (255 : Int32) < c0 ∨ (255 : Int32) < c1) :
    MetFree l Y27 (head1 (Jvm.Cond.code Y27 jdk_52_method_16_code 6 (some (.array .byte)) :: ws) Rm20) (fun a U => a = #[(.ref a1), (.int 0), (.int 2)] ∧ Z.Warmed39 U.vm ∧ U.heap = h0) (fun _ _ _ _ _ => True) (fun _ U o U' => ∃ v L, o = .returned v ∧ Qrmk2_U Z a1 k1 c0 c1 h0 n0 v U'.heap L ∧ FrameEnd U o U' L Rm20.cells Rm20.slots) := by
 refine MetFree.of_bodySF (plainFor_of_name pn_4) hisR ?_
 intro p e s m args below meth c s₁ Bd hml0 hP hK
 obtain ⟨rfl, hZ, hh⟩ := hP
 have hx := Bd.exec
 have hby := Bd.bytes
 have hml : c.maxLocals = 6 := hml0
 have hown : s.vm.findClass "java/lang/StringUTF16" = some m.cls := findClass_of_methodNamed Bd.named
 have hnm := (name_of_methodNamed Bd.named Bd.method).1
 have X0 : Stand p l e Rm20 s m #[(.ref a1), (.int 0), (.int 2)] below meth c s₁ [] 0 0 := Stand.of_body Bd
 have e0 : s₁.heap = h0 := by rw [← hh, Bd.state]; rfl
 have N0 := Fr.nil n0
 show Go p.tables e below (fun o U' => ∃ v L, o = .returned v ∧ Qrmk2_U Z a1 k1 c0 c1 h0 n0 v U'.heap L ∧ FrameEnd s o U' L Rm20.cells Rm20.slots) _
 refine Go.step (fun t kt => castTop (ef_rmk2_U m a1 k1 c0 c1) kt) ?_
 show Go p.tables e below _ (s₁.setTop (mkF m 0 #[vR a1, vI 0, vI 2, uS, uS, uS] []))
 have K101 : Keep h0 h0 [] := (Keep.refl h0 [])
 by_cases hk102 : (255 : Int32) < c0
 ·have hU0 := hk102
  show Go p.tables e below _ (s₁.setTop (mkF m 0 #[vR a1, vI 0, vI 2, uS, uS, uS] []))
  refine Go.step (fun _ kt => XS.iloadN X0.here hx rfl (hb hby d4_0) rfl kt) ?_
  obtain ⟨T103, h103, k103, X103, e103, E103, A103, Ex103, st103⟩ := newPE (aty := .byte) X0 hx hZ (w20 hw) e0 (g := (mkF m 1 #[vR a1, vI 0, vI 2, uS, uS, uS] [(.int 2)])) rfl (hb hby d4_1) rfl (by decide) (cap := 2) (by decide) (by decide) (by decide) (by decide) (ad := "[B") own_adB
  obtain ⟨b103, g103⟩ : ∃ z, z = h0.size := ⟨_, rfl⟩
  rw [← g103] at A103 Ex103 st103
  refine Go.step st103 ?_
  have ne_a1_b103 : a1 ≠ b103 := Nat.ne_of_lt (Nat.lt_of_lt_of_le V1.lt (Nat.le_of_eq g103.symm))
  have g_b103 : n0 ≤ b103 := Nat.le_trans Z0 (Nat.le_of_eq g103.symm)
  have sz_b103 : h0.size ≤ b103 := Nat.le_trans K101.1 (Nat.le_of_eq g103.symm)
  have F104 := (V1.ext E103)
  have F105 := (S_ad.ext E103)
  have F106 := (S_hi.ext E103)
  have F107 := (S_lo.ext E103)
  have Z108 : n0 ≤ h103.size := (Nat.le_trans Z0 E103.1)
  have K109 : Keep h0 h103 [] := (K101.ext E103)
  have V110 : Arv Z h103 b103 k103 .byte (2 : Int32) [(.int 0), (.int 0)] (.int 0) := (Arv.new A103 (by decide)).pad (pad_rep [] (.int 0) 2)
  show Go p.tables e below _ (T103.setTop (mkF m 3 #[vR a1, vI 0, vI 2, uS, uS, uS] [(.ref b103)]))
  refine Go.step (fun _ kt => XS.astoreN X103.here hx rfl (hb hby d4_3) rfl rfl (l' := #[vR a1, vI 0, vI 2, vR b103, uS, uS]) rfl (XS.aloadN X103.here hx rfl (hb hby d4_4) rfl rfl (XS.iloadN X103.here hx rfl (hb hby d4_5) rfl (XS.aloadN X103.here hx rfl (hb hby d4_6) rfl rfl (XS.iconst X103.here hx rfl (hb hby d4_7) (XS.iloadN X103.here hx rfl (hb hby d4_8) rfl kt)))))) ?_
  show Go p.tables e below _ (T103.setTop (mkF m 9 #[vR a1, vI 0, vI 2, vR b103, uS, uS] [(.int 2), (.int 0), (.ref b103), (.int 0), (.ref a1)]))
  obtain ⟨_, _, ⟨T111, L111, k111, n111⟩, -, X111, ⟨Lc111, hQ111, l111, y111, z111⟩, st111⟩ := Jvm.LawKit.callS X103 hx (y := Y24) hown (mvT hZ (w21 hw)) (mvT hZ (w22 hw)) (mvT hZ (w18 hw)) (mvT hZ (w23 hw)) (by decide) (backOf (W := 0) (rmkl2_F0 l Z a0 hw [] a1 b103 k1 c0 c1 h103 n0 Z108 F104 hU0) hZ (w23 hw) (w18 hw) (by decide) (by decide)) (g := (mkF m 9 #[vR a1, vI 0, vI 2, vR b103, uS, uS] [(.int 2), (.int 0), (.ref b103), (.int 0), (.ref a1)])) rfl hml.symm (argsL := [(.ref a1), (.int 0), (.ref b103), (.int 0), (.int 2)]) (rest := []) (lenOf pd_18 rfl) rfl (Nat.le_of_eq rfl) (hb hby d4_9) (fun _ _ => ⟨rfl, e103, (by decide : 1 + 0 ≤ _), (by decide : 2 + 0 ≤ _)⟩)
  dsimp only [Pt.U, Pt.locs, Pt.cells, Pt.slots] at X111 l111 y111 z111 st111 hQ111
  subst l111 y111 z111
  obtain ⟨rfl, N111q, eh111⟩ := hQ111
  have N111 := Fr.app N0 N111q
  refine Go.step st111 ?_
  show Go p.tables e below _ (T111.setTop (mkF m 12 #[vR a1, vI 0, vI 2, vR b103, uS, uS] [(.int 0)]))
  refine Go.step (fun _ kt => XS.istore X111.here hx rfl (hb hby d4_12) rfl (l' := #[vR a1, vI 0, vI 2, vR b103, vI 0, uS]) rfl (XS.iload X111.here hx rfl (hb hby d4_14) rfl (XS.iloadN X111.here hx rfl (hb hby d4_16) rfl (XS.icmpNo X111.here hx rfl (hb hby d4_17) rfl (feq (by decide : ¬ ((0 : Int32) = (2 : Int32)))).1 (XS.aloadN X111.here hx rfl (hb hby d4_20) rfl rfl (XS.iloadN X111.here hx rfl (hb hby d4_21) rfl (XS.iloadN X111.here hx rfl (hb hby d4_22) rfl kt))))))) ?_
  show Go p.tables e below _ (T111.setTop (mkF m 23 #[vR a1, vI 0, vI 2, vR b103, vI 0, uS] [(.int 2), (.int 0), (.ref a1)]))
  obtain ⟨_, _, ⟨T112, L112, k112, n112⟩, -, X112, ⟨Lc112, hQ112, l112, y112, z112⟩, st112⟩ := Jvm.LawKit.callS X111 hx (y := Y26) hown (mvT hZ (w86 hw)) (mvT hZ (w87 hw)) (mvT hZ (w18 hw)) (mvT hZ (w88 hw)) (by decide) (backOf (W := 0) (rmtb2 l Z a0 hw [] a1 k1 c0 c1 h103 n0 Z108 F104 F105 F106 F107 ) hZ (w88 hw) (w18 hw) (by decide) (by decide)) (g := (mkF m 23 #[vR a1, vI 0, vI 2, vR b103, vI 0, uS] [(.int 2), (.int 0), (.ref a1)])) rfl hml.symm (argsL := [(.ref a1), (.int 0), (.int 2)]) (rest := []) (lenOf pd_20 rfl) rfl (Nat.le_of_eq rfl) (hb hby d4_23) (fun _ _ => ⟨rfl, eh111, (by decide : 1 + 1 ≤ _), (by decide : 2 + 4 ≤ _)⟩)
  dsimp only [Pt.U, Pt.locs, Pt.cells, Pt.slots] at X112 l112 y112 z112 st112 hQ112
  subst l112 y112 z112
  obtain ⟨b112r, b112kr, rfl, N112q, Kq112, P113, P114, g_b112r, szq_b112r⟩ := hQ112
  have ne_a1_b112r : a1 ≠ b112r := Nat.ne_of_lt (Nat.lt_of_lt_of_le F104.lt szq_b112r)
  have ne_b103_b112r : b103 ≠ b112r := Nat.ne_of_lt (Nat.lt_of_lt_of_le V110.lt szq_b112r)
  have sz_b112r : h0.size ≤ b112r := Nat.le_trans K109.1 szq_b112r
  have F115 := (F104.keep Kq112 (by simp))
  have F116 := (own_sta_keep0 F105 Kq112)
  have F117 := (own_sta_keep0 F106 Kq112)
  have F118 := (own_sta_keep0 F107 Kq112)
  have F119 := (V110.keep Kq112 (by simp))
  have F120 := (Ex103.keep Kq112)
  have Z121 : n0 ≤ T112.heap.size := (Nat.le_trans Z108 Kq112.1)
  have K122 : Keep h0 T112.heap [] := (K109.trans Kq112 (by intro x hx; cases hx))
  have N112 := Fr.app N111 N112q
  refine Go.step st112 ?_
  show Go p.tables e below _ (T112.setTop (mkF m 26 #[vR a1, vI 0, vI 2, vR b103, vI 0, uS] [(.ref b112r)]))
  refine Go.step (fun _ kt => XS.astore X112.here hx rfl (hb hby d4_26) rfl rfl (l' := #[vR a1, vI 0, vI 2, vR b103, vI 0, vR b112r]) rfl (XS.aload X112.here hx rfl (hb hby d4_28) rfl rfl (XS.iload X112.here hx rfl (hb hby d4_30) rfl kt))) ?_
  obtain ⟨_, _, ⟨T123, L123, k123, n123⟩, -, X123, ⟨Lc123, hQ123, l123, y123, z123⟩, st123⟩ := Jvm.LawKit.callS X112 hx (y := Y12) hown (mvT hZ (w102 hw)) (mvT hZ (w103 hw)) (mvT hZ (w18 hw)) (mvT hZ (w104 hw)) (by decide) (backOf (W := 0) (rmgc2_0 l Z a0 hw [] b112r b112kr c0 c1 T112.heap n0 Z121 P114 F116 F117 F118 hR0) hZ (w104 hw) (w18 hw) (by decide) (by decide)) (g := (mkF m 32 #[vR a1, vI 0, vI 2, vR b103, vI 0, vR b112r] [(.int 0), (.ref b112r)])) rfl hml.symm (argsL := [(.ref b112r), (.int 0)]) (rest := []) (lenOf pd_6 rfl) rfl (Nat.le_of_eq rfl) (hb hby d4_32) (fun _ _ => ⟨rfl, rfl, (by decide : 2 + 0 ≤ _), (by decide : 6 + 0 ≤ _)⟩)
  dsimp only [Pt.U, Pt.locs, Pt.cells, Pt.slots] at X123 l123 y123 z123 st123 hQ123
  subst l123 y123 z123
  obtain ⟨rfl, N123q, eh123⟩ := hQ123
  have N123 := Fr.app N112 N123q
  refine Go.step st123 ?_
  show Go p.tables e below _ (T123.setTop (mkF m 35 #[vR a1, vI 0, vI 2, vR b103, vI 0, vR b112r] [(.int c0)]))
  refine Go.step (fun _ kt => XS.sipush X123.here hx rfl (hb hby d4_35) (XS.icmpYes X123.here hx rfl (pc0 := 38) (pc' := 54) rfl (hb hby d4_38) rfl (tlt hk102).2.2.1 (by decide) (by decide) (XS.aload X123.here hx rfl (hb hby d4_54) rfl rfl kt))) ?_
  show Go p.tables e below _ (T123.setTop (mkF m 56 #[vR a1, vI 0, vI 2, vR b103, vI 0, vR b112r] [(.ref b112r)]))
  obtain ⟨fs, hr, hrun, hended, hW, hsame⟩ := X123.leave (v := some (.ref b112r)) (fun h => by rw [Bd.returns] at h; cases h)
  refine ⟨_, _, retOut X123 hx Bd.returns rfl (Or.inr (Or.inr (Or.inr (Or.inr ⟨rfl, rfl, rfl⟩)))) (hb hby d4_56) hr, hrun, hended, _, _, rfl, ?_, ⟨_, rfl⟩, hW, hsame.mono (by decide) (by decide)⟩
  show Qrmk2_U Z a1 k1 c0 c1 h0 n0 _ T123.heap _
  rw [eh123]
  refine ⟨b112r, b112kr, ?_, N123, K122, P113, P114, g_b112r, sz_b112r⟩
  rfl
 ·have hb0 : own_L c0 := ⟨hR0.1, hk102⟩
  have hU1 := hU.resolve_left hk102
  show Go p.tables e below _ (s₁.setTop (mkF m 0 #[vR a1, vI 0, vI 2, uS, uS, uS] []))
  refine Go.step (fun _ kt => XS.iloadN X0.here hx rfl (hb hby d4_0) rfl kt) ?_
  obtain ⟨T124, h124, k124, X124, e124, E124, A124, Ex124, st124⟩ := newPE (aty := .byte) X0 hx hZ (w20 hw) e0 (g := (mkF m 1 #[vR a1, vI 0, vI 2, uS, uS, uS] [(.int 2)])) rfl (hb hby d4_1) rfl (by decide) (cap := 2) (by decide) (by decide) (by decide) (by decide) (ad := "[B") own_adB
  obtain ⟨b124, g124⟩ : ∃ z, z = h0.size := ⟨_, rfl⟩
  rw [← g124] at A124 Ex124 st124
  refine Go.step st124 ?_
  have ne_a1_b124 : a1 ≠ b124 := Nat.ne_of_lt (Nat.lt_of_lt_of_le V1.lt (Nat.le_of_eq g124.symm))
  have g_b124 : n0 ≤ b124 := Nat.le_trans Z0 (Nat.le_of_eq g124.symm)
  have sz_b124 : h0.size ≤ b124 := Nat.le_trans K101.1 (Nat.le_of_eq g124.symm)
  have F125 := (V1.ext E124)
  have F126 := (S_ad.ext E124)
  have F127 := (S_hi.ext E124)
  have F128 := (S_lo.ext E124)
  have Z129 : n0 ≤ h124.size := (Nat.le_trans Z0 E124.1)
  have K130 : Keep h0 h124 [] := (K101.ext E124)
  have V131 : Arv Z h124 b124 k124 .byte (2 : Int32) [(.int 0), (.int 0)] (.int 0) := (Arv.new A124 (by decide)).pad (pad_rep [] (.int 0) 2)
  show Go p.tables e below _ (T124.setTop (mkF m 3 #[vR a1, vI 0, vI 2, uS, uS, uS] [(.ref b124)]))
  refine Go.step (fun _ kt => XS.astoreN X124.here hx rfl (hb hby d4_3) rfl rfl (l' := #[vR a1, vI 0, vI 2, vR b124, uS, uS]) rfl (XS.aloadN X124.here hx rfl (hb hby d4_4) rfl rfl (XS.iloadN X124.here hx rfl (hb hby d4_5) rfl (XS.aloadN X124.here hx rfl (hb hby d4_6) rfl rfl (XS.iconst X124.here hx rfl (hb hby d4_7) (XS.iloadN X124.here hx rfl (hb hby d4_8) rfl kt)))))) ?_
  show Go p.tables e below _ (T124.setTop (mkF m 9 #[vR a1, vI 0, vI 2, vR b124, uS, uS] [(.int 2), (.int 0), (.ref b124), (.int 0), (.ref a1)]))
  obtain ⟨_, _, ⟨T132, L132, k132, n132⟩, -, X132, ⟨Lc132, hQ132, l132, y132, z132⟩, st132⟩ := Jvm.LawKit.callS X124 hx (y := Y24) hown (mvT hZ (w21 hw)) (mvT hZ (w22 hw)) (mvT hZ (w18 hw)) (mvT hZ (w23 hw)) (by decide) (backOf (W := 0) (rmkl2_F1 l Z a0 hw [] a1 b124 k1 k124 c0 c1 h124 n0 Z129 F125 V131 g_b124 ne_a1_b124 hb0 hU1) hZ (w23 hw) (w18 hw) (by decide) (by decide)) (g := (mkF m 9 #[vR a1, vI 0, vI 2, vR b124, uS, uS] [(.int 2), (.int 0), (.ref b124), (.int 0), (.ref a1)])) rfl hml.symm (argsL := [(.ref a1), (.int 0), (.ref b124), (.int 0), (.int 2)]) (rest := []) (lenOf pd_18 rfl) rfl (Nat.le_of_eq rfl) (hb hby d4_9) (fun _ _ => ⟨rfl, e124, (by decide : 1 + 0 ≤ _), (by decide : 2 + 0 ≤ _)⟩)
  dsimp only [Pt.U, Pt.locs, Pt.cells, Pt.slots] at X132 l132 y132 z132 st132 hQ132
  subst l132 y132 z132
  obtain ⟨rfl, N132q, Kq132⟩ := hQ132
  have F133 := (F125.keep Kq132 (fun q => ne_a1_b124 (List.mem_singleton.mp q)))
  have F134 := (own_sta_keep F126 Ex124 Kq132)
  have F135 := (own_sta_keep F127 Ex124 Kq132)
  have F136 := (own_sta_keep F128 Ex124 Kq132)
  have F137 := (Ex124.keep Kq132)
  have Z138 : n0 ≤ T132.heap.size := (Nat.le_trans Z129 Kq132.1)
  have K139 : Keep h0 T132.heap [] := (K130.trans Kq132 (by intro x hx; cases List.mem_singleton.mp hx; exact (Or.inr sz_b124)))
  have N132 := Fr.app N0 N132q
  refine Go.step st132 ?_
  show Go p.tables e below _ (T132.setTop (mkF m 12 #[vR a1, vI 0, vI 2, vR b124, uS, uS] [(.int 1)]))
  refine Go.step (fun _ kt => XS.istore X132.here hx rfl (hb hby d4_12) rfl (l' := #[vR a1, vI 0, vI 2, vR b124, vI 1, uS]) rfl (XS.iload X132.here hx rfl (hb hby d4_14) rfl (XS.iloadN X132.here hx rfl (hb hby d4_16) rfl (XS.icmpNo X132.here hx rfl (hb hby d4_17) rfl (feq (by decide : ¬ ((1 : Int32) = (2 : Int32)))).1 (XS.aloadN X132.here hx rfl (hb hby d4_20) rfl rfl (XS.iloadN X132.here hx rfl (hb hby d4_21) rfl (XS.iloadN X132.here hx rfl (hb hby d4_22) rfl kt))))))) ?_
  show Go p.tables e below _ (T132.setTop (mkF m 23 #[vR a1, vI 0, vI 2, vR b124, vI 1, uS] [(.int 2), (.int 0), (.ref a1)]))
  obtain ⟨_, _, ⟨T140, L140, k140, n140⟩, -, X140, ⟨Lc140, hQ140, l140, y140, z140⟩, st140⟩ := Jvm.LawKit.callS X132 hx (y := Y26) hown (mvT hZ (w86 hw)) (mvT hZ (w87 hw)) (mvT hZ (w18 hw)) (mvT hZ (w88 hw)) (by decide) (backOf (W := 0) (rmtb2 l Z a0 hw [] a1 k1 c0 c1 T132.heap n0 Z138 F133 F134 F135 F136 ) hZ (w88 hw) (w18 hw) (by decide) (by decide)) (g := (mkF m 23 #[vR a1, vI 0, vI 2, vR b124, vI 1, uS] [(.int 2), (.int 0), (.ref a1)])) rfl hml.symm (argsL := [(.ref a1), (.int 0), (.int 2)]) (rest := []) (lenOf pd_20 rfl) rfl (Nat.le_of_eq rfl) (hb hby d4_23) (fun _ _ => ⟨rfl, rfl, (by decide : 1 + 1 ≤ _), (by decide : 2 + 4 ≤ _)⟩)
  dsimp only [Pt.U, Pt.locs, Pt.cells, Pt.slots] at X140 l140 y140 z140 st140 hQ140
  subst l140 y140 z140
  obtain ⟨b140r, b140kr, rfl, N140q, Kq140, P141, P142, g_b140r, szq_b140r⟩ := hQ140
  have ne_a1_b140r : a1 ≠ b140r := Nat.ne_of_lt (Nat.lt_of_lt_of_le F133.lt szq_b140r)
  have ne_b124_b140r : b124 ≠ b140r := Nat.ne_of_lt (Nat.lt_of_lt_of_le F137.lt szq_b140r)
  have sz_b140r : h0.size ≤ b140r := Nat.le_trans K139.1 szq_b140r
  have F143 := (F133.keep Kq140 (by simp))
  have F144 := (own_sta_keep0 F134 Kq140)
  have F145 := (own_sta_keep0 F135 Kq140)
  have F146 := (own_sta_keep0 F136 Kq140)
  have F147 := (F137.keep Kq140)
  have Z148 : n0 ≤ T140.heap.size := (Nat.le_trans Z138 Kq140.1)
  have K149 : Keep h0 T140.heap [] := (K139.trans Kq140 (by intro x hx; cases hx))
  have N140 := Fr.app N132 N140q
  refine Go.step st140 ?_
  show Go p.tables e below _ (T140.setTop (mkF m 26 #[vR a1, vI 0, vI 2, vR b124, vI 1, uS] [(.ref b140r)]))
  refine Go.step (fun _ kt => XS.astore X140.here hx rfl (hb hby d4_26) rfl rfl (l' := #[vR a1, vI 0, vI 2, vR b124, vI 1, vR b140r]) rfl (XS.aload X140.here hx rfl (hb hby d4_28) rfl rfl (XS.iload X140.here hx rfl (hb hby d4_30) rfl kt))) ?_
  obtain ⟨_, _, ⟨T150, L150, k150, n150⟩, -, X150, ⟨Lc150, hQ150, l150, y150, z150⟩, st150⟩ := Jvm.LawKit.callS X140 hx (y := Y12) hown (mvT hZ (w102 hw)) (mvT hZ (w103 hw)) (mvT hZ (w18 hw)) (mvT hZ (w104 hw)) (by decide) (backOf (W := 0) (rmgc2_1 l Z a0 hw [] b140r b140kr c0 c1 T140.heap n0 Z148 P142 F144 F145 F146 hR1) hZ (w104 hw) (w18 hw) (by decide) (by decide)) (g := (mkF m 32 #[vR a1, vI 0, vI 2, vR b124, vI 1, vR b140r] [(.int 1), (.ref b140r)])) rfl hml.symm (argsL := [(.ref b140r), (.int 1)]) (rest := []) (lenOf pd_6 rfl) rfl (Nat.le_of_eq rfl) (hb hby d4_32) (fun _ _ => ⟨rfl, rfl, (by decide : 2 + 0 ≤ _), (by decide : 6 + 0 ≤ _)⟩)
  dsimp only [Pt.U, Pt.locs, Pt.cells, Pt.slots] at X150 l150 y150 z150 st150 hQ150
  subst l150 y150 z150
  obtain ⟨rfl, N150q, eh150⟩ := hQ150
  have N150 := Fr.app N140 N150q
  refine Go.step st150 ?_
  show Go p.tables e below _ (T150.setTop (mkF m 35 #[vR a1, vI 0, vI 2, vR b124, vI 1, vR b140r] [(.int c1)]))
  refine Go.step (fun _ kt => XS.sipush X150.here hx rfl (hb hby d4_35) (XS.icmpYes X150.here hx rfl (pc0 := 38) (pc' := 54) rfl (hb hby d4_38) rfl (tlt hU1).2.2.1 (by decide) (by decide) (XS.aload X150.here hx rfl (hb hby d4_54) rfl rfl kt))) ?_
  show Go p.tables e below _ (T150.setTop (mkF m 56 #[vR a1, vI 0, vI 2, vR b124, vI 1, vR b140r] [(.ref b140r)]))
  obtain ⟨fs, hr, hrun, hended, hW, hsame⟩ := X150.leave (v := some (.ref b140r)) (fun h => by rw [Bd.returns] at h; cases h)
  refine ⟨_, _, retOut X150 hx Bd.returns rfl (Or.inr (Or.inr (Or.inr (Or.inr ⟨rfl, rfl, rfl⟩)))) (hb hby d4_56) hr, hrun, hended, _, _, rfl, ?_, ⟨_, rfl⟩, hW, hsame.mono (by decide) (by decide)⟩
  show Qrmk2_U Z a1 k1 c0 c1 h0 n0 _ T150.heap _
  rw [eh150]
  refine ⟨b140r, b140kr, ?_, N150, K149, P141, P142, g_b140r, sz_b140r⟩
  rfl
theorem ef_rmcf2_4 (m : MethodId) (a1 : Addr) (k1 : ClassId) (v0 : Int32) (v1 : Int32) (v2 : Int32) (v3 : Int32) : entryFrame m #[(.ref a1), (.int 2)] 2 = mkF m 0 #[vR a1, vI 2] [] := by first | (simp [entryFrame, mkF, argsToLocals, Value.category]; done) | rfl
def Qrmcf2_4 (Z : State) (a1 : Addr) (k1 : ClassId) (v0 : Int32) (v1 : Int32) (v2 : Int32) (v3 : Int32) (h0 : Heap) (n0 : Nat) (v : Option Value) (h : Heap) (L : List Loc) : Prop := v = some (.int 1) ∧ Fr n0 L ∧ h = h0
set_option maxRecDepth 65536 in
set_option maxHeartbeats 40000000 in
theorem rmcf2_4 (l : Launch) (Z : State) (a0 : Array Value) (hw : ∀ d ∈ tables_1, d.before a0 Z = true) (ws : List Jvm.Cond) (a1 : Addr) (k1 : ClassId) (v0 : Int32) (v1 : Int32) (v2 : Int32) (v3 : Int32) (h0 : Heap) (n0 : Nat) (Z0 : n0 ≤ h0.size) (V1 : Arv Z h0 a1 k1 .byte (4 : Int32) [(.int v0), (.int v1), (.int v2), (.int v3)] (.int 0)) :
    MetFree l Y28 (head1 (Jvm.Cond.code Y28 jdk_52_method_15_code 2 (some .byte) :: ws) Rm0) (fun a U => a = #[(.ref a1), (.int 2)] ∧ Z.Warmed39 U.vm ∧ U.heap = h0) (fun _ _ _ _ _ => True) (fun _ U o U' => ∃ v L, o = .returned v ∧ Qrmcf2_4 Z a1 k1 v0 v1 v2 v3 h0 n0 v U'.heap L ∧ FrameEnd U o U' L Rm0.cells Rm0.slots) := by
 refine MetFree.of_bodySF (plainFor_of_name pn_4) hisR ?_
 intro p e s m args below meth c s₁ Bd hml0 hP hK
 obtain ⟨rfl, hZ, hh⟩ := hP
 have hx := Bd.exec
 have hby := Bd.bytes
 have hml : c.maxLocals = 2 := hml0
 have hown : s.vm.findClass "java/lang/StringUTF16" = some m.cls := findClass_of_methodNamed Bd.named
 have hnm := (name_of_methodNamed Bd.named Bd.method).1
 have X0 : Stand p l e Rm0 s m #[(.ref a1), (.int 2)] below meth c s₁ [] 0 0 := Stand.of_body Bd
 have e0 : s₁.heap = h0 := by rw [← hh, Bd.state]; rfl
 have N0 := Fr.nil n0
 show Go p.tables e below (fun o U' => ∃ v L, o = .returned v ∧ Qrmcf2_4 Z a1 k1 v0 v1 v2 v3 h0 n0 v U'.heap L ∧ FrameEnd s o U' L Rm0.cells Rm0.slots) _
 refine Go.step (fun t kt => castTop (ef_rmcf2_4 m a1 k1 v0 v1 v2 v3) kt) ?_
 show Go p.tables e below _ (s₁.setTop (mkF m 0 #[vR a1, vI 2] []))
 refine Go.step (fun _ kt => XS.iloadN X0.here hx rfl (hb hby d6_0) rfl (XS.aloadN X0.here hx rfl (hb hby d6_1) rfl rfl kt)) ?_
 obtain ⟨cl101, Ar101, qa101, Sa101, Na101, Ha101, Ga101⟩ := (id V1)
 refine Go.step (X0.arraylength hx (by rw [e0]; exact Ar101.1) (State.isArrayOf_alike hZ.alike Ar101.2.1) (g := (mkF m 2 #[vR a1, vI 2] [(.ref a1), (.int 2)])) rfl rfl (hb hby d6_2)) ?_
 rw [len_of Sa101 Na101]
 show Go p.tables e below _ (s₁.setTop (mkF m 3 #[vR a1, vI 2] [(.int 4), (.int 2)]))
 refine Go.step (fun _ kt => XS.isub X0.here hx rfl (hb hby d6_3) rfl kt) ?_
 show Go p.tables e below _ (s₁.setTop (mkF m 4 #[vR a1, vI 2] [(.int ((2 : Int32) - (4 : Int32)))]))
 have q102 : ((2 : Int32) - (4 : Int32)) = (-2 : Int32) := by decide
 rw [q102]
 show Go p.tables e below _ (s₁.setTop (mkF m 4 #[vR a1, vI 2] [(.int (-2 : Int32))]))
 refine Go.step (fun _ kt => XS.bipush X0.here hx rfl (hb hby d6_4) (XS.iushr X0.here hx rfl (hb hby d6_6) rfl kt)) ?_
 show Go p.tables e below _ (s₁.setTop (mkF m 7 #[vR a1, vI 2] [(.int (((-2 : Int32).toUInt32 >>> ((31 : Int32) &&& 31).toUInt32).toInt32))]))
 have q103 : (((-2 : Int32).toUInt32 >>> ((31 : Int32) &&& 31).toUInt32).toInt32) = (1 : Int32) := by decide
 rw [q103]
 show Go p.tables e below _ (s₁.setTop (mkF m 7 #[vR a1, vI 2] [(.int 1)]))
 refine Go.step (fun _ kt => XS.i2b X0.here hx rfl (hb hby d6_7) rfl kt) ?_
 show Go p.tables e below _ (s₁.setTop (mkF m 8 #[vR a1, vI 2] [(.int ((1 : Int32).toInt8.toInt32))]))
 have q104 : ((1 : Int32).toInt8.toInt32) = (1 : Int32) := by decide
 rw [q104]
 show Go p.tables e below _ (s₁.setTop (mkF m 8 #[vR a1, vI 2] [(.int 1)]))
 obtain ⟨fs, hr, hrun, hended, hW, hsame⟩ := X0.leave (v := some (.int 1)) (fun h => by rw [Bd.returns] at h; cases h)
 refine ⟨_, _, retN X0 hx (t := .byte) Bd.returns (by simp) (hb hby d6_8) hr, hrun, hended, _, _, rfl, ?_, ⟨_, rfl⟩, hW, hsame.mono (by decide) (by decide)⟩
 show Qrmcf2_4 Z a1 k1 v0 v1 v2 v3 h0 n0 _ s₁.heap _
 rw [e0]
 refine ⟨?_, N0, rfl⟩
 rfl
theorem ef_rmct42_U (m : MethodId) (a1 : Addr) (a2 : Addr) (u1 : Value) (u2 : Value) (k2 : ClassId) (cs : Int32) (c0 : Int32) (c1 : Int32) : entryFrame m #[(.ref a1), (.ref a2), (.int 0), (.int 2), .null] 6 = mkF m 0 #[vR a1, vR a2, vI 0, vI 2, .val .null, uS] [] := by first | (simp [entryFrame, mkF, argsToLocals, Value.category]; done) | rfl
def Qrmct42_U (Z : State) (a1 : Addr) (a2 : Addr) (u1 : Value) (u2 : Value) (k2 : ClassId) (cs : Int32) (c0 : Int32) (c1 : Int32) (h0 : Heap) (n0 : Nat) (v : Option Value) (h : Heap) (L : List Loc) : Prop := ∃ b : Addr, ∃ cd : Int32, v = none ∧ Fr n0 L ∧ Keep h0 h [a1] ∧ Exa Z h a1 "java/lang/String" ∧ Fld Z h a1 "java/lang/String" "coder" "B" (.int cd) ∧ Fld Z h a1 "java/lang/String" "value" "[B" (.ref b) ∧ Exa Z h b "[B" ∧ own_enc Z h b cd (own_e2 c0 c1)
set_option maxRecDepth 65536 in
set_option maxHeartbeats 40000000 in
theorem rmct42_U (l : Launch) (Z : State) (a0 : Array Value) (hw : ∀ d ∈ tables_1, d.before a0 Z = true) (ws : List Jvm.Cond) (a1 : Addr) (a2 : Addr) (u1 : Value) (u2 : Value) (k2 : ClassId) (cs : Int32) (c0 : Int32) (c1 : Int32) (h0 : Heap) (n0 : Nat) (Z0 : n0 ≤ h0.size) (E1 : Exa Z h0 a1 "java/lang/String") (Fc : Fld Z h0 a1 "java/lang/String" "coder" "B" u1) (Fv : Fld Z h0 a1 "java/lang/String" "value" "[B" u2) (V2 : Arv Z h0 a2 k2 .char (2 : Int32) [(.int c0), (.int c1)] (.int 0)) (S_cs : Sta Z h0 "java/lang/String" "COMPACT_STRINGS" "Z" (.int cs)) (S_ad : Sta Z h0 "java/lang/StringUTF16" "$assertionsDisabled" "Z" (.int 1)) (S_hi : Sta Z h0 "java/lang/StringUTF16" "HI_BYTE_SHIFT" "I" (.int 0)) (S_lo : Sta Z h0 "java/lang/StringUTF16" "LO_BYTE_SHIFT" "I" (.int 8)) (g_a1 : n0 ≤ a1) (hcs : ¬ cs = 0) (ne21 : a2 ≠ a1) (hR0 : own_R c0) (hR1 : own_R c1) (hU : (255 : Int32) < c0 ∨ (255 : Int32) < c1) :
    MetFree l Y22 (head1 (Jvm.Cond.code Y22 jdk_42_method_149_code 6 none :: ws) Rm21) (fun a U => a = #[(.ref a1), (.ref a2), (.int 0), (.int 2), .null] ∧ Z.Warmed39 U.vm ∧ U.heap = h0) (fun _ _ _ _ _ => True) (fun _ U o U' => ∃ v L, o = .returned v ∧ Qrmct42_U Z a1 a2 u1 u2 k2 cs c0 c1 h0 n0 v U'.heap L ∧ FrameEnd U o U' L Rm21.cells Rm21.slots) := by
 refine MetFree.of_bodySF (plainFor_of_name pn_5) hisR ?_
 intro p e s m args below meth c s₁ Bd hml0 hP hK
 obtain ⟨rfl, hZ, hh⟩ := hP
 have hx := Bd.exec
 have hby := Bd.bytes
 have hml : c.maxLocals = 6 := hml0
 have hown : s.vm.findClass "java/lang/String" = some m.cls := findClass_of_methodNamed Bd.named
 have hnm := (name_of_methodNamed Bd.named Bd.method).1
 have X0 : Stand p l e Rm21 s m #[(.ref a1), (.ref a2), (.int 0), (.int 2), .null] below meth c s₁ [] 0 0 := Stand.of_body Bd
 have e0 : s₁.heap = h0 := by rw [← hh, Bd.state]; rfl
 have N0 := Fr.nil n0
 show Go p.tables e below (fun o U' => ∃ v L, o = .returned v ∧ Qrmct42_U Z a1 a2 u1 u2 k2 cs c0 c1 h0 n0 v U'.heap L ∧ FrameEnd s o U' L Rm21.cells Rm21.slots) _
 refine Go.step (fun t kt => castTop (ef_rmct42_U m a1 a2 u1 u2 k2 cs c0 c1) kt) ?_
 show Go p.tables e below _ (s₁.setTop (mkF m 0 #[vR a1, vR a2, vI 0, vI 2, .val .null, uS] []))
 have K101 : Keep h0 h0 [a1] := (Keep.refl h0 [a1])
 refine Go.step (fun _ kt => XS.aloadN X0.here hx rfl (hb hby d2_0) rfl rfl kt) ?_
 obtain ⟨T102, X102, e102, st102⟩ := initO X0 hx hZ hown (w12 hw) (w13 hw) (w14 hw) e0 (g := (mkF m 1 #[vR a1, vR a2, vI 0, vI 2, .val .null, uS] [(.ref a1)])) rfl hml.symm rfl (hb hby d2_1) (by decide) (W := 0) (Nat.le_of_eq rfl) (by decide)
 refine Go.step st102 ?_
 show Go p.tables e below _ (T102.setTop (mkF m 4 #[vR a1, vR a2, vI 0, vI 2, .val .null, uS] []))
 refine Go.step (fun _ kt => XS.iloadN X102.here hx rfl (hb hby d2_4) rfl (XS.ifYes X102.here hx rfl (pc0 := 5) (pc' := 27) rfl (hb hby d2_5) rfl ((if0 _ _).trans (feq (by decide : ¬ ((2 : Int32) = (0 : Int32)))).2) (by decide) (by decide) kt)) ?_
 obtain ⟨T103, X103, e103, st103⟩ := getS2 X102 hx hZ hown (host := "") (Or.inl (w15 hw)) Via.refl e102 S_cs (g := (mkF m 27 #[vR a1, vR a2, vI 0, vI 2, .val .null, uS] [])) rfl (hb hby d2_27)
 refine Go.step st103 ?_
 show Go p.tables e below _ (T103.setTop (mkF m 30 #[vR a1, vR a2, vI 0, vI 2, .val .null, uS] [(.int cs)]))
 refine Go.step (fun _ kt => XS.ifNo X103.here hx rfl (hb hby d2_30) rfl ((if0 _ _).trans (feq hcs).1) (XS.aloadN X103.here hx rfl (hb hby d2_33) rfl rfl (XS.iloadN X103.here hx rfl (hb hby d2_34) rfl (XS.iloadN X103.here hx rfl (hb hby d2_35) rfl kt)))) ?_
 obtain ⟨_, _, ⟨T104, L104, k104, n104⟩, -, X104, ⟨Lc104, hQ104, l104, y104, z104⟩, st104⟩ := Jvm.LawKit.callS X103 hx (y := Y27) hown (mvT hZ (w16 hw)) (mvT hZ (w17 hw)) (mvT hZ (w18 hw)) (mvT hZ (w19 hw)) (by decide) (backOf (W := 0) (rmk2_U l Z a0 hw [] a2 k2 c0 c1 h0 n0 Z0 V2 S_ad S_hi S_lo hR0 hR1 hU) hZ (w19 hw) (w18 hw) (by decide) (by decide)) (g := (mkF m 36 #[vR a1, vR a2, vI 0, vI 2, .val .null, uS] [(.int 2), (.int 0), (.ref a2)])) rfl hml.symm (argsL := [(.ref a2), (.int 0), (.int 2)]) (rest := []) (lenOf pd_20 rfl) rfl (Nat.le_of_eq rfl) (hb hby d2_36) (fun _ _ => ⟨rfl, e103, (by decide : 0 + 2 ≤ _), (by decide : 0 + 6 ≤ _)⟩)
 dsimp only [Pt.U, Pt.locs, Pt.cells, Pt.slots] at X104 l104 y104 z104 st104 hQ104
 subst l104 y104 z104
 obtain ⟨b104r, b104kr, rfl, N104q, Kq104, P105, P106, g_b104r, szq_b104r⟩ := hQ104
 have ne_a1_b104r : a1 ≠ b104r := Nat.ne_of_lt (Nat.lt_of_lt_of_le E1.lt szq_b104r)
 have ne_a2_b104r : a2 ≠ b104r := Nat.ne_of_lt (Nat.lt_of_lt_of_le V2.lt szq_b104r)
 have sz_b104r : h0.size ≤ b104r := Nat.le_trans K101.1 szq_b104r
 have F107 := (E1.keep Kq104)
 have F108 := (Fc.keep Kq104 (by simp))
 have F109 := (Fv.keep Kq104 (by simp))
 have F110 := (V2.keep Kq104 (by simp))
 have F111 := (own_sta_keep0 S_cs Kq104)
 have F112 := (own_sta_keep0 S_ad Kq104)
 have F113 := (own_sta_keep0 S_hi Kq104)
 have F114 := (own_sta_keep0 S_lo Kq104)
 have Z115 : n0 ≤ T104.heap.size := (Nat.le_trans Z0 Kq104.1)
 have K116 : Keep h0 T104.heap [a1] := (K101.trans Kq104 (by intro x hx; cases hx))
 have N104 := Fr.app N0 N104q
 refine Go.step st104 ?_
 show Go p.tables e below _ (T104.setTop (mkF m 39 #[vR a1, vR a2, vI 0, vI 2, .val .null, uS] [(.ref b104r)]))
 refine Go.step (fun _ kt => XS.astore X104.here hx rfl (hb hby d2_39) rfl rfl (l' := #[vR a1, vR a2, vI 0, vI 2, .val .null, vR b104r]) rfl (XS.aloadN X104.here hx rfl (hb hby d2_41) rfl rfl (XS.aload X104.here hx rfl (hb hby d2_42) rfl rfl (XS.iloadN X104.here hx rfl (hb hby d2_44) rfl kt)))) ?_
 show Go p.tables e below _ (T104.setTop (mkF m 45 #[vR a1, vR a2, vI 0, vI 2, .val .null, vR b104r] [(.int 2), (.ref b104r), (.ref a1)]))
 obtain ⟨_, _, ⟨T117, L117, k117, n117⟩, -, X117, ⟨Lc117, hQ117, l117, y117, z117⟩, st117⟩ := Jvm.LawKit.callS X104 hx (y := Y28) hown (mvT hZ (w24 hw)) (mvT hZ (w25 hw)) (mvT hZ (w18 hw)) (mvT hZ (w26 hw)) (by decide) (backOf (W := 1) (rmcf2_4 l Z a0 hw [] b104r b104kr (own_lo c0) (own_hi c0) (own_lo c1) (own_hi c1) T104.heap n0 Z115 P106 ) hZ (w26 hw) (w18 hw) (by decide) (by decide)) (g := (mkF m 45 #[vR a1, vR a2, vI 0, vI 2, .val .null, vR b104r] [(.int 2), (.ref b104r), (.ref a1)])) rfl hml.symm (argsL := [(.ref b104r), (.int 2)]) (rest := [(.ref a1)]) (lenOf pd_21 rfl) rfl (Nat.le_of_eq rfl) (hb hby d2_45) (fun _ _ => ⟨rfl, rfl, (by decide : 2 + 0 ≤ _), (by decide : 6 + 0 ≤ _)⟩)
 dsimp only [Pt.U, Pt.locs, Pt.cells, Pt.slots] at X117 l117 y117 z117 st117 hQ117
 subst l117 y117 z117
 obtain ⟨rfl, N117q, eh117⟩ := hQ117
 have N117 := Fr.app N104 N117q
 refine Go.step st117 ?_
 obtain ⟨T118, h118, X118, e118, W118, st118⟩ := putFN X117 hx hZ hown (w27 hw) Via.refl eh117 F108 F107 (Or.inr ⟨(w28 hw), rfl, hnm⟩) (w3 hw) (ty := .byte) (v' := (.int 1)) (by decide) rfl rfl (g := (mkF m 48 #[vR a1, vR a2, vI 0, vI 2, .val .null, vR b104r] [(.int 1), (.ref a1)])) rfl rfl (hb hby d2_48)
 refine Go.step st118 ?_
 have N118 := Fr.snoc X118 N117 g_a1
 have F119 := (F107.wr W118)
 have F120 := (F108.same W118)
 have F121 := (F109.other W118 (Or.inr (slot_ne (Or.inr (w30 hw)) (Or.inr (w28 hw)) (by decide) (t := (.array .byte)) (t' := .byte) (by decide) (by decide))))
 have F122 := (F110.other W118 ne21)
 have F123 := (F111.wr W118)
 have F124 := (F112.wr W118)
 have F125 := (F113.wr W118)
 have F126 := (F114.wr W118)
 have F127 := (P105.wr W118)
 have F128 := (P106.other W118 (Ne.symm ne_a1_b104r))
 have Z129 : n0 ≤ h118.size := (Nat.le_trans Z115 (Nat.le_of_eq W118.size.symm))
 have K130 : Keep h0 h118 [a1] := (K116.wr W118 (Or.inl (List.mem_of_getElem? (i := 0) rfl)))
 show Go p.tables e below _ (T118.setTop (mkF m 51 #[vR a1, vR a2, vI 0, vI 2, .val .null, vR b104r] []))
 refine Go.step (fun _ kt => XS.aloadN X118.here hx rfl (hb hby d2_51) rfl rfl (XS.aload X118.here hx rfl (hb hby d2_52) rfl rfl kt)) ?_
 obtain ⟨T131, h131, X131, e131, W131, st131⟩ := putF X118 hx hZ hown (host := "") (Or.inl (w29 hw)) Via.refl e118 F121 F119 (Or.inr ⟨(w30 hw), rfl, hnm⟩) (w3 hw) (ty := (.array .byte)) (by decide) rfl rfl (g := (mkF m 54 #[vR a1, vR a2, vI 0, vI 2, .val .null, vR b104r] [(.ref b104r), (.ref a1)])) rfl rfl (hb hby d2_54)
 refine Go.step st131 ?_
 have N131 := Fr.snoc X131 N118 g_a1
 have F132 := (F119.wr W131)
 have F133 := (F120.other W131 (Or.inr (slot_ne (Or.inr (w28 hw)) (Or.inr (w30 hw)) (by decide) (t := .byte) (t' := (.array .byte)) (by decide) (by decide))))
 have F134 := (F121.same W131)
 have F135 := (F122.other W131 ne21)
 have F136 := (F123.wr W131)
 have F137 := (F124.wr W131)
 have F138 := (F125.wr W131)
 have F139 := (F126.wr W131)
 have F140 := (F127.wr W131)
 have F141 := (F128.other W131 (Ne.symm ne_a1_b104r))
 have Z142 : n0 ≤ h131.size := (Nat.le_trans Z129 (Nat.le_of_eq W131.size.symm))
 have K143 : Keep h0 h131 [a1] := (K130.wr W131 (Or.inl (List.mem_of_getElem? (i := 0) rfl)))
 show Go p.tables e below _ (T131.setTop (mkF m 57 #[vR a1, vR a2, vI 0, vI 2, .val .null, vR b104r] []))
 have En144 : own_enc Z h131 b104r (1 : Int32) (own_e2 c0 c1) := ⟨F140, _, Or.inr (Or.inr (Or.inr (Or.inr (⟨rfl, c0, c1, hR0, hR1, rfl, F141⟩))))⟩
 obtain ⟨fs, hr, hrun, hended, hW, hsame⟩ := X131.leave (v := none) (fun _ => rfl)
 refine ⟨_, _, X131.returnOut hx Bd.returns (hb hby d2_57) hr, hrun, hended, _, _, rfl, ?_, ⟨_, rfl⟩, hW, hsame.mono (by decide) (by decide)⟩
 show Qrmct42_U Z a1 a2 u1 u2 k2 cs c0 c1 h0 n0 _ T131.heap _
 rw [e131]
 refine ⟨b104r, (1 : Int32), ?_, N131, K143, F132, F133, F134, F140, En144⟩
 rfl
theorem ef_rmkl2_L (m : MethodId) (a1 : Addr) (a2 : Addr) (k1 : ClassId) (k2 : ClassId) (c0 : Int32) (c1 : Int32) : entryFrame m #[(.ref a1), (.int 0), (.ref a2), (.int 0), (.int 2)] 7 = mkF m 0 #[vR a1, vI 0, vR a2, vI 0, vI 2, uS, uS] [] := by first | (simp [entryFrame, mkF, argsToLocals, Value.category]; done) | rfl
def Qrmkl2_L (Z : State) (a1 : Addr) (a2 : Addr) (k1 : ClassId) (k2 : ClassId) (c0 : Int32) (c1 : Int32) (h0 : Heap) (n0 : Nat) (v : Option Value) (h : Heap) (L : List Loc) : Prop := v = some (.int 2) ∧ Fr n0 L ∧ Keep h0 h [a2] ∧ Arv Z h a2 k2 .byte (2 : Int32) [(.int (own_by c0)), (.int (own_by c1))] (.int 0)
set_option maxRecDepth 65536 in
set_option maxHeartbeats 40000000 in
theorem rmkl2_L (l : Launch) (Z : State) (a0 : Array Value) (hw : ∀ d ∈ tables_1, d.before a0 Z = true) (ws : List Jvm.Cond) (a1 : Addr) (a2 : Addr) (k1 : ClassId) (k2 : ClassId) (c0 : Int32) (c1 : Int32) (h0 : Heap) (n0 : Nat) (Z0 : n0 ≤ h0.size) (V1 : Arv Z h0 a1 k1 .char (2 : Int32) [(.int c0), (.int c1)] (.int 0)) (V2 : Arv Z h0 a2 k2 .byte (2 : Int32) [(.int 0), (.int 0)] (.int 0)) (g_a2 : n0 ≤ a2) (ne12 : a1 ≠ a2) (hb0 : own_L c0) (hb1 : own_L c1) :
    MetFree l Y24 (head1 (Jvm.Cond.code Y24 jdk_52_method_21_code 7 (some .int) :: ws) Rm0) (fun a U => a = #[(.ref a1), (.int 0), (.ref a2), (.int 0), (.int 2)] ∧ Z.Warmed39 U.vm ∧ U.heap = h0) (fun _ _ _ _ _ => True) (fun _ U o U' => ∃ v L, o = .returned v ∧ Qrmkl2_L Z a1 a2 k1 k2 c0 c1 h0 n0 v U'.heap L ∧ FrameEnd U o U' L Rm0.cells Rm0.slots) := by
 refine MetFree.of_bodySF (plainFor_of_name pn_4) hisR ?_
 intro p e s m args below meth c s₁ Bd hml0 hP hK
 obtain ⟨rfl, hZ, hh⟩ := hP
 have hx := Bd.exec
 have hby := Bd.bytes
 have hml : c.maxLocals = 7 := hml0
 have hown : s.vm.findClass "java/lang/StringUTF16" = some m.cls := findClass_of_methodNamed Bd.named
 have hnm := (name_of_methodNamed Bd.named Bd.method).1
 have X0 : Stand p l e Rm0 s m #[(.ref a1), (.int 0), (.ref a2), (.int 0), (.int 2)] below meth c s₁ [] 0 0 := Stand.of_body Bd
 have e0 : s₁.heap = h0 := by rw [← hh, Bd.state]; rfl
 have N0 := Fr.nil n0
 show Go p.tables e below (fun o U' => ∃ v L, o = .returned v ∧ Qrmkl2_L Z a1 a2 k1 k2 c0 c1 h0 n0 v U'.heap L ∧ FrameEnd s o U' L Rm0.cells Rm0.slots) _
 refine Go.step (fun t kt => castTop (ef_rmkl2_L m a1 a2 k1 k2 c0 c1) kt) ?_
 show Go p.tables e below _ (s₁.setTop (mkF m 0 #[vR a1, vI 0, vR a2, vI 0, vI 2, uS, uS] []))
 have K101 : Keep h0 h0 [a2] := (Keep.refl h0 [a2])
 refine Go.step (fun _ kt => XS.iconst X0.here hx rfl (hb hby d5_0) (XS.istore X0.here hx rfl (hb hby d5_1) rfl (l' := #[vR a1, vI 0, vR a2, vI 0, vI 2, vI 0, uS]) rfl (XS.iload X0.here hx rfl (hb hby d5_3) rfl (XS.iload X0.here hx rfl (hb hby d5_5) rfl (XS.icmpNo X0.here hx rfl (hb hby d5_7) rfl (tlt (by decide : (0 : Int32) < (2 : Int32))).2.1 (XS.aloadN X0.here hx rfl (hb hby d5_10) rfl rfl (XS.iloadN X0.here hx rfl (hb hby d5_11) rfl kt))))))) ?_
 show Go p.tables e below _ (s₁.setTop (mkF m 12 #[vR a1, vI 0, vR a2, vI 0, vI 2, vI 0, uS] [(.int 0), (.ref a1)]))
 obtain ⟨cl102, Ar102, qa102, Sa102, Na102, Ha102, Ga102⟩ := (id V1)
 have hin102 : ¬ ((0 : Int32) < 0 ∨ cl102.slots.size ≤ ((0 : Int32)).toNatClampNeg) := inb_of Sa102 ⟨by decide, by decide⟩
 have hat102 : cl102.slots[((0 : Int32)).toNatClampNeg]? = some (.int c0) := at_of Ha102 hin102 rfl
 refine Go.step (X0.caload hx (j := (0 : Int32)) (v := (.int c0)) (by rw [e0]; exact Ar102.1) (State.isArrayOf_alike hZ.alike Ar102.2.1) Ar102.2.2 hin102 hat102 (g := (mkF m 12 #[vR a1, vI 0, vR a2, vI 0, vI 2, vI 0, uS] [(.int 0), (.ref a1)])) rfl rfl (hb hby d5_12)) ?_
 show Go p.tables e below _ (s₁.setTop (mkF m 13 #[vR a1, vI 0, vR a2, vI 0, vI 2, vI 0, uS] [(.int c0)]))
 refine Go.step (fun _ kt => XS.istore X0.here hx rfl (hb hby d5_13) rfl (l' := #[vR a1, vI 0, vR a2, vI 0, vI 2, vI 0, vI c0]) rfl (XS.iload X0.here hx rfl (hb hby d5_15) rfl (XS.sipush X0.here hx rfl (hb hby d5_17) (XS.icmpYes X0.here hx rfl (pc0 := 20) (pc' := 26) rfl (hb hby d5_20) rfl (flt hb0.2).2.2.2 (by decide) (by decide) (XS.aloadN X0.here hx rfl (hb hby d5_26) rfl rfl (XS.iloadN X0.here hx rfl (hb hby d5_27) rfl (XS.iload X0.here hx rfl (hb hby d5_28) rfl (XS.i2b X0.here hx rfl (hb hby d5_30) rfl kt)))))))) ?_
 show Go p.tables e below _ (s₁.setTop (mkF m 31 #[vR a1, vI 0, vR a2, vI 0, vI 2, vI 0, vI c0] [(.int (c0.toInt8.toInt32)), (.int 0), (.ref a2)]))
 have q103 : (c0.toInt8.toInt32) = (own_by c0) := rfl
 rw [q103]
 obtain ⟨cl104, Ar104, qa104, Sa104, Na104, Ha104, Ga104⟩ := (id V2)
 have hin104 : ¬ ((0 : Int32) < 0 ∨ cl104.slots.size ≤ ((0 : Int32)).toNatClampNeg) := inb_of Sa104 ⟨by decide, by decide⟩
 obtain ⟨T104, h104, X104, e104, W104, st104⟩ := stB X0 hx hZ e0 Ar104 (j := (0 : Int32)) hin104 (g := (mkF m 31 #[vR a1, vI 0, vR a2, vI 0, vI 2, vI 0, vI c0] [(.int (own_by c0)), (.int 0), (.ref a2)])) rfl rfl (hb hby d5_31)
 refine Go.step st104 ?_
 have V105 := Arv.set Ar104 qa104 Sa104 Na104 Ha104 Ga104 (fits_nar_byte _) W104 0 rfl (Nat.le_of_ble_eq_true rfl)
 have N104 := Fr.snoc X104 N0 g_a2
 have F106 := (V1.other W104 ne12)
 have Z107 : n0 ≤ h104.size := (Nat.le_trans Z0 (Nat.le_of_eq W104.size.symm))
 have K108 : Keep h0 h104 [a2] := (K101.wr W104 (Or.inl (List.mem_of_getElem? (i := 0) rfl)))
 show Go p.tables e below _ (T104.setTop (mkF m 32 #[vR a1, vI 0, vR a2, vI 0, vI 2, vI 0, vI c0] []))
 have Vn109 : Arv Z h104 a2 k2 .byte (2 : Int32) [(.int (own_by c0)), (.int 0)] (.int 0) := by have q1 : ((own_by c0)).toInt8.toInt32 = (own_by c0) := (own_bb _); have q0 := V105; have q2 : nar .byte (own_by c0) = (own_by c0) := q1; first | (rw [q1] at q0; exact q0) | (rw [q2] at q0; exact q0)
 refine Go.step (fun _ kt => XS.iinc X104.here hx rfl (hb hby d5_32) rfl (l' := #[vR a1, vI ((0 : Int32) + (1 : Int32)), vR a2, vI 0, vI 2, vI 0, vI c0]) rfl kt) ?_
 show Go p.tables e below _ (T104.setTop (mkF m 35 #[vR a1, vI ((0 : Int32) + (1 : Int32)), vR a2, vI 0, vI 2, vI 0, vI c0] []))
 have q110 : ((0 : Int32) + (1 : Int32)) = (1 : Int32) := by decide
 rw [q110]
 show Go p.tables e below _ (T104.setTop (mkF m 35 #[vR a1, vI 1, vR a2, vI 0, vI 2, vI 0, vI c0] []))
 refine Go.step (fun _ kt => XS.iinc X104.here hx rfl (hb hby d5_35) rfl (l' := #[vR a1, vI 1, vR a2, vI ((0 : Int32) + (1 : Int32)), vI 2, vI 0, vI c0]) rfl kt) ?_
 show Go p.tables e below _ (T104.setTop (mkF m 38 #[vR a1, vI 1, vR a2, vI ((0 : Int32) + (1 : Int32)), vI 2, vI 0, vI c0] []))
 have q111 : ((0 : Int32) + (1 : Int32)) = (1 : Int32) := by decide
 rw [q111]
 show Go p.tables e below _ (T104.setTop (mkF m 38 #[vR a1, vI 1, vR a2, vI 1, vI 2, vI 0, vI c0] []))
 refine Go.step (fun _ kt => XS.iinc X104.here hx rfl (hb hby d5_38) rfl (l' := #[vR a1, vI 1, vR a2, vI 1, vI 2, vI ((0 : Int32) + (1 : Int32)), vI c0]) rfl kt) ?_
 show Go p.tables e below _ (T104.setTop (mkF m 41 #[vR a1, vI 1, vR a2, vI 1, vI 2, vI ((0 : Int32) + (1 : Int32)), vI c0] []))
 have q112 : ((0 : Int32) + (1 : Int32)) = (1 : Int32) := by decide
 rw [q112]
 show Go p.tables e below _ (T104.setTop (mkF m 41 #[vR a1, vI 1, vR a2, vI 1, vI 2, vI 1, vI c0] []))
 refine Go.step (fun _ kt => XS.goto X104.here hx rfl (pc0 := 41) (pc' := 3) rfl (hb hby d5_41) (by decide) (by decide) (XS.iload X104.here hx rfl (hb hby d5_3) rfl (XS.iload X104.here hx rfl (hb hby d5_5) rfl (XS.icmpNo X104.here hx rfl (hb hby d5_7) rfl (tlt (by decide : (1 : Int32) < (2 : Int32))).2.1 (XS.aloadN X104.here hx rfl (hb hby d5_10) rfl rfl (XS.iloadN X104.here hx rfl (hb hby d5_11) rfl kt)))))) ?_
 show Go p.tables e below _ (T104.setTop (mkF m 12 #[vR a1, vI 1, vR a2, vI 1, vI 2, vI 1, vI c0] [(.int 1), (.ref a1)]))
 obtain ⟨cl113, Ar113, qa113, Sa113, Na113, Ha113, Ga113⟩ := (id F106)
 have hin113 : ¬ ((1 : Int32) < 0 ∨ cl113.slots.size ≤ ((1 : Int32)).toNatClampNeg) := inb_of Sa113 ⟨by decide, by decide⟩
 have hat113 : cl113.slots[((1 : Int32)).toNatClampNeg]? = some (.int c1) := at_of Ha113 hin113 rfl
 refine Go.step (X104.caload hx (j := (1 : Int32)) (v := (.int c1)) (by rw [e104]; exact Ar113.1) (State.isArrayOf_alike hZ.alike Ar113.2.1) Ar113.2.2 hin113 hat113 (g := (mkF m 12 #[vR a1, vI 1, vR a2, vI 1, vI 2, vI 1, vI c0] [(.int 1), (.ref a1)])) rfl rfl (hb hby d5_12)) ?_
 show Go p.tables e below _ (T104.setTop (mkF m 13 #[vR a1, vI 1, vR a2, vI 1, vI 2, vI 1, vI c0] [(.int c1)]))
 refine Go.step (fun _ kt => XS.istore X104.here hx rfl (hb hby d5_13) rfl (l' := #[vR a1, vI 1, vR a2, vI 1, vI 2, vI 1, vI c1]) rfl (XS.iload X104.here hx rfl (hb hby d5_15) rfl (XS.sipush X104.here hx rfl (hb hby d5_17) (XS.icmpYes X104.here hx rfl (pc0 := 20) (pc' := 26) rfl (hb hby d5_20) rfl (flt hb1.2).2.2.2 (by decide) (by decide) (XS.aloadN X104.here hx rfl (hb hby d5_26) rfl rfl (XS.iloadN X104.here hx rfl (hb hby d5_27) rfl (XS.iload X104.here hx rfl (hb hby d5_28) rfl (XS.i2b X104.here hx rfl (hb hby d5_30) rfl kt)))))))) ?_
 show Go p.tables e below _ (T104.setTop (mkF m 31 #[vR a1, vI 1, vR a2, vI 1, vI 2, vI 1, vI c1] [(.int (c1.toInt8.toInt32)), (.int 1), (.ref a2)]))
 have q114 : (c1.toInt8.toInt32) = (own_by c1) := rfl
 rw [q114]
 obtain ⟨cl115, Ar115, qa115, Sa115, Na115, Ha115, Ga115⟩ := (id Vn109)
 have hin115 : ¬ ((1 : Int32) < 0 ∨ cl115.slots.size ≤ ((1 : Int32)).toNatClampNeg) := inb_of Sa115 ⟨by decide, by decide⟩
 obtain ⟨T115, h115, X115, e115, W115, st115⟩ := stB X104 hx hZ e104 Ar115 (j := (1 : Int32)) hin115 (g := (mkF m 31 #[vR a1, vI 1, vR a2, vI 1, vI 2, vI 1, vI c1] [(.int (own_by c1)), (.int 1), (.ref a2)])) rfl rfl (hb hby d5_31)
 refine Go.step st115 ?_
 have V116 := Arv.set Ar115 qa115 Sa115 Na115 Ha115 Ga115 (fits_nar_byte _) W115 1 rfl (Nat.le_of_ble_eq_true rfl)
 have N115 := Fr.snoc X115 N104 g_a2
 have F117 := (F106.other W115 ne12)
 have Z118 : n0 ≤ h115.size := (Nat.le_trans Z107 (Nat.le_of_eq W115.size.symm))
 have K119 : Keep h0 h115 [a2] := (K108.wr W115 (Or.inl (List.mem_of_getElem? (i := 0) rfl)))
 show Go p.tables e below _ (T115.setTop (mkF m 32 #[vR a1, vI 1, vR a2, vI 1, vI 2, vI 1, vI c1] []))
 have Vn120 : Arv Z h115 a2 k2 .byte (2 : Int32) [(.int (own_by c0)), (.int (own_by c1))] (.int 0) := by have q1 : ((own_by c1)).toInt8.toInt32 = (own_by c1) := (own_bb _); have q0 := V116; have q2 : nar .byte (own_by c1) = (own_by c1) := q1; first | (rw [q1] at q0; exact q0) | (rw [q2] at q0; exact q0)
 refine Go.step (fun _ kt => XS.iinc X115.here hx rfl (hb hby d5_32) rfl (l' := #[vR a1, vI ((1 : Int32) + (1 : Int32)), vR a2, vI 1, vI 2, vI 1, vI c1]) rfl kt) ?_
 show Go p.tables e below _ (T115.setTop (mkF m 35 #[vR a1, vI ((1 : Int32) + (1 : Int32)), vR a2, vI 1, vI 2, vI 1, vI c1] []))
 have q121 : ((1 : Int32) + (1 : Int32)) = (2 : Int32) := by decide
 rw [q121]
 show Go p.tables e below _ (T115.setTop (mkF m 35 #[vR a1, vI 2, vR a2, vI 1, vI 2, vI 1, vI c1] []))
 refine Go.step (fun _ kt => XS.iinc X115.here hx rfl (hb hby d5_35) rfl (l' := #[vR a1, vI 2, vR a2, vI ((1 : Int32) + (1 : Int32)), vI 2, vI 1, vI c1]) rfl kt) ?_
 show Go p.tables e below _ (T115.setTop (mkF m 38 #[vR a1, vI 2, vR a2, vI ((1 : Int32) + (1 : Int32)), vI 2, vI 1, vI c1] []))
 have q122 : ((1 : Int32) + (1 : Int32)) = (2 : Int32) := by decide
 rw [q122]
 show Go p.tables e below _ (T115.setTop (mkF m 38 #[vR a1, vI 2, vR a2, vI 2, vI 2, vI 1, vI c1] []))
 refine Go.step (fun _ kt => XS.iinc X115.here hx rfl (hb hby d5_38) rfl (l' := #[vR a1, vI 2, vR a2, vI 2, vI 2, vI ((1 : Int32) + (1 : Int32)), vI c1]) rfl kt) ?_
 show Go p.tables e below _ (T115.setTop (mkF m 41 #[vR a1, vI 2, vR a2, vI 2, vI 2, vI ((1 : Int32) + (1 : Int32)), vI c1] []))
 have q123 : ((1 : Int32) + (1 : Int32)) = (2 : Int32) := by decide
 rw [q123]
 show Go p.tables e below _ (T115.setTop (mkF m 41 #[vR a1, vI 2, vR a2, vI 2, vI 2, vI 2, vI c1] []))
 refine Go.step (fun _ kt => XS.goto X115.here hx rfl (pc0 := 41) (pc' := 3) rfl (hb hby d5_41) (by decide) (by decide) (XS.iload X115.here hx rfl (hb hby d5_3) rfl (XS.iload X115.here hx rfl (hb hby d5_5) rfl (XS.icmpYes X115.here hx rfl (pc0 := 7) (pc' := 44) rfl (hb hby d5_7) rfl (flt (by decide : ¬ ((2 : Int32) < (2 : Int32)))).2.1 (by decide) (by decide) (XS.iload X115.here hx rfl (hb hby d5_44) rfl kt))))) ?_
 show Go p.tables e below _ (T115.setTop (mkF m 46 #[vR a1, vI 2, vR a2, vI 2, vI 2, vI 2, vI c1] [(.int 2)]))
 obtain ⟨fs, hr, hrun, hended, hW, hsame⟩ := X115.leave (v := some (.int 2)) (fun h => by rw [Bd.returns] at h; cases h)
 refine ⟨_, _, retI X115 hx Bd.returns (hb hby d5_46) hr, hrun, hended, _, _, rfl, ?_, ⟨_, rfl⟩, hW, hsame.mono (by decide) (by decide)⟩
 show Qrmkl2_L Z a1 a2 k1 k2 c0 c1 h0 n0 _ T115.heap _
 rw [e115]
 refine ⟨?_, N115, K119, Vn120⟩
 rfl
theorem ef_rmk2_L (m : MethodId) (a1 : Addr) (k1 : ClassId) (c0 : Int32) (c1 : Int32) : entryFrame m #[(.ref a1), (.int 0), (.int 2)] 6 = mkF m 0 #[vR a1, vI 0, vI 2, uS, uS, uS] [] := by first | (simp [entryFrame, mkF, argsToLocals, Value.category]; done) | rfl
def Qrmk2_L (Z : State) (a1 : Addr) (k1 : ClassId) (c0 : Int32) (c1 : Int32) (h0 : Heap) (n0 : Nat) (v : Option Value) (h : Heap) (L : List Loc) : Prop := ∃ r : Addr, ∃ kr : ClassId, v = some (.ref r) ∧ Fr n0 L ∧ Keep h0 h [] ∧ Exa Z h r "[B" ∧ Arv Z h r kr .byte (2 : Int32) [(.int (own_by c0)), (.int (own_by c1))] (.int 0) ∧ n0 ≤ r ∧ h0.size ≤ r
set_option maxRecDepth 65536 in
set_option maxHeartbeats 40000000 in
theorem rmk2_L (l : Launch) (Z : State) (a0 : Array Value) (hw : ∀ d ∈ tables_1, d.before a0 Z = true) (ws : List Jvm.Cond) (a1 : Addr) (k1 : ClassId) (c0 : Int32) (c1 : Int32) (h0 : Heap) (n0 : Nat) (Z0 : n0 ≤ h0.size) (V1 : Arv Z h0 a1 k1 .char (2 : Int32) [(.int c0), (.int c1)] (.int 0)) (hb0 : own_L c0) (hb1 : own_L c1) :
    MetFree l Y27 (head1 (Jvm.Cond.code Y27 jdk_52_method_16_code 6 (some (.array .byte)) :: ws) Rm22) (fun a U => a = #[(.ref a1), (.int 0), (.int 2)] ∧ Z.Warmed39 U.vm ∧ U.heap = h0) (fun _ _ _ _ _ => True) (fun _ U o U' => ∃ v L, o = .returned v ∧ Qrmk2_L Z a1 k1 c0 c1 h0 n0 v U'.heap L ∧ FrameEnd U o U' L Rm22.cells Rm22.slots) := by
 refine MetFree.of_bodySF (plainFor_of_name pn_4) hisR ?_
 intro p e s m args below meth c s₁ Bd hml0 hP hK
 obtain ⟨rfl, hZ, hh⟩ := hP
 have hx := Bd.exec
 have hby := Bd.bytes
 have hml : c.maxLocals = 6 := hml0
 have hown : s.vm.findClass "java/lang/StringUTF16" = some m.cls := findClass_of_methodNamed Bd.named
 have hnm := (name_of_methodNamed Bd.named Bd.method).1
 have X0 : Stand p l e Rm22 s m #[(.ref a1), (.int 0), (.int 2)] below meth c s₁ [] 0 0 := Stand.of_body Bd
 have e0 : s₁.heap = h0 := by rw [← hh, Bd.state]; rfl
 have N0 := Fr.nil n0
 show Go p.tables e below (fun o U' => ∃ v L, o = .returned v ∧ Qrmk2_L Z a1 k1 c0 c1 h0 n0 v U'.heap L ∧ FrameEnd s o U' L Rm22.cells Rm22.slots) _
 refine Go.step (fun t kt => castTop (ef_rmk2_L m a1 k1 c0 c1) kt) ?_
 show Go p.tables e below _ (s₁.setTop (mkF m 0 #[vR a1, vI 0, vI 2, uS, uS, uS] []))
 have K101 : Keep h0 h0 [] := (Keep.refl h0 [])
 refine Go.step (fun _ kt => XS.iloadN X0.here hx rfl (hb hby d4_0) rfl kt) ?_
 obtain ⟨T102, h102, k102, X102, e102, E102, A102, Ex102, st102⟩ := newPE (aty := .byte) X0 hx hZ (w20 hw) e0 (g := (mkF m 1 #[vR a1, vI 0, vI 2, uS, uS, uS] [(.int 2)])) rfl (hb hby d4_1) rfl (by decide) (cap := 2) (by decide) (by decide) (by decide) (by decide) (ad := "[B") own_adB
 obtain ⟨b102, g102⟩ : ∃ z, z = h0.size := ⟨_, rfl⟩
 rw [← g102] at A102 Ex102 st102
 refine Go.step st102 ?_
 have ne_a1_b102 : a1 ≠ b102 := Nat.ne_of_lt (Nat.lt_of_lt_of_le V1.lt (Nat.le_of_eq g102.symm))
 have g_b102 : n0 ≤ b102 := Nat.le_trans Z0 (Nat.le_of_eq g102.symm)
 have sz_b102 : h0.size ≤ b102 := Nat.le_trans K101.1 (Nat.le_of_eq g102.symm)
 have F103 := (V1.ext E102)
 have Z104 : n0 ≤ h102.size := (Nat.le_trans Z0 E102.1)
 have K105 : Keep h0 h102 [] := (K101.ext E102)
 have V106 : Arv Z h102 b102 k102 .byte (2 : Int32) [(.int 0), (.int 0)] (.int 0) := (Arv.new A102 (by decide)).pad (pad_rep [] (.int 0) 2)
 show Go p.tables e below _ (T102.setTop (mkF m 3 #[vR a1, vI 0, vI 2, uS, uS, uS] [(.ref b102)]))
 refine Go.step (fun _ kt => XS.astoreN X102.here hx rfl (hb hby d4_3) rfl rfl (l' := #[vR a1, vI 0, vI 2, vR b102, uS, uS]) rfl (XS.aloadN X102.here hx rfl (hb hby d4_4) rfl rfl (XS.iloadN X102.here hx rfl (hb hby d4_5) rfl (XS.aloadN X102.here hx rfl (hb hby d4_6) rfl rfl (XS.iconst X102.here hx rfl (hb hby d4_7) (XS.iloadN X102.here hx rfl (hb hby d4_8) rfl kt)))))) ?_
 show Go p.tables e below _ (T102.setTop (mkF m 9 #[vR a1, vI 0, vI 2, vR b102, uS, uS] [(.int 2), (.int 0), (.ref b102), (.int 0), (.ref a1)]))
 obtain ⟨_, _, ⟨T107, L107, k107, n107⟩, -, X107, ⟨Lc107, hQ107, l107, y107, z107⟩, st107⟩ := Jvm.LawKit.callS X102 hx (y := Y24) hown (mvT hZ (w21 hw)) (mvT hZ (w22 hw)) (mvT hZ (w18 hw)) (mvT hZ (w23 hw)) (by decide) (backOf (W := 0) (rmkl2_L l Z a0 hw [] a1 b102 k1 k102 c0 c1 h102 n0 Z104 F103 V106 g_b102 ne_a1_b102 hb0 hb1) hZ (w23 hw) (w18 hw) (by decide) (by decide)) (g := (mkF m 9 #[vR a1, vI 0, vI 2, vR b102, uS, uS] [(.int 2), (.int 0), (.ref b102), (.int 0), (.ref a1)])) rfl hml.symm (argsL := [(.ref a1), (.int 0), (.ref b102), (.int 0), (.int 2)]) (rest := []) (lenOf pd_18 rfl) rfl (Nat.le_of_eq rfl) (hb hby d4_9) (fun _ _ => ⟨rfl, e102, (by decide : 1 + 0 ≤ _), (by decide : 2 + 0 ≤ _)⟩)
 dsimp only [Pt.U, Pt.locs, Pt.cells, Pt.slots] at X107 l107 y107 z107 st107 hQ107
 subst l107 y107 z107
 obtain ⟨rfl, N107q, Kq107, P108⟩ := hQ107
 have F109 := (F103.keep Kq107 (fun q => ne_a1_b102 (List.mem_singleton.mp q)))
 have F110 := (Ex102.keep Kq107)
 have Z111 : n0 ≤ T107.heap.size := (Nat.le_trans Z104 Kq107.1)
 have K112 : Keep h0 T107.heap [] := (K105.trans Kq107 (by intro x hx; cases List.mem_singleton.mp hx; exact (Or.inr sz_b102)))
 have N107 := Fr.app N0 N107q
 refine Go.step st107 ?_
 show Go p.tables e below _ (T107.setTop (mkF m 12 #[vR a1, vI 0, vI 2, vR b102, uS, uS] [(.int 2)]))
 refine Go.step (fun _ kt => XS.istore X107.here hx rfl (hb hby d4_12) rfl (l' := #[vR a1, vI 0, vI 2, vR b102, vI 2, uS]) rfl (XS.iload X107.here hx rfl (hb hby d4_14) rfl (XS.iloadN X107.here hx rfl (hb hby d4_16) rfl (XS.icmpYes X107.here hx rfl (pc0 := 17) (pc' := 57) rfl (hb hby d4_17) rfl (teq (by decide : (2 : Int32) = (2 : Int32))).1 (by decide) (by decide) (XS.aloadN X107.here hx rfl (hb hby d4_57) rfl rfl kt))))) ?_
 show Go p.tables e below _ (T107.setTop (mkF m 58 #[vR a1, vI 0, vI 2, vR b102, vI 2, uS] [(.ref b102)]))
 obtain ⟨fs, hr, hrun, hended, hW, hsame⟩ := X107.leave (v := some (.ref b102)) (fun h => by rw [Bd.returns] at h; cases h)
 refine ⟨_, _, retOut X107 hx Bd.returns rfl (Or.inr (Or.inr (Or.inr (Or.inr ⟨rfl, rfl, rfl⟩)))) (hb hby d4_58) hr, hrun, hended, _, _, rfl, ?_, ⟨_, rfl⟩, hW, hsame.mono (by decide) (by decide)⟩
 show Qrmk2_L Z a1 k1 c0 c1 h0 n0 _ T107.heap _
 refine ⟨b102, k102, ?_, N107, K112, F110, P108, g_b102, sz_b102⟩
 rfl
theorem ef_rmcf2_2 (m : MethodId) (a1 : Addr) (k1 : ClassId) (v0 : Int32) (v1 : Int32) : entryFrame m #[(.ref a1), (.int 2)] 2 = mkF m 0 #[vR a1, vI 2] [] := by first | (simp [entryFrame, mkF, argsToLocals, Value.category]; done) | rfl
def Qrmcf2_2 (Z : State) (a1 : Addr) (k1 : ClassId) (v0 : Int32) (v1 : Int32) (h0 : Heap) (n0 : Nat) (v : Option Value) (h : Heap) (L : List Loc) : Prop := v = some (.int 0) ∧ Fr n0 L ∧ h = h0
set_option maxRecDepth 65536 in
set_option maxHeartbeats 40000000 in
theorem rmcf2_2 (l : Launch) (Z : State) (a0 : Array Value) (hw : ∀ d ∈ tables_1, d.before a0 Z = true) (ws : List Jvm.Cond) (a1 : Addr) (k1 : ClassId) (v0 : Int32) (v1 : Int32) (h0 : Heap) (n0 : Nat) (Z0 : n0 ≤ h0.size) (V1 : Arv Z h0 a1 k1 .byte (2 : Int32) [(.int v0), (.int v1)] (.int 0)) :
    MetFree l Y28 (head1 (Jvm.Cond.code Y28 jdk_52_method_15_code 2 (some .byte) :: ws) Rm0) (fun a U => a = #[(.ref a1), (.int 2)] ∧ Z.Warmed39 U.vm ∧ U.heap = h0) (fun _ _ _ _ _ => True) (fun _ U o U' => ∃ v L, o = .returned v ∧ Qrmcf2_2 Z a1 k1 v0 v1 h0 n0 v U'.heap L ∧ FrameEnd U o U' L Rm0.cells Rm0.slots) := by
 refine MetFree.of_bodySF (plainFor_of_name pn_4) hisR ?_
 intro p e s m args below meth c s₁ Bd hml0 hP hK
 obtain ⟨rfl, hZ, hh⟩ := hP
 have hx := Bd.exec
 have hby := Bd.bytes
 have hml : c.maxLocals = 2 := hml0
 have hown : s.vm.findClass "java/lang/StringUTF16" = some m.cls := findClass_of_methodNamed Bd.named
 have hnm := (name_of_methodNamed Bd.named Bd.method).1
 have X0 : Stand p l e Rm0 s m #[(.ref a1), (.int 2)] below meth c s₁ [] 0 0 := Stand.of_body Bd
 have e0 : s₁.heap = h0 := by rw [← hh, Bd.state]; rfl
 have N0 := Fr.nil n0
 show Go p.tables e below (fun o U' => ∃ v L, o = .returned v ∧ Qrmcf2_2 Z a1 k1 v0 v1 h0 n0 v U'.heap L ∧ FrameEnd s o U' L Rm0.cells Rm0.slots) _
 refine Go.step (fun t kt => castTop (ef_rmcf2_2 m a1 k1 v0 v1) kt) ?_
 show Go p.tables e below _ (s₁.setTop (mkF m 0 #[vR a1, vI 2] []))
 refine Go.step (fun _ kt => XS.iloadN X0.here hx rfl (hb hby d6_0) rfl (XS.aloadN X0.here hx rfl (hb hby d6_1) rfl rfl kt)) ?_
 obtain ⟨cl101, Ar101, qa101, Sa101, Na101, Ha101, Ga101⟩ := (id V1)
 refine Go.step (X0.arraylength hx (by rw [e0]; exact Ar101.1) (State.isArrayOf_alike hZ.alike Ar101.2.1) (g := (mkF m 2 #[vR a1, vI 2] [(.ref a1), (.int 2)])) rfl rfl (hb hby d6_2)) ?_
 rw [len_of Sa101 Na101]
 show Go p.tables e below _ (s₁.setTop (mkF m 3 #[vR a1, vI 2] [(.int 2), (.int 2)]))
 refine Go.step (fun _ kt => XS.isub X0.here hx rfl (hb hby d6_3) rfl kt) ?_
 show Go p.tables e below _ (s₁.setTop (mkF m 4 #[vR a1, vI 2] [(.int ((2 : Int32) - (2 : Int32)))]))
 have q102 : ((2 : Int32) - (2 : Int32)) = (0 : Int32) := by decide
 rw [q102]
 show Go p.tables e below _ (s₁.setTop (mkF m 4 #[vR a1, vI 2] [(.int 0)]))
 refine Go.step (fun _ kt => XS.bipush X0.here hx rfl (hb hby d6_4) (XS.iushr X0.here hx rfl (hb hby d6_6) rfl kt)) ?_
 show Go p.tables e below _ (s₁.setTop (mkF m 7 #[vR a1, vI 2] [(.int (((0 : Int32).toUInt32 >>> ((31 : Int32) &&& 31).toUInt32).toInt32))]))
 have q103 : (((0 : Int32).toUInt32 >>> ((31 : Int32) &&& 31).toUInt32).toInt32) = (0 : Int32) := by decide
 rw [q103]
 show Go p.tables e below _ (s₁.setTop (mkF m 7 #[vR a1, vI 2] [(.int 0)]))
 refine Go.step (fun _ kt => XS.i2b X0.here hx rfl (hb hby d6_7) rfl kt) ?_
 show Go p.tables e below _ (s₁.setTop (mkF m 8 #[vR a1, vI 2] [(.int ((0 : Int32).toInt8.toInt32))]))
 have q104 : ((0 : Int32).toInt8.toInt32) = (0 : Int32) := by decide
 rw [q104]
 show Go p.tables e below _ (s₁.setTop (mkF m 8 #[vR a1, vI 2] [(.int 0)]))
 obtain ⟨fs, hr, hrun, hended, hW, hsame⟩ := X0.leave (v := some (.int 0)) (fun h => by rw [Bd.returns] at h; cases h)
 refine ⟨_, _, retN X0 hx (t := .byte) Bd.returns (by simp) (hb hby d6_8) hr, hrun, hended, _, _, rfl, ?_, ⟨_, rfl⟩, hW, hsame.mono (by decide) (by decide)⟩
 show Qrmcf2_2 Z a1 k1 v0 v1 h0 n0 _ s₁.heap _
 rw [e0]
 refine ⟨?_, N0, rfl⟩
 rfl
theorem ef_rmct42_L (m : MethodId) (a1 : Addr) (a2 : Addr) (u1 : Value) (u2 : Value) (k2 : ClassId) (cs : Int32) (c0 : Int32) (c1 : Int32) : entryFrame m #[(.ref a1), (.ref a2), (.int 0), (.int 2), .null] 6 = mkF m 0 #[vR a1, vR a2, vI 0, vI 2, .val .null, uS] [] := by first | (simp [entryFrame, mkF, argsToLocals, Value.category]; done) | rfl
def Qrmct42_L (Z : State) (a1 : Addr) (a2 : Addr) (u1 : Value) (u2 : Value) (k2 : ClassId) (cs : Int32) (c0 : Int32) (c1 : Int32) (h0 : Heap) (n0 : Nat) (v : Option Value) (h : Heap) (L : List Loc) : Prop := ∃ b : Addr, ∃ cd : Int32, v = none ∧ Fr n0 L ∧ Keep h0 h [a1] ∧ Exa Z h a1 "java/lang/String" ∧ Fld Z h a1 "java/lang/String" "coder" "B" (.int cd) ∧ Fld Z h a1 "java/lang/String" "value" "[B" (.ref b) ∧ Exa Z h b "[B" ∧ own_enc Z h b cd (own_e2 c0 c1)
set_option maxRecDepth 65536 in
set_option maxHeartbeats 40000000 in
theorem rmct42_L (l : Launch) (Z : State) (a0 : Array Value) (hw : ∀ d ∈ tables_1, d.before a0 Z = true) (ws : List Jvm.Cond) (a1 : Addr) (a2 : Addr) (u1 : Value) (u2 : Value) (k2 : ClassId) (cs : Int32) (c0 : Int32) (c1 : Int32) (h0 : Heap) (n0 : Nat) (Z0 : n0 ≤ h0.size) (E1 : Exa Z h0 a1 "java/lang/String") (Fc : Fld Z h0 a1 "java/lang/String" "coder" "B" u1) (Fv : Fld Z h0 a1 "java/lang/String" "value" "[B" u2) (V2 : Arv Z h0 a2 k2 .char (2 : Int32) [(.int c0), (.int c1)] (.int 0)) (S_cs : Sta Z h0 "java/lang/String" "COMPACT_STRINGS" "Z" (.int cs)) (g_a1 : n0 ≤ a1) (hcs : ¬ cs = 0) (ne21 : a2 ≠ a1) (hb0 : own_L c0) (hb1 : own_L c1) :
    MetFree l Y22 (head1 (Jvm.Cond.code Y22 jdk_42_method_149_code 6 none :: ws) Rm23) (fun a U => a = #[(.ref a1), (.ref a2), (.int 0), (.int 2), .null] ∧ Z.Warmed39 U.vm ∧ U.heap = h0) (fun _ _ _ _ _ => True) (fun _ U o U' => ∃ v L, o = .returned v ∧ Qrmct42_L Z a1 a2 u1 u2 k2 cs c0 c1 h0 n0 v U'.heap L ∧ FrameEnd U o U' L Rm23.cells Rm23.slots) := by
 refine MetFree.of_bodySF (plainFor_of_name pn_5) hisR ?_
 intro p e s m args below meth c s₁ Bd hml0 hP hK
 obtain ⟨rfl, hZ, hh⟩ := hP
 have hx := Bd.exec
 have hby := Bd.bytes
 have hml : c.maxLocals = 6 := hml0
 have hown : s.vm.findClass "java/lang/String" = some m.cls := findClass_of_methodNamed Bd.named
 have hnm := (name_of_methodNamed Bd.named Bd.method).1
 have X0 : Stand p l e Rm23 s m #[(.ref a1), (.ref a2), (.int 0), (.int 2), .null] below meth c s₁ [] 0 0 := Stand.of_body Bd
 have e0 : s₁.heap = h0 := by rw [← hh, Bd.state]; rfl
 have N0 := Fr.nil n0
 show Go p.tables e below (fun o U' => ∃ v L, o = .returned v ∧ Qrmct42_L Z a1 a2 u1 u2 k2 cs c0 c1 h0 n0 v U'.heap L ∧ FrameEnd s o U' L Rm23.cells Rm23.slots) _
 refine Go.step (fun t kt => castTop (ef_rmct42_L m a1 a2 u1 u2 k2 cs c0 c1) kt) ?_
 show Go p.tables e below _ (s₁.setTop (mkF m 0 #[vR a1, vR a2, vI 0, vI 2, .val .null, uS] []))
 have K101 : Keep h0 h0 [a1] := (Keep.refl h0 [a1])
 refine Go.step (fun _ kt => XS.aloadN X0.here hx rfl (hb hby d2_0) rfl rfl kt) ?_
 obtain ⟨T102, X102, e102, st102⟩ := initO X0 hx hZ hown (w12 hw) (w13 hw) (w14 hw) e0 (g := (mkF m 1 #[vR a1, vR a2, vI 0, vI 2, .val .null, uS] [(.ref a1)])) rfl hml.symm rfl (hb hby d2_1) (by decide) (W := 0) (Nat.le_of_eq rfl) (by decide)
 refine Go.step st102 ?_
 show Go p.tables e below _ (T102.setTop (mkF m 4 #[vR a1, vR a2, vI 0, vI 2, .val .null, uS] []))
 refine Go.step (fun _ kt => XS.iloadN X102.here hx rfl (hb hby d2_4) rfl (XS.ifYes X102.here hx rfl (pc0 := 5) (pc' := 27) rfl (hb hby d2_5) rfl ((if0 _ _).trans (feq (by decide : ¬ ((2 : Int32) = (0 : Int32)))).2) (by decide) (by decide) kt)) ?_
 obtain ⟨T103, X103, e103, st103⟩ := getS2 X102 hx hZ hown (host := "") (Or.inl (w15 hw)) Via.refl e102 S_cs (g := (mkF m 27 #[vR a1, vR a2, vI 0, vI 2, .val .null, uS] [])) rfl (hb hby d2_27)
 refine Go.step st103 ?_
 show Go p.tables e below _ (T103.setTop (mkF m 30 #[vR a1, vR a2, vI 0, vI 2, .val .null, uS] [(.int cs)]))
 refine Go.step (fun _ kt => XS.ifNo X103.here hx rfl (hb hby d2_30) rfl ((if0 _ _).trans (feq hcs).1) (XS.aloadN X103.here hx rfl (hb hby d2_33) rfl rfl (XS.iloadN X103.here hx rfl (hb hby d2_34) rfl (XS.iloadN X103.here hx rfl (hb hby d2_35) rfl kt)))) ?_
 obtain ⟨_, _, ⟨T104, L104, k104, n104⟩, -, X104, ⟨Lc104, hQ104, l104, y104, z104⟩, st104⟩ := Jvm.LawKit.callS X103 hx (y := Y27) hown (mvT hZ (w16 hw)) (mvT hZ (w17 hw)) (mvT hZ (w18 hw)) (mvT hZ (w19 hw)) (by decide) (backOf (W := 0) (rmk2_L l Z a0 hw [] a2 k2 c0 c1 h0 n0 Z0 V2 hb0 hb1) hZ (w19 hw) (w18 hw) (by decide) (by decide)) (g := (mkF m 36 #[vR a1, vR a2, vI 0, vI 2, .val .null, uS] [(.int 2), (.int 0), (.ref a2)])) rfl hml.symm (argsL := [(.ref a2), (.int 0), (.int 2)]) (rest := []) (lenOf pd_20 rfl) rfl (Nat.le_of_eq rfl) (hb hby d2_36) (fun _ _ => ⟨rfl, e103, (by decide : 0 + 1 ≤ _), (by decide : 0 + 2 ≤ _)⟩)
 dsimp only [Pt.U, Pt.locs, Pt.cells, Pt.slots] at X104 l104 y104 z104 st104 hQ104
 subst l104 y104 z104
 obtain ⟨b104r, b104kr, rfl, N104q, Kq104, P105, P106, g_b104r, szq_b104r⟩ := hQ104
 have ne_a1_b104r : a1 ≠ b104r := Nat.ne_of_lt (Nat.lt_of_lt_of_le E1.lt szq_b104r)
 have ne_a2_b104r : a2 ≠ b104r := Nat.ne_of_lt (Nat.lt_of_lt_of_le V2.lt szq_b104r)
 have sz_b104r : h0.size ≤ b104r := Nat.le_trans K101.1 szq_b104r
 have F107 := (E1.keep Kq104)
 have F108 := (Fc.keep Kq104 (by simp))
 have F109 := (Fv.keep Kq104 (by simp))
 have F110 := (V2.keep Kq104 (by simp))
 have F111 := (own_sta_keep0 S_cs Kq104)
 have Z112 : n0 ≤ T104.heap.size := (Nat.le_trans Z0 Kq104.1)
 have K113 : Keep h0 T104.heap [a1] := (K101.trans Kq104 (by intro x hx; cases hx))
 have N104 := Fr.app N0 N104q
 refine Go.step st104 ?_
 show Go p.tables e below _ (T104.setTop (mkF m 39 #[vR a1, vR a2, vI 0, vI 2, .val .null, uS] [(.ref b104r)]))
 refine Go.step (fun _ kt => XS.astore X104.here hx rfl (hb hby d2_39) rfl rfl (l' := #[vR a1, vR a2, vI 0, vI 2, .val .null, vR b104r]) rfl (XS.aloadN X104.here hx rfl (hb hby d2_41) rfl rfl (XS.aload X104.here hx rfl (hb hby d2_42) rfl rfl (XS.iloadN X104.here hx rfl (hb hby d2_44) rfl kt)))) ?_
 show Go p.tables e below _ (T104.setTop (mkF m 45 #[vR a1, vR a2, vI 0, vI 2, .val .null, vR b104r] [(.int 2), (.ref b104r), (.ref a1)]))
 obtain ⟨_, _, ⟨T114, L114, k114, n114⟩, -, X114, ⟨Lc114, hQ114, l114, y114, z114⟩, st114⟩ := Jvm.LawKit.callS X104 hx (y := Y28) hown (mvT hZ (w24 hw)) (mvT hZ (w25 hw)) (mvT hZ (w18 hw)) (mvT hZ (w26 hw)) (by decide) (backOf (W := 1) (rmcf2_2 l Z a0 hw [] b104r b104kr (own_by c0) (own_by c1) T104.heap n0 Z112 P106 ) hZ (w26 hw) (w18 hw) (by decide) (by decide)) (g := (mkF m 45 #[vR a1, vR a2, vI 0, vI 2, .val .null, vR b104r] [(.int 2), (.ref b104r), (.ref a1)])) rfl hml.symm (argsL := [(.ref b104r), (.int 2)]) (rest := [(.ref a1)]) (lenOf pd_21 rfl) rfl (Nat.le_of_eq rfl) (hb hby d2_45) (fun _ _ => ⟨rfl, rfl, (by decide : 1 + 0 ≤ _), (by decide : 2 + 0 ≤ _)⟩)
 dsimp only [Pt.U, Pt.locs, Pt.cells, Pt.slots] at X114 l114 y114 z114 st114 hQ114
 subst l114 y114 z114
 obtain ⟨rfl, N114q, eh114⟩ := hQ114
 have N114 := Fr.app N104 N114q
 refine Go.step st114 ?_
 obtain ⟨T115, h115, X115, e115, W115, st115⟩ := putFN X114 hx hZ hown (w27 hw) Via.refl eh114 F108 F107 (Or.inr ⟨(w28 hw), rfl, hnm⟩) (w3 hw) (ty := .byte) (v' := (.int 0)) (by decide) rfl rfl (g := (mkF m 48 #[vR a1, vR a2, vI 0, vI 2, .val .null, vR b104r] [(.int 0), (.ref a1)])) rfl rfl (hb hby d2_48)
 refine Go.step st115 ?_
 have N115 := Fr.snoc X115 N114 g_a1
 have F116 := (F107.wr W115)
 have F117 := (F108.same W115)
 have F118 := (F109.other W115 (Or.inr (slot_ne (Or.inr (w30 hw)) (Or.inr (w28 hw)) (by decide) (t := (.array .byte)) (t' := .byte) (by decide) (by decide))))
 have F119 := (F110.other W115 ne21)
 have F120 := (F111.wr W115)
 have F121 := (P105.wr W115)
 have F122 := (P106.other W115 (Ne.symm ne_a1_b104r))
 have Z123 : n0 ≤ h115.size := (Nat.le_trans Z112 (Nat.le_of_eq W115.size.symm))
 have K124 : Keep h0 h115 [a1] := (K113.wr W115 (Or.inl (List.mem_of_getElem? (i := 0) rfl)))
 show Go p.tables e below _ (T115.setTop (mkF m 51 #[vR a1, vR a2, vI 0, vI 2, .val .null, vR b104r] []))
 refine Go.step (fun _ kt => XS.aloadN X115.here hx rfl (hb hby d2_51) rfl rfl (XS.aload X115.here hx rfl (hb hby d2_52) rfl rfl kt)) ?_
 obtain ⟨T125, h125, X125, e125, W125, st125⟩ := putF X115 hx hZ hown (host := "") (Or.inl (w29 hw)) Via.refl e115 F118 F116 (Or.inr ⟨(w30 hw), rfl, hnm⟩) (w3 hw) (ty := (.array .byte)) (by decide) rfl rfl (g := (mkF m 54 #[vR a1, vR a2, vI 0, vI 2, .val .null, vR b104r] [(.ref b104r), (.ref a1)])) rfl rfl (hb hby d2_54)
 refine Go.step st125 ?_
 have N125 := Fr.snoc X125 N115 g_a1
 have F126 := (F116.wr W125)
 have F127 := (F117.other W125 (Or.inr (slot_ne (Or.inr (w28 hw)) (Or.inr (w30 hw)) (by decide) (t := .byte) (t' := (.array .byte)) (by decide) (by decide))))
 have F128 := (F118.same W125)
 have F129 := (F119.other W125 ne21)
 have F130 := (F120.wr W125)
 have F131 := (F121.wr W125)
 have F132 := (F122.other W125 (Ne.symm ne_a1_b104r))
 have Z133 : n0 ≤ h125.size := (Nat.le_trans Z123 (Nat.le_of_eq W125.size.symm))
 have K134 : Keep h0 h125 [a1] := (K124.wr W125 (Or.inl (List.mem_of_getElem? (i := 0) rfl)))
 show Go p.tables e below _ (T125.setTop (mkF m 57 #[vR a1, vR a2, vI 0, vI 2, .val .null, vR b104r] []))
 have En135 : own_enc Z h125 b104r (0 : Int32) (own_e2 c0 c1) := ⟨F131, _, Or.inr (Or.inr (Or.inl ⟨rfl, c0, c1, hb0, hb1, rfl, F132⟩))⟩
 obtain ⟨fs, hr, hrun, hended, hW, hsame⟩ := X125.leave (v := none) (fun _ => rfl)
 refine ⟨_, _, X125.returnOut hx Bd.returns (hb hby d2_57) hr, hrun, hended, _, _, rfl, ?_, ⟨_, rfl⟩, hW, hsame.mono (by decide) (by decide)⟩
 show Qrmct42_L Z a1 a2 u1 u2 k2 cs c0 c1 h0 n0 _ T125.heap _
 rw [e125]
 refine ⟨b104r, (0 : Int32), ?_, N125, K134, F126, F127, F128, F131, En135⟩
 rfl
theorem ef_rmct12 (m : MethodId) (a1 : Addr) (a2 : Addr) (u1 : Value) (u2 : Value) (k2 : ClassId) (cs : Int32) (c0 : Int32) (c1 : Int32) : entryFrame m #[(.ref a1), (.ref a2)] 2 = mkF m 0 #[vR a1, vR a2] [] := by first | (simp [entryFrame, mkF, argsToLocals, Value.category]; done) | rfl
def Qrmct12 (Z : State) (a1 : Addr) (a2 : Addr) (u1 : Value) (u2 : Value) (k2 : ClassId) (cs : Int32) (c0 : Int32) (c1 : Int32) (h0 : Heap) (n0 : Nat) (v : Option Value) (h : Heap) (L : List Loc) : Prop := ∃ b : Addr, ∃ cd : Int32, v = none ∧ Fr n0 L ∧ Keep h0 h [a1] ∧ Exa Z h a1 "java/lang/String" ∧ Fld Z h a1 "java/lang/String" "coder" "B" (.int cd) ∧ Fld Z h a1 "java/lang/String" "value" "[B" (.ref b) ∧ Exa Z h b "[B" ∧ own_enc Z h b cd (own_e2 c0 c1)
set_option maxRecDepth 65536 in
set_option maxHeartbeats 40000000 in
theorem rmct12 (l : Launch) (Z : State) (a0 : Array Value) (hw : ∀ d ∈ tables_1, d.before a0 Z = true) (ws : List Jvm.Cond) (a1 : Addr) (a2 : Addr) (u1 : Value) (u2 : Value) (k2 : ClassId) (cs : Int32) (c0 : Int32) (c1 : Int32) (h0 : Heap) (n0 : Nat) (Z0 : n0 ≤ h0.size) (E1 : Exa Z h0 a1 "java/lang/String") (Fc : Fld Z h0 a1 "java/lang/String" "coder" "B" u1) (Fv : Fld Z h0 a1 "java/lang/String" "value" "[B" u2) (V2 : Arv Z h0 a2 k2 .char (2 : Int32) [(.int c0), (.int c1)] (.int 0)) (S_cs : Sta Z h0 "java/lang/String" "COMPACT_STRINGS" "Z" (.int cs)) (S_ad : Sta Z h0 "java/lang/StringUTF16" "$assertionsDisabled" "Z" (.int 1)) (S_hi : Sta Z h0 "java/lang/StringUTF16" "HI_BYTE_SHIFT" "I" (.int 0)) (S_lo : Sta Z h0 "java/lang/StringUTF16" "LO_BYTE_SHIFT" "I" (.int 8)) (g_a1 : n0 ≤ a1) (hcs : ¬ cs = 0) (ne21 : a2 ≠ a1) (hR0 : own_R c0) (hR1 : own_R c1) :
    MetFree l Y23 (head1 (Jvm.Cond.code Y23 jdk_42_method_3_code 2 none :: ws) Rm24) (fun a U => a = #[(.ref a1), (.ref a2)] ∧ Z.Warmed39 U.vm ∧ U.heap = h0) (fun _ _ _ _ _ => True) (fun _ U o U' => ∃ v L, o = .returned v ∧ Qrmct12 Z a1 a2 u1 u2 k2 cs c0 c1 h0 n0 v U'.heap L ∧ FrameEnd U o U' L Rm24.cells Rm24.slots) := by
 refine MetFree.of_bodySF (plainFor_of_name pn_5) hisR ?_
 intro p e s m args below meth c s₁ Bd hml0 hP hK
 obtain ⟨rfl, hZ, hh⟩ := hP
 have hx := Bd.exec
 have hby := Bd.bytes
 have hml : c.maxLocals = 2 := hml0
 have hown : s.vm.findClass "java/lang/String" = some m.cls := findClass_of_methodNamed Bd.named
 have hnm := (name_of_methodNamed Bd.named Bd.method).1
 have X0 : Stand p l e Rm24 s m #[(.ref a1), (.ref a2)] below meth c s₁ [] 0 0 := Stand.of_body Bd
 have e0 : s₁.heap = h0 := by rw [← hh, Bd.state]; rfl
 have N0 := Fr.nil n0
 show Go p.tables e below (fun o U' => ∃ v L, o = .returned v ∧ Qrmct12 Z a1 a2 u1 u2 k2 cs c0 c1 h0 n0 v U'.heap L ∧ FrameEnd s o U' L Rm24.cells Rm24.slots) _
 refine Go.step (fun t kt => castTop (ef_rmct12 m a1 a2 u1 u2 k2 cs c0 c1) kt) ?_
 show Go p.tables e below _ (s₁.setTop (mkF m 0 #[vR a1, vR a2] []))
 have K101 : Keep h0 h0 [a1] := (Keep.refl h0 [a1])
 by_cases hk102 : ((255 : Int32) < c0 ∨ (255 : Int32) < c1)
 ·have hU := hk102
  show Go p.tables e below _ (s₁.setTop (mkF m 0 #[vR a1, vR a2] []))
  refine Go.step (fun _ kt => XS.aloadN X0.here hx rfl (hb hby d1_0) rfl rfl (XS.aloadN X0.here hx rfl (hb hby d1_1) rfl rfl (XS.iconst X0.here hx rfl (hb hby d1_2) (XS.aloadN X0.here hx rfl (hb hby d1_3) rfl rfl kt)))) ?_
  obtain ⟨cl103, Ar103, qa103, Sa103, Na103, Ha103, Ga103⟩ := (id V2)
  refine Go.step (X0.arraylength hx (by rw [e0]; exact Ar103.1) (State.isArrayOf_alike hZ.alike Ar103.2.1) (g := (mkF m 4 #[vR a1, vR a2] [(.ref a2), (.int 0), (.ref a2), (.ref a1)])) rfl rfl (hb hby d1_4)) ?_
  rw [len_of Sa103 Na103]
  show Go p.tables e below _ (s₁.setTop (mkF m 5 #[vR a1, vR a2] [(.int 2), (.int 0), (.ref a2), (.ref a1)]))
  refine Go.step (fun _ kt => XS.aconstNull X0.here hx rfl (hb hby d1_5) kt) ?_
  obtain ⟨_, _, ⟨T104, L104, k104, n104⟩, -, X104, ⟨Lc104, hQ104, l104, y104, z104⟩, st104⟩ := X0.specialBack hx (y := Y22) rfl hown (mvT hZ (w8 hw)) (mvT hZ (w9 hw)) (mvT hZ (w11 hw)) (by decide) (backOf (W := 0) (rmct42_U l Z a0 hw [] a1 a2 u1 u2 k2 cs c0 c1 h0 n0 Z0 E1 Fc Fv V2 S_cs S_ad S_hi S_lo g_a1 hcs ne21 hR0 hR1 hU) hZ (w11 hw) (w4 hw) (by decide) (by decide)) (g := (mkF m 6 #[vR a1, vR a2] [.null, (.int 2), (.int 0), (.ref a2), (.ref a1)])) rfl hml.symm (Steps.refl _) (a := a1) (argsL := [(.ref a2), (.int 0), (.int 2), .null]) (rest := []) (lenOf pd_15 rfl) rfl (Nat.le_of_eq rfl) (hb hby d1_6) (fun _ _ => ⟨rfl, e0, (by decide : 0 + 2 ≤ _), (by decide : 0 + 6 ≤ _)⟩)
  dsimp only [Pt.U, Pt.locs, Pt.cells, Pt.slots] at X104 l104 y104 z104 st104 hQ104
  subst l104 y104 z104
  obtain ⟨b104b, b104cd, rfl, N104q, Kq104, P105, P106, P107, P108, P109⟩ := hQ104
  have F110 := (E1.keep Kq104)
  have F111 := (V2.keep Kq104 (fun q => ne21 (List.mem_singleton.mp q)))
  have Z112 : n0 ≤ T104.heap.size := (Nat.le_trans Z0 Kq104.1)
  have K113 : Keep h0 T104.heap [a1] := (K101.trans Kq104 (by intro x hx; cases List.mem_singleton.mp hx; exact (Or.inl (List.mem_of_getElem? (i := 0) rfl))))
  have N104 := Fr.app N0 N104q
  refine Go.step (fun _ kt => st104.trans kt) ?_
  show Go p.tables e below _ (T104.setTop (mkF m 9 #[vR a1, vR a2] []))
  obtain ⟨fs, hr, hrun, hended, hW, hsame⟩ := X104.leave (v := none) (fun _ => rfl)
  refine ⟨_, _, X104.returnOut hx Bd.returns (hb hby d1_9) hr, hrun, hended, _, _, rfl, ?_, ⟨_, rfl⟩, hW, hsame.mono (by decide) (by decide)⟩
  show Qrmct12 Z a1 a2 u1 u2 k2 cs c0 c1 h0 n0 _ T104.heap _
  refine ⟨b104b, b104cd, ?_, N104, K113, P105, P106, P107, P108, P109⟩
  rfl
 ·have hb0 : own_L c0 := ⟨hR0.1, fun q => hk102 (Or.inl q)⟩
  have hb1 : own_L c1 := ⟨hR1.1, fun q => hk102 (Or.inr q)⟩
  show Go p.tables e below _ (s₁.setTop (mkF m 0 #[vR a1, vR a2] []))
  refine Go.step (fun _ kt => XS.aloadN X0.here hx rfl (hb hby d1_0) rfl rfl (XS.aloadN X0.here hx rfl (hb hby d1_1) rfl rfl (XS.iconst X0.here hx rfl (hb hby d1_2) (XS.aloadN X0.here hx rfl (hb hby d1_3) rfl rfl kt)))) ?_
  obtain ⟨cl114, Ar114, qa114, Sa114, Na114, Ha114, Ga114⟩ := (id V2)
  refine Go.step (X0.arraylength hx (by rw [e0]; exact Ar114.1) (State.isArrayOf_alike hZ.alike Ar114.2.1) (g := (mkF m 4 #[vR a1, vR a2] [(.ref a2), (.int 0), (.ref a2), (.ref a1)])) rfl rfl (hb hby d1_4)) ?_
  rw [len_of Sa114 Na114]
  show Go p.tables e below _ (s₁.setTop (mkF m 5 #[vR a1, vR a2] [(.int 2), (.int 0), (.ref a2), (.ref a1)]))
  refine Go.step (fun _ kt => XS.aconstNull X0.here hx rfl (hb hby d1_5) kt) ?_
  obtain ⟨_, _, ⟨T115, L115, k115, n115⟩, -, X115, ⟨Lc115, hQ115, l115, y115, z115⟩, st115⟩ := X0.specialBack hx (y := Y22) rfl hown (mvT hZ (w8 hw)) (mvT hZ (w9 hw)) (mvT hZ (w11 hw)) (by decide) (backOf (W := 0) (rmct42_L l Z a0 hw [] a1 a2 u1 u2 k2 cs c0 c1 h0 n0 Z0 E1 Fc Fv V2 S_cs g_a1 hcs ne21 hb0 hb1) hZ (w11 hw) (w4 hw) (by decide) (by decide)) (g := (mkF m 6 #[vR a1, vR a2] [.null, (.int 2), (.int 0), (.ref a2), (.ref a1)])) rfl hml.symm (Steps.refl _) (a := a1) (argsL := [(.ref a2), (.int 0), (.int 2), .null]) (rest := []) (lenOf pd_15 rfl) rfl (Nat.le_of_eq rfl) (hb hby d1_6) (fun _ _ => ⟨rfl, e0, (by decide : 0 + 1 ≤ _), (by decide : 0 + 2 ≤ _)⟩)
  dsimp only [Pt.U, Pt.locs, Pt.cells, Pt.slots] at X115 l115 y115 z115 st115 hQ115
  subst l115 y115 z115
  obtain ⟨b115b, b115cd, rfl, N115q, Kq115, P116, P117, P118, P119, P120⟩ := hQ115
  have F121 := (E1.keep Kq115)
  have F122 := (V2.keep Kq115 (fun q => ne21 (List.mem_singleton.mp q)))
  have Z123 : n0 ≤ T115.heap.size := (Nat.le_trans Z0 Kq115.1)
  have K124 : Keep h0 T115.heap [a1] := (K101.trans Kq115 (by intro x hx; cases List.mem_singleton.mp hx; exact (Or.inl (List.mem_of_getElem? (i := 0) rfl))))
  have N115 := Fr.app N0 N115q
  refine Go.step (fun _ kt => st115.trans kt) ?_
  show Go p.tables e below _ (T115.setTop (mkF m 9 #[vR a1, vR a2] []))
  obtain ⟨fs, hr, hrun, hended, hW, hsame⟩ := X115.leave (v := none) (fun _ => rfl)
  refine ⟨_, _, X115.returnOut hx Bd.returns (hb hby d1_9) hr, hrun, hended, _, _, rfl, ?_, ⟨_, rfl⟩, hW, hsame.mono (by decide) (by decide)⟩
  show Qrmct12 Z a1 a2 u1 u2 k2 cs c0 c1 h0 n0 _ T115.heap _
  refine ⟨b115b, b115cd, ?_, N115, K124, P116, P117, P118, P119, P120⟩
  rfl
theorem pd_23 : parseMethodDescriptor "([BCC)I" = some ⟨[(.array .byte), .char, .char], some .int⟩ := by decide +kernel
theorem ef_rm0 (m : MethodId) (p1 : Int32) (p2 : Int32) (p3 : Int32) (cs : Int32) (u8 : Addr) : entryFrame m #[(.int p1), (.int p2), (.int p3)] maxLocals = mkF m 0 #[vI p1, vI p2, vI p3, uS, uS, uS, uS, uS, uS, uS] [] := by first | (simp [entryFrame, mkF, argsToLocals, Value.category, maxLocals]; done) | rfl
def Qrm0 (Z : State) (p1 : Int32) (p2 : Int32) (p3 : Int32) (cs : Int32) (u8 : Addr) (h0 : Heap) (n0 : Nat) (v : Option Value) (h : Heap) (L : List Loc) : Prop := v = some (.int 1) ∧ Fr n0 L
set_option maxRecDepth 65536 in
set_option maxHeartbeats 40000000 in
theorem rm0 (l : Launch) (Z : State) (a0 : Array Value) (hw : ∀ d ∈ tables_1, d.before a0 Z = true) (ws : List Jvm.Cond) (p1 : Int32) (p2 : Int32) (p3 : Int32) (cs : Int32) (u8 : Addr) (h0 : Heap) (n0 : Nat) (Z0 : n0 ≤ h0.size) (S_cs : Sta Z h0 "java/lang/String" "COMPACT_STRINGS" "Z" (.int cs)) (S_u8 : Sta Z h0 "java/nio/charset/StandardCharsets" "UTF_8" "Ljava/nio/charset/Charset;" (.ref u8)) (S_in : Sta Z h0 "sun/nio/cs/UTF_8" "INSTANCE" "Lsun/nio/cs/UTF_8;" (.ref u8)) (S_ad : Sta Z h0 "java/lang/StringUTF16" "$assertionsDisabled" "Z" (.int 1)) (S_hi : Sta Z h0 "java/lang/StringUTF16" "HI_BYTE_SHIFT" "I" (.int 0)) (S_lo : Sta Z h0 "java/lang/StringUTF16" "LO_BYTE_SHIFT" "I" (.int 8)) (hcs : ¬ cs = 0) :
    MetFree l x (head1 (Jvm.Cond.code x code maxLocals ret :: ws) room_1) (fun a U => a = #[(.int p1), (.int p2), (.int p3)] ∧ Z.Warmed39 U.vm ∧ U.heap = h0 ∧ CHv Z own_EL U.vm h0) (fun _ _ _ _ _ => True) (fun _ U o U' => ∃ v L, o = .returned v ∧ Qrm0 Z p1 p2 p3 cs u8 h0 n0 v U'.heap L ∧ CHr Z own_EL U.vm U.heap U'.vm U'.heap ∧ ReturnedEndW U o U' L room_1.cells room_1.slots) := by
 refine MetFree.of_bodySF (plainFor_of_name pn_2) hisR ?_
 intro p e s m args below meth c s₁ Bd hml0 hP hK
 obtain ⟨rfl, hZ, hh, hCH⟩ := hP
 have hx := Bd.exec
 have hby := Bd.bytes
 have hml : c.maxLocals = 10 := hml0
 have hown : s.vm.findClass "com/example/sibyl/sibyl/core/KeyBytesOfPinLaw" = some m.cls := findClass_of_methodNamed Bd.named
 have hnm := (name_of_methodNamed Bd.named Bd.method).1
 have X0 : Stand p l e room_1 (s.setVm s.vm) m #[(.int p1), (.int p2), (.int p3)] below meth c s₁ [] 0 0 := Stand.of_body Bd
 have e0 : s₁.heap = h0 := by rw [← hh, Bd.state]; rfl
 have N0 := Fr.nil n0
 have hS0 : s.Since s.vm s.heap.size := (State.WarmedH.refl s).since _
 have hk0 : s.heap.size ≤ h0.size := Nat.le_of_eq (congrArg Array.size hh)
 have C0 := CHr.refl hCH
 show Go p.tables e below (fun o U' => ∃ v L, o = .returned v ∧ Qrm0 Z p1 p2 p3 cs u8 h0 n0 v U'.heap L ∧ CHr Z own_EL s.vm s.heap U'.vm U'.heap ∧ ReturnedEndW s o U' L room_1.cells room_1.slots) _
 refine Go.step (fun t kt => castTop (ef_rm0 m p1 p2 p3 cs u8) kt) ?_
 show Go p.tables e below _ (s₁.setTop (mkF m 0 #[vI p1, vI p2, vI p3, uS, uS, uS, uS, uS, uS, uS] []))
 refine Go.step (fun _ kt => XS.iloadN X0.here hx rfl (hb hby at_0) rfl kt) ?_
 refine Go.step (X0.ldcInt hx hown (mvT hZ (w0 hw)) (g := (mkF m 1 #[vI p1, vI p2, vI p3, uS, uS, uS, uS, uS, uS, uS] [(.int p3)])) rfl (hb hby at_1)) ?_
 show Go p.tables e below _ (s₁.setTop (mkF m 3 #[vI p1, vI p2, vI p3, uS, uS, uS, uS, uS, uS, uS] [(.int 2147483647), (.int p3)]))
 refine Go.step (fun _ kt => XS.iand X0.here hx rfl (hb hby at_3) rfl (XS.iconst X0.here hx rfl (hb hby at_4) kt)) ?_
 show Go p.tables e below _ (s₁.setTop (mkF m 5 #[vI p1, vI p2, vI p3, uS, uS, uS, uS, uS, uS, uS] [(.int 3), (.int (p3 &&& (2147483647 : Int32)))]))
 refine Go.step (fun _ kt => iremM (g := (mkF m 5 #[vI p1, vI p2, vI p3, uS, uS, uS, uS, uS, uS, uS] [(.int 3), (.int (p3 &&& (2147483647 : Int32)))])) X0 hx rfl (hb hby at_5) rfl (by decide) kt) ?_
 show Go p.tables e below _ (s₁.setTop (mkF m 6 #[vI p1, vI p2, vI p3, uS, uS, uS, uS, uS, uS, uS] [(.int ((p3 &&& (2147483647 : Int32)) % (3 : Int32)))]))
 obtain ⟨ln, e_ln⟩ : ∃ nm_, nm_ = ((p3 &&& (2147483647 : Int32)) % (3 : Int32)) := ⟨_, rfl⟩
 rw [← e_ln]
 show Go p.tables e below _ (s₁.setTop (mkF m 6 #[vI p1, vI p2, vI p3, uS, uS, uS, uS, uS, uS, uS] [(.int ln)]))
 refine Go.step (fun _ kt => XS.istoreN X0.here hx rfl (hb hby at_6) rfl (l' := #[vI p1, vI p2, vI p3, vI ln, uS, uS, uS, uS, uS, uS]) rfl (XS.iloadN X0.here hx rfl (hb hby at_7) rfl (XS.i2c X0.here hx rfl (hb hby at_8) rfl (XS.istore X0.here hx rfl (hb hby at_9) rfl (l' := #[vI p1, vI p2, vI p3, vI ln, vI (p1.toUInt32.toUInt16.toUInt32.toInt32), uS, uS, uS, uS, uS]) rfl (XS.iloadN X0.here hx rfl (hb hby at_11) rfl (XS.i2c X0.here hx rfl (hb hby at_12) rfl (XS.istore X0.here hx rfl (hb hby at_13) rfl (l' := #[vI p1, vI p2, vI p3, vI ln, vI (p1.toUInt32.toUInt16.toUInt32.toInt32), vI (p2.toUInt32.toUInt16.toUInt32.toInt32), uS, uS, uS, uS]) rfl kt))))))) ?_
 show Go p.tables e below _ (s₁.setTop (mkF m 15 #[vI p1, vI p2, vI p3, vI ln, vI (p1.toUInt32.toUInt16.toUInt32.toInt32), vI (p2.toUInt32.toUInt16.toUInt32.toInt32), uS, uS, uS, uS] []))
 have J34 : ∀ (c0 : Int32) (hR0 : own_R c0), Go p.tables e below (fun o U' => ∃ v L, o = .returned v ∧ Qrm0 Z p1 p2 p3 cs u8 h0 n0 v U'.heap L ∧ CHr Z own_EL s.vm s.heap U'.vm U'.heap ∧ ReturnedEndW s o U' L room_1.cells room_1.slots) (s₁.setTop (mkF m 34 #[vI p1, vI p2, vI p3, vI ln, vI c0, vI (p2.toUInt32.toUInt16.toUInt32.toInt32), uS, uS, uS, uS] [])) := by
  intro c0 hR0
  show Go p.tables e below _ (s₁.setTop (mkF m 34 #[vI p1, vI p2, vI p3, vI ln, vI c0, vI (p2.toUInt32.toUInt16.toUInt32.toInt32), uS, uS, uS, uS] []))
  have J53 : ∀ (c1 : Int32) (hR1 : own_R c1), Go p.tables e below (fun o U' => ∃ v L, o = .returned v ∧ Qrm0 Z p1 p2 p3 cs u8 h0 n0 v U'.heap L ∧ CHr Z own_EL s.vm s.heap U'.vm U'.heap ∧ ReturnedEndW s o U' L room_1.cells room_1.slots) (s₁.setTop (mkF m 53 #[vI p1, vI p2, vI p3, vI ln, vI c0, vI c1, uS, uS, uS, uS] [])) := by
   intro c1 hR1
   show Go p.tables e below _ (s₁.setTop (mkF m 53 #[vI p1, vI p2, vI p3, vI ln, vI c0, vI c1, uS, uS, uS, uS] []))
   have G212g101 : ∀ (lv : Int32) (rs : Addr) (be : Addr) (bg : Addr) (ke : ClassId) (kg : ClassId) (bs : List Int32) (Tg101 : State) (Hg101 : Heap) (Lg101 : List Loc) (vg101 : Vm) (jg101 : Nat) (hZ : Z.Warmed39 vg101) (hown : vg101.findClass "com/example/sibyl/sibyl/core/KeyBytesOfPinLaw" = some m.cls) (hSg101 : s.Since vg101 jg101) (hkg101 : jg101 ≤ Hg101.size) (Cg101 : CHr Z own_EL s.vm h0 vg101 Hg101) (Xg101 : Stand p l e room_1 (s.setVm vg101) m #[(.int p1), (.int p2), (.int p3)] below meth c Tg101 Lg101 24 1216) (eg101 : Tg101.heap = Hg101) (Ng101 : Fr n0 Lg101) (Zg101 : n0 ≤ Hg101.size) (Fg101_0 : Arv Z Hg101 be ke .byte (8 : Int32) (bs.map Value.int) (.int 0)) (Fg101_1 : Arv Z Hg101 bg kg .byte (own_len bs) (bs.map Value.int) (.int 0)), Go p.tables e below (fun o U' => ∃ v L, o = .returned v ∧ Qrm0 Z p1 p2 p3 cs u8 h0 n0 v U'.heap L ∧ CHr Z own_EL s.vm s.heap U'.vm U'.heap ∧ ReturnedEndW s o U' L room_1.cells room_1.slots) (Tg101.setTop (mkF m 212 #[vI p1, vI p2, vI p3, vI lv, vI c0, vI c1, vR rs, vR be, vI (own_len bs), vR bg] [])) := by
    intro lv rs be bg ke kg bs Tg101 Hg101 Lg101 vg101 jg101 hZ hown hSg101 hkg101 Cg101 Xg101 eg101 Ng101 Zg101 Fg101_0 Fg101_1
    show Go p.tables e below _ (Tg101.setTop (mkF m 212 #[vI p1, vI p2, vI p3, vI lv, vI c0, vI c1, vR rs, vR be, vI (own_len bs), vR bg] []))
    refine Go.step (fun _ kt => XS.aload Xg101.here hx rfl (hb hby at_212) rfl rfl kt) ?_
    obtain ⟨cl102, Ar102, qa102, Sa102, Na102, Ha102, Ga102⟩ := (id Fg101_1)
    refine Go.step (Xg101.arraylength hx (by rw [eg101]; exact Ar102.1) (State.isArrayOf_alike hZ.alike Ar102.2.1) (g := (mkF m 214 #[vI p1, vI p2, vI p3, vI lv, vI c0, vI c1, vR rs, vR be, vI (own_len bs), vR bg] [(.ref bg)])) rfl rfl (hb hby at_214)) ?_
    rw [len_of Sa102 Na102]
    show Go p.tables e below _ (Tg101.setTop (mkF m 215 #[vI p1, vI p2, vI p3, vI lv, vI c0, vI c1, vR rs, vR be, vI (own_len bs), vR bg] [(.int (own_len bs))]))
    refine Go.step (fun _ kt => XS.iload Xg101.here hx rfl (hb hby at_215) rfl (XS.icmpNo Xg101.here hx rfl (hb hby at_217) rfl (teq (rfl : (own_len bs) = (own_len bs))).2 (XS.aload Xg101.here hx rfl (hb hby at_220) rfl rfl (XS.aload Xg101.here hx rfl (hb hby at_222) rfl rfl (XS.iconst Xg101.here hx rfl (hb hby at_224) kt))))) ?_
    show Go p.tables e below _ (Tg101.setTop (mkF m 225 #[vI p1, vI p2, vI p3, vI lv, vI c0, vI c1, vR rs, vR be, vI (own_len bs), vR bg] [(.int 0), (.ref be), (.ref bg)]))
    obtain ⟨_, _, ⟨T103, L103, k103, n103⟩, -, X103, ⟨Lc103, hQ103, l103, y103, z103⟩, st103⟩ := Jvm.LawKit.callS Xg101 hx (y := Y21) hown (mvT hZ (w79 hw)) (mvT hZ (w80 hw)) (mvT hZ (w33 hw)) (mvT hZ (w81 hw)) (by decide) (backOf (W := 0) (rmeqb l Z a0 hw [] bg be (0 : Int32) kg ke bs Hg101 n0 Zg101 Fg101_1 Fg101_0 ⟨by decide, by decide⟩) hZ (w81 hw) (w33 hw) (by decide) (by decide)) (g := (mkF m 225 #[vI p1, vI p2, vI p3, vI lv, vI c0, vI c1, vR rs, vR be, vI (own_len bs), vR bg] [(.int 0), (.ref be), (.ref bg)])) rfl hml.symm (argsL := [(.ref bg), (.ref be), (.int 0)]) (rest := []) (lenOf pd_14 rfl) rfl (Nat.le_of_eq rfl) (hb hby at_225) (fun _ _ => ⟨rfl, eg101, (by decide : 24 + 0 ≤ _), (by decide : 1216 + 0 ≤ _)⟩)
    dsimp only [Pt.U, Pt.locs, Pt.cells, Pt.slots] at X103 l103 y103 z103 st103 hQ103
    subst l103 y103 z103
    obtain ⟨rfl, N103q, eh103⟩ := hQ103
    have N103 := Fr.app Ng101 N103q
    refine Go.step st103 ?_
    show Go p.tables e below _ (T103.setTop (mkF m 228 #[vI p1, vI p2, vI p3, vI lv, vI c0, vI c1, vR rs, vR be, vI (own_len bs), vR bg] [(.int 1)]))
    refine Go.step (fun _ kt => XS.ifNo X103.here hx rfl (hb hby at_228) rfl ((if0 _ _).trans (feq (by decide : ¬ ((1 : Int32) = (0 : Int32)))).1) (XS.aload X103.here hx rfl (hb hby at_231) rfl rfl (XS.aload X103.here hx rfl (hb hby at_233) rfl rfl (XS.iconst X103.here hx rfl (hb hby at_235) kt)))) ?_
    show Go p.tables e below _ (T103.setTop (mkF m 236 #[vI p1, vI p2, vI p3, vI lv, vI c0, vI c1, vR rs, vR be, vI (own_len bs), vR bg] [(.int 1), (.ref be), (.ref bg)]))
    obtain ⟨_, _, ⟨T104, L104, k104, n104⟩, -, X104, ⟨Lc104, hQ104, l104, y104, z104⟩, st104⟩ := Jvm.LawKit.callS X103 hx (y := Y21) hown (mvT hZ (w79 hw)) (mvT hZ (w80 hw)) (mvT hZ (w33 hw)) (mvT hZ (w81 hw)) (by decide) (backOf (W := 0) (rmeqb l Z a0 hw [] bg be (1 : Int32) kg ke bs Hg101 n0 Zg101 Fg101_1 Fg101_0 ⟨by decide, by decide⟩) hZ (w81 hw) (w33 hw) (by decide) (by decide)) (g := (mkF m 236 #[vI p1, vI p2, vI p3, vI lv, vI c0, vI c1, vR rs, vR be, vI (own_len bs), vR bg] [(.int 1), (.ref be), (.ref bg)])) rfl hml.symm (argsL := [(.ref bg), (.ref be), (.int 1)]) (rest := []) (lenOf pd_14 rfl) rfl (Nat.le_of_eq rfl) (hb hby at_236) (fun _ _ => ⟨rfl, eh103, (by decide : 24 + 0 ≤ _), (by decide : 1216 + 0 ≤ _)⟩)
    dsimp only [Pt.U, Pt.locs, Pt.cells, Pt.slots] at X104 l104 y104 z104 st104 hQ104
    subst l104 y104 z104
    obtain ⟨rfl, N104q, eh104⟩ := hQ104
    have N104 := Fr.app N103 N104q
    refine Go.step st104 ?_
    show Go p.tables e below _ (T104.setTop (mkF m 239 #[vI p1, vI p2, vI p3, vI lv, vI c0, vI c1, vR rs, vR be, vI (own_len bs), vR bg] [(.int 1)]))
    refine Go.step (fun _ kt => XS.ifNo X104.here hx rfl (hb hby at_239) rfl ((if0 _ _).trans (feq (by decide : ¬ ((1 : Int32) = (0 : Int32)))).1) (XS.aload X104.here hx rfl (hb hby at_242) rfl rfl (XS.aload X104.here hx rfl (hb hby at_244) rfl rfl (XS.iconst X104.here hx rfl (hb hby at_246) kt)))) ?_
    show Go p.tables e below _ (T104.setTop (mkF m 247 #[vI p1, vI p2, vI p3, vI lv, vI c0, vI c1, vR rs, vR be, vI (own_len bs), vR bg] [(.int 2), (.ref be), (.ref bg)]))
    obtain ⟨_, _, ⟨T105, L105, k105, n105⟩, -, X105, ⟨Lc105, hQ105, l105, y105, z105⟩, st105⟩ := Jvm.LawKit.callS X104 hx (y := Y21) hown (mvT hZ (w79 hw)) (mvT hZ (w80 hw)) (mvT hZ (w33 hw)) (mvT hZ (w81 hw)) (by decide) (backOf (W := 0) (rmeqb l Z a0 hw [] bg be (2 : Int32) kg ke bs Hg101 n0 Zg101 Fg101_1 Fg101_0 ⟨by decide, by decide⟩) hZ (w81 hw) (w33 hw) (by decide) (by decide)) (g := (mkF m 247 #[vI p1, vI p2, vI p3, vI lv, vI c0, vI c1, vR rs, vR be, vI (own_len bs), vR bg] [(.int 2), (.ref be), (.ref bg)])) rfl hml.symm (argsL := [(.ref bg), (.ref be), (.int 2)]) (rest := []) (lenOf pd_14 rfl) rfl (Nat.le_of_eq rfl) (hb hby at_247) (fun _ _ => ⟨rfl, eh104, (by decide : 24 + 0 ≤ _), (by decide : 1216 + 0 ≤ _)⟩)
    dsimp only [Pt.U, Pt.locs, Pt.cells, Pt.slots] at X105 l105 y105 z105 st105 hQ105
    subst l105 y105 z105
    obtain ⟨rfl, N105q, eh105⟩ := hQ105
    have N105 := Fr.app N104 N105q
    refine Go.step st105 ?_
    show Go p.tables e below _ (T105.setTop (mkF m 250 #[vI p1, vI p2, vI p3, vI lv, vI c0, vI c1, vR rs, vR be, vI (own_len bs), vR bg] [(.int 1)]))
    refine Go.step (fun _ kt => XS.ifNo X105.here hx rfl (hb hby at_250) rfl ((if0 _ _).trans (feq (by decide : ¬ ((1 : Int32) = (0 : Int32)))).1) (XS.aload X105.here hx rfl (hb hby at_253) rfl rfl (XS.aload X105.here hx rfl (hb hby at_255) rfl rfl (XS.iconst X105.here hx rfl (hb hby at_257) kt)))) ?_
    show Go p.tables e below _ (T105.setTop (mkF m 258 #[vI p1, vI p2, vI p3, vI lv, vI c0, vI c1, vR rs, vR be, vI (own_len bs), vR bg] [(.int 3), (.ref be), (.ref bg)]))
    obtain ⟨_, _, ⟨T106, L106, k106, n106⟩, -, X106, ⟨Lc106, hQ106, l106, y106, z106⟩, st106⟩ := Jvm.LawKit.callS X105 hx (y := Y21) hown (mvT hZ (w79 hw)) (mvT hZ (w80 hw)) (mvT hZ (w33 hw)) (mvT hZ (w81 hw)) (by decide) (backOf (W := 0) (rmeqb l Z a0 hw [] bg be (3 : Int32) kg ke bs Hg101 n0 Zg101 Fg101_1 Fg101_0 ⟨by decide, by decide⟩) hZ (w81 hw) (w33 hw) (by decide) (by decide)) (g := (mkF m 258 #[vI p1, vI p2, vI p3, vI lv, vI c0, vI c1, vR rs, vR be, vI (own_len bs), vR bg] [(.int 3), (.ref be), (.ref bg)])) rfl hml.symm (argsL := [(.ref bg), (.ref be), (.int 3)]) (rest := []) (lenOf pd_14 rfl) rfl (Nat.le_of_eq rfl) (hb hby at_258) (fun _ _ => ⟨rfl, eh105, (by decide : 24 + 0 ≤ _), (by decide : 1216 + 0 ≤ _)⟩)
    dsimp only [Pt.U, Pt.locs, Pt.cells, Pt.slots] at X106 l106 y106 z106 st106 hQ106
    subst l106 y106 z106
    obtain ⟨rfl, N106q, eh106⟩ := hQ106
    have N106 := Fr.app N105 N106q
    refine Go.step st106 ?_
    show Go p.tables e below _ (T106.setTop (mkF m 261 #[vI p1, vI p2, vI p3, vI lv, vI c0, vI c1, vR rs, vR be, vI (own_len bs), vR bg] [(.int 1)]))
    refine Go.step (fun _ kt => XS.ifNo X106.here hx rfl (hb hby at_261) rfl ((if0 _ _).trans (feq (by decide : ¬ ((1 : Int32) = (0 : Int32)))).1) (XS.aload X106.here hx rfl (hb hby at_264) rfl rfl (XS.aload X106.here hx rfl (hb hby at_266) rfl rfl (XS.iconst X106.here hx rfl (hb hby at_268) kt)))) ?_
    show Go p.tables e below _ (T106.setTop (mkF m 269 #[vI p1, vI p2, vI p3, vI lv, vI c0, vI c1, vR rs, vR be, vI (own_len bs), vR bg] [(.int 4), (.ref be), (.ref bg)]))
    obtain ⟨_, _, ⟨T107, L107, k107, n107⟩, -, X107, ⟨Lc107, hQ107, l107, y107, z107⟩, st107⟩ := Jvm.LawKit.callS X106 hx (y := Y21) hown (mvT hZ (w79 hw)) (mvT hZ (w80 hw)) (mvT hZ (w33 hw)) (mvT hZ (w81 hw)) (by decide) (backOf (W := 0) (rmeqb l Z a0 hw [] bg be (4 : Int32) kg ke bs Hg101 n0 Zg101 Fg101_1 Fg101_0 ⟨by decide, by decide⟩) hZ (w81 hw) (w33 hw) (by decide) (by decide)) (g := (mkF m 269 #[vI p1, vI p2, vI p3, vI lv, vI c0, vI c1, vR rs, vR be, vI (own_len bs), vR bg] [(.int 4), (.ref be), (.ref bg)])) rfl hml.symm (argsL := [(.ref bg), (.ref be), (.int 4)]) (rest := []) (lenOf pd_14 rfl) rfl (Nat.le_of_eq rfl) (hb hby at_269) (fun _ _ => ⟨rfl, eh106, (by decide : 24 + 0 ≤ _), (by decide : 1216 + 0 ≤ _)⟩)
    dsimp only [Pt.U, Pt.locs, Pt.cells, Pt.slots] at X107 l107 y107 z107 st107 hQ107
    subst l107 y107 z107
    obtain ⟨rfl, N107q, eh107⟩ := hQ107
    have N107 := Fr.app N106 N107q
    refine Go.step st107 ?_
    show Go p.tables e below _ (T107.setTop (mkF m 272 #[vI p1, vI p2, vI p3, vI lv, vI c0, vI c1, vR rs, vR be, vI (own_len bs), vR bg] [(.int 1)]))
    refine Go.step (fun _ kt => XS.ifNo X107.here hx rfl (hb hby at_272) rfl ((if0 _ _).trans (feq (by decide : ¬ ((1 : Int32) = (0 : Int32)))).1) (XS.aload X107.here hx rfl (hb hby at_275) rfl rfl (XS.aload X107.here hx rfl (hb hby at_277) rfl rfl (XS.iconst X107.here hx rfl (hb hby at_279) kt)))) ?_
    show Go p.tables e below _ (T107.setTop (mkF m 280 #[vI p1, vI p2, vI p3, vI lv, vI c0, vI c1, vR rs, vR be, vI (own_len bs), vR bg] [(.int 5), (.ref be), (.ref bg)]))
    obtain ⟨_, _, ⟨T108, L108, k108, n108⟩, -, X108, ⟨Lc108, hQ108, l108, y108, z108⟩, st108⟩ := Jvm.LawKit.callS X107 hx (y := Y21) hown (mvT hZ (w79 hw)) (mvT hZ (w80 hw)) (mvT hZ (w33 hw)) (mvT hZ (w81 hw)) (by decide) (backOf (W := 0) (rmeqb l Z a0 hw [] bg be (5 : Int32) kg ke bs Hg101 n0 Zg101 Fg101_1 Fg101_0 ⟨by decide, by decide⟩) hZ (w81 hw) (w33 hw) (by decide) (by decide)) (g := (mkF m 280 #[vI p1, vI p2, vI p3, vI lv, vI c0, vI c1, vR rs, vR be, vI (own_len bs), vR bg] [(.int 5), (.ref be), (.ref bg)])) rfl hml.symm (argsL := [(.ref bg), (.ref be), (.int 5)]) (rest := []) (lenOf pd_14 rfl) rfl (Nat.le_of_eq rfl) (hb hby at_280) (fun _ _ => ⟨rfl, eh107, (by decide : 24 + 0 ≤ _), (by decide : 1216 + 0 ≤ _)⟩)
    dsimp only [Pt.U, Pt.locs, Pt.cells, Pt.slots] at X108 l108 y108 z108 st108 hQ108
    subst l108 y108 z108
    obtain ⟨rfl, N108q, eh108⟩ := hQ108
    have N108 := Fr.app N107 N108q
    refine Go.step st108 ?_
    show Go p.tables e below _ (T108.setTop (mkF m 283 #[vI p1, vI p2, vI p3, vI lv, vI c0, vI c1, vR rs, vR be, vI (own_len bs), vR bg] [(.int 1)]))
    refine Go.step (fun _ kt => XS.ifNo X108.here hx rfl (hb hby at_283) rfl ((if0 _ _).trans (feq (by decide : ¬ ((1 : Int32) = (0 : Int32)))).1) (XS.aload X108.here hx rfl (hb hby at_286) rfl rfl (XS.aload X108.here hx rfl (hb hby at_288) rfl rfl (XS.bipush X108.here hx rfl (hb hby at_290) kt)))) ?_
    show Go p.tables e below _ (T108.setTop (mkF m 292 #[vI p1, vI p2, vI p3, vI lv, vI c0, vI c1, vR rs, vR be, vI (own_len bs), vR bg] [(.int 6), (.ref be), (.ref bg)]))
    obtain ⟨_, _, ⟨T109, L109, k109, n109⟩, -, X109, ⟨Lc109, hQ109, l109, y109, z109⟩, st109⟩ := Jvm.LawKit.callS X108 hx (y := Y21) hown (mvT hZ (w79 hw)) (mvT hZ (w80 hw)) (mvT hZ (w33 hw)) (mvT hZ (w81 hw)) (by decide) (backOf (W := 0) (rmeqb l Z a0 hw [] bg be (6 : Int32) kg ke bs Hg101 n0 Zg101 Fg101_1 Fg101_0 ⟨by decide, by decide⟩) hZ (w81 hw) (w33 hw) (by decide) (by decide)) (g := (mkF m 292 #[vI p1, vI p2, vI p3, vI lv, vI c0, vI c1, vR rs, vR be, vI (own_len bs), vR bg] [(.int 6), (.ref be), (.ref bg)])) rfl hml.symm (argsL := [(.ref bg), (.ref be), (.int 6)]) (rest := []) (lenOf pd_14 rfl) rfl (Nat.le_of_eq rfl) (hb hby at_292) (fun _ _ => ⟨rfl, eh108, (by decide : 24 + 0 ≤ _), (by decide : 1216 + 0 ≤ _)⟩)
    dsimp only [Pt.U, Pt.locs, Pt.cells, Pt.slots] at X109 l109 y109 z109 st109 hQ109
    subst l109 y109 z109
    obtain ⟨rfl, N109q, eh109⟩ := hQ109
    have N109 := Fr.app N108 N109q
    refine Go.step st109 ?_
    show Go p.tables e below _ (T109.setTop (mkF m 295 #[vI p1, vI p2, vI p3, vI lv, vI c0, vI c1, vR rs, vR be, vI (own_len bs), vR bg] [(.int 1)]))
    refine Go.step (fun _ kt => XS.ifNo X109.here hx rfl (hb hby at_295) rfl ((if0 _ _).trans (feq (by decide : ¬ ((1 : Int32) = (0 : Int32)))).1) (XS.aload X109.here hx rfl (hb hby at_298) rfl rfl (XS.aload X109.here hx rfl (hb hby at_300) rfl rfl (XS.bipush X109.here hx rfl (hb hby at_302) kt)))) ?_
    show Go p.tables e below _ (T109.setTop (mkF m 304 #[vI p1, vI p2, vI p3, vI lv, vI c0, vI c1, vR rs, vR be, vI (own_len bs), vR bg] [(.int 7), (.ref be), (.ref bg)]))
    obtain ⟨_, _, ⟨T110, L110, k110, n110⟩, -, X110, ⟨Lc110, hQ110, l110, y110, z110⟩, st110⟩ := Jvm.LawKit.callS X109 hx (y := Y21) hown (mvT hZ (w79 hw)) (mvT hZ (w80 hw)) (mvT hZ (w33 hw)) (mvT hZ (w81 hw)) (by decide) (backOf (W := 0) (rmeqb l Z a0 hw [] bg be (7 : Int32) kg ke bs Hg101 n0 Zg101 Fg101_1 Fg101_0 ⟨by decide, by decide⟩) hZ (w81 hw) (w33 hw) (by decide) (by decide)) (g := (mkF m 304 #[vI p1, vI p2, vI p3, vI lv, vI c0, vI c1, vR rs, vR be, vI (own_len bs), vR bg] [(.int 7), (.ref be), (.ref bg)])) rfl hml.symm (argsL := [(.ref bg), (.ref be), (.int 7)]) (rest := []) (lenOf pd_14 rfl) rfl (Nat.le_of_eq rfl) (hb hby at_304) (fun _ _ => ⟨rfl, eh109, (by decide : 24 + 0 ≤ _), (by decide : 1216 + 0 ≤ _)⟩)
    dsimp only [Pt.U, Pt.locs, Pt.cells, Pt.slots] at X110 l110 y110 z110 st110 hQ110
    subst l110 y110 z110
    obtain ⟨rfl, N110q, eh110⟩ := hQ110
    have N110 := Fr.app N109 N110q
    refine Go.step st110 ?_
    show Go p.tables e below _ (T110.setTop (mkF m 307 #[vI p1, vI p2, vI p3, vI lv, vI c0, vI c1, vR rs, vR be, vI (own_len bs), vR bg] [(.int 1)]))
    refine Go.step (fun _ kt => XS.ifNo X110.here hx rfl (hb hby at_307) rfl ((if0 _ _).trans (feq (by decide : ¬ ((1 : Int32) = (0 : Int32)))).1) (XS.iconst X110.here hx rfl (hb hby at_310) (XS.goto X110.here hx rfl (pc0 := 311) (pc' := 315) rfl (hb hby at_311) (by decide) (by decide) kt))) ?_
    show Go p.tables e below _ (T110.setTop (mkF m 315 #[vI p1, vI p2, vI p3, vI lv, vI c0, vI c1, vR rs, vR be, vI (own_len bs), vR bg] [(.int 1)]))
    obtain ⟨fs, hr, hrun, hended, hRW⟩ := X110.leaveW hSg101 (by rw [eh110]; exact hkg101) (v := some (.int 1)) (fun h => by rw [Bd.returns] at h; cases h)
    refine ⟨_, _, retN X110 hx (t := .boolean) Bd.returns (by simp) (hb hby at_315) hr, hrun, hended, _, _, rfl, ?_, (by have q := Cg101.trans (CHv.at X110 hZ (own_EW hw) Cg101.1); rw [hh]; rw [← eh110] at q; exact q), hRW.1, hRW.2.1, hRW.2.2.1, hRW.2.2.2.mono (by decide) (by decide)⟩
    show Qrm0 Z p1 p2 p3 cs u8 h0 n0 _ T110.heap _
    rw [eh110]
    exact ⟨rfl, N110⟩
   rcases (show ln = 0 ∨ ln = 1 ∨ ln = 2 by rw [e_ln]; exact own_m3 _) with hk | hk | hk
   ·rw [hk]
    show Go p.tables e below _ (s₁.setTop (mkF m 53 #[vI p1, vI p2, vI p3, vI 0, vI c0, vI c1, uS, uS, uS, uS] []))
    refine Go.step (fun _ kt => XS.iloadN X0.here hx rfl (hb hby at_53) rfl (XS.ifNo X0.here hx rfl (hb hby at_54) rfl ((if0 _ _).trans (teq (by decide : (0 : Int32) = (0 : Int32))).2) kt)) ?_
    obtain ⟨T111, h111, X111, e111, E111, A111, D111, -, st111⟩ := newO X0 hx hZ hown (w2 hw) (w3 hw) (w4 hw) e0 (g := (mkF m 57 #[vI p1, vI p2, vI p3, vI 0, vI c0, vI c1, uS, uS, uS, uS] [])) rfl (hb hby at_57) (by decide) (by decide)
    obtain ⟨b111, g111⟩ : ∃ z, z = h0.size := ⟨_, rfl⟩
    rw [← g111] at A111 D111 st111
    refine Go.step st111 ?_
    have g_b111 : n0 ≤ b111 := Nat.le_trans Z0 (Nat.le_of_eq g111.symm)
    have F112 := (S_cs.ext E111)
    have F113 := (S_u8.ext E111)
    have F114 := (S_in.ext E111)
    have F115 := (S_ad.ext E111)
    have F116 := (S_hi.ext E111)
    have F117 := (S_lo.ext E111)
    have Z118 : n0 ≤ h111.size := (Nat.le_trans Z0 E111.1)
    have hk119 : _ ≤ h111.size := (Nat.le_trans hk0 E111.1)
    have Sf120 := (Safe.ext E111 C0.1 (Safe.new (EL := own_EL) (Z := Z) (Nat.le_of_eq g111.symm)))
    have C121 := (C0.trans (CHr.ext E111 C0.1))
    have F122 : Fld Z h111 b111 "java/lang/String" "coder" "B" (.int 0) := D111 (Or.inr (w28 hw)) (ty := .byte) (by decide)
    have F123 : Fld Z h111 b111 "java/lang/String" "value" "[B" .null := D111 (Or.inr (w30 hw)) (ty := (.array .byte)) (by decide)
    show Go p.tables e below _ (T111.setTop (mkF m 60 #[vI p1, vI p2, vI p3, vI 0, vI c0, vI c1, uS, uS, uS, uS] [(.ref b111)]))
    refine Go.step (fun _ kt => XS.dup X111.here hx rfl (hb hby at_60) rfl rfl (XS.iconst X111.here hx rfl (hb hby at_61) kt)) ?_
    obtain ⟨T124, h124, k124, X124, e124, E124, A124, st124⟩ := newP (aty := .char) X111 hx hZ (w1 hw) e111 (g := (mkF m 62 #[vI p1, vI p2, vI p3, vI 0, vI c0, vI c1, uS, uS, uS, uS] [(.int 0), (.ref b111), (.ref b111)])) rfl (hb hby at_62) rfl (by decide) (cap := 0) (by decide) (by decide) (by decide) (by decide)
    obtain ⟨b124, g124⟩ : ∃ z, z = h111.size := ⟨_, rfl⟩
    rw [← g124] at A124 st124
    refine Go.step st124 ?_
    have ne_b111_b124 : b111 ≠ b124 := Nat.ne_of_lt (Nat.lt_of_lt_of_le A111.lt (Nat.le_of_eq g124.symm))
    have g_b124 : n0 ≤ b124 := Nat.le_trans Z118 (Nat.le_of_eq g124.symm)
    have F125 := (F112.ext E124)
    have F126 := (F113.ext E124)
    have F127 := (F114.ext E124)
    have F128 := (F115.ext E124)
    have F129 := (F116.ext E124)
    have F130 := (F117.ext E124)
    have F131 := (A111.ext E124)
    have F132 := (F122.ext E124)
    have F133 := (F123.ext E124)
    have Z134 : n0 ≤ h124.size := (Nat.le_trans Z118 E124.1)
    have hk135 : _ ≤ h124.size := (Nat.le_trans hk119 E124.1)
    have Sf136 := (Safe.ext E124 C121.1 Sf120)
    have Sf137 := (Safe.ext E124 C121.1 (Safe.new (EL := own_EL) (Z := Z) (Nat.le_of_eq g124.symm)))
    have C138 := (C121.trans (CHr.ext E124 C121.1))
    have V139 : Arv Z h124 b124 k124 .char (0 : Int32) [] (.int 0) := Arv.new A124 (by decide)
    obtain ⟨_, _, ⟨T140, L140, k140, n140⟩, -, X140, hSq140, hgq140, ⟨Lc140, hQ140, l140, y140, z140, Cq140⟩, st140⟩ := X124.specialBackS hx (y := Y23) rfl hown (mvT hZ (w5 hw)) (mvT hZ (w6 hw)) (mvT hZ (w7 hw)) (by decide) (backOfSHx (s := s) (EL := own_EL) (W := 1) (ws := [b111]) (rmct10 l Z a0 hw [] b111 b124 (.int 0) .null k124 cs h124 n0 Z134 F131 F132 F133 V139 F125 g_b111 hcs (Ne.symm ne_b111_b124)) hZ (w7 hw) (w4 hw) (by decide) (by decide) (own_EW hw) C138.1 (by intro x hx; cases List.mem_singleton.mp hx; exact ⟨F131.lt, Sf136⟩)) (g := (mkF m 64 #[vI p1, vI p2, vI p3, vI 0, vI c0, vI c1, uS, uS, uS, uS] [(.ref b124), (.ref b111), (.ref b111)])) rfl hml.symm (Steps.refl _) (a := b111) (argsL := [(.ref b124)]) (rest := [(.ref b111)]) (lenOf pd_16 rfl) rfl (Nat.le_of_eq rfl) (hb hby at_64) (fun _ _ => ⟨rfl, e124, (by decide : 2 + 4 ≤ _), (by decide : 4 + 8 ≤ _)⟩)
    dsimp only [Pt.U, Pt.locs, Pt.cells, Pt.slots] at X140 l140 y140 z140 st140 hQ140 hSq140 hgq140
    subst l140 y140 z140
    obtain ⟨X140, hS140, hZ, hown⟩ := rebS hS0 (by rw [e124]; exact hk135) X140 hSq140 hgq140 hZ hown
    have hk140 : T140.heap.size ≤ T140.heap.size := Nat.le_refl _
    dsimp only [Pt.U] at Cq140
    obtain ⟨b140b, b140cd, rfl, N140q, Kq140, P141, P142, P143, P144, P145⟩ := hQ140
    have F146 := (own_sta_keep F125 F131 Kq140)
    have F147 := (own_sta_keep F126 F131 Kq140)
    have F148 := (own_sta_keep F127 F131 Kq140)
    have F149 := (own_sta_keep F128 F131 Kq140)
    have F150 := (own_sta_keep F129 F131 Kq140)
    have F151 := (own_sta_keep F130 F131 Kq140)
    have F152 := (F131.keep Kq140)
    have F153 := (V139.keep Kq140 (fun q => (Ne.symm ne_b111_b124) (List.mem_singleton.mp q)))
    have Z154 : n0 ≤ T140.heap.size := (Nat.le_trans Z134 Kq140.1)
    have Sf155 := (Cq140.safe F131.lt Sf136)
    have Sf156 := (Cq140.safe V139.lt Sf137)
    have C157 := (C138.trans Cq140)
    have N140 := Fr.app N0 N140q
    refine Go.step (fun _ kt => st140.trans kt) ?_
    show Go p.tables e below _ (T140.setTop (mkF m 67 #[vI p1, vI p2, vI p3, vI 0, vI c0, vI c1, uS, uS, uS, uS] [(.ref b111)]))
    refine Go.step (fun _ kt => XS.astore X140.here hx rfl (hb hby at_67) rfl rfl (l' := #[vI p1, vI p2, vI p3, vI 0, vI c0, vI c1, vR b111, uS, uS, uS]) rfl (XS.goto X140.here hx rfl (pc0 := 69) (pc' := 130) rfl (hb hby at_69) (by decide) (by decide) (XS.bipush X140.here hx rfl (hb hby at_130) kt))) ?_
    show Go p.tables e below _ (T140.setTop (mkF m 132 #[vI p1, vI p2, vI p3, vI 0, vI c0, vI c1, vR b111, uS, uS, uS] [(.int 8)]))
    obtain ⟨T158, h158, k158, X158, e158, E158, A158, Ex158, st158⟩ := newPE (aty := .byte) X140 hx hZ (w20 hw) rfl (g := (mkF m 132 #[vI p1, vI p2, vI p3, vI 0, vI c0, vI c1, vR b111, uS, uS, uS] [(.int 8)])) rfl (hb hby at_132) rfl (by decide) (cap := 8) (by decide) (by decide) (by decide) (by decide) (ad := "[B") own_adB
    obtain ⟨b158, g158⟩ : ∃ z, z = T140.heap.size := ⟨_, rfl⟩
    rw [← g158] at A158 Ex158 st158
    refine Go.step st158 ?_
    have ne_b111_b158 : b111 ≠ b158 := Nat.ne_of_lt (Nat.lt_of_lt_of_le P141.lt (Nat.le_of_eq g158.symm))
    have ne_b124_b158 : b124 ≠ b158 := Nat.ne_of_lt (Nat.lt_of_lt_of_le F153.lt (Nat.le_of_eq g158.symm))
    have ne_b140b_b158 : b140b ≠ b158 := Nat.ne_of_lt (Nat.lt_of_lt_of_le P144.lt (Nat.le_of_eq g158.symm))
    have g_b158 : n0 ≤ b158 := Nat.le_trans Z154 (Nat.le_of_eq g158.symm)
    have F159 := (F146.ext E158)
    have F160 := (F147.ext E158)
    have F161 := (F148.ext E158)
    have F162 := (F149.ext E158)
    have F163 := (F150.ext E158)
    have F164 := (F151.ext E158)
    have F165 := (P141.ext E158)
    have F166 := (F153.ext E158)
    have F167 := (P142.ext E158)
    have F168 := (P143.ext E158)
    have F169 := (P144.ext E158)
    have F170 := (P145.ext E158)
    have Z171 : n0 ≤ h158.size := (Nat.le_trans Z154 E158.1)
    have hk172 : _ ≤ h158.size := (Nat.le_trans hk140 E158.1)
    have Sf173 := (Safe.ext E158 C157.1 Sf155)
    have Sf174 := (Safe.ext E158 C157.1 Sf156)
    have Sf175 := (Safe.ext E158 C157.1 (Safe.new (EL := own_EL) (Z := Z) (Nat.le_of_eq g158.symm)))
    have C176 := (C157.trans (CHr.ext E158 C157.1))
    have V177 : Arv Z h158 b158 k158 .byte (8 : Int32) (([] : List Int32).map Value.int) (.int 0) := Arv.new A158 (by decide)
    show Go p.tables e below _ (T158.setTop (mkF m 134 #[vI p1, vI p2, vI p3, vI 0, vI c0, vI c1, vR b111, uS, uS, uS] [(.ref b158)]))
    refine Go.step (fun _ kt => XS.astore X158.here hx rfl (hb hby at_134) rfl rfl (l' := #[vI p1, vI p2, vI p3, vI 0, vI c0, vI c1, vR b111, vR b158, uS, uS]) rfl (XS.iconst X158.here hx rfl (hb hby at_136) (XS.istore X158.here hx rfl (hb hby at_137) rfl (l' := #[vI p1, vI p2, vI p3, vI 0, vI c0, vI c1, vR b111, vR b158, vI 0, uS]) rfl (XS.iloadN X158.here hx rfl (hb hby at_139) rfl (XS.iconst X158.here hx rfl (hb hby at_140) (XS.icmpYes X158.here hx rfl (pc0 := 141) (pc' := 205) rfl (hb hby at_141) rfl (tlt (by decide : (0 : Int32) < (1 : Int32))).1 (by decide) (by decide) (XS.aload X158.here hx rfl (hb hby at_205) rfl rfl kt))))))) ?_
    show Go p.tables e below _ (T158.setTop (mkF m 207 #[vI p1, vI p2, vI p3, vI 0, vI c0, vI c1, vR b111, vR b158, vI 0, uS] [(.ref b111)]))
    obtain ⟨_, _, ⟨T178, L178, k178, n178⟩, -, X178, ⟨Lc178, hQ178, l178, y178, z178⟩, st178⟩ := Jvm.LawKit.callS X158 hx (y := Y18) hown (mvT hZ (w39 hw)) (mvT hZ (w40 hw)) (mvT hZ (w41 hw)) (mvT hZ (w42 hw)) (by decide) (backOf (W := 0) (rmof l Z a0 hw [] b111 b140b b140cd ([] : List Int32) cs u8 h158 n0 Z171 F165 F167 F168 F169 F170 F160 F161 F159 F162 F163 F164 hcs) hZ (w42 hw) (w41 hw) (by decide) (by decide)) (g := (mkF m 207 #[vI p1, vI p2, vI p3, vI 0, vI c0, vI c1, vR b111, vR b158, vI 0, uS] [(.ref b111)])) rfl hml.symm (argsL := [(.ref b111)]) (rest := []) (lenOf pd_17 rfl) rfl (Nat.le_of_eq rfl) (hb hby at_207) (fun _ _ => ⟨rfl, e158, (by decide : 7 + 2 ≤ _), (by decide : 20 + 12 ≤ _)⟩)
    dsimp only [Pt.U, Pt.locs, Pt.cells, Pt.slots] at X178 l178 y178 z178 st178 hQ178
    subst l178 y178 z178
    obtain ⟨b178r, b178kr, rfl, N178q, Kq178, P179, P180, g_b178r, szq_b178r⟩ := hQ178
    have ne_b111_b178r : b111 ≠ b178r := Nat.ne_of_lt (Nat.lt_of_lt_of_le F165.lt szq_b178r)
    have ne_b124_b178r : b124 ≠ b178r := Nat.ne_of_lt (Nat.lt_of_lt_of_le F166.lt szq_b178r)
    have ne_b140b_b178r : b140b ≠ b178r := Nat.ne_of_lt (Nat.lt_of_lt_of_le F169.lt szq_b178r)
    have ne_b158_b178r : b158 ≠ b178r := Nat.ne_of_lt (Nat.lt_of_lt_of_le V177.lt szq_b178r)
    have F181 := (own_sta_keep0 F159 Kq178)
    have F182 := (own_sta_keep0 F160 Kq178)
    have F183 := (own_sta_keep0 F161 Kq178)
    have F184 := (own_sta_keep0 F162 Kq178)
    have F185 := (own_sta_keep0 F163 Kq178)
    have F186 := (own_sta_keep0 F164 Kq178)
    have F187 := (F165.keep Kq178)
    have F188 := (F166.keep Kq178 (by simp))
    have F189 := (F167.keep Kq178 (by simp))
    have F190 := (F168.keep Kq178 (by simp))
    have F191 := (F169.keep Kq178)
    have F192 := (F170.keep Kq178 (by simp))
    have F193 := (V177.keep Kq178 (by simp))
    have F194 := (Ex158.keep Kq178)
    have Z195 : n0 ≤ T178.heap.size := (Nat.le_trans Z171 Kq178.1)
    have hk196 : _ ≤ T178.heap.size := (Nat.le_trans hk172 Kq178.1)
    have Sf197 := (Safe.keep Kq178 (by intro x hx; cases hx) C176.1 Sf173)
    have Sf198 := (Safe.keep Kq178 (by intro x hx; cases hx) C176.1 Sf174)
    have Sf199 := (Safe.keep Kq178 (by intro x hx; cases hx) C176.1 Sf175)
    have C200 := (C176.trans (CHr.keep Kq178 (by intro x hx; cases hx) C176.1))
    have N178 := Fr.app N140 N178q
    refine Go.step st178 ?_
    show Go p.tables e below _ (T178.setTop (mkF m 210 #[vI p1, vI p2, vI p3, vI 0, vI c0, vI c1, vR b111, vR b158, vI 0, uS] [(.ref b178r)]))
    refine Go.step (fun _ kt => XS.astore X178.here hx rfl (hb hby at_210) rfl rfl (l' := #[vI p1, vI p2, vI p3, vI 0, vI c0, vI c1, vR b111, vR b158, vI 0, vR b178r]) rfl kt) ?_
    show Go p.tables e below _ (T178.setTop (mkF m 212 #[vI p1, vI p2, vI p3, vI 0, vI c0, vI c1, vR b111, vR b158, vI 0, vR b178r] []))
    have Vl201 : Arv Z T178.heap b178r b178kr .byte (own_len ([] : List Int32)) (([] : List Int32).map Value.int) (.int 0) := P180
    show Go p.tables e below _ (T178.setTop (mkF m 212 #[vI p1, vI p2, vI p3, vI 0, vI c0, vI c1, vR b111, vR b158, vI (own_len ([] : List Int32)), vR b178r] []))
    exact G212g101 (0 : Int32) b111 b158 b178r _ _ ([] : List Int32) _ _ _ _ _ hZ hown hS140 hk196 C200 (X178.more (by decide) (by decide)) rfl N178 Z195 F193 Vl201
   ·rw [hk]
    show Go p.tables e below _ (s₁.setTop (mkF m 53 #[vI p1, vI p2, vI p3, vI 1, vI c0, vI c1, uS, uS, uS, uS] []))
    refine Go.step (fun _ kt => XS.iloadN X0.here hx rfl (hb hby at_53) rfl (XS.ifYes X0.here hx rfl (pc0 := 54) (pc' := 72) rfl (hb hby at_54) rfl ((if0 _ _).trans (feq (by decide : ¬ ((1 : Int32) = (0 : Int32)))).2) (by decide) (by decide) (XS.iloadN X0.here hx rfl (hb hby at_72) rfl (XS.iconst X0.here hx rfl (hb hby at_73) (XS.icmpNo X0.here hx rfl (hb hby at_74) rfl (teq (by decide : (1 : Int32) = (1 : Int32))).2 (XS.iconst X0.here hx rfl (hb hby at_77) kt)))))) ?_
    show Go p.tables e below _ (s₁.setTop (mkF m 78 #[vI p1, vI p2, vI p3, vI 1, vI c0, vI c1, uS, uS, uS, uS] [(.int 1)]))
    obtain ⟨T202, h202, k202, X202, e202, E202, A202, st202⟩ := newP (aty := .char) X0 hx hZ (w1 hw) e0 (g := (mkF m 78 #[vI p1, vI p2, vI p3, vI 1, vI c0, vI c1, uS, uS, uS, uS] [(.int 1)])) rfl (hb hby at_78) rfl (by decide) (cap := 1) (by decide) (by decide) (by decide) (by decide)
    obtain ⟨b202, g202⟩ : ∃ z, z = h0.size := ⟨_, rfl⟩
    rw [← g202] at A202 st202
    refine Go.step st202 ?_
    have g_b202 : n0 ≤ b202 := Nat.le_trans Z0 (Nat.le_of_eq g202.symm)
    have F203 := (S_cs.ext E202)
    have F204 := (S_u8.ext E202)
    have F205 := (S_in.ext E202)
    have F206 := (S_ad.ext E202)
    have F207 := (S_hi.ext E202)
    have F208 := (S_lo.ext E202)
    have Z209 : n0 ≤ h202.size := (Nat.le_trans Z0 E202.1)
    have hk210 : _ ≤ h202.size := (Nat.le_trans hk0 E202.1)
    have Sf211 := (Safe.ext E202 C0.1 (Safe.new (EL := own_EL) (Z := Z) (Nat.le_of_eq g202.symm)))
    have C212 := (C0.trans (CHr.ext E202 C0.1))
    have V213 : Arv Z h202 b202 k202 .char (1 : Int32) [(.int 0)] (.int 0) := (Arv.new A202 (by decide)).pad (pad_rep [] (.int 0) 1)
    show Go p.tables e below _ (T202.setTop (mkF m 80 #[vI p1, vI p2, vI p3, vI 1, vI c0, vI c1, uS, uS, uS, uS] [(.ref b202)]))
    refine Go.step (fun _ kt => XS.astore X202.here hx rfl (hb hby at_80) rfl rfl (l' := #[vI p1, vI p2, vI p3, vI 1, vI c0, vI c1, uS, vR b202, uS, uS]) rfl (XS.aload X202.here hx rfl (hb hby at_82) rfl rfl (XS.iconst X202.here hx rfl (hb hby at_84) (XS.iload X202.here hx rfl (hb hby at_85) rfl kt)))) ?_
    show Go p.tables e below _ (T202.setTop (mkF m 87 #[vI p1, vI p2, vI p3, vI 1, vI c0, vI c1, uS, vR b202, uS, uS] [(.int c0), (.int 0), (.ref b202)]))
    obtain ⟨cl214, Ar214, qa214, Sa214, Na214, Ha214, Ga214⟩ := (id V213)
    have hin214 : ¬ ((0 : Int32) < 0 ∨ cl214.slots.size ≤ ((0 : Int32)).toNatClampNeg) := inb_of Sa214 ⟨by decide, by decide⟩
    obtain ⟨T214, h214, X214, e214, W214, st214⟩ := stC X202 hx hZ e202 Ar214 (j := (0 : Int32)) hin214 (g := (mkF m 87 #[vI p1, vI p2, vI p3, vI 1, vI c0, vI c1, uS, vR b202, uS, uS] [(.int c0), (.int 0), (.ref b202)])) rfl rfl (hb hby at_87)
    refine Go.step st214 ?_
    have V215 := Arv.set Ar214 qa214 Sa214 Na214 Ha214 Ga214 (fits_nar_char _) W214 0 rfl (Nat.le_of_ble_eq_true rfl)
    have N214 := Fr.snoc X214 N0 g_b202
    have F216 := (F203.wr W214)
    have F217 := (F204.wr W214)
    have F218 := (F205.wr W214)
    have F219 := (F206.wr W214)
    have F220 := (F207.wr W214)
    have F221 := (F208.wr W214)
    have Z222 : n0 ≤ h214.size := (Nat.le_trans Z209 (Nat.le_of_eq W214.size.symm))
    have hk223 : _ ≤ h214.size := (Nat.le_trans hk210 (Nat.le_of_eq W214.size.symm))
    have Sf224 := (Safe.wr W214 (by obtain ⟨_, Ar_, _⟩ := V213; exact Safe.arr hZ.alike Ar_ (by decide)) C212.1 Sf211)
    have C225 := (C212.trans (CHr.wr W214 (by obtain ⟨_, Ar_, _⟩ := V213; exact Safe.arr hZ.alike Ar_ (by decide)) C212.1))
    show Go p.tables e below _ (T214.setTop (mkF m 88 #[vI p1, vI p2, vI p3, vI 1, vI c0, vI c1, uS, vR b202, uS, uS] []))
    have Vn226 : Arv Z h214 b202 k202 .char (1 : Int32) [(.int c0)] (.int 0) := by have q1 : (c0).toUInt32.toUInt16.toUInt32.toInt32 = c0 := (own_cc hR0); have q0 := V215; have q2 : nar .char c0 = c0 := q1; first | (rw [q1] at q0; exact q0) | (rw [q2] at q0; exact q0)
    obtain ⟨T227, h227, X227, e227, E227, A227, D227, -, st227⟩ := newO X214 hx hZ hown (w2 hw) (w3 hw) (w4 hw) e214 (g := (mkF m 88 #[vI p1, vI p2, vI p3, vI 1, vI c0, vI c1, uS, vR b202, uS, uS] [])) rfl (hb hby at_88) (by decide) (by decide)
    obtain ⟨b227, g227⟩ : ∃ z, z = h214.size := ⟨_, rfl⟩
    rw [← g227] at A227 D227 st227
    refine Go.step st227 ?_
    have ne_b202_b227 : b202 ≠ b227 := Nat.ne_of_lt (Nat.lt_of_lt_of_le Vn226.lt (Nat.le_of_eq g227.symm))
    have g_b227 : n0 ≤ b227 := Nat.le_trans Z222 (Nat.le_of_eq g227.symm)
    have F228 := (F216.ext E227)
    have F229 := (F217.ext E227)
    have F230 := (F218.ext E227)
    have F231 := (F219.ext E227)
    have F232 := (F220.ext E227)
    have F233 := (F221.ext E227)
    have F234 : Arv Z h227 b202 k202 .char (1 : Int32) [(.int c0)] (.int 0) := (Vn226.ext E227)
    have Z235 : n0 ≤ h227.size := (Nat.le_trans Z222 E227.1)
    have hk236 : _ ≤ h227.size := (Nat.le_trans hk223 E227.1)
    have Sf237 := (Safe.ext E227 C225.1 Sf224)
    have Sf238 := (Safe.ext E227 C225.1 (Safe.new (EL := own_EL) (Z := Z) (Nat.le_of_eq g227.symm)))
    have C239 := (C225.trans (CHr.ext E227 C225.1))
    have F240 : Fld Z h227 b227 "java/lang/String" "coder" "B" (.int 0) := D227 (Or.inr (w28 hw)) (ty := .byte) (by decide)
    have F241 : Fld Z h227 b227 "java/lang/String" "value" "[B" .null := D227 (Or.inr (w30 hw)) (ty := (.array .byte)) (by decide)
    show Go p.tables e below _ (T227.setTop (mkF m 91 #[vI p1, vI p2, vI p3, vI 1, vI c0, vI c1, uS, vR b202, uS, uS] [(.ref b227)]))
    refine Go.step (fun _ kt => XS.dup X227.here hx rfl (hb hby at_91) rfl rfl (XS.aload X227.here hx rfl (hb hby at_92) rfl rfl kt)) ?_
    obtain ⟨_, _, ⟨T242, L242, k242, n242⟩, -, X242, ⟨Lc242, hQ242, l242, y242, z242⟩, st242⟩ := X227.specialBack hx (y := Y23) rfl hown (mvT hZ (w5 hw)) (mvT hZ (w6 hw)) (mvT hZ (w7 hw)) (by decide) (backOf (W := 1) (rmct11 l Z a0 hw [] b227 b202 (.int 0) .null k202 cs c0 h227 n0 Z235 A227 F240 F241 F234 F228 F231 F232 F233 g_b227 hcs ne_b202_b227 hR0) hZ (w7 hw) (w4 hw) (by decide) (by decide)) (g := (mkF m 94 #[vI p1, vI p2, vI p3, vI 1, vI c0, vI c1, uS, vR b202, uS, uS] [(.ref b202), (.ref b227), (.ref b227)])) rfl hml.symm (Steps.refl _) (a := b227) (argsL := [(.ref b202)]) (rest := [(.ref b227)]) (lenOf pd_16 rfl) rfl (Nat.le_of_eq rfl) (hb hby at_94) (fun _ _ => ⟨rfl, e227, (by decide : 2 + 2 ≤ _), (by decide : 5 + 3 ≤ _)⟩)
    dsimp only [Pt.U, Pt.locs, Pt.cells, Pt.slots] at X242 l242 y242 z242 st242 hQ242
    subst l242 y242 z242
    obtain ⟨b242b, b242cd, rfl, N242q, Kq242, P243, P244, P245, P246, P247⟩ := hQ242
    have F248 := (own_sta_keep F228 A227 Kq242)
    have F249 := (own_sta_keep F229 A227 Kq242)
    have F250 := (own_sta_keep F230 A227 Kq242)
    have F251 := (own_sta_keep F231 A227 Kq242)
    have F252 := (own_sta_keep F232 A227 Kq242)
    have F253 := (own_sta_keep F233 A227 Kq242)
    have F254 := (F234.keep Kq242 (fun q => ne_b202_b227 (List.mem_singleton.mp q)))
    have F255 := (A227.keep Kq242)
    have Z256 : n0 ≤ T242.heap.size := (Nat.le_trans Z235 Kq242.1)
    have hk257 : _ ≤ T242.heap.size := (Nat.le_trans hk236 Kq242.1)
    have Sf258 := (Safe.keep Kq242 (by intro x hx; cases List.mem_singleton.mp hx; exact Sf238) C239.1 Sf237)
    have Sf259 := (Safe.keep Kq242 (by intro x hx; cases List.mem_singleton.mp hx; exact Sf238) C239.1 Sf238)
    have C260 := (C239.trans (CHr.keep Kq242 (by intro x hx; cases List.mem_singleton.mp hx; exact Sf238) C239.1))
    have N242 := Fr.app N214 N242q
    refine Go.step (fun _ kt => st242.trans kt) ?_
    show Go p.tables e below _ (T242.setTop (mkF m 97 #[vI p1, vI p2, vI p3, vI 1, vI c0, vI c1, uS, vR b202, uS, uS] [(.ref b227)]))
    refine Go.step (fun _ kt => XS.astore X242.here hx rfl (hb hby at_97) rfl rfl (l' := #[vI p1, vI p2, vI p3, vI 1, vI c0, vI c1, vR b227, vR b202, uS, uS]) rfl (XS.goto X242.here hx rfl (pc0 := 99) (pc' := 130) rfl (hb hby at_99) (by decide) (by decide) (XS.bipush X242.here hx rfl (hb hby at_130) kt))) ?_
    show Go p.tables e below _ (T242.setTop (mkF m 132 #[vI p1, vI p2, vI p3, vI 1, vI c0, vI c1, vR b227, vR b202, uS, uS] [(.int 8)]))
    obtain ⟨T261, h261, k261, X261, e261, E261, A261, Ex261, st261⟩ := newPE (aty := .byte) X242 hx hZ (w20 hw) rfl (g := (mkF m 132 #[vI p1, vI p2, vI p3, vI 1, vI c0, vI c1, vR b227, vR b202, uS, uS] [(.int 8)])) rfl (hb hby at_132) rfl (by decide) (cap := 8) (by decide) (by decide) (by decide) (by decide) (ad := "[B") own_adB
    obtain ⟨b261, g261⟩ : ∃ z, z = T242.heap.size := ⟨_, rfl⟩
    rw [← g261] at A261 Ex261 st261
    refine Go.step st261 ?_
    have ne_b202_b261 : b202 ≠ b261 := Nat.ne_of_lt (Nat.lt_of_lt_of_le F254.lt (Nat.le_of_eq g261.symm))
    have ne_b227_b261 : b227 ≠ b261 := Nat.ne_of_lt (Nat.lt_of_lt_of_le P243.lt (Nat.le_of_eq g261.symm))
    have ne_b242b_b261 : b242b ≠ b261 := Nat.ne_of_lt (Nat.lt_of_lt_of_le P246.lt (Nat.le_of_eq g261.symm))
    have g_b261 : n0 ≤ b261 := Nat.le_trans Z256 (Nat.le_of_eq g261.symm)
    have F262 := (F248.ext E261)
    have F263 := (F249.ext E261)
    have F264 := (F250.ext E261)
    have F265 := (F251.ext E261)
    have F266 := (F252.ext E261)
    have F267 := (F253.ext E261)
    have F268 := (F254.ext E261)
    have F269 := (P243.ext E261)
    have F270 := (P244.ext E261)
    have F271 := (P245.ext E261)
    have F272 := (P246.ext E261)
    have F273 := (P247.ext E261)
    have Z274 : n0 ≤ h261.size := (Nat.le_trans Z256 E261.1)
    have hk275 : _ ≤ h261.size := (Nat.le_trans hk257 E261.1)
    have Sf276 := (Safe.ext E261 C260.1 Sf258)
    have Sf277 := (Safe.ext E261 C260.1 Sf259)
    have Sf278 := (Safe.ext E261 C260.1 (Safe.new (EL := own_EL) (Z := Z) (Nat.le_of_eq g261.symm)))
    have C279 := (C260.trans (CHr.ext E261 C260.1))
    have V280 : Arv Z h261 b261 k261 .byte (8 : Int32) (([] : List Int32).map Value.int) (.int 0) := Arv.new A261 (by decide)
    show Go p.tables e below _ (T261.setTop (mkF m 134 #[vI p1, vI p2, vI p3, vI 1, vI c0, vI c1, vR b227, vR b202, uS, uS] [(.ref b261)]))
    refine Go.step (fun _ kt => XS.astore X261.here hx rfl (hb hby at_134) rfl rfl (l' := #[vI p1, vI p2, vI p3, vI 1, vI c0, vI c1, vR b227, vR b261, uS, uS]) rfl (XS.iconst X261.here hx rfl (hb hby at_136) (XS.istore X261.here hx rfl (hb hby at_137) rfl (l' := #[vI p1, vI p2, vI p3, vI 1, vI c0, vI c1, vR b227, vR b261, vI 0, uS]) rfl (XS.iloadN X261.here hx rfl (hb hby at_139) rfl (XS.iconst X261.here hx rfl (hb hby at_140) (XS.icmpNo X261.here hx rfl (hb hby at_141) rfl (flt (by decide : ¬ ((1 : Int32) < (1 : Int32)))).1 (XS.iloadN X261.here hx rfl (hb hby at_144) rfl (XS.iconst X261.here hx rfl (hb hby at_145) (XS.icmpYes X261.here hx rfl (pc0 := 146) (pc' := 179) rfl (hb hby at_146) rfl (feq (by decide : ¬ ((1 : Int32) = (2 : Int32)))).2 (by decide) (by decide) (XS.aload X261.here hx rfl (hb hby at_179) rfl rfl (XS.iconst X261.here hx rfl (hb hby at_181) (XS.iload X261.here hx rfl (hb hby at_182) rfl kt)))))))))))) ?_
    show Go p.tables e below _ (T261.setTop (mkF m 184 #[vI p1, vI p2, vI p3, vI 1, vI c0, vI c1, vR b227, vR b261, vI 0, uS] [(.int c0), (.int 0), (.ref b261)]))
    obtain ⟨_, _, ⟨T281, L281, k281, n281⟩, -, X281, ⟨Lc281, hQ281, l281, y281, z281⟩, st281⟩ := Jvm.LawKit.callS X261 hx (y := Y19) hown (mvT hZ (w36 hw)) (mvT hZ (w37 hw)) (mvT hZ (w33 hw)) (mvT hZ (w38 hw)) (by decide) (backOf (W := 0) (rmunit l Z a0 hw [] b261 c0 k261 ([] : List Int32) h261 n0 Z274 Ex261 V280 g_b261 (by decide)) hZ (w38 hw) (w33 hw) (by decide) (by decide)) (g := (mkF m 184 #[vI p1, vI p2, vI p3, vI 1, vI c0, vI c1, vR b227, vR b261, vI 0, uS] [(.int c0), (.int 0), (.ref b261)])) rfl hml.symm (argsL := [(.ref b261), (.int 0), (.int c0)]) (rest := []) (lenOf pd_22 rfl) rfl (Nat.le_of_eq rfl) (hb hby at_184) (fun _ _ => ⟨rfl, e261, (by decide : 5 + 0 ≤ _), (by decide : 16 + 0 ≤ _)⟩)
    dsimp only [Pt.U, Pt.locs, Pt.cells, Pt.slots] at X281 l281 y281 z281 st281 hQ281
    subst l281 y281 z281
    obtain ⟨rfl, N281q, Kq281, P282, P283⟩ := hQ281
    have F284 := (own_sta_keep F262 Ex261 Kq281)
    have F285 := (own_sta_keep F263 Ex261 Kq281)
    have F286 := (own_sta_keep F264 Ex261 Kq281)
    have F287 := (own_sta_keep F265 Ex261 Kq281)
    have F288 := (own_sta_keep F266 Ex261 Kq281)
    have F289 := (own_sta_keep F267 Ex261 Kq281)
    have F290 := (F268.keep Kq281 (fun q => ne_b202_b261 (List.mem_singleton.mp q)))
    have F291 := (F269.keep Kq281)
    have F292 := (F270.keep Kq281 (fun q => ne_b227_b261 (List.mem_singleton.mp q)))
    have F293 := (F271.keep Kq281 (fun q => ne_b227_b261 (List.mem_singleton.mp q)))
    have F294 := (F272.keep Kq281)
    have F295 := (F273.keep Kq281 (fun q => ne_b242b_b261 (List.mem_singleton.mp q)))
    have F296 := (Ex261.keep Kq281)
    have Z297 : n0 ≤ T281.heap.size := (Nat.le_trans Z274 Kq281.1)
    have hk298 : _ ≤ T281.heap.size := (Nat.le_trans hk275 Kq281.1)
    have Sf299 := (Safe.keep Kq281 (by intro x hx; cases List.mem_singleton.mp hx; exact Sf278) C279.1 Sf276)
    have Sf300 := (Safe.keep Kq281 (by intro x hx; cases List.mem_singleton.mp hx; exact Sf278) C279.1 Sf277)
    have Sf301 := (Safe.keep Kq281 (by intro x hx; cases List.mem_singleton.mp hx; exact Sf278) C279.1 Sf278)
    have C302 := (C279.trans (CHr.keep Kq281 (by intro x hx; cases List.mem_singleton.mp hx; exact Sf278) C279.1))
    have N281 := Fr.app N242 N281q
    refine Go.step st281 ?_
    show Go p.tables e below _ (T281.setTop (mkF m 187 #[vI p1, vI p2, vI p3, vI 1, vI c0, vI c1, vR b227, vR b261, vI 0, uS] [(.int (own_len (([] : List Int32) ++ own_u c0)))]))
    refine Go.step (fun _ kt => XS.istore X281.here hx rfl (hb hby at_187) rfl (l' := #[vI p1, vI p2, vI p3, vI 1, vI c0, vI c1, vR b227, vR b261, vI (own_len (([] : List Int32) ++ own_u c0)), uS]) rfl (XS.iloadN X281.here hx rfl (hb hby at_189) rfl (XS.iconst X281.here hx rfl (hb hby at_190) (XS.icmpYes X281.here hx rfl (pc0 := 191) (pc' := 205) rfl (hb hby at_191) rfl (feq (by decide : ¬ ((1 : Int32) = (2 : Int32)))).2 (by decide) (by decide) (XS.aload X281.here hx rfl (hb hby at_205) rfl rfl kt))))) ?_
    show Go p.tables e below _ (T281.setTop (mkF m 207 #[vI p1, vI p2, vI p3, vI 1, vI c0, vI c1, vR b227, vR b261, vI (own_len (([] : List Int32) ++ own_u c0)), uS] [(.ref b227)]))
    obtain ⟨_, _, ⟨T303, L303, k303, n303⟩, -, X303, ⟨Lc303, hQ303, l303, y303, z303⟩, st303⟩ := Jvm.LawKit.callS X281 hx (y := Y18) hown (mvT hZ (w39 hw)) (mvT hZ (w40 hw)) (mvT hZ (w41 hw)) (mvT hZ (w42 hw)) (by decide) (backOf (W := 0) (rmof l Z a0 hw [] b227 b242b b242cd (own_u c0) cs u8 T281.heap n0 Z297 F291 F292 F293 F294 F295 F285 F286 F284 F287 F288 F289 hcs) hZ (w42 hw) (w41 hw) (by decide) (by decide)) (g := (mkF m 207 #[vI p1, vI p2, vI p3, vI 1, vI c0, vI c1, vR b227, vR b261, vI (own_len (([] : List Int32) ++ own_u c0)), uS] [(.ref b227)])) rfl hml.symm (argsL := [(.ref b227)]) (rest := []) (lenOf pd_17 rfl) rfl (Nat.le_of_eq rfl) (hb hby at_207) (fun _ _ => ⟨rfl, rfl, (by decide : 5 + 2 ≤ _), (by decide : 16 + 12 ≤ _)⟩)
    dsimp only [Pt.U, Pt.locs, Pt.cells, Pt.slots] at X303 l303 y303 z303 st303 hQ303
    subst l303 y303 z303
    obtain ⟨b303r, b303kr, rfl, N303q, Kq303, P304, P305, g_b303r, szq_b303r⟩ := hQ303
    have ne_b202_b303r : b202 ≠ b303r := Nat.ne_of_lt (Nat.lt_of_lt_of_le F290.lt szq_b303r)
    have ne_b227_b303r : b227 ≠ b303r := Nat.ne_of_lt (Nat.lt_of_lt_of_le F291.lt szq_b303r)
    have ne_b242b_b303r : b242b ≠ b303r := Nat.ne_of_lt (Nat.lt_of_lt_of_le F294.lt szq_b303r)
    have ne_b261_b303r : b261 ≠ b303r := Nat.ne_of_lt (Nat.lt_of_lt_of_le P282.lt szq_b303r)
    have F306 := (own_sta_keep0 F284 Kq303)
    have F307 := (own_sta_keep0 F285 Kq303)
    have F308 := (own_sta_keep0 F286 Kq303)
    have F309 := (own_sta_keep0 F287 Kq303)
    have F310 := (own_sta_keep0 F288 Kq303)
    have F311 := (own_sta_keep0 F289 Kq303)
    have F312 := (F290.keep Kq303 (by simp))
    have F313 := (F291.keep Kq303)
    have F314 := (F292.keep Kq303 (by simp))
    have F315 := (F293.keep Kq303 (by simp))
    have F316 := (F294.keep Kq303)
    have F317 := (F295.keep Kq303 (by simp))
    have F318 := (P282.keep Kq303)
    have F319 := (P283.keep Kq303 (by simp))
    have Z320 : n0 ≤ T303.heap.size := (Nat.le_trans Z297 Kq303.1)
    have hk321 : _ ≤ T303.heap.size := (Nat.le_trans hk298 Kq303.1)
    have Sf322 := (Safe.keep Kq303 (by intro x hx; cases hx) C302.1 Sf299)
    have Sf323 := (Safe.keep Kq303 (by intro x hx; cases hx) C302.1 Sf300)
    have Sf324 := (Safe.keep Kq303 (by intro x hx; cases hx) C302.1 Sf301)
    have C325 := (C302.trans (CHr.keep Kq303 (by intro x hx; cases hx) C302.1))
    have N303 := Fr.app N281 N303q
    refine Go.step st303 ?_
    show Go p.tables e below _ (T303.setTop (mkF m 210 #[vI p1, vI p2, vI p3, vI 1, vI c0, vI c1, vR b227, vR b261, vI (own_len (([] : List Int32) ++ own_u c0)), uS] [(.ref b303r)]))
    refine Go.step (fun _ kt => XS.astore X303.here hx rfl (hb hby at_210) rfl rfl (l' := #[vI p1, vI p2, vI p3, vI 1, vI c0, vI c1, vR b227, vR b261, vI (own_len (([] : List Int32) ++ own_u c0)), vR b303r]) rfl kt) ?_
    show Go p.tables e below _ (T303.setTop (mkF m 212 #[vI p1, vI p2, vI p3, vI 1, vI c0, vI c1, vR b227, vR b261, vI (own_len (([] : List Int32) ++ own_u c0)), vR b303r] []))
    have Vl326 : Arv Z T303.heap b303r b303kr .byte (own_len (([] : List Int32) ++ own_u c0)) ((([] : List Int32) ++ own_u c0).map Value.int) (.int 0) := P305
    exact G212g101 (1 : Int32) b227 b261 b303r _ _ (([] : List Int32) ++ own_u c0) _ _ _ _ _ hZ hown hS0 hk321 C325 (X303.more (by decide) (by decide)) rfl N303 Z320 F319 Vl326
   ·rw [hk]
    show Go p.tables e below _ (s₁.setTop (mkF m 53 #[vI p1, vI p2, vI p3, vI 2, vI c0, vI c1, uS, uS, uS, uS] []))
    refine Go.step (fun _ kt => XS.iloadN X0.here hx rfl (hb hby at_53) rfl (XS.ifYes X0.here hx rfl (pc0 := 54) (pc' := 72) rfl (hb hby at_54) rfl ((if0 _ _).trans (feq (by decide : ¬ ((2 : Int32) = (0 : Int32)))).2) (by decide) (by decide) (XS.iloadN X0.here hx rfl (hb hby at_72) rfl (XS.iconst X0.here hx rfl (hb hby at_73) (XS.icmpYes X0.here hx rfl (pc0 := 74) (pc' := 102) rfl (hb hby at_74) rfl (feq (by decide : ¬ ((2 : Int32) = (1 : Int32)))).2 (by decide) (by decide) (XS.iconst X0.here hx rfl (hb hby at_102) kt)))))) ?_
    show Go p.tables e below _ (s₁.setTop (mkF m 103 #[vI p1, vI p2, vI p3, vI 2, vI c0, vI c1, uS, uS, uS, uS] [(.int 2)]))
    obtain ⟨T327, h327, k327, X327, e327, E327, A327, st327⟩ := newP (aty := .char) X0 hx hZ (w1 hw) e0 (g := (mkF m 103 #[vI p1, vI p2, vI p3, vI 2, vI c0, vI c1, uS, uS, uS, uS] [(.int 2)])) rfl (hb hby at_103) rfl (by decide) (cap := 2) (by decide) (by decide) (by decide) (by decide)
    obtain ⟨b327, g327⟩ : ∃ z, z = h0.size := ⟨_, rfl⟩
    rw [← g327] at A327 st327
    refine Go.step st327 ?_
    have g_b327 : n0 ≤ b327 := Nat.le_trans Z0 (Nat.le_of_eq g327.symm)
    have F328 := (S_cs.ext E327)
    have F329 := (S_u8.ext E327)
    have F330 := (S_in.ext E327)
    have F331 := (S_ad.ext E327)
    have F332 := (S_hi.ext E327)
    have F333 := (S_lo.ext E327)
    have Z334 : n0 ≤ h327.size := (Nat.le_trans Z0 E327.1)
    have hk335 : _ ≤ h327.size := (Nat.le_trans hk0 E327.1)
    have Sf336 := (Safe.ext E327 C0.1 (Safe.new (EL := own_EL) (Z := Z) (Nat.le_of_eq g327.symm)))
    have C337 := (C0.trans (CHr.ext E327 C0.1))
    have V338 : Arv Z h327 b327 k327 .char (2 : Int32) [(.int 0), (.int 0)] (.int 0) := (Arv.new A327 (by decide)).pad (pad_rep [] (.int 0) 2)
    show Go p.tables e below _ (T327.setTop (mkF m 105 #[vI p1, vI p2, vI p3, vI 2, vI c0, vI c1, uS, uS, uS, uS] [(.ref b327)]))
    refine Go.step (fun _ kt => XS.astore X327.here hx rfl (hb hby at_105) rfl rfl (l' := #[vI p1, vI p2, vI p3, vI 2, vI c0, vI c1, uS, vR b327, uS, uS]) rfl (XS.aload X327.here hx rfl (hb hby at_107) rfl rfl (XS.iconst X327.here hx rfl (hb hby at_109) (XS.iload X327.here hx rfl (hb hby at_110) rfl kt)))) ?_
    show Go p.tables e below _ (T327.setTop (mkF m 112 #[vI p1, vI p2, vI p3, vI 2, vI c0, vI c1, uS, vR b327, uS, uS] [(.int c0), (.int 0), (.ref b327)]))
    obtain ⟨cl339, Ar339, qa339, Sa339, Na339, Ha339, Ga339⟩ := (id V338)
    have hin339 : ¬ ((0 : Int32) < 0 ∨ cl339.slots.size ≤ ((0 : Int32)).toNatClampNeg) := inb_of Sa339 ⟨by decide, by decide⟩
    obtain ⟨T339, h339, X339, e339, W339, st339⟩ := stC X327 hx hZ e327 Ar339 (j := (0 : Int32)) hin339 (g := (mkF m 112 #[vI p1, vI p2, vI p3, vI 2, vI c0, vI c1, uS, vR b327, uS, uS] [(.int c0), (.int 0), (.ref b327)])) rfl rfl (hb hby at_112)
    refine Go.step st339 ?_
    have V340 := Arv.set Ar339 qa339 Sa339 Na339 Ha339 Ga339 (fits_nar_char _) W339 0 rfl (Nat.le_of_ble_eq_true rfl)
    have N339 := Fr.snoc X339 N0 g_b327
    have F341 := (F328.wr W339)
    have F342 := (F329.wr W339)
    have F343 := (F330.wr W339)
    have F344 := (F331.wr W339)
    have F345 := (F332.wr W339)
    have F346 := (F333.wr W339)
    have Z347 : n0 ≤ h339.size := (Nat.le_trans Z334 (Nat.le_of_eq W339.size.symm))
    have hk348 : _ ≤ h339.size := (Nat.le_trans hk335 (Nat.le_of_eq W339.size.symm))
    have Sf349 := (Safe.wr W339 (by obtain ⟨_, Ar_, _⟩ := V338; exact Safe.arr hZ.alike Ar_ (by decide)) C337.1 Sf336)
    have C350 := (C337.trans (CHr.wr W339 (by obtain ⟨_, Ar_, _⟩ := V338; exact Safe.arr hZ.alike Ar_ (by decide)) C337.1))
    show Go p.tables e below _ (T339.setTop (mkF m 113 #[vI p1, vI p2, vI p3, vI 2, vI c0, vI c1, uS, vR b327, uS, uS] []))
    have Vn351 : Arv Z h339 b327 k327 .char (2 : Int32) [(.int c0), (.int 0)] (.int 0) := by have q1 : (c0).toUInt32.toUInt16.toUInt32.toInt32 = c0 := (own_cc hR0); have q0 := V340; have q2 : nar .char c0 = c0 := q1; first | (rw [q1] at q0; exact q0) | (rw [q2] at q0; exact q0)
    refine Go.step (fun _ kt => XS.aload X339.here hx rfl (hb hby at_113) rfl rfl (XS.iconst X339.here hx rfl (hb hby at_115) (XS.iload X339.here hx rfl (hb hby at_116) rfl kt))) ?_
    obtain ⟨cl352, Ar352, qa352, Sa352, Na352, Ha352, Ga352⟩ := (id Vn351)
    have hin352 : ¬ ((1 : Int32) < 0 ∨ cl352.slots.size ≤ ((1 : Int32)).toNatClampNeg) := inb_of Sa352 ⟨by decide, by decide⟩
    obtain ⟨T352, h352, X352, e352, W352, st352⟩ := stC X339 hx hZ e339 Ar352 (j := (1 : Int32)) hin352 (g := (mkF m 118 #[vI p1, vI p2, vI p3, vI 2, vI c0, vI c1, uS, vR b327, uS, uS] [(.int c1), (.int 1), (.ref b327)])) rfl rfl (hb hby at_118)
    refine Go.step st352 ?_
    have V353 := Arv.set Ar352 qa352 Sa352 Na352 Ha352 Ga352 (fits_nar_char _) W352 1 rfl (Nat.le_of_ble_eq_true rfl)
    have N352 := Fr.snoc X352 N339 g_b327
    have F354 := (F341.wr W352)
    have F355 := (F342.wr W352)
    have F356 := (F343.wr W352)
    have F357 := (F344.wr W352)
    have F358 := (F345.wr W352)
    have F359 := (F346.wr W352)
    have Z360 : n0 ≤ h352.size := (Nat.le_trans Z347 (Nat.le_of_eq W352.size.symm))
    have hk361 : _ ≤ h352.size := (Nat.le_trans hk348 (Nat.le_of_eq W352.size.symm))
    have Sf362 := (Safe.wr W352 (by obtain ⟨_, Ar_, _⟩ := Vn351; exact Safe.arr hZ.alike Ar_ (by decide)) C350.1 Sf349)
    have C363 := (C350.trans (CHr.wr W352 (by obtain ⟨_, Ar_, _⟩ := Vn351; exact Safe.arr hZ.alike Ar_ (by decide)) C350.1))
    show Go p.tables e below _ (T352.setTop (mkF m 119 #[vI p1, vI p2, vI p3, vI 2, vI c0, vI c1, uS, vR b327, uS, uS] []))
    have Vn364 : Arv Z h352 b327 k327 .char (2 : Int32) [(.int c0), (.int c1)] (.int 0) := by have q1 : (c1).toUInt32.toUInt16.toUInt32.toInt32 = c1 := (own_cc hR1); have q0 := V353; have q2 : nar .char c1 = c1 := q1; first | (rw [q1] at q0; exact q0) | (rw [q2] at q0; exact q0)
    obtain ⟨T365, h365, X365, e365, E365, A365, D365, -, st365⟩ := newO X352 hx hZ hown (w2 hw) (w3 hw) (w4 hw) e352 (g := (mkF m 119 #[vI p1, vI p2, vI p3, vI 2, vI c0, vI c1, uS, vR b327, uS, uS] [])) rfl (hb hby at_119) (by decide) (by decide)
    obtain ⟨b365, g365⟩ : ∃ z, z = h352.size := ⟨_, rfl⟩
    rw [← g365] at A365 D365 st365
    refine Go.step st365 ?_
    have ne_b327_b365 : b327 ≠ b365 := Nat.ne_of_lt (Nat.lt_of_lt_of_le Vn364.lt (Nat.le_of_eq g365.symm))
    have g_b365 : n0 ≤ b365 := Nat.le_trans Z360 (Nat.le_of_eq g365.symm)
    have F366 := (F354.ext E365)
    have F367 := (F355.ext E365)
    have F368 := (F356.ext E365)
    have F369 := (F357.ext E365)
    have F370 := (F358.ext E365)
    have F371 := (F359.ext E365)
    have F372 : Arv Z h365 b327 k327 .char (2 : Int32) [(.int c0), (.int c1)] (.int 0) := (Vn364.ext E365)
    have Z373 : n0 ≤ h365.size := (Nat.le_trans Z360 E365.1)
    have hk374 : _ ≤ h365.size := (Nat.le_trans hk361 E365.1)
    have Sf375 := (Safe.ext E365 C363.1 Sf362)
    have Sf376 := (Safe.ext E365 C363.1 (Safe.new (EL := own_EL) (Z := Z) (Nat.le_of_eq g365.symm)))
    have C377 := (C363.trans (CHr.ext E365 C363.1))
    have F378 : Fld Z h365 b365 "java/lang/String" "coder" "B" (.int 0) := D365 (Or.inr (w28 hw)) (ty := .byte) (by decide)
    have F379 : Fld Z h365 b365 "java/lang/String" "value" "[B" .null := D365 (Or.inr (w30 hw)) (ty := (.array .byte)) (by decide)
    show Go p.tables e below _ (T365.setTop (mkF m 122 #[vI p1, vI p2, vI p3, vI 2, vI c0, vI c1, uS, vR b327, uS, uS] [(.ref b365)]))
    refine Go.step (fun _ kt => XS.dup X365.here hx rfl (hb hby at_122) rfl rfl (XS.aload X365.here hx rfl (hb hby at_123) rfl rfl kt)) ?_
    obtain ⟨_, _, ⟨T380, L380, k380, n380⟩, -, X380, ⟨Lc380, hQ380, l380, y380, z380⟩, st380⟩ := X365.specialBack hx (y := Y23) rfl hown (mvT hZ (w5 hw)) (mvT hZ (w6 hw)) (mvT hZ (w7 hw)) (by decide) (backOf (W := 1) (rmct12 l Z a0 hw [] b365 b327 (.int 0) .null k327 cs c0 c1 h365 n0 Z373 A365 F378 F379 F372 F366 F369 F370 F371 g_b365 hcs ne_b327_b365 hR0 hR1) hZ (w7 hw) (w4 hw) (by decide) (by decide)) (g := (mkF m 125 #[vI p1, vI p2, vI p3, vI 2, vI c0, vI c1, uS, vR b327, uS, uS] [(.ref b327), (.ref b365), (.ref b365)])) rfl hml.symm (Steps.refl _) (a := b365) (argsL := [(.ref b327)]) (rest := [(.ref b365)]) (lenOf pd_16 rfl) rfl (Nat.le_of_eq rfl) (hb hby at_125) (fun _ _ => ⟨rfl, e365, (by decide : 2 + 2 ≤ _), (by decide : 6 + 6 ≤ _)⟩)
    dsimp only [Pt.U, Pt.locs, Pt.cells, Pt.slots] at X380 l380 y380 z380 st380 hQ380
    subst l380 y380 z380
    obtain ⟨b380b, b380cd, rfl, N380q, Kq380, P381, P382, P383, P384, P385⟩ := hQ380
    have F386 := (own_sta_keep F366 A365 Kq380)
    have F387 := (own_sta_keep F367 A365 Kq380)
    have F388 := (own_sta_keep F368 A365 Kq380)
    have F389 := (own_sta_keep F369 A365 Kq380)
    have F390 := (own_sta_keep F370 A365 Kq380)
    have F391 := (own_sta_keep F371 A365 Kq380)
    have F392 := (F372.keep Kq380 (fun q => ne_b327_b365 (List.mem_singleton.mp q)))
    have F393 := (A365.keep Kq380)
    have Z394 : n0 ≤ T380.heap.size := (Nat.le_trans Z373 Kq380.1)
    have hk395 : _ ≤ T380.heap.size := (Nat.le_trans hk374 Kq380.1)
    have Sf396 := (Safe.keep Kq380 (by intro x hx; cases List.mem_singleton.mp hx; exact Sf376) C377.1 Sf375)
    have Sf397 := (Safe.keep Kq380 (by intro x hx; cases List.mem_singleton.mp hx; exact Sf376) C377.1 Sf376)
    have C398 := (C377.trans (CHr.keep Kq380 (by intro x hx; cases List.mem_singleton.mp hx; exact Sf376) C377.1))
    have N380 := Fr.app N352 N380q
    refine Go.step (fun _ kt => st380.trans kt) ?_
    show Go p.tables e below _ (T380.setTop (mkF m 128 #[vI p1, vI p2, vI p3, vI 2, vI c0, vI c1, uS, vR b327, uS, uS] [(.ref b365)]))
    refine Go.step (fun _ kt => XS.astore X380.here hx rfl (hb hby at_128) rfl rfl (l' := #[vI p1, vI p2, vI p3, vI 2, vI c0, vI c1, vR b365, vR b327, uS, uS]) rfl (XS.bipush X380.here hx rfl (hb hby at_130) kt)) ?_
    obtain ⟨T399, h399, k399, X399, e399, E399, A399, Ex399, st399⟩ := newPE (aty := .byte) X380 hx hZ (w20 hw) rfl (g := (mkF m 132 #[vI p1, vI p2, vI p3, vI 2, vI c0, vI c1, vR b365, vR b327, uS, uS] [(.int 8)])) rfl (hb hby at_132) rfl (by decide) (cap := 8) (by decide) (by decide) (by decide) (by decide) (ad := "[B") own_adB
    obtain ⟨b399, g399⟩ : ∃ z, z = T380.heap.size := ⟨_, rfl⟩
    rw [← g399] at A399 Ex399 st399
    refine Go.step st399 ?_
    have ne_b327_b399 : b327 ≠ b399 := Nat.ne_of_lt (Nat.lt_of_lt_of_le F392.lt (Nat.le_of_eq g399.symm))
    have ne_b365_b399 : b365 ≠ b399 := Nat.ne_of_lt (Nat.lt_of_lt_of_le P381.lt (Nat.le_of_eq g399.symm))
    have ne_b380b_b399 : b380b ≠ b399 := Nat.ne_of_lt (Nat.lt_of_lt_of_le P384.lt (Nat.le_of_eq g399.symm))
    have g_b399 : n0 ≤ b399 := Nat.le_trans Z394 (Nat.le_of_eq g399.symm)
    have F400 := (F386.ext E399)
    have F401 := (F387.ext E399)
    have F402 := (F388.ext E399)
    have F403 := (F389.ext E399)
    have F404 := (F390.ext E399)
    have F405 := (F391.ext E399)
    have F406 := (F392.ext E399)
    have F407 := (P381.ext E399)
    have F408 := (P382.ext E399)
    have F409 := (P383.ext E399)
    have F410 := (P384.ext E399)
    have F411 := (P385.ext E399)
    have Z412 : n0 ≤ h399.size := (Nat.le_trans Z394 E399.1)
    have hk413 : _ ≤ h399.size := (Nat.le_trans hk395 E399.1)
    have Sf414 := (Safe.ext E399 C398.1 Sf396)
    have Sf415 := (Safe.ext E399 C398.1 Sf397)
    have Sf416 := (Safe.ext E399 C398.1 (Safe.new (EL := own_EL) (Z := Z) (Nat.le_of_eq g399.symm)))
    have C417 := (C398.trans (CHr.ext E399 C398.1))
    have V418 : Arv Z h399 b399 k399 .byte (8 : Int32) (([] : List Int32).map Value.int) (.int 0) := Arv.new A399 (by decide)
    show Go p.tables e below _ (T399.setTop (mkF m 134 #[vI p1, vI p2, vI p3, vI 2, vI c0, vI c1, vR b365, vR b327, uS, uS] [(.ref b399)]))
    refine Go.step (fun _ kt => XS.astore X399.here hx rfl (hb hby at_134) rfl rfl (l' := #[vI p1, vI p2, vI p3, vI 2, vI c0, vI c1, vR b365, vR b399, uS, uS]) rfl (XS.iconst X399.here hx rfl (hb hby at_136) (XS.istore X399.here hx rfl (hb hby at_137) rfl (l' := #[vI p1, vI p2, vI p3, vI 2, vI c0, vI c1, vR b365, vR b399, vI 0, uS]) rfl (XS.iloadN X399.here hx rfl (hb hby at_139) rfl (XS.iconst X399.here hx rfl (hb hby at_140) (XS.icmpNo X399.here hx rfl (hb hby at_141) rfl (flt (by decide : ¬ ((2 : Int32) < (1 : Int32)))).1 (XS.iloadN X399.here hx rfl (hb hby at_144) rfl (XS.iconst X399.here hx rfl (hb hby at_145) (XS.icmpNo X399.here hx rfl (hb hby at_146) rfl (teq (by decide : (2 : Int32) = (2 : Int32))).2 (XS.iload X399.here hx rfl (hb hby at_149) rfl kt)))))))))) ?_
    show Go p.tables e below _ (T399.setTop (mkF m 151 #[vI p1, vI p2, vI p3, vI 2, vI c0, vI c1, vR b365, vR b399, vI 0, uS] [(.int c0)]))
    obtain ⟨_, _, ⟨T419, L419, k419, n419⟩, -, X419, ⟨Lc419, hQ419, l419, y419, z419⟩, st419⟩ := Jvm.LawKit.callS X399 hx (y := Y5) hown (mvT hZ (w31 hw)) (mvT hZ (w32 hw)) (mvT hZ (w33 hw)) (mvT hZ (w34 hw)) (by decide) (backOf (W := 0) (rmhigh l Z a0 hw [] c0  h399 n0 Z412  ) hZ (w34 hw) (w33 hw) (by decide) (by decide)) (g := (mkF m 151 #[vI p1, vI p2, vI p3, vI 2, vI c0, vI c1, vR b365, vR b399, vI 0, uS] [(.int c0)])) rfl hml.symm (argsL := [(.int c0)]) (rest := []) (lenOf pd_7 rfl) rfl (Nat.le_of_eq rfl) (hb hby at_151) (fun _ _ => ⟨rfl, e399, (by decide : 5 + 0 ≤ _), (by decide : 20 + 0 ≤ _)⟩)
    dsimp only [Pt.U, Pt.locs, Pt.cells, Pt.slots] at X419 l419 y419 z419 st419 hQ419
    subst l419 y419 z419
    obtain ⟨rfl, N419q, eh419⟩ := hQ419
    have N419 := Fr.app N380 N419q
    refine Go.step st419 ?_
    show Go p.tables e below _ (T419.setTop (mkF m 154 #[vI p1, vI p2, vI p3, vI 2, vI c0, vI c1, vR b365, vR b399, vI 0, uS] [(.int (own_hs c0))]))
    by_cases hc154_420 : (own_hs c0) = (0 : Int32)
    ·refine Go.step (fun _ kt => XS.ifYes X419.here hx rfl (pc0 := 154) (pc' := 179) rfl (hb hby at_154) rfl ((if0 _ _).trans (teq hc154_420).1) (by decide) (by decide) (XS.aload X419.here hx rfl (hb hby at_179) rfl rfl (XS.iconst X419.here hx rfl (hb hby at_181) (XS.iload X419.here hx rfl (hb hby at_182) rfl kt)))) ?_
     show Go p.tables e below _ (T419.setTop (mkF m 184 #[vI p1, vI p2, vI p3, vI 2, vI c0, vI c1, vR b365, vR b399, vI 0, uS] [(.int c0), (.int 0), (.ref b399)]))
     obtain ⟨_, _, ⟨T421, L421, k421, n421⟩, -, X421, ⟨Lc421, hQ421, l421, y421, z421⟩, st421⟩ := Jvm.LawKit.callS X419 hx (y := Y19) hown (mvT hZ (w36 hw)) (mvT hZ (w37 hw)) (mvT hZ (w33 hw)) (mvT hZ (w38 hw)) (by decide) (backOf (W := 0) (rmunit l Z a0 hw [] b399 c0 k399 ([] : List Int32) h399 n0 Z412 Ex399 V418 g_b399 (by decide)) hZ (w38 hw) (w33 hw) (by decide) (by decide)) (g := (mkF m 184 #[vI p1, vI p2, vI p3, vI 2, vI c0, vI c1, vR b365, vR b399, vI 0, uS] [(.int c0), (.int 0), (.ref b399)])) rfl hml.symm (argsL := [(.ref b399), (.int 0), (.int c0)]) (rest := []) (lenOf pd_22 rfl) rfl (Nat.le_of_eq rfl) (hb hby at_184) (fun _ _ => ⟨rfl, eh419, (by decide : 5 + 0 ≤ _), (by decide : 20 + 0 ≤ _)⟩)
     dsimp only [Pt.U, Pt.locs, Pt.cells, Pt.slots] at X421 l421 y421 z421 st421 hQ421
     subst l421 y421 z421
     obtain ⟨rfl, N421q, Kq421, P422, P423⟩ := hQ421
     have F424 := (own_sta_keep F400 Ex399 Kq421)
     have F425 := (own_sta_keep F401 Ex399 Kq421)
     have F426 := (own_sta_keep F402 Ex399 Kq421)
     have F427 := (own_sta_keep F403 Ex399 Kq421)
     have F428 := (own_sta_keep F404 Ex399 Kq421)
     have F429 := (own_sta_keep F405 Ex399 Kq421)
     have F430 := (F406.keep Kq421 (fun q => ne_b327_b399 (List.mem_singleton.mp q)))
     have F431 := (F407.keep Kq421)
     have F432 := (F408.keep Kq421 (fun q => ne_b365_b399 (List.mem_singleton.mp q)))
     have F433 := (F409.keep Kq421 (fun q => ne_b365_b399 (List.mem_singleton.mp q)))
     have F434 := (F410.keep Kq421)
     have F435 := (F411.keep Kq421 (fun q => ne_b380b_b399 (List.mem_singleton.mp q)))
     have F436 := (Ex399.keep Kq421)
     have Z437 : n0 ≤ T421.heap.size := (Nat.le_trans Z412 Kq421.1)
     have hk438 : _ ≤ T421.heap.size := (Nat.le_trans hk413 Kq421.1)
     have Sf439 := (Safe.keep Kq421 (by intro x hx; cases List.mem_singleton.mp hx; exact Sf416) C417.1 Sf414)
     have Sf440 := (Safe.keep Kq421 (by intro x hx; cases List.mem_singleton.mp hx; exact Sf416) C417.1 Sf415)
     have Sf441 := (Safe.keep Kq421 (by intro x hx; cases List.mem_singleton.mp hx; exact Sf416) C417.1 Sf416)
     have C442 := (C417.trans (CHr.keep Kq421 (by intro x hx; cases List.mem_singleton.mp hx; exact Sf416) C417.1))
     have N421 := Fr.app N419 N421q
     refine Go.step st421 ?_
     show Go p.tables e below _ (T421.setTop (mkF m 187 #[vI p1, vI p2, vI p3, vI 2, vI c0, vI c1, vR b365, vR b399, vI 0, uS] [(.int (own_len (([] : List Int32) ++ own_u c0)))]))
     refine Go.step (fun _ kt => XS.istore X421.here hx rfl (hb hby at_187) rfl (l' := #[vI p1, vI p2, vI p3, vI 2, vI c0, vI c1, vR b365, vR b399, vI (own_len (([] : List Int32) ++ own_u c0)), uS]) rfl (XS.iloadN X421.here hx rfl (hb hby at_189) rfl (XS.iconst X421.here hx rfl (hb hby at_190) (XS.icmpNo X421.here hx rfl (hb hby at_191) rfl (teq (by decide : (2 : Int32) = (2 : Int32))).2 (XS.aload X421.here hx rfl (hb hby at_194) rfl rfl (XS.iload X421.here hx rfl (hb hby at_196) rfl (XS.iload X421.here hx rfl (hb hby at_198) rfl kt))))))) ?_
     show Go p.tables e below _ (T421.setTop (mkF m 200 #[vI p1, vI p2, vI p3, vI 2, vI c0, vI c1, vR b365, vR b399, vI (own_len (([] : List Int32) ++ own_u c0)), uS] [(.int c1), (.int (own_len (([] : List Int32) ++ own_u c0))), (.ref b399)]))
     obtain ⟨_, _, ⟨T443, L443, k443, n443⟩, -, X443, ⟨Lc443, hQ443, l443, y443, z443⟩, st443⟩ := Jvm.LawKit.callS X421 hx (y := Y19) hown (mvT hZ (w36 hw)) (mvT hZ (w37 hw)) (mvT hZ (w33 hw)) (mvT hZ (w38 hw)) (by decide) (backOf (W := 0) (rmunit l Z a0 hw [] b399 c1 k399 (([] : List Int32) ++ own_u c0) T421.heap n0 Z437 P422 P423 g_b399 (own_u3 c0)) hZ (w38 hw) (w33 hw) (by decide) (by decide)) (g := (mkF m 200 #[vI p1, vI p2, vI p3, vI 2, vI c0, vI c1, vR b365, vR b399, vI (own_len (([] : List Int32) ++ own_u c0)), uS] [(.int c1), (.int (own_len (([] : List Int32) ++ own_u c0))), (.ref b399)])) rfl hml.symm (argsL := [(.ref b399), (.int (own_len (([] : List Int32) ++ own_u c0))), (.int c1)]) (rest := []) (lenOf pd_22 rfl) rfl (Nat.le_of_eq rfl) (hb hby at_200) (fun _ _ => ⟨rfl, rfl, (by decide : 5 + 0 ≤ _), (by decide : 20 + 0 ≤ _)⟩)
     dsimp only [Pt.U, Pt.locs, Pt.cells, Pt.slots] at X443 l443 y443 z443 st443 hQ443
     subst l443 y443 z443
     obtain ⟨rfl, N443q, Kq443, P444, P445⟩ := hQ443
     have F446 := (own_sta_keep F424 P422 Kq443)
     have F447 := (own_sta_keep F425 P422 Kq443)
     have F448 := (own_sta_keep F426 P422 Kq443)
     have F449 := (own_sta_keep F427 P422 Kq443)
     have F450 := (own_sta_keep F428 P422 Kq443)
     have F451 := (own_sta_keep F429 P422 Kq443)
     have F452 := (F430.keep Kq443 (fun q => ne_b327_b399 (List.mem_singleton.mp q)))
     have F453 := (F431.keep Kq443)
     have F454 := (F432.keep Kq443 (fun q => ne_b365_b399 (List.mem_singleton.mp q)))
     have F455 := (F433.keep Kq443 (fun q => ne_b365_b399 (List.mem_singleton.mp q)))
     have F456 := (F434.keep Kq443)
     have F457 := (F435.keep Kq443 (fun q => ne_b380b_b399 (List.mem_singleton.mp q)))
     have F458 := (P422.keep Kq443)
     have Z459 : n0 ≤ T443.heap.size := (Nat.le_trans Z437 Kq443.1)
     have hk460 : _ ≤ T443.heap.size := (Nat.le_trans hk438 Kq443.1)
     have Sf461 := (Safe.keep Kq443 (by intro x hx; cases List.mem_singleton.mp hx; exact Sf441) C442.1 Sf439)
     have Sf462 := (Safe.keep Kq443 (by intro x hx; cases List.mem_singleton.mp hx; exact Sf441) C442.1 Sf440)
     have Sf463 := (Safe.keep Kq443 (by intro x hx; cases List.mem_singleton.mp hx; exact Sf441) C442.1 Sf441)
     have C464 := (C442.trans (CHr.keep Kq443 (by intro x hx; cases List.mem_singleton.mp hx; exact Sf441) C442.1))
     have N443 := Fr.app N421 N443q
     refine Go.step st443 ?_
     show Go p.tables e below _ (T443.setTop (mkF m 203 #[vI p1, vI p2, vI p3, vI 2, vI c0, vI c1, vR b365, vR b399, vI (own_len (([] : List Int32) ++ own_u c0)), uS] [(.int (own_len ((([] : List Int32) ++ own_u c0) ++ own_u c1)))]))
     refine Go.step (fun _ kt => XS.istore X443.here hx rfl (hb hby at_203) rfl (l' := #[vI p1, vI p2, vI p3, vI 2, vI c0, vI c1, vR b365, vR b399, vI (own_len ((([] : List Int32) ++ own_u c0) ++ own_u c1)), uS]) rfl (XS.aload X443.here hx rfl (hb hby at_205) rfl rfl kt)) ?_
     show Go p.tables e below _ (T443.setTop (mkF m 207 #[vI p1, vI p2, vI p3, vI 2, vI c0, vI c1, vR b365, vR b399, vI (own_len ((([] : List Int32) ++ own_u c0) ++ own_u c1)), uS] [(.ref b365)]))
     obtain ⟨_, _, ⟨T465, L465, k465, n465⟩, -, X465, ⟨Lc465, hQ465, l465, y465, z465⟩, st465⟩ := Jvm.LawKit.callS X443 hx (y := Y18) hown (mvT hZ (w39 hw)) (mvT hZ (w40 hw)) (mvT hZ (w41 hw)) (mvT hZ (w42 hw)) (by decide) (backOf (W := 0) (rmof l Z a0 hw [] b365 b380b b380cd (own_e2 c0 c1) cs u8 T443.heap n0 Z459 F453 F454 F455 F456 F457 F447 F448 F446 F449 F450 F451 hcs) hZ (w42 hw) (w41 hw) (by decide) (by decide)) (g := (mkF m 207 #[vI p1, vI p2, vI p3, vI 2, vI c0, vI c1, vR b365, vR b399, vI (own_len ((([] : List Int32) ++ own_u c0) ++ own_u c1)), uS] [(.ref b365)])) rfl hml.symm (argsL := [(.ref b365)]) (rest := []) (lenOf pd_17 rfl) rfl (Nat.le_of_eq rfl) (hb hby at_207) (fun _ _ => ⟨rfl, rfl, (by decide : 5 + 2 ≤ _), (by decide : 20 + 12 ≤ _)⟩)
     dsimp only [Pt.U, Pt.locs, Pt.cells, Pt.slots] at X465 l465 y465 z465 st465 hQ465
     subst l465 y465 z465
     obtain ⟨b465r, b465kr, rfl, N465q, Kq465, P466, P467, g_b465r, szq_b465r⟩ := hQ465
     have ne_b327_b465r : b327 ≠ b465r := Nat.ne_of_lt (Nat.lt_of_lt_of_le F452.lt szq_b465r)
     have ne_b365_b465r : b365 ≠ b465r := Nat.ne_of_lt (Nat.lt_of_lt_of_le F453.lt szq_b465r)
     have ne_b380b_b465r : b380b ≠ b465r := Nat.ne_of_lt (Nat.lt_of_lt_of_le F456.lt szq_b465r)
     have ne_b399_b465r : b399 ≠ b465r := Nat.ne_of_lt (Nat.lt_of_lt_of_le P444.lt szq_b465r)
     have F468 := (own_sta_keep0 F446 Kq465)
     have F469 := (own_sta_keep0 F447 Kq465)
     have F470 := (own_sta_keep0 F448 Kq465)
     have F471 := (own_sta_keep0 F449 Kq465)
     have F472 := (own_sta_keep0 F450 Kq465)
     have F473 := (own_sta_keep0 F451 Kq465)
     have F474 := (F452.keep Kq465 (by simp))
     have F475 := (F453.keep Kq465)
     have F476 := (F454.keep Kq465 (by simp))
     have F477 := (F455.keep Kq465 (by simp))
     have F478 := (F456.keep Kq465)
     have F479 := (F457.keep Kq465 (by simp))
     have F480 := (P444.keep Kq465)
     have F481 := (P445.keep Kq465 (by simp))
     have Z482 : n0 ≤ T465.heap.size := (Nat.le_trans Z459 Kq465.1)
     have hk483 : _ ≤ T465.heap.size := (Nat.le_trans hk460 Kq465.1)
     have Sf484 := (Safe.keep Kq465 (by intro x hx; cases hx) C464.1 Sf461)
     have Sf485 := (Safe.keep Kq465 (by intro x hx; cases hx) C464.1 Sf462)
     have Sf486 := (Safe.keep Kq465 (by intro x hx; cases hx) C464.1 Sf463)
     have C487 := (C464.trans (CHr.keep Kq465 (by intro x hx; cases hx) C464.1))
     have N465 := Fr.app N443 N465q
     refine Go.step st465 ?_
     show Go p.tables e below _ (T465.setTop (mkF m 210 #[vI p1, vI p2, vI p3, vI 2, vI c0, vI c1, vR b365, vR b399, vI (own_len ((([] : List Int32) ++ own_u c0) ++ own_u c1)), uS] [(.ref b465r)]))
     refine Go.step (fun _ kt => XS.astore X465.here hx rfl (hb hby at_210) rfl rfl (l' := #[vI p1, vI p2, vI p3, vI 2, vI c0, vI c1, vR b365, vR b399, vI (own_len ((([] : List Int32) ++ own_u c0) ++ own_u c1)), vR b465r]) rfl kt) ?_
     show Go p.tables e below _ (T465.setTop (mkF m 212 #[vI p1, vI p2, vI p3, vI 2, vI c0, vI c1, vR b365, vR b399, vI (own_len ((([] : List Int32) ++ own_u c0) ++ own_u c1)), vR b465r] []))
     have Vl488 : Arv Z T465.heap b465r b465kr .byte (own_len ((([] : List Int32) ++ own_u c0) ++ own_u c1)) (((([] : List Int32) ++ own_u c0) ++ own_u c1).map Value.int) (.int 0) := by have q0 : (own_e2 c0 c1) = ((([] : List Int32) ++ own_u c0) ++ own_u c1) := own_e2a hc154_420; have q1 := P467; rw [q0] at q1; exact q1
     exact G212g101 (2 : Int32) b365 b399 b465r _ _ ((([] : List Int32) ++ own_u c0) ++ own_u c1) _ _ _ _ _ hZ hown hS0 hk483 C487 (X465.more (by decide) (by decide)) rfl N465 Z482 F481 Vl488
    ·refine Go.step (fun _ kt => XS.ifNo X419.here hx rfl (hb hby at_154) rfl ((if0 _ _).trans (feq hc154_420).1) (XS.iload X419.here hx rfl (hb hby at_157) rfl kt)) ?_
     obtain ⟨_, _, ⟨T489, L489, k489, n489⟩, -, X489, ⟨Lc489, hQ489, l489, y489, z489⟩, st489⟩ := Jvm.LawKit.callS X419 hx (y := Y6) hown (mvT hZ (w133 hw)) (mvT hZ (w134 hw)) (mvT hZ (w33 hw)) (mvT hZ (w135 hw)) (by decide) (backOf (W := 0) (rmlow l Z a0 hw [] c1  h399 n0 Z412  ) hZ (w135 hw) (w33 hw) (by decide) (by decide)) (g := (mkF m 159 #[vI p1, vI p2, vI p3, vI 2, vI c0, vI c1, vR b365, vR b399, vI 0, uS] [(.int c1)])) rfl hml.symm (argsL := [(.int c1)]) (rest := []) (lenOf pd_7 rfl) rfl (Nat.le_of_eq rfl) (hb hby at_159) (fun _ _ => ⟨rfl, eh419, (by decide : 5 + 0 ≤ _), (by decide : 20 + 0 ≤ _)⟩)
     dsimp only [Pt.U, Pt.locs, Pt.cells, Pt.slots] at X489 l489 y489 z489 st489 hQ489
     subst l489 y489 z489
     obtain ⟨rfl, N489q, eh489⟩ := hQ489
     have N489 := Fr.app N419 N489q
     refine Go.step st489 ?_
     show Go p.tables e below _ (T489.setTop (mkF m 162 #[vI p1, vI p2, vI p3, vI 2, vI c0, vI c1, vR b365, vR b399, vI 0, uS] [(.int (own_ls c1))]))
     by_cases hc162_490 : (own_ls c1) = (0 : Int32)
     ·refine Go.step (fun _ kt => XS.ifYes X489.here hx rfl (pc0 := 162) (pc' := 179) rfl (hb hby at_162) rfl ((if0 _ _).trans (teq hc162_490).1) (by decide) (by decide) (XS.aload X489.here hx rfl (hb hby at_179) rfl rfl (XS.iconst X489.here hx rfl (hb hby at_181) (XS.iload X489.here hx rfl (hb hby at_182) rfl kt)))) ?_
      show Go p.tables e below _ (T489.setTop (mkF m 184 #[vI p1, vI p2, vI p3, vI 2, vI c0, vI c1, vR b365, vR b399, vI 0, uS] [(.int c0), (.int 0), (.ref b399)]))
      obtain ⟨_, _, ⟨T491, L491, k491, n491⟩, -, X491, ⟨Lc491, hQ491, l491, y491, z491⟩, st491⟩ := Jvm.LawKit.callS X489 hx (y := Y19) hown (mvT hZ (w36 hw)) (mvT hZ (w37 hw)) (mvT hZ (w33 hw)) (mvT hZ (w38 hw)) (by decide) (backOf (W := 0) (rmunit l Z a0 hw [] b399 c0 k399 ([] : List Int32) h399 n0 Z412 Ex399 V418 g_b399 (by decide)) hZ (w38 hw) (w33 hw) (by decide) (by decide)) (g := (mkF m 184 #[vI p1, vI p2, vI p3, vI 2, vI c0, vI c1, vR b365, vR b399, vI 0, uS] [(.int c0), (.int 0), (.ref b399)])) rfl hml.symm (argsL := [(.ref b399), (.int 0), (.int c0)]) (rest := []) (lenOf pd_22 rfl) rfl (Nat.le_of_eq rfl) (hb hby at_184) (fun _ _ => ⟨rfl, eh489, (by decide : 5 + 0 ≤ _), (by decide : 20 + 0 ≤ _)⟩)
      dsimp only [Pt.U, Pt.locs, Pt.cells, Pt.slots] at X491 l491 y491 z491 st491 hQ491
      subst l491 y491 z491
      obtain ⟨rfl, N491q, Kq491, P492, P493⟩ := hQ491
      have F494 := (own_sta_keep F400 Ex399 Kq491)
      have F495 := (own_sta_keep F401 Ex399 Kq491)
      have F496 := (own_sta_keep F402 Ex399 Kq491)
      have F497 := (own_sta_keep F403 Ex399 Kq491)
      have F498 := (own_sta_keep F404 Ex399 Kq491)
      have F499 := (own_sta_keep F405 Ex399 Kq491)
      have F500 := (F406.keep Kq491 (fun q => ne_b327_b399 (List.mem_singleton.mp q)))
      have F501 := (F407.keep Kq491)
      have F502 := (F408.keep Kq491 (fun q => ne_b365_b399 (List.mem_singleton.mp q)))
      have F503 := (F409.keep Kq491 (fun q => ne_b365_b399 (List.mem_singleton.mp q)))
      have F504 := (F410.keep Kq491)
      have F505 := (F411.keep Kq491 (fun q => ne_b380b_b399 (List.mem_singleton.mp q)))
      have F506 := (Ex399.keep Kq491)
      have Z507 : n0 ≤ T491.heap.size := (Nat.le_trans Z412 Kq491.1)
      have hk508 : _ ≤ T491.heap.size := (Nat.le_trans hk413 Kq491.1)
      have Sf509 := (Safe.keep Kq491 (by intro x hx; cases List.mem_singleton.mp hx; exact Sf416) C417.1 Sf414)
      have Sf510 := (Safe.keep Kq491 (by intro x hx; cases List.mem_singleton.mp hx; exact Sf416) C417.1 Sf415)
      have Sf511 := (Safe.keep Kq491 (by intro x hx; cases List.mem_singleton.mp hx; exact Sf416) C417.1 Sf416)
      have C512 := (C417.trans (CHr.keep Kq491 (by intro x hx; cases List.mem_singleton.mp hx; exact Sf416) C417.1))
      have N491 := Fr.app N489 N491q
      refine Go.step st491 ?_
      show Go p.tables e below _ (T491.setTop (mkF m 187 #[vI p1, vI p2, vI p3, vI 2, vI c0, vI c1, vR b365, vR b399, vI 0, uS] [(.int (own_len (([] : List Int32) ++ own_u c0)))]))
      refine Go.step (fun _ kt => XS.istore X491.here hx rfl (hb hby at_187) rfl (l' := #[vI p1, vI p2, vI p3, vI 2, vI c0, vI c1, vR b365, vR b399, vI (own_len (([] : List Int32) ++ own_u c0)), uS]) rfl (XS.iloadN X491.here hx rfl (hb hby at_189) rfl (XS.iconst X491.here hx rfl (hb hby at_190) (XS.icmpNo X491.here hx rfl (hb hby at_191) rfl (teq (by decide : (2 : Int32) = (2 : Int32))).2 (XS.aload X491.here hx rfl (hb hby at_194) rfl rfl (XS.iload X491.here hx rfl (hb hby at_196) rfl (XS.iload X491.here hx rfl (hb hby at_198) rfl kt))))))) ?_
      show Go p.tables e below _ (T491.setTop (mkF m 200 #[vI p1, vI p2, vI p3, vI 2, vI c0, vI c1, vR b365, vR b399, vI (own_len (([] : List Int32) ++ own_u c0)), uS] [(.int c1), (.int (own_len (([] : List Int32) ++ own_u c0))), (.ref b399)]))
      obtain ⟨_, _, ⟨T513, L513, k513, n513⟩, -, X513, ⟨Lc513, hQ513, l513, y513, z513⟩, st513⟩ := Jvm.LawKit.callS X491 hx (y := Y19) hown (mvT hZ (w36 hw)) (mvT hZ (w37 hw)) (mvT hZ (w33 hw)) (mvT hZ (w38 hw)) (by decide) (backOf (W := 0) (rmunit l Z a0 hw [] b399 c1 k399 (([] : List Int32) ++ own_u c0) T491.heap n0 Z507 P492 P493 g_b399 (own_u3 c0)) hZ (w38 hw) (w33 hw) (by decide) (by decide)) (g := (mkF m 200 #[vI p1, vI p2, vI p3, vI 2, vI c0, vI c1, vR b365, vR b399, vI (own_len (([] : List Int32) ++ own_u c0)), uS] [(.int c1), (.int (own_len (([] : List Int32) ++ own_u c0))), (.ref b399)])) rfl hml.symm (argsL := [(.ref b399), (.int (own_len (([] : List Int32) ++ own_u c0))), (.int c1)]) (rest := []) (lenOf pd_22 rfl) rfl (Nat.le_of_eq rfl) (hb hby at_200) (fun _ _ => ⟨rfl, rfl, (by decide : 5 + 0 ≤ _), (by decide : 20 + 0 ≤ _)⟩)
      dsimp only [Pt.U, Pt.locs, Pt.cells, Pt.slots] at X513 l513 y513 z513 st513 hQ513
      subst l513 y513 z513
      obtain ⟨rfl, N513q, Kq513, P514, P515⟩ := hQ513
      have F516 := (own_sta_keep F494 P492 Kq513)
      have F517 := (own_sta_keep F495 P492 Kq513)
      have F518 := (own_sta_keep F496 P492 Kq513)
      have F519 := (own_sta_keep F497 P492 Kq513)
      have F520 := (own_sta_keep F498 P492 Kq513)
      have F521 := (own_sta_keep F499 P492 Kq513)
      have F522 := (F500.keep Kq513 (fun q => ne_b327_b399 (List.mem_singleton.mp q)))
      have F523 := (F501.keep Kq513)
      have F524 := (F502.keep Kq513 (fun q => ne_b365_b399 (List.mem_singleton.mp q)))
      have F525 := (F503.keep Kq513 (fun q => ne_b365_b399 (List.mem_singleton.mp q)))
      have F526 := (F504.keep Kq513)
      have F527 := (F505.keep Kq513 (fun q => ne_b380b_b399 (List.mem_singleton.mp q)))
      have F528 := (P492.keep Kq513)
      have Z529 : n0 ≤ T513.heap.size := (Nat.le_trans Z507 Kq513.1)
      have hk530 : _ ≤ T513.heap.size := (Nat.le_trans hk508 Kq513.1)
      have Sf531 := (Safe.keep Kq513 (by intro x hx; cases List.mem_singleton.mp hx; exact Sf511) C512.1 Sf509)
      have Sf532 := (Safe.keep Kq513 (by intro x hx; cases List.mem_singleton.mp hx; exact Sf511) C512.1 Sf510)
      have Sf533 := (Safe.keep Kq513 (by intro x hx; cases List.mem_singleton.mp hx; exact Sf511) C512.1 Sf511)
      have C534 := (C512.trans (CHr.keep Kq513 (by intro x hx; cases List.mem_singleton.mp hx; exact Sf511) C512.1))
      have N513 := Fr.app N491 N513q
      refine Go.step st513 ?_
      show Go p.tables e below _ (T513.setTop (mkF m 203 #[vI p1, vI p2, vI p3, vI 2, vI c0, vI c1, vR b365, vR b399, vI (own_len (([] : List Int32) ++ own_u c0)), uS] [(.int (own_len ((([] : List Int32) ++ own_u c0) ++ own_u c1)))]))
      refine Go.step (fun _ kt => XS.istore X513.here hx rfl (hb hby at_203) rfl (l' := #[vI p1, vI p2, vI p3, vI 2, vI c0, vI c1, vR b365, vR b399, vI (own_len ((([] : List Int32) ++ own_u c0) ++ own_u c1)), uS]) rfl (XS.aload X513.here hx rfl (hb hby at_205) rfl rfl kt)) ?_
      show Go p.tables e below _ (T513.setTop (mkF m 207 #[vI p1, vI p2, vI p3, vI 2, vI c0, vI c1, vR b365, vR b399, vI (own_len ((([] : List Int32) ++ own_u c0) ++ own_u c1)), uS] [(.ref b365)]))
      obtain ⟨_, _, ⟨T535, L535, k535, n535⟩, -, X535, ⟨Lc535, hQ535, l535, y535, z535⟩, st535⟩ := Jvm.LawKit.callS X513 hx (y := Y18) hown (mvT hZ (w39 hw)) (mvT hZ (w40 hw)) (mvT hZ (w41 hw)) (mvT hZ (w42 hw)) (by decide) (backOf (W := 0) (rmof l Z a0 hw [] b365 b380b b380cd (own_e2 c0 c1) cs u8 T513.heap n0 Z529 F523 F524 F525 F526 F527 F517 F518 F516 F519 F520 F521 hcs) hZ (w42 hw) (w41 hw) (by decide) (by decide)) (g := (mkF m 207 #[vI p1, vI p2, vI p3, vI 2, vI c0, vI c1, vR b365, vR b399, vI (own_len ((([] : List Int32) ++ own_u c0) ++ own_u c1)), uS] [(.ref b365)])) rfl hml.symm (argsL := [(.ref b365)]) (rest := []) (lenOf pd_17 rfl) rfl (Nat.le_of_eq rfl) (hb hby at_207) (fun _ _ => ⟨rfl, rfl, (by decide : 5 + 2 ≤ _), (by decide : 20 + 12 ≤ _)⟩)
      dsimp only [Pt.U, Pt.locs, Pt.cells, Pt.slots] at X535 l535 y535 z535 st535 hQ535
      subst l535 y535 z535
      obtain ⟨b535r, b535kr, rfl, N535q, Kq535, P536, P537, g_b535r, szq_b535r⟩ := hQ535
      have ne_b327_b535r : b327 ≠ b535r := Nat.ne_of_lt (Nat.lt_of_lt_of_le F522.lt szq_b535r)
      have ne_b365_b535r : b365 ≠ b535r := Nat.ne_of_lt (Nat.lt_of_lt_of_le F523.lt szq_b535r)
      have ne_b380b_b535r : b380b ≠ b535r := Nat.ne_of_lt (Nat.lt_of_lt_of_le F526.lt szq_b535r)
      have ne_b399_b535r : b399 ≠ b535r := Nat.ne_of_lt (Nat.lt_of_lt_of_le P514.lt szq_b535r)
      have F538 := (own_sta_keep0 F516 Kq535)
      have F539 := (own_sta_keep0 F517 Kq535)
      have F540 := (own_sta_keep0 F518 Kq535)
      have F541 := (own_sta_keep0 F519 Kq535)
      have F542 := (own_sta_keep0 F520 Kq535)
      have F543 := (own_sta_keep0 F521 Kq535)
      have F544 := (F522.keep Kq535 (by simp))
      have F545 := (F523.keep Kq535)
      have F546 := (F524.keep Kq535 (by simp))
      have F547 := (F525.keep Kq535 (by simp))
      have F548 := (F526.keep Kq535)
      have F549 := (F527.keep Kq535 (by simp))
      have F550 := (P514.keep Kq535)
      have F551 := (P515.keep Kq535 (by simp))
      have Z552 : n0 ≤ T535.heap.size := (Nat.le_trans Z529 Kq535.1)
      have hk553 : _ ≤ T535.heap.size := (Nat.le_trans hk530 Kq535.1)
      have Sf554 := (Safe.keep Kq535 (by intro x hx; cases hx) C534.1 Sf531)
      have Sf555 := (Safe.keep Kq535 (by intro x hx; cases hx) C534.1 Sf532)
      have Sf556 := (Safe.keep Kq535 (by intro x hx; cases hx) C534.1 Sf533)
      have C557 := (C534.trans (CHr.keep Kq535 (by intro x hx; cases hx) C534.1))
      have N535 := Fr.app N513 N535q
      refine Go.step st535 ?_
      show Go p.tables e below _ (T535.setTop (mkF m 210 #[vI p1, vI p2, vI p3, vI 2, vI c0, vI c1, vR b365, vR b399, vI (own_len ((([] : List Int32) ++ own_u c0) ++ own_u c1)), uS] [(.ref b535r)]))
      refine Go.step (fun _ kt => XS.astore X535.here hx rfl (hb hby at_210) rfl rfl (l' := #[vI p1, vI p2, vI p3, vI 2, vI c0, vI c1, vR b365, vR b399, vI (own_len ((([] : List Int32) ++ own_u c0) ++ own_u c1)), vR b535r]) rfl kt) ?_
      show Go p.tables e below _ (T535.setTop (mkF m 212 #[vI p1, vI p2, vI p3, vI 2, vI c0, vI c1, vR b365, vR b399, vI (own_len ((([] : List Int32) ++ own_u c0) ++ own_u c1)), vR b535r] []))
      have Vl558 : Arv Z T535.heap b535r b535kr .byte (own_len ((([] : List Int32) ++ own_u c0) ++ own_u c1)) (((([] : List Int32) ++ own_u c0) ++ own_u c1).map Value.int) (.int 0) := by have q0 : (own_e2 c0 c1) = ((([] : List Int32) ++ own_u c0) ++ own_u c1) := own_e2b hc162_490; have q1 := P537; rw [q0] at q1; exact q1
      exact G212g101 (2 : Int32) b365 b399 b535r _ _ ((([] : List Int32) ++ own_u c0) ++ own_u c1) _ _ _ _ _ hZ hown hS0 hk553 C557 (X535.more (by decide) (by decide)) rfl N535 Z552 F551 Vl558
     ·refine Go.step (fun _ kt => XS.ifNo X489.here hx rfl (hb hby at_162) rfl ((if0 _ _).trans (feq hc162_490).1) (XS.aload X489.here hx rfl (hb hby at_165) rfl rfl (XS.iload X489.here hx rfl (hb hby at_167) rfl (XS.iload X489.here hx rfl (hb hby at_169) rfl kt)))) ?_
      show Go p.tables e below _ (T489.setTop (mkF m 171 #[vI p1, vI p2, vI p3, vI 2, vI c0, vI c1, vR b365, vR b399, vI 0, uS] [(.int c1), (.int c0), (.ref b399)]))
      obtain ⟨_, _, ⟨T559, L559, k559, n559⟩, -, X559, ⟨Lc559, hQ559, l559, y559, z559⟩, st559⟩ := Jvm.LawKit.callS X489 hx (y := Y20) hown (mvT hZ (w136 hw)) (mvT hZ (w137 hw)) (mvT hZ (w33 hw)) (mvT hZ (w138 hw)) (by decide) (backOf (W := 0) (rmpair l Z a0 hw [] b399 c0 c1 k399 h399 n0 Z412 Ex399 V418 g_b399 hc154_420 hc162_490) hZ (w138 hw) (w33 hw) (by decide) (by decide)) (g := (mkF m 171 #[vI p1, vI p2, vI p3, vI 2, vI c0, vI c1, vR b365, vR b399, vI 0, uS] [(.int c1), (.int c0), (.ref b399)])) rfl hml.symm (argsL := [(.ref b399), (.int c0), (.int c1)]) (rest := []) (lenOf pd_23 rfl) rfl (Nat.le_of_eq rfl) (hb hby at_171) (fun _ _ => ⟨rfl, eh489, (by decide : 5 + 0 ≤ _), (by decide : 20 + 0 ≤ _)⟩)
      dsimp only [Pt.U, Pt.locs, Pt.cells, Pt.slots] at X559 l559 y559 z559 st559 hQ559
      subst l559 y559 z559
      obtain ⟨rfl, N559q, Kq559, P560, P561⟩ := hQ559
      have F562 := (own_sta_keep F400 Ex399 Kq559)
      have F563 := (own_sta_keep F401 Ex399 Kq559)
      have F564 := (own_sta_keep F402 Ex399 Kq559)
      have F565 := (own_sta_keep F403 Ex399 Kq559)
      have F566 := (own_sta_keep F404 Ex399 Kq559)
      have F567 := (own_sta_keep F405 Ex399 Kq559)
      have F568 := (F406.keep Kq559 (fun q => ne_b327_b399 (List.mem_singleton.mp q)))
      have F569 := (F407.keep Kq559)
      have F570 := (F408.keep Kq559 (fun q => ne_b365_b399 (List.mem_singleton.mp q)))
      have F571 := (F409.keep Kq559 (fun q => ne_b365_b399 (List.mem_singleton.mp q)))
      have F572 := (F410.keep Kq559)
      have F573 := (F411.keep Kq559 (fun q => ne_b380b_b399 (List.mem_singleton.mp q)))
      have F574 := (Ex399.keep Kq559)
      have Z575 : n0 ≤ T559.heap.size := (Nat.le_trans Z412 Kq559.1)
      have hk576 : _ ≤ T559.heap.size := (Nat.le_trans hk413 Kq559.1)
      have Sf577 := (Safe.keep Kq559 (by intro x hx; cases List.mem_singleton.mp hx; exact Sf416) C417.1 Sf414)
      have Sf578 := (Safe.keep Kq559 (by intro x hx; cases List.mem_singleton.mp hx; exact Sf416) C417.1 Sf415)
      have Sf579 := (Safe.keep Kq559 (by intro x hx; cases List.mem_singleton.mp hx; exact Sf416) C417.1 Sf416)
      have C580 := (C417.trans (CHr.keep Kq559 (by intro x hx; cases List.mem_singleton.mp hx; exact Sf416) C417.1))
      have N559 := Fr.app N489 N559q
      refine Go.step st559 ?_
      show Go p.tables e below _ (T559.setTop (mkF m 174 #[vI p1, vI p2, vI p3, vI 2, vI c0, vI c1, vR b365, vR b399, vI 0, uS] [(.int (own_len (own_p c0 c1)))]))
      refine Go.step (fun _ kt => XS.istore X559.here hx rfl (hb hby at_174) rfl (l' := #[vI p1, vI p2, vI p3, vI 2, vI c0, vI c1, vR b365, vR b399, vI (own_len (own_p c0 c1)), uS]) rfl (XS.goto X559.here hx rfl (pc0 := 176) (pc' := 205) rfl (hb hby at_176) (by decide) (by decide) (XS.aload X559.here hx rfl (hb hby at_205) rfl rfl kt))) ?_
      show Go p.tables e below _ (T559.setTop (mkF m 207 #[vI p1, vI p2, vI p3, vI 2, vI c0, vI c1, vR b365, vR b399, vI (own_len (own_p c0 c1)), uS] [(.ref b365)]))
      obtain ⟨_, _, ⟨T581, L581, k581, n581⟩, -, X581, ⟨Lc581, hQ581, l581, y581, z581⟩, st581⟩ := Jvm.LawKit.callS X559 hx (y := Y18) hown (mvT hZ (w39 hw)) (mvT hZ (w40 hw)) (mvT hZ (w41 hw)) (mvT hZ (w42 hw)) (by decide) (backOf (W := 0) (rmof l Z a0 hw [] b365 b380b b380cd (own_e2 c0 c1) cs u8 T559.heap n0 Z575 F569 F570 F571 F572 F573 F563 F564 F562 F565 F566 F567 hcs) hZ (w42 hw) (w41 hw) (by decide) (by decide)) (g := (mkF m 207 #[vI p1, vI p2, vI p3, vI 2, vI c0, vI c1, vR b365, vR b399, vI (own_len (own_p c0 c1)), uS] [(.ref b365)])) rfl hml.symm (argsL := [(.ref b365)]) (rest := []) (lenOf pd_17 rfl) rfl (Nat.le_of_eq rfl) (hb hby at_207) (fun _ _ => ⟨rfl, rfl, (by decide : 5 + 2 ≤ _), (by decide : 20 + 12 ≤ _)⟩)
      dsimp only [Pt.U, Pt.locs, Pt.cells, Pt.slots] at X581 l581 y581 z581 st581 hQ581
      subst l581 y581 z581
      obtain ⟨b581r, b581kr, rfl, N581q, Kq581, P582, P583, g_b581r, szq_b581r⟩ := hQ581
      have ne_b327_b581r : b327 ≠ b581r := Nat.ne_of_lt (Nat.lt_of_lt_of_le F568.lt szq_b581r)
      have ne_b365_b581r : b365 ≠ b581r := Nat.ne_of_lt (Nat.lt_of_lt_of_le F569.lt szq_b581r)
      have ne_b380b_b581r : b380b ≠ b581r := Nat.ne_of_lt (Nat.lt_of_lt_of_le F572.lt szq_b581r)
      have ne_b399_b581r : b399 ≠ b581r := Nat.ne_of_lt (Nat.lt_of_lt_of_le P560.lt szq_b581r)
      have F584 := (own_sta_keep0 F562 Kq581)
      have F585 := (own_sta_keep0 F563 Kq581)
      have F586 := (own_sta_keep0 F564 Kq581)
      have F587 := (own_sta_keep0 F565 Kq581)
      have F588 := (own_sta_keep0 F566 Kq581)
      have F589 := (own_sta_keep0 F567 Kq581)
      have F590 := (F568.keep Kq581 (by simp))
      have F591 := (F569.keep Kq581)
      have F592 := (F570.keep Kq581 (by simp))
      have F593 := (F571.keep Kq581 (by simp))
      have F594 := (F572.keep Kq581)
      have F595 := (F573.keep Kq581 (by simp))
      have F596 := (P560.keep Kq581)
      have F597 := (P561.keep Kq581 (by simp))
      have Z598 : n0 ≤ T581.heap.size := (Nat.le_trans Z575 Kq581.1)
      have hk599 : _ ≤ T581.heap.size := (Nat.le_trans hk576 Kq581.1)
      have Sf600 := (Safe.keep Kq581 (by intro x hx; cases hx) C580.1 Sf577)
      have Sf601 := (Safe.keep Kq581 (by intro x hx; cases hx) C580.1 Sf578)
      have Sf602 := (Safe.keep Kq581 (by intro x hx; cases hx) C580.1 Sf579)
      have C603 := (C580.trans (CHr.keep Kq581 (by intro x hx; cases hx) C580.1))
      have N581 := Fr.app N559 N581q
      refine Go.step st581 ?_
      show Go p.tables e below _ (T581.setTop (mkF m 210 #[vI p1, vI p2, vI p3, vI 2, vI c0, vI c1, vR b365, vR b399, vI (own_len (own_p c0 c1)), uS] [(.ref b581r)]))
      refine Go.step (fun _ kt => XS.astore X581.here hx rfl (hb hby at_210) rfl rfl (l' := #[vI p1, vI p2, vI p3, vI 2, vI c0, vI c1, vR b365, vR b399, vI (own_len (own_p c0 c1)), vR b581r]) rfl kt) ?_
      show Go p.tables e below _ (T581.setTop (mkF m 212 #[vI p1, vI p2, vI p3, vI 2, vI c0, vI c1, vR b365, vR b399, vI (own_len (own_p c0 c1)), vR b581r] []))
      have Vl604 : Arv Z T581.heap b581r b581kr .byte (own_len (own_p c0 c1)) ((own_p c0 c1).map Value.int) (.int 0) := by have q0 : (own_e2 c0 c1) = (own_p c0 c1) := own_e2p hc154_420 hc162_490; have q1 := P583; rw [q0] at q1; exact q1
      exact G212g101 (2 : Int32) b365 b399 b581r _ _ (own_p c0 c1) _ _ _ _ _ hZ hown hS0 hk599 C603 (X581.more (by decide) (by decide)) rfl N581 Z598 F597 Vl604
  refine Go.step (fun _ kt => XS.iloadN X0.here hx rfl (hb hby at_34) rfl (XS.iconst X0.here hx rfl (hb hby at_35) (XS.iushr X0.here hx rfl (hb hby at_36) rfl (XS.iconst X0.here hx rfl (hb hby at_37) (XS.iand X0.here hx rfl (hb hby at_38) rfl kt))))) ?_
  show Go p.tables e below _ (s₁.setTop (mkF m 39 #[vI p1, vI p2, vI p3, vI ln, vI c0, vI (p2.toUInt32.toUInt16.toUInt32.toInt32), uS, uS, uS, uS] [(.int (((p3.toUInt32 >>> ((3 : Int32) &&& 31).toUInt32).toInt32) &&& (1 : Int32)))]))
  by_cases hc39_605 : (((p3.toUInt32 >>> ((3 : Int32) &&& 31).toUInt32).toInt32) &&& (1 : Int32)) = (0 : Int32)
  ·refine Go.step (fun _ kt => XS.ifYes X0.here hx rfl (pc0 := 39) (pc' := 53) rfl (hb hby at_39) rfl ((if0 _ _).trans (teq hc39_605).1) (by decide) (by decide) kt) ?_
   show Go p.tables e below _ (s₁.setTop (mkF m 53 #[vI p1, vI p2, vI p3, vI ln, vI c0, vI (p2.toUInt32.toUInt16.toUInt32.toInt32), uS, uS, uS, uS] []))
   exact J53 _ (own_Rc _)
  ·refine Go.step (fun _ kt => XS.ifNo X0.here hx rfl (hb hby at_39) rfl ((if0 _ _).trans (feq hc39_605).1) kt) ?_
   refine Go.step (X0.ldcInt hx hown (mvT hZ (w85 hw)) (g := (mkF m 42 #[vI p1, vI p2, vI p3, vI ln, vI c0, vI (p2.toUInt32.toUInt16.toUInt32.toInt32), uS, uS, uS, uS] [])) rfl (hb hby at_42)) ?_
   show Go p.tables e below _ (s₁.setTop (mkF m 44 #[vI p1, vI p2, vI p3, vI ln, vI c0, vI (p2.toUInt32.toUInt16.toUInt32.toInt32), uS, uS, uS, uS] [(.int 56320)]))
   refine Go.step (fun _ kt => XS.iloadN X0.here hx rfl (hb hby at_44) rfl (XS.sipush X0.here hx rfl (hb hby at_45) (XS.iand X0.here hx rfl (hb hby at_48) rfl (XS.ior X0.here hx rfl (hb hby at_49) rfl (XS.i2c X0.here hx rfl (hb hby at_50) rfl (XS.istore X0.here hx rfl (hb hby at_51) rfl (l' := #[vI p1, vI p2, vI p3, vI ln, vI c0, vI (((56320 : Int32) ||| (p2 &&& (1023 : Int32))).toUInt32.toUInt16.toUInt32.toInt32), uS, uS, uS, uS]) rfl kt)))))) ?_
   show Go p.tables e below _ (s₁.setTop (mkF m 53 #[vI p1, vI p2, vI p3, vI ln, vI c0, vI (((56320 : Int32) ||| (p2 &&& (1023 : Int32))).toUInt32.toUInt16.toUInt32.toInt32), uS, uS, uS, uS] []))
   exact J53 _ (own_Rc _)
 refine Go.step (fun _ kt => XS.iloadN X0.here hx rfl (hb hby at_15) rfl (XS.iconst X0.here hx rfl (hb hby at_16) (XS.iushr X0.here hx rfl (hb hby at_17) rfl (XS.iconst X0.here hx rfl (hb hby at_18) (XS.iand X0.here hx rfl (hb hby at_19) rfl kt))))) ?_
 show Go p.tables e below _ (s₁.setTop (mkF m 20 #[vI p1, vI p2, vI p3, vI ln, vI (p1.toUInt32.toUInt16.toUInt32.toInt32), vI (p2.toUInt32.toUInt16.toUInt32.toInt32), uS, uS, uS, uS] [(.int (((p3.toUInt32 >>> ((2 : Int32) &&& 31).toUInt32).toInt32) &&& (1 : Int32)))]))
 by_cases hc20_606 : (((p3.toUInt32 >>> ((2 : Int32) &&& 31).toUInt32).toInt32) &&& (1 : Int32)) = (0 : Int32)
 ·refine Go.step (fun _ kt => XS.ifYes X0.here hx rfl (pc0 := 20) (pc' := 34) rfl (hb hby at_20) rfl ((if0 _ _).trans (teq hc20_606).1) (by decide) (by decide) kt) ?_
  show Go p.tables e below _ (s₁.setTop (mkF m 34 #[vI p1, vI p2, vI p3, vI ln, vI (p1.toUInt32.toUInt16.toUInt32.toInt32), vI (p2.toUInt32.toUInt16.toUInt32.toInt32), uS, uS, uS, uS] []))
  exact J34 _ (own_Rc _)
 ·refine Go.step (fun _ kt => XS.ifNo X0.here hx rfl (hb hby at_20) rfl ((if0 _ _).trans (feq hc20_606).1) kt) ?_
  refine Go.step (X0.ldcInt hx hown (mvT hZ (w35 hw)) (g := (mkF m 23 #[vI p1, vI p2, vI p3, vI ln, vI (p1.toUInt32.toUInt16.toUInt32.toInt32), vI (p2.toUInt32.toUInt16.toUInt32.toInt32), uS, uS, uS, uS] [])) rfl (hb hby at_23)) ?_
  show Go p.tables e below _ (s₁.setTop (mkF m 25 #[vI p1, vI p2, vI p3, vI ln, vI (p1.toUInt32.toUInt16.toUInt32.toInt32), vI (p2.toUInt32.toUInt16.toUInt32.toInt32), uS, uS, uS, uS] [(.int 55296)]))
  refine Go.step (fun _ kt => XS.iloadN X0.here hx rfl (hb hby at_25) rfl (XS.sipush X0.here hx rfl (hb hby at_26) (XS.iand X0.here hx rfl (hb hby at_29) rfl (XS.ior X0.here hx rfl (hb hby at_30) rfl (XS.i2c X0.here hx rfl (hb hby at_31) rfl (XS.istore X0.here hx rfl (hb hby at_32) rfl (l' := #[vI p1, vI p2, vI p3, vI ln, vI (((55296 : Int32) ||| (p1 &&& (1023 : Int32))).toUInt32.toUInt16.toUInt32.toInt32), vI (p2.toUInt32.toUInt16.toUInt32.toInt32), uS, uS, uS, uS]) rfl kt)))))) ?_
  show Go p.tables e below _ (s₁.setTop (mkF m 34 #[vI p1, vI p2, vI p3, vI ln, vI (((55296 : Int32) ||| (p1 &&& (1023 : Int32))).toUInt32.toUInt16.toUInt32.toInt32), vI (p2.toUInt32.toUInt16.toUInt32.toInt32), uS, uS, uS, uS] []))
  exact J34 _ (own_Rc _)
theorem own_eqI {args : Array Value} {s : State} {t : Term} {n : Int32} (h : (Jvm.Cond.eq t (.int n)).value args s none s [] = some true) : t.eval args s none [] s = some (.int n) := by
  simp only [Cond.value, Term.eval] at h
  cases ht : t.eval args s none [] s with
  | none => simp [ht] at h
  | some x => cases x <;> simp [ht] at h ⊢; exact h
set_option maxRecDepth 65536 in
set_option maxHeartbeats 40000000 in
theorem comes_1 {Post : Tables → Env → Array Value → State → Outcome → State → Prop} (hpost : ∀ tb e args s v u, (limb_1_1.after args s (.returned v) u = true ∧ limb_1_2.after args s (.returned v) u = true ∧ True) → ReturnedEndW s (.returned v) u (Jvm.fieldLocs frame_1_writes args s ++ Jvm.arrayLocs frame_1_arrays args s ++ Jvm.staticLocs frame_1_statics s) 24 1216 → Post tb e args s (.returned v) u) :
    ArmFor flags0 classFile x code maxLocals ret World_1 tables_1 room_1 Calls_1 rest_1 Pre_1 Post := by
  intro l hfl _ _ p e ha hc hk s m args below hf hA hF happ hP
  obtain ⟨hcalls, hrest, hpre⟩ := hP
  obtain ⟨-, -, -, hnamed, -, -, -, hat⟩ := (Spec.applies_iff hf).mp happ
  obtain ⟨hg, hn⟩ := and_e (Cond.before_iff.mp (show (Jvm.Cond.and given_1 narrow_1).before args s = true from hpre))
  obtain ⟨hcount, hg1⟩ := and_e hg
  obtain ⟨ga0, hg2⟩ := and_e hg1
  obtain ⟨ga1, hg3⟩ := and_e hg2
  have ga2 := hg3
  obtain ⟨w0, w1, w2, rfl⟩ : ∃ w0 w1 w2 : Value, args = #[w0, w1, w2] := by
    have hs : args.size = 3 := by simpa [Cond.value, given_1] using hcount
    obtain ⟨L⟩ := args
    match L, hs with
    | [w0, w1, w2], _ => exact ⟨w0, w1, w2, rfl⟩
  have hw := fun d (hd : d ∈ tables_1) => atoms_spec (ws := Jvm.Cond.code x code maxLocals ret :: tables_1) hat d (List.mem_cons_of_mem _ hd)
  have hfit : Fit s := fun {y c} hc i hi => by
    obtain ⟨ha, rfl⟩ := Array.getElem?_eq_some_iff.mp hc
    have q := List.all_eq_true.mp ((Array.all_eq_true_iff_forall_mem.mp hF) _ (Array.getElem_mem ha)) i (List.mem_range.mpr hi)
    simpa [Array.getElem?_eq_getElem hi] using q
  obtain ⟨hsets, hown0⟩ := atoms_of _ (rest_1_c_eq ▸ (show rest_1_c.before _ s = true from hrest))
  have hr0 := Cond.before_iff.mp hown0
  obtain ⟨i0, ei0⟩ := is_v ga0
  obtain rfl : w0 = (.int i0) := Option.some.inj ei0
  obtain ⟨i1, ei1⟩ := is_v ga1
  obtain rfl : w1 = (.int i1) := Option.some.inj ei1
  obtain ⟨i2, ei2⟩ := is_v ga2
  obtain rfl : w2 = (.int i2) := Option.some.inj ei2
  obtain ⟨cs, evcs⟩ := is_v (Cond.before_iff.mp (hsets _ (List.mem_of_getElem? (i := 1) rfl)))
  have S_cs : Sta s s.heap "java/lang/String" "COMPACT_STRINGS" "Z" (.int cs) := Sta.start evcs (Or.inl (hsets _ (List.mem_of_getElem? (i := 0) rfl)))
  have hcs : ¬ cs = 0 := gotF (Cond.eq_ints evcs rfl) (not_v (Cond.before_iff.mp (hsets _ (List.mem_of_getElem? (i := 2) rfl))))
  obtain ⟨u8, ev8⟩ := exa_v (Cond.before_iff.mp (hsets _ (List.mem_of_getElem? (i := 14) rfl)))
  have S_u8 : Sta s s.heap "java/nio/charset/StandardCharsets" "UTF_8" "Ljava/nio/charset/Charset;" (.ref u8) := Sta.start ev8 (Or.inl (hsets _ (List.mem_of_getElem? (i := 10) rfl)))
  have S_in : Sta s s.heap "sun/nio/cs/UTF_8" "INSTANCE" "Lsun/nio/cs/UTF_8;" (.ref u8) := Sta.start (own_eqR (Cond.before_iff.mp (hsets _ (List.mem_of_getElem? (i := 13) rfl))) ev8) (Or.inl (hsets _ (List.mem_of_getElem? (i := 12) rfl)))
  have S_ad : Sta s s.heap "java/lang/StringUTF16" "$assertionsDisabled" "Z" (.int 1) := Sta.start (own_eqI (Cond.before_iff.mp (hsets _ (List.mem_of_getElem? (i := 21) rfl)))) (Or.inl (hsets _ (List.mem_of_getElem? (i := 20) rfl)))
  have S_hi : Sta s s.heap "java/lang/StringUTF16" "HI_BYTE_SHIFT" "I" (.int 0) := Sta.start (own_eqI (Cond.before_iff.mp (hsets _ (List.mem_of_getElem? (i := 24) rfl)))) (Or.inl (hsets _ (List.mem_of_getElem? (i := 23) rfl)))
  have S_lo : Sta s s.heap "java/lang/StringUTF16" "LO_BYTE_SHIFT" "I" (.int 8) := Sta.start (own_eqI (Cond.before_iff.mp (hsets _ (List.mem_of_getElem? (i := 27) rfl)))) (Or.inl (hsets _ (List.mem_of_getElem? (i := 26) rfl)))
  have hCH : CHv s own_EL s.vm s.heap := CHv.start (own_EW hw) (fun p hp => hcalls.1 p hp) (hsets _ (List.mem_of_getElem? (i := 2) rfl)) (w20 hw) (w3 hw)
  obtain ⟨n, o, h1, h2, h3, _, L, rfl, ⟨rfl, N⟩, -, hq⟩ := rm0 l s _ hw tables_1 i0 i1 i2 cs u8 s.heap s.heap.size (Nat.le_refl _) S_cs S_u8 S_in S_ad S_hi S_lo hcs p e ha hc hk s m _ below hf ((Spec.applies_iff_loose hf).mp happ).1 ⟨rfl, State.Warmed39.refl s, rfl, hCH⟩ trivial
  refine ⟨n, _, h1, h2, h3, hpost _ _ _ _ _ _ ⟨Cond.after_iff.mpr rfl, Cond.after_iff.mpr (eq_i res_at (Term.int_eval (1)) rfl), trivial⟩ ⟨hq.1, hq.2.1, hq.2.2.1, (hq.2.2.2.sift fun y hy => Or.inr (N y hy)).mono (by decide) (by decide)⟩⟩
theorem main_1_1 : Claimed_1_1 := comes_1 fun _ _ _ _ _ _ h hF => ⟨h.1, hF⟩
theorem main_1_2 : Claimed_1_2 := comes_1 fun _ _ _ _ _ _ h hF => ⟨h.2.1, hF⟩
end Jvm.Pilot.@@N@@
namespace Jvm.Pilot.@@N@@
open Jvm Jvm.ClassFile Sem Op Lib Jvm.Free Jvm.Stand Jvm.Pilot.@@N@@.Jvm.D
/-! MADE BY PROGRAM (witnessworld.py) out of the Statement's table words and the real class files: 30 classes; the members and pool entries that the words name. The judged class is class 1, her method 1. -/
namespace start1
open Jvm.ClassFile
def u (s : String) : CpInfo := .utf8 (stringToUtf16 s)
/-- a pool by its gaps: so many unusable entries, then the entry; so many at the end -/
def gap : Nat → List CpInfo → List CpInfo
  | 0, r => r
  | n + 1, r => .unusable :: gap n r
def poolList (es : List (Nat × CpInfo)) (last : Nat) : List CpInfo := es.foldr (fun e r => gap e.1 (e.2 :: r)) (gap last [])
def pool (es : List (Nat × CpInfo)) (last : Nat) : Array CpInfo := ⟨poolList es last⟩
def fileOf (pool : Array CpInfo) (this : Nat) (attrs : Array Attribute := #[]) (ms : Array MethodInfo := #[]) (fl : Nat := 33) (sup : Nat := 0) (ifs : Array Nat := #[]) (fds : Array FieldInfo := #[]) : ClassFile where
  minorVersion := 0
  majorVersion := 65
  constantPool := pool
  accessFlags := fl
  thisClass := this
  superClass := sup
  interfaces := ifs
  fields := fds
  methods := ms
  attributes := attrs
def plain (name : String) (sup : Option ClassId) : Class where
  name := name
  kind := .ordinary
  loader := none
  accessFlags := 33
  super := sup
  interfaces := #[]
  cf := none
  fields := #[]
  methods := #[]
  instanceTypes := #[]
  staticTypes := #[]
  resolved := #[]
  callSites := []
  init := .initialized
  statics := none
  mirror := none

def pool0 : Array CpInfo := pool [(5, u "<init>"), (0, u "()V"), (1, .class_ 10), (1, u "java/lang/Object"), (85, u "clone"), (0, u "()Ljava/lang/Object;")] 26

def k0c0 : Code := { maxStack := 0, maxLocals := 1, code := object_method_1_code, exceptionTable := #[], attributes := #[] }
def k0m0 : Method := { name := "<init>", desc := "()V", sig := { parameters := [], returnType := none }, accessFlags := 1, code := some k0c0 }
def k0m1 : Method := { name := "clone", desc := "()Ljava/lang/Object;", sig := { parameters := [], returnType := some (.object "java/lang/Object") }, accessFlags := 260, code := none }
/-- java/lang/Object -/
def k0 : Class := { plain "java/lang/Object" none with
  accessFlags := 33
  interfaces := #[]
  cf := some (fileOf pool0 8 #[] #[{ accessFlags := 1, nameIndex := 5, descriptorIndex := 6, attributes := #[] }, { accessFlags := 260, nameIndex := 96, descriptorIndex := 97, attributes := #[] }] 33 0 #[] #[])
  fields := #[]
  methods := #[k0m0, k0m1]
  instanceTypes := #[]
  staticTypes := #[]
  resolved := Array.replicate 124 none
  statics := none }

def pool1 : Array CpInfo := pool [(2, .class_ 4), (1, u "java/lang/Object"), (0, u "<init>"), (0, u "()V"), (0, .integer 2147483647), (0, .integer 55296), (0, .integer 56320), (0, .class_ 11), (0, u "java/lang/String"), (0, .methodref 10 13), (0, .nameAndType 5 14), (0, u "([C)V"), (0, .methodref 16 17), (0, .class_ 18), (0, .nameAndType 19 20), (0, u "com/example/sibyl/sibyl/core/KeyBytesOfPinLaw"), (0, u "isHigh"), (0, u "(C)Z"), (0, .methodref 16 22), (0, .nameAndType 23 20), (0, u "isLow"), (0, .methodref 16 25), (0, .nameAndType 26 27), (0, u "pair"), (0, u "([BCC)I"), (0, .methodref 16 29), (0, .nameAndType 30 31), (0, u "unit"), (0, u "([BIC)I"), (0, .methodref 33 34), (0, .class_ 35), (0, .nameAndType 36 37), (0, u "com/example/sibyl/sibyl/core/KeyBytes"), (0, u "of"), (0, u "(Ljava/lang/String;)[B"), (0, .methodref 16 39), (0, .nameAndType 40 41), (0, u "eq"), (0, u "([B[BI)Z"), (0, .integer 56319), (0, .integer 57343), (0, .integer 65536), (2, u "law"), (0, u "(III)Z")] 5

def k1m0 : Method := { name := "<init>", desc := "()V", sig := { parameters := [], returnType := none }, accessFlags := 2, code := none }
def k1c1 : Code := { maxStack := 3, maxLocals := 10, code := code, exceptionTable := #[], attributes := #[] }
def k1m1 : Method := { name := "law", desc := "(III)Z", sig := { parameters := [.int, .int, .int], returnType := some .boolean }, accessFlags := 9, code := some k1c1 }
def k1c2 : Code := { maxStack := 2, maxLocals := 1, code := method_3_code, exceptionTable := #[], attributes := #[] }
def k1m2 : Method := { name := "isHigh", desc := "(C)Z", sig := { parameters := [.char], returnType := some .boolean }, accessFlags := 10, code := some k1c2 }
def k1c3 : Code := { maxStack := 2, maxLocals := 1, code := method_4_code, exceptionTable := #[], attributes := #[] }
def k1m3 : Method := { name := "isLow", desc := "(C)Z", sig := { parameters := [.char], returnType := some .boolean }, accessFlags := 10, code := some k1c3 }
def k1c4 : Code := { maxStack := 5, maxLocals := 4, code := method_5_code, exceptionTable := #[], attributes := #[] }
def k1m4 : Method := { name := "unit", desc := "([BIC)I", sig := { parameters := [(.array .byte), .int, .char], returnType := some .int }, accessFlags := 10, code := some k1c4 }
def k1c5 : Code := { maxStack := 5, maxLocals := 4, code := method_6_code, exceptionTable := #[], attributes := #[] }
def k1m5 : Method := { name := "pair", desc := "([BCC)I", sig := { parameters := [(.array .byte), .char, .char], returnType := some .int }, accessFlags := 10, code := some k1c5 }
def k1c6 : Code := { maxStack := 3, maxLocals := 3, code := method_7_code, exceptionTable := #[], attributes := #[] }
def k1m6 : Method := { name := "eq", desc := "([B[BI)Z", sig := { parameters := [(.array .byte), (.array .byte), .int], returnType := some .boolean }, accessFlags := 10, code := some k1c6 }
/-- com/example/sibyl/sibyl/core/KeyBytesOfPinLaw -/
def k1 : Class := { plain "com/example/sibyl/sibyl/core/KeyBytesOfPinLaw" (some 0) with
  accessFlags := 49
  interfaces := #[]
  cf := some (fileOf pool1 16 #[] #[{ accessFlags := 2, nameIndex := 5, descriptorIndex := 6, attributes := #[] }, { accessFlags := 9, nameIndex := 47, descriptorIndex := 48, attributes := #[] }, { accessFlags := 10, nameIndex := 19, descriptorIndex := 20, attributes := #[] }, { accessFlags := 10, nameIndex := 23, descriptorIndex := 20, attributes := #[] }, { accessFlags := 10, nameIndex := 30, descriptorIndex := 31, attributes := #[] }, { accessFlags := 10, nameIndex := 26, descriptorIndex := 27, attributes := #[] }, { accessFlags := 10, nameIndex := 40, descriptorIndex := 41, attributes := #[] }] 49 2 #[] #[])
  fields := #[]
  methods := #[k1m0, k1m1, k1m2, k1m3, k1m4, k1m5, k1m6]
  instanceTypes := #[]
  staticTypes := #[]
  resolved := Array.replicate 54 none
  statics := none }

def pool2 : Array CpInfo := pool [(1, .class_ 2), (0, u "java/io/Serializable"), (0, .class_ 4), (0, u "java/lang/Object")] 2

/-- java/io/Serializable -/
def k2 : Class := { plain "java/io/Serializable" (some 0) with
  accessFlags := 1537
  interfaces := #[]
  cf := some (fileOf pool2 1 #[] #[] 1537 3 #[] #[])
  fields := #[]
  methods := #[]
  instanceTypes := #[]
  staticTypes := #[]
  resolved := Array.replicate 7 none
  statics := none }

def pool3 : Array CpInfo := pool [(1, .class_ 2), (0, u "java/lang/Comparable"), (0, .class_ 4), (0, u "java/lang/Object")] 7

/-- java/lang/Comparable -/
def k3 : Class := { plain "java/lang/Comparable" (some 0) with
  accessFlags := 1537
  interfaces := #[]
  cf := some (fileOf pool3 1 #[] #[] 1537 3 #[] #[])
  fields := #[]
  methods := #[]
  instanceTypes := #[]
  staticTypes := #[]
  resolved := Array.replicate 12 none
  statics := none }

def pool4 : Array CpInfo := pool [(2, .class_ 4), (1, u "java/lang/CharSequence"), (42, .class_ 48), (0, u "java/lang/CharSequence$1CodePointIterator"), (10, .class_ 60), (0, u "java/lang/CharSequence$1CharIterator"), (5, .class_ 67), (0, u "java/lang/Object")] 63

/-- java/lang/CharSequence -/
def k4 : Class := { plain "java/lang/CharSequence" (some 0) with
  accessFlags := 1537
  interfaces := #[]
  cf := some (fileOf pool4 2 #[.nestMembers #[47, 59]] #[] 1537 66 #[] #[])
  fields := #[]
  methods := #[]
  instanceTypes := #[]
  staticTypes := #[]
  resolved := Array.replicate 131 none
  statics := none }

def pool5 : Array CpInfo := pool [(1, .class_ 2), (0, u "java/lang/constant/Constable"), (0, .class_ 4), (0, u "java/lang/Object")] 6

/-- java/lang/constant/Constable -/
def k5 : Class := { plain "java/lang/constant/Constable" (some 0) with
  accessFlags := 1537
  interfaces := #[]
  cf := some (fileOf pool5 1 #[] #[] 1537 3 #[] #[])
  fields := #[]
  methods := #[]
  instanceTypes := #[]
  staticTypes := #[]
  resolved := Array.replicate 11 none
  statics := none }

def pool6 : Array CpInfo := pool [(1, .class_ 2), (0, u "java/lang/constant/ConstantDesc"), (0, .class_ 4), (0, u "java/lang/Object")] 32

/-- java/lang/constant/ConstantDesc -/
def k6 : Class := { plain "java/lang/constant/ConstantDesc" (some 0) with
  accessFlags := 1537
  interfaces := #[]
  cf := some (fileOf pool6 1 #[] #[] 1537 3 #[] #[])
  fields := #[]
  methods := #[]
  instanceTypes := #[]
  staticTypes := #[]
  resolved := Array.replicate 37 none
  statics := none }

def pool7 : Array CpInfo := pool [(1, .methodref 2 3), (0, .class_ 4), (0, .nameAndType 5 6), (0, u "java/lang/Object"), (0, u "<init>"), (0, u "()V"), (0, .string 8), (0, u ""), (0, .fieldref 10 11), (0, .class_ 12), (0, .nameAndType 13 14), (0, u "java/lang/String"), (0, u "value"), (0, u "[B"), (0, .fieldref 10 16), (0, .nameAndType 17 18), (0, u "coder"), (0, u "B"), (2, u "hash"), (0, u "I"), (2, u "hashIsZero"), (0, u "Z"), (0, .methodref 10 28), (0, .nameAndType 5 29), (0, u "([CIILjava/lang/Void;)V"), (8, .fieldref 10 39), (0, .nameAndType 40 26), (0, u "COMPACT_STRINGS"), (1, .class_ 44), (1, u "java/lang/StringUTF16"), (0, u "compress"), (1, .methodref 42 48), (0, .nameAndType 49 50), (0, u "coderFromArrayLen"), (0, u "([BI)B"), (4, .class_ 57), (1, u "java/util/Arrays"), (2, .methodref 42 61), (0, .nameAndType 62 63), (0, u "newBytesFor"), (0, u "(I)[B"), (22, .fieldref 87 88), (0, .class_ 89), (0, .nameAndType 90 91), (0, u "sun/nio/cs/UTF_8"), (0, u "INSTANCE"), (0, u "Lsun/nio/cs/UTF_8;"), (1, .class_ 95), (1, u "java/lang/StringCoding"), (6, .methodref 55 103), (0, .nameAndType 104 105), (0, u "copyOf"), (0, u "([BI)[B"), (22, .methodref 93 129), (0, .nameAndType 130 131), (0, u "hasNegatives"), (0, u "([BII)Z"), (45, .methodref 42 178), (0, .nameAndType 45 179), (0, u "([CII)[B"), (72, .methodref 10 253), (0, .nameAndType 254 255), (0, u "encodeUTF8"), (0, u "(B[BZ)[B"), (23, .methodref 280 281), (0, .class_ 14), (0, .nameAndType 282 283), (0, u "clone"), (0, u "()Ljava/lang/Object;"), (33, u "encode"), (17, .methodref 10 336), (0, .nameAndType 17 337), (0, u "()B"), (22, .methodref 42 361), (0, .nameAndType 362 363), (0, u "getChar"), (0, u "([BI)C"), (0, .methodref 365 366), (0, .class_ 367), (0, .nameAndType 368 369), (0, u "java/lang/Character"), (0, u "isHighSurrogate"), (0, u "(C)Z"), (0, .methodref 365 371), (0, .nameAndType 372 369), (0, u "isLowSurrogate"), (31, .methodref 365 405), (0, .nameAndType 406 369), (0, u "isSurrogate"), (66, .methodref 10 474), (0, .nameAndType 475 476), (0, u "encodeUTF8_UTF16"), (0, u "([BZ)[B"), (0, .methodref 365 478), (0, .nameAndType 479 480), (0, u "toCodePoint"), (0, u "(CC)I"), (51, u "getBytes"), (2, .methodref 10 536), (0, .nameAndType 317 537), (0, u "(Ljava/nio/charset/Charset;B[B)[B"), (37, .class_ 576), (0, u "java/lang/CharSequence"), (22, u "CASE_INSENSITIVE_ORDER"), (0, u "Ljava/util/Comparator;"), (409, u "([C)V"), (90, u "serialPersistentFields"), (0, u "[Ljava/io/ObjectStreamField;"), (0, .class_ 1104), (0, u "java/lang/String$CaseInsensitiveComparator"), (1, .class_ 1107), (0, u "java/io/Serializable"), (0, .class_ 1109), (0, u "java/lang/Comparable"), (0, .class_ 1111), (0, u "java/lang/constant/Constable"), (0, .class_ 1113), (0, u "java/lang/constant/ConstantDesc"), (2, u "serialVersionUID"), (0, u "J"), (3, u "REPL"), (0, u "C"), (2, u "LATIN1"), (1, u "UTF16"), (117, u "(Ljava/nio/charset/Charset;)[B")] 205

def k7m0 : Method := { name := "<init>", desc := "()V", sig := { parameters := [], returnType := none }, accessFlags := 1, code := none }
def k7c1 : Code := { maxStack := 5, maxLocals := 2, code := jdk_42_method_3_code, exceptionTable := #[], attributes := #[] }
def k7m1 : Method := { name := "<init>", desc := "([C)V", sig := { parameters := [(.array .char)], returnType := none }, accessFlags := 1, code := some k7c1 }
def k7c2 : Code := { maxStack := 4, maxLocals := 3, code := jdk_42_method_18_code, exceptionTable := #[], attributes := #[] }
def k7m2 : Method := { name := "encode", desc := "(Ljava/nio/charset/Charset;B[B)[B", sig := { parameters := [(.object "java/nio/charset/Charset"), .byte, (.array .byte)], returnType := some (.array .byte) }, accessFlags := 10, code := some k7c2 }
def k7c3 : Code := { maxStack := 5, maxLocals := 9, code := jdk_42_method_46_code, exceptionTable := #[], attributes := #[] }
def k7m3 : Method := { name := "encodeUTF8", desc := "(B[BZ)[B", sig := { parameters := [.byte, (.array .byte), .boolean], returnType := some (.array .byte) }, accessFlags := 10, code := some k7c3 }
def k7c4 : Code := { maxStack := 5, maxLocals := 9, code := jdk_42_method_47_code, exceptionTable := #[], attributes := #[] }
def k7m4 : Method := { name := "encodeUTF8_UTF16", desc := "([BZ)[B", sig := { parameters := [(.array .byte), .boolean], returnType := some (.array .byte) }, accessFlags := 10, code := some k7c4 }
def k7c5 : Code := { maxStack := 3, maxLocals := 2, code := jdk_42_method_64_code, exceptionTable := #[], attributes := #[] }
def k7m5 : Method := { name := "getBytes", desc := "(Ljava/nio/charset/Charset;)[B", sig := { parameters := [(.object "java/nio/charset/Charset")], returnType := some (.array .byte) }, accessFlags := 1, code := some k7c5 }
def k7c6 : Code := { maxStack := 4, maxLocals := 6, code := jdk_42_method_149_code, exceptionTable := #[], attributes := #[] }
def k7m6 : Method := { name := "<init>", desc := "([CIILjava/lang/Void;)V", sig := { parameters := [(.array .char), .int, .int, (.object "java/lang/Void")], returnType := none }, accessFlags := 2, code := some k7c6 }
def k7c7 : Code := { maxStack := 1, maxLocals := 1, code := jdk_42_method_152_code, exceptionTable := #[], attributes := #[] }
def k7m7 : Method := { name := "coder", desc := "()B", sig := { parameters := [], returnType := some .byte }, accessFlags := 0, code := some k7c7 }
/-- java/lang/String -/
def k7 : Class := { plain "java/lang/String" (some 0) with
  accessFlags := 49
  interfaces := #[2, 3, 4, 5, 6]
  cf := some (fileOf pool7 10 #[.nestMembers #[1103]] #[{ accessFlags := 1, nameIndex := 5, descriptorIndex := 6, attributes := #[] }, { accessFlags := 1, nameIndex := 5, descriptorIndex := 1010, attributes := #[] }, { accessFlags := 10, nameIndex := 317, descriptorIndex := 537, attributes := #[] }, { accessFlags := 10, nameIndex := 254, descriptorIndex := 255, attributes := #[] }, { accessFlags := 10, nameIndex := 475, descriptorIndex := 476, attributes := #[] }, { accessFlags := 1, nameIndex := 532, descriptorIndex := 1245, attributes := #[] }, { accessFlags := 2, nameIndex := 5, descriptorIndex := 29, attributes := #[] }, { accessFlags := 0, nameIndex := 17, descriptorIndex := 337, attributes := #[] }] 49 2 #[1106, 1108, 575, 1110, 1112] #[{ accessFlags := 18, nameIndex := 13, descriptorIndex := 14, attributes := #[] }, { accessFlags := 18, nameIndex := 17, descriptorIndex := 18, attributes := #[] }, { accessFlags := 2, nameIndex := 21, descriptorIndex := 22, attributes := #[] }, { accessFlags := 2, nameIndex := 25, descriptorIndex := 26, attributes := #[] }, { accessFlags := 26, nameIndex := 1116, descriptorIndex := 1117, attributes := #[] }, { accessFlags := 24, nameIndex := 40, descriptorIndex := 26, attributes := #[] }, { accessFlags := 26, nameIndex := 1101, descriptorIndex := 1102, attributes := #[] }, { accessFlags := 26, nameIndex := 1121, descriptorIndex := 1122, attributes := #[] }, { accessFlags := 25, nameIndex := 599, descriptorIndex := 600, attributes := #[] }, { accessFlags := 24, nameIndex := 1125, descriptorIndex := 18, attributes := #[] }, { accessFlags := 24, nameIndex := 1127, descriptorIndex := 18, attributes := #[] }])
  fields := #[{ name := "value", type := (.array .byte), accessFlags := 18, slot := 0, constantValue := 0 }, { name := "coder", type := .byte, accessFlags := 18, slot := 1, constantValue := 0 }, { name := "hash", type := .int, accessFlags := 2, slot := 2, constantValue := 0 }, { name := "hashIsZero", type := .boolean, accessFlags := 2, slot := 3, constantValue := 0 }, { name := "serialVersionUID", type := .long, accessFlags := 26, slot := 0, constantValue := 0 }, { name := "COMPACT_STRINGS", type := .boolean, accessFlags := 24, slot := 1, constantValue := 0 }, { name := "serialPersistentFields", type := (.array (.object "java/io/ObjectStreamField")), accessFlags := 26, slot := 2, constantValue := 0 }, { name := "REPL", type := .char, accessFlags := 26, slot := 3, constantValue := 0 }, { name := "CASE_INSENSITIVE_ORDER", type := (.object "java/util/Comparator"), accessFlags := 25, slot := 4, constantValue := 0 }, { name := "LATIN1", type := .byte, accessFlags := 24, slot := 5, constantValue := 0 }, { name := "UTF16", type := .byte, accessFlags := 24, slot := 6, constantValue := 0 }]
  methods := #[k7m0, k7m1, k7m2, k7m3, k7m4, k7m5, k7m6, k7m7]
  instanceTypes := #[(.array .byte), .byte, .int, .boolean]
  staticTypes := #[.long, .boolean, (.array (.object "java/io/ObjectStreamField")), .char, (.object "java/util/Comparator"), .byte, .byte]
  resolved := Array.replicate 1451 none
  statics := some 0 }

def pool8 : Array CpInfo := pool [(6, .class_ 8), (1, u "java/lang/Object"), (0, u "<init>"), (0, u "()V"), (0, .methodref 12 13), (0, .class_ 14), (0, .nameAndType 15 16), (0, u "java/lang/StringUTF16"), (0, u "newBytesLength"), (0, u "(I)I"), (3, .integer 1073741823), (23, .fieldref 12 45), (0, .nameAndType 46 47), (0, u "$assertionsDisabled"), (0, u "Z"), (11, .fieldref 12 60), (0, .nameAndType 61 62), (0, u "HI_BYTE_SHIFT"), (0, u "I"), (0, .fieldref 12 64), (0, .nameAndType 65 62), (0, u "LO_BYTE_SHIFT"), (5, .methodref 12 72), (0, .nameAndType 73 74), (0, u "getChar"), (0, u "([BI)C"), (32, .methodref 12 108), (0, .nameAndType 109 110), (0, u "newBytesFor"), (0, u "(I)[B"), (0, .methodref 12 112), (0, .nameAndType 113 114), (0, u "putChar"), (0, u "([BII)V"), (0, .methodref 12 116), (0, .nameAndType 117 118), (0, u "compress"), (0, u "([CI[BII)I"), (0, .methodref 12 120), (0, .nameAndType 121 122), (0, u "toBytes"), (0, u "([CII)[B"), (138, u "coderFromArrayLen"), (0, u "([BI)B"), (106, .class_ 371), (1, u "java/lang/StringUTF16$LinesSpliterator"), (58, u "MAX_LENGTH"), (196, .class_ 628), (0, u "java/lang/StringUTF16$CodePointsSpliterator"), (0, .class_ 630), (0, u "java/lang/StringUTF16$CharsSpliterator")] 4

def k8m0 : Method := { name := "<init>", desc := "()V", sig := { parameters := [], returnType := none }, accessFlags := 0, code := none }
def k8c1 : Code := { maxStack := 1, maxLocals := 1, code := jdk_52_method_2_code, exceptionTable := #[], attributes := #[] }
def k8m1 : Method := { name := "newBytesFor", desc := "(I)[B", sig := { parameters := [.int], returnType := some (.array .byte) }, accessFlags := 9, code := some k8c1 }
def k8c2 : Code := { maxStack := 4, maxLocals := 1, code := jdk_52_method_3_code, exceptionTable := #[], attributes := #[] }
def k8m2 : Method := { name := "newBytesLength", desc := "(I)I", sig := { parameters := [.int], returnType := some .int }, accessFlags := 9, code := some k8c2 }
def k8c3 : Code := { maxStack := 4, maxLocals := 3, code := jdk_52_method_4_code, exceptionTable := #[], attributes := #[] }
def k8m3 : Method := { name := "putChar", desc := "([BII)V", sig := { parameters := [(.array .byte), .int, .int], returnType := none }, accessFlags := 8, code := some k8c3 }
def k8c4 : Code := { maxStack := 3, maxLocals := 2, code := jdk_52_method_5_code, exceptionTable := #[], attributes := #[] }
def k8m4 : Method := { name := "getChar", desc := "([BI)C", sig := { parameters := [(.array .byte), .int], returnType := some .char }, accessFlags := 8, code := some k8c4 }
def k8c5 : Code := { maxStack := 4, maxLocals := 5, code := jdk_52_method_14_code, exceptionTable := #[], attributes := #[] }
def k8m5 : Method := { name := "toBytes", desc := "([CII)[B", sig := { parameters := [(.array .char), .int, .int], returnType := some (.array .byte) }, accessFlags := 9, code := some k8c5 }
def k8c6 : Code := { maxStack := 2, maxLocals := 2, code := jdk_52_method_15_code, exceptionTable := #[], attributes := #[] }
def k8m6 : Method := { name := "coderFromArrayLen", desc := "([BI)B", sig := { parameters := [(.array .byte), .int], returnType := some .byte }, accessFlags := 8, code := some k8c6 }
def k8c7 : Code := { maxStack := 5, maxLocals := 6, code := jdk_52_method_16_code, exceptionTable := #[], attributes := #[] }
def k8m7 : Method := { name := "compress", desc := "([CII)[B", sig := { parameters := [(.array .char), .int, .int], returnType := some (.array .byte) }, accessFlags := 9, code := some k8c7 }
def k8c8 : Code := { maxStack := 3, maxLocals := 7, code := jdk_52_method_21_code, exceptionTable := #[], attributes := #[] }
def k8m8 : Method := { name := "compress", desc := "([CI[BII)I", sig := { parameters := [(.array .char), .int, (.array .byte), .int, .int], returnType := some .int }, accessFlags := 9, code := some k8c8 }
/-- java/lang/StringUTF16 -/
def k8 : Class := { plain "java/lang/StringUTF16" (some 0) with
  accessFlags := 48
  interfaces := #[]
  cf := some (fileOf pool8 12 #[.nestMembers #[627, 629, 369]] #[{ accessFlags := 0, nameIndex := 9, descriptorIndex := 10, attributes := #[] }, { accessFlags := 9, nameIndex := 109, descriptorIndex := 110, attributes := #[] }, { accessFlags := 9, nameIndex := 15, descriptorIndex := 16, attributes := #[] }, { accessFlags := 8, nameIndex := 113, descriptorIndex := 114, attributes := #[] }, { accessFlags := 8, nameIndex := 73, descriptorIndex := 74, attributes := #[] }, { accessFlags := 9, nameIndex := 121, descriptorIndex := 122, attributes := #[] }, { accessFlags := 8, nameIndex := 261, descriptorIndex := 262, attributes := #[] }, { accessFlags := 9, nameIndex := 117, descriptorIndex := 122, attributes := #[] }, { accessFlags := 9, nameIndex := 117, descriptorIndex := 118, attributes := #[] }] 48 6 #[] #[{ accessFlags := 26, nameIndex := 61, descriptorIndex := 62, attributes := #[] }, { accessFlags := 26, nameIndex := 65, descriptorIndex := 62, attributes := #[] }, { accessFlags := 24, nameIndex := 430, descriptorIndex := 62, attributes := #[] }, { accessFlags := 4120, nameIndex := 46, descriptorIndex := 47, attributes := #[] }])
  fields := #[{ name := "HI_BYTE_SHIFT", type := .int, accessFlags := 26, slot := 0, constantValue := 0 }, { name := "LO_BYTE_SHIFT", type := .int, accessFlags := 26, slot := 1, constantValue := 0 }, { name := "MAX_LENGTH", type := .int, accessFlags := 24, slot := 2, constantValue := 0 }, { name := "$assertionsDisabled", type := .boolean, accessFlags := 4120, slot := 3, constantValue := 0 }]
  methods := #[k8m0, k8m1, k8m2, k8m3, k8m4, k8m5, k8m6, k8m7, k8m8]
  instanceTypes := #[]
  staticTypes := #[.int, .int, .int, .boolean]
  resolved := Array.replicate 635 none
  statics := some 1 }

def pool9 : Array CpInfo := pool [(2, .class_ 4), (1, u "java/lang/Object"), (0, u "<init>"), (0, u "()V"), (0, .fieldref 8 9), (0, .class_ 10), (0, .nameAndType 11 12), (0, u "java/nio/charset/StandardCharsets"), (0, u "UTF_8"), (0, u "Ljava/nio/charset/Charset;"), (0, .methodref 14 15), (0, .class_ 16), (0, .nameAndType 17 18), (0, u "java/lang/String"), (0, u "getBytes"), (0, u "(Ljava/nio/charset/Charset;)[B"), (4, .class_ 24), (0, u "com/example/sibyl/sibyl/core/KeyBytes"), (2, u "of"), (0, u "(Ljava/lang/String;)[B")] 6

def k9m0 : Method := { name := "<init>", desc := "()V", sig := { parameters := [], returnType := none }, accessFlags := 2, code := none }
def k9c1 : Code := { maxStack := 2, maxLocals := 1, code := prog_21_method_2_code, exceptionTable := #[], attributes := #[] }
def k9m1 : Method := { name := "of", desc := "(Ljava/lang/String;)[B", sig := { parameters := [(.object "java/lang/String")], returnType := some (.array .byte) }, accessFlags := 8, code := some k9c1 }
/-- com/example/sibyl/sibyl/core/KeyBytes -/
def k9 : Class := { plain "com/example/sibyl/sibyl/core/KeyBytes" (some 0) with
  accessFlags := 48
  interfaces := #[]
  cf := some (fileOf pool9 23 #[] #[{ accessFlags := 2, nameIndex := 5, descriptorIndex := 6, attributes := #[] }, { accessFlags := 8, nameIndex := 27, descriptorIndex := 28, attributes := #[] }] 48 2 #[] #[])
  fields := #[]
  methods := #[k9m0, k9m1]
  instanceTypes := #[]
  staticTypes := #[]
  resolved := Array.replicate 35 none
  statics := none }

def pool10 : Array CpInfo := pool [(2, .class_ 4), (1, u "java/lang/Object"), (0, u "<init>"), (0, u "()V"), (14, .class_ 23), (1, u "java/nio/charset/StandardCharsets"), (0, u "US_ASCII"), (0, u "Ljava/nio/charset/Charset;"), (7, u "ISO_8859_1"), (7, u "UTF_8"), (5, u "UTF_16BE"), (5, u "UTF_16LE"), (5, u "UTF_16")] 8

def k10m0 : Method := { name := "<init>", desc := "()V", sig := { parameters := [], returnType := none }, accessFlags := 2, code := none }
/-- java/nio/charset/StandardCharsets -/
def k10 : Class := { plain "java/nio/charset/StandardCharsets" (some 0) with
  accessFlags := 49
  interfaces := #[]
  cf := some (fileOf pool10 21 #[] #[{ accessFlags := 2, nameIndex := 5, descriptorIndex := 6, attributes := #[] }] 49 2 #[] #[{ accessFlags := 25, nameIndex := 24, descriptorIndex := 25, attributes := #[] }, { accessFlags := 25, nameIndex := 33, descriptorIndex := 25, attributes := #[] }, { accessFlags := 25, nameIndex := 41, descriptorIndex := 25, attributes := #[] }, { accessFlags := 25, nameIndex := 47, descriptorIndex := 25, attributes := #[] }, { accessFlags := 25, nameIndex := 53, descriptorIndex := 25, attributes := #[] }, { accessFlags := 25, nameIndex := 59, descriptorIndex := 25, attributes := #[] }])
  fields := #[{ name := "US_ASCII", type := (.object "java/nio/charset/Charset"), accessFlags := 25, slot := 0, constantValue := 0 }, { name := "ISO_8859_1", type := (.object "java/nio/charset/Charset"), accessFlags := 25, slot := 1, constantValue := 0 }, { name := "UTF_8", type := (.object "java/nio/charset/Charset"), accessFlags := 25, slot := 2, constantValue := 0 }, { name := "UTF_16BE", type := (.object "java/nio/charset/Charset"), accessFlags := 25, slot := 3, constantValue := 0 }, { name := "UTF_16LE", type := (.object "java/nio/charset/Charset"), accessFlags := 25, slot := 4, constantValue := 0 }, { name := "UTF_16", type := (.object "java/nio/charset/Charset"), accessFlags := 25, slot := 5, constantValue := 0 }]
  methods := #[k10m0]
  instanceTypes := #[]
  staticTypes := #[(.object "java/nio/charset/Charset"), (.object "java/nio/charset/Charset"), (.object "java/nio/charset/Charset"), (.object "java/nio/charset/Charset"), (.object "java/nio/charset/Charset"), (.object "java/nio/charset/Charset")]
  resolved := Array.replicate 68 none
  statics := some 2 }

def pool11 : Array CpInfo := pool [(18, .class_ 20), (1, u "java/nio/charset/Charset"), (0, u "cache1"), (0, u "[Ljava/lang/Object;"), (2, u "cache2"), (0, .class_ 27), (0, u "java/lang/Object"), (0, .class_ 29), (0, u "java/nio/charset/Charset$1"), (4, .class_ 36), (1, u "java/nio/charset/Charset$ThreadTrackHolder"), (21, .class_ 59), (0, u "java/nio/charset/Charset$2"), (11, .class_ 73), (1, u "java/nio/charset/Charset$ExtendedProviderHolder"), (22, u "standardProvider"), (0, u "Ljava/nio/charset/spi/CharsetProvider;"), (29, u "name"), (7, .class_ 136), (0, u "java/nio/charset/Charset$3"), (5, u "defaultCharset"), (0, u "Ljava/nio/charset/Charset;"), (14, u "zeroAliases"), (0, u "[Ljava/lang/String;"), (29, u "Ljava/lang/String;"), (2, u "aliases"), (2, u "aliasSet"), (0, u "Ljava/util/Set;"), (82, .class_ 280), (0, u "java/lang/Comparable"), (84, .class_ 366), (0, u "java/nio/charset/Charset$ExtendedProviderHolder$1")] 3

/-- java/nio/charset/Charset -/
def k11 : Class := { plain "java/nio/charset/Charset" (some 0) with
  accessFlags := 1057
  interfaces := #[3]
  cf := some (fileOf pool11 18 #[.nestMembers #[71, 365, 34, 135, 58, 28]] #[] 1057 26 #[279] #[{ accessFlags := 26, nameIndex := 96, descriptorIndex := 97, attributes := #[] }, { accessFlags := 26, nameIndex := 158, descriptorIndex := 159, attributes := #[] }, { accessFlags := 74, nameIndex := 21, descriptorIndex := 22, attributes := #[] }, { accessFlags := 74, nameIndex := 25, descriptorIndex := 22, attributes := #[] }, { accessFlags := 10, nameIndex := 142, descriptorIndex := 143, attributes := #[] }, { accessFlags := 18, nameIndex := 127, descriptorIndex := 189, attributes := #[] }, { accessFlags := 18, nameIndex := 192, descriptorIndex := 159, attributes := #[] }, { accessFlags := 2, nameIndex := 195, descriptorIndex := 196, attributes := #[] }])
  fields := #[{ name := "standardProvider", type := (.object "java/nio/charset/spi/CharsetProvider"), accessFlags := 26, slot := 0, constantValue := 0 }, { name := "zeroAliases", type := (.array (.object "java/lang/String")), accessFlags := 26, slot := 1, constantValue := 0 }, { name := "cache1", type := (.array (.object "java/lang/Object")), accessFlags := 74, slot := 2, constantValue := 0 }, { name := "cache2", type := (.array (.object "java/lang/Object")), accessFlags := 74, slot := 3, constantValue := 0 }, { name := "defaultCharset", type := (.object "java/nio/charset/Charset"), accessFlags := 10, slot := 4, constantValue := 0 }, { name := "name", type := (.object "java/lang/String"), accessFlags := 18, slot := 0, constantValue := 0 }, { name := "aliases", type := (.array (.object "java/lang/String")), accessFlags := 18, slot := 1, constantValue := 0 }, { name := "aliasSet", type := (.object "java/util/Set"), accessFlags := 2, slot := 2, constantValue := 0 }]
  methods := #[]
  instanceTypes := #[(.object "java/lang/String"), (.array (.object "java/lang/String")), (.object "java/util/Set")]
  staticTypes := #[(.object "java/nio/charset/spi/CharsetProvider"), (.array (.object "java/lang/String")), (.array (.object "java/lang/Object")), (.array (.object "java/lang/Object")), (.object "java/nio/charset/Charset")]
  resolved := Array.replicate 370 none
  statics := none }

def pool12 : Array CpInfo := pool [(1, .class_ 2), (0, u "sun/nio/cs/HistoricallyNamedCharset"), (0, .class_ 4), (0, u "java/lang/Object")] 4

/-- sun/nio/cs/HistoricallyNamedCharset -/
def k12 : Class := { plain "sun/nio/cs/HistoricallyNamedCharset" (some 0) with
  accessFlags := 1537
  interfaces := #[]
  cf := some (fileOf pool12 1 #[] #[] 1537 3 #[] #[])
  fields := #[]
  methods := #[]
  instanceTypes := #[]
  staticTypes := #[]
  resolved := Array.replicate 9 none
  statics := none }

def pool13 : Array CpInfo := pool [(2, .class_ 4), (1, u "java/nio/charset/Charset"), (130, .class_ 136), (0, u "sun/nio/cs/Unicode"), (0, .class_ 138), (0, u "sun/nio/cs/HistoricallyNamedCharset")] 15

/-- sun/nio/cs/Unicode -/
def k13 : Class := { plain "sun/nio/cs/Unicode" (some 11) with
  accessFlags := 1056
  interfaces := #[12]
  cf := some (fileOf pool13 135 #[] #[] 1056 2 #[137] #[])
  fields := #[]
  methods := #[]
  instanceTypes := #[(.object "java/lang/String"), (.array (.object "java/lang/String")), (.object "java/util/Set")]
  staticTypes := #[]
  resolved := Array.replicate 154 none
  statics := none }

def pool14 : Array CpInfo := pool [(10, .class_ 12), (1, u "sun/nio/cs/Unicode"), (0, u "<init>"), (3, .class_ 18), (0, u "sun/nio/cs/UTF_8$Decoder"), (3, .class_ 23), (0, u "sun/nio/cs/UTF_8$Encoder"), (15, .class_ 40), (0, u "sun/nio/cs/UTF_8"), (2, u "()V"), (2, u "INSTANCE"), (0, u "Lsun/nio/cs/UTF_8;"), (8, u "JLA"), (0, u "Ljdk/internal/access/JavaLangAccess;")] 26

def k14m0 : Method := { name := "<init>", desc := "()V", sig := { parameters := [], returnType := none }, accessFlags := 1, code := none }
/-- sun/nio/cs/UTF_8 -/
def k14 : Class := { plain "sun/nio/cs/UTF_8" (some 13) with
  accessFlags := 49
  interfaces := #[]
  cf := some (fileOf pool14 39 #[.nestMembers #[22, 17]] #[{ accessFlags := 1, nameIndex := 13, descriptorIndex := 43, attributes := #[] }] 49 10 #[] #[{ accessFlags := 25, nameIndex := 46, descriptorIndex := 47, attributes := #[] }, { accessFlags := 26, nameIndex := 56, descriptorIndex := 57, attributes := #[] }])
  fields := #[{ name := "INSTANCE", type := (.object "sun/nio/cs/UTF_8"), accessFlags := 25, slot := 0, constantValue := 0 }, { name := "JLA", type := (.object "jdk/internal/access/JavaLangAccess"), accessFlags := 26, slot := 1, constantValue := 0 }]
  methods := #[k14m0]
  instanceTypes := #[(.object "java/lang/String"), (.array (.object "java/lang/String")), (.object "java/util/Set")]
  staticTypes := #[(.object "sun/nio/cs/UTF_8"), (.object "jdk/internal/access/JavaLangAccess")]
  resolved := Array.replicate 84 none
  statics := some 3 }

def pool15 : Array CpInfo := pool [(2, .class_ 4), (1, u "java/lang/Object"), (0, u "<init>"), (0, u "()V"), (0, .methodref 8 9), (0, .class_ 10), (0, .nameAndType 11 12), (0, u "java/lang/StringCoding"), (0, u "countPositives"), (0, u "([BII)I"), (11, u "hasNegatives"), (0, u "([BII)Z")] 23

def k15m0 : Method := { name := "<init>", desc := "()V", sig := { parameters := [], returnType := none }, accessFlags := 2, code := none }
def k15c1 : Code := { maxStack := 3, maxLocals := 3, code := jdk_123_method_2_code, exceptionTable := #[], attributes := #[] }
def k15m1 : Method := { name := "hasNegatives", desc := "([BII)Z", sig := { parameters := [(.array .byte), .int, .int], returnType := some .boolean }, accessFlags := 9, code := some k15c1 }
def k15c2 : Code := { maxStack := 2, maxLocals := 5, code := jdk_123_method_3_code, exceptionTable := #[], attributes := #[] }
def k15m2 : Method := { name := "countPositives", desc := "([BII)I", sig := { parameters := [(.array .byte), .int, .int], returnType := some .int }, accessFlags := 9, code := some k15c2 }
/-- java/lang/StringCoding -/
def k15 : Class := { plain "java/lang/StringCoding" (some 0) with
  accessFlags := 32
  interfaces := #[]
  cf := some (fileOf pool15 8 #[] #[{ accessFlags := 2, nameIndex := 5, descriptorIndex := 6, attributes := #[] }, { accessFlags := 9, nameIndex := 24, descriptorIndex := 25, attributes := #[] }, { accessFlags := 9, nameIndex := 11, descriptorIndex := 12, attributes := #[] }] 32 2 #[] #[])
  fields := #[]
  methods := #[k15m0, k15m1, k15m2]
  instanceTypes := #[]
  staticTypes := #[]
  resolved := Array.replicate 49 none
  statics := none }

def pool16 : Array CpInfo := pool [(1, .class_ 2), (0, u "java/lang/Cloneable"), (0, .class_ 4), (0, u "java/lang/Object")] 2

/-- java/lang/Cloneable -/
def k16 : Class := { plain "java/lang/Cloneable" (some 0) with
  accessFlags := 1537
  interfaces := #[]
  cf := some (fileOf pool16 1 #[] #[] 1537 3 #[] #[])
  fields := #[]
  methods := #[]
  instanceTypes := #[]
  staticTypes := #[]
  resolved := Array.replicate 7 none
  statics := none }

def pool17 : Array CpInfo := pool [(1, .class_ 2), (0, u "java/lang/Character"), (18, u "value"), (0, u "C"), (19, .class_ 44), (1, u "java/lang/Object"), (3, .class_ 50), (1, u "java/lang/Character$CharacterCache"), (24, .integer 55296), (0, .integer 56320), (0, .integer 57344), (2, u "isHighSurrogate"), (0, u "(C)Z"), (2, u "isLowSurrogate"), (0, .integer 4238353408), (12, u "toCodePoint"), (0, u "(CC)I"), (184, u "$assertionsDisabled"), (0, u "Z"), (21, .class_ 309), (1, u "java/lang/Character$UnicodeBlock"), (73, u "TYPE"), (0, u "Ljava/lang/Class;"), (0, .class_ 386), (0, u "java/io/Serializable"), (0, .class_ 388), (0, u "java/lang/Comparable"), (0, .class_ 390), (0, u "java/lang/constant/Constable"), (0, u "MIN_RADIX"), (0, u "I"), (2, u "MAX_RADIX"), (1, u "MIN_VALUE"), (1, u "MAX_VALUE"), (3, u "UNASSIGNED"), (0, u "B"), (0, u "UPPERCASE_LETTER"), (1, u "LOWERCASE_LETTER"), (0, u "TITLECASE_LETTER"), (1, u "MODIFIER_LETTER"), (1, u "OTHER_LETTER"), (1, u "NON_SPACING_MARK"), (1, u "ENCLOSING_MARK"), (1, u "COMBINING_SPACING_MARK"), (1, u "DECIMAL_DIGIT_NUMBER"), (1, u "LETTER_NUMBER"), (1, u "OTHER_NUMBER"), (1, u "SPACE_SEPARATOR"), (1, u "LINE_SEPARATOR"), (1, u "PARAGRAPH_SEPARATOR"), (1, u "CONTROL"), (1, u "FORMAT"), (1, u "PRIVATE_USE"), (1, u "SURROGATE"), (1, u "DASH_PUNCTUATION"), (1, u "START_PUNCTUATION"), (1, u "END_PUNCTUATION"), (1, u "CONNECTOR_PUNCTUATION"), (1, u "OTHER_PUNCTUATION"), (1, u "MATH_SYMBOL"), (1, u "CURRENCY_SYMBOL"), (1, u "MODIFIER_SYMBOL"), (1, u "OTHER_SYMBOL"), (1, u "INITIAL_QUOTE_PUNCTUATION"), (1, u "FINAL_QUOTE_PUNCTUATION"), (1, u "ERROR"), (1, u "DIRECTIONALITY_UNDEFINED"), (0, u "DIRECTIONALITY_LEFT_TO_RIGHT"), (0, u "DIRECTIONALITY_RIGHT_TO_LEFT"), (0, u "DIRECTIONALITY_RIGHT_TO_LEFT_ARABIC"), (0, u "DIRECTIONALITY_EUROPEAN_NUMBER"), (0, u "DIRECTIONALITY_EUROPEAN_NUMBER_SEPARATOR"), (0, u "DIRECTIONALITY_EUROPEAN_NUMBER_TERMINATOR"), (0, u "DIRECTIONALITY_ARABIC_NUMBER"), (0, u "DIRECTIONALITY_COMMON_NUMBER_SEPARATOR"), (0, u "DIRECTIONALITY_NONSPACING_MARK"), (0, u "DIRECTIONALITY_BOUNDARY_NEUTRAL"), (0, u "DIRECTIONALITY_PARAGRAPH_SEPARATOR"), (0, u "DIRECTIONALITY_SEGMENT_SEPARATOR"), (0, u "DIRECTIONALITY_WHITESPACE"), (0, u "DIRECTIONALITY_OTHER_NEUTRALS"), (0, u "DIRECTIONALITY_LEFT_TO_RIGHT_EMBEDDING"), (0, u "DIRECTIONALITY_LEFT_TO_RIGHT_OVERRIDE"), (0, u "DIRECTIONALITY_RIGHT_TO_LEFT_EMBEDDING"), (0, u "DIRECTIONALITY_RIGHT_TO_LEFT_OVERRIDE"), (1, u "DIRECTIONALITY_POP_DIRECTIONAL_FORMAT"), (0, u "DIRECTIONALITY_LEFT_TO_RIGHT_ISOLATE"), (0, u "DIRECTIONALITY_RIGHT_TO_LEFT_ISOLATE"), (0, u "DIRECTIONALITY_FIRST_STRONG_ISOLATE"), (0, u "DIRECTIONALITY_POP_DIRECTIONAL_ISOLATE"), (0, u "MIN_HIGH_SURROGATE"), (0, u "MAX_HIGH_SURROGATE"), (1, u "MIN_LOW_SURROGATE"), (0, u "MAX_LOW_SURROGATE"), (1, u "MIN_SURROGATE"), (0, u "MAX_SURROGATE"), (0, u "MIN_SUPPLEMENTARY_CODE_POINT"), (0, u "MIN_CODE_POINT"), (0, u "MAX_CODE_POINT"), (1, u "serialVersionUID"), (0, u "J"), (2, u "SIZE"), (0, u "BYTES"), (24, u "isSurrogate"), (63, .class_ 596), (0, u "java/lang/Character$UnicodeScript"), (0, .class_ 598), (0, u "java/lang/Character$Subset")] 5

def k17c0 : Code := { maxStack := 2, maxLocals := 1, code := jdk_89_method_14_code, exceptionTable := #[], attributes := #[] }
def k17m0 : Method := { name := "isHighSurrogate", desc := "(C)Z", sig := { parameters := [.char], returnType := some .boolean }, accessFlags := 9, code := some k17c0 }
def k17c1 : Code := { maxStack := 2, maxLocals := 1, code := jdk_89_method_15_code, exceptionTable := #[], attributes := #[] }
def k17m1 : Method := { name := "isLowSurrogate", desc := "(C)Z", sig := { parameters := [.char], returnType := some .boolean }, accessFlags := 9, code := some k17c1 }
def k17c2 : Code := { maxStack := 2, maxLocals := 1, code := jdk_89_method_16_code, exceptionTable := #[], attributes := #[] }
def k17m2 : Method := { name := "isSurrogate", desc := "(C)Z", sig := { parameters := [.char], returnType := some .boolean }, accessFlags := 9, code := some k17c2 }
def k17c3 : Code := { maxStack := 2, maxLocals := 2, code := jdk_89_method_19_code, exceptionTable := #[], attributes := #[] }
def k17m3 : Method := { name := "toCodePoint", desc := "(CC)I", sig := { parameters := [.char, .char], returnType := some .int }, accessFlags := 9, code := some k17c3 }
/-- java/lang/Character -/
def k17 : Class := { plain "java/lang/Character" (some 0) with
  accessFlags := 49
  interfaces := #[2, 3, 5]
  cf := some (fileOf pool17 1 #[.nestMembers #[48, 595, 307, 597]] #[{ accessFlags := 9, nameIndex := 80, descriptorIndex := 81, attributes := #[] }, { accessFlags := 9, nameIndex := 84, descriptorIndex := 81, attributes := #[] }, { accessFlags := 9, nameIndex := 531, descriptorIndex := 81, attributes := #[] }, { accessFlags := 9, nameIndex := 98, descriptorIndex := 99, attributes := #[] }] 49 42 #[385, 387, 389] #[{ accessFlags := 25, nameIndex := 391, descriptorIndex := 392, attributes := #[] }, { accessFlags := 25, nameIndex := 395, descriptorIndex := 392, attributes := #[] }, { accessFlags := 25, nameIndex := 397, descriptorIndex := 22, attributes := #[] }, { accessFlags := 25, nameIndex := 399, descriptorIndex := 22, attributes := #[] }, { accessFlags := 25, nameIndex := 383, descriptorIndex := 384, attributes := #[] }, { accessFlags := 25, nameIndex := 403, descriptorIndex := 404, attributes := #[] }, { accessFlags := 25, nameIndex := 405, descriptorIndex := 404, attributes := #[] }, { accessFlags := 25, nameIndex := 407, descriptorIndex := 404, attributes := #[] }, { accessFlags := 25, nameIndex := 408, descriptorIndex := 404, attributes := #[] }, { accessFlags := 25, nameIndex := 410, descriptorIndex := 404, attributes := #[] }, { accessFlags := 25, nameIndex := 412, descriptorIndex := 404, attributes := #[] }, { accessFlags := 25, nameIndex := 414, descriptorIndex := 404, attributes := #[] }, { accessFlags := 25, nameIndex := 416, descriptorIndex := 404, attributes := #[] }, { accessFlags := 25, nameIndex := 418, descriptorIndex := 404, attributes := #[] }, { accessFlags := 25, nameIndex := 420, descriptorIndex := 404, attributes := #[] }, { accessFlags := 25, nameIndex := 422, descriptorIndex := 404, attributes := #[] }, { accessFlags := 25, nameIndex := 424, descriptorIndex := 404, attributes := #[] }, { accessFlags := 25, nameIndex := 426, descriptorIndex := 404, attributes := #[] }, { accessFlags := 25, nameIndex := 428, descriptorIndex := 404, attributes := #[] }, { accessFlags := 25, nameIndex := 430, descriptorIndex := 404, attributes := #[] }, { accessFlags := 25, nameIndex := 432, descriptorIndex := 404, attributes := #[] }, { accessFlags := 25, nameIndex := 434, descriptorIndex := 404, attributes := #[] }, { accessFlags := 25, nameIndex := 436, descriptorIndex := 404, attributes := #[] }, { accessFlags := 25, nameIndex := 438, descriptorIndex := 404, attributes := #[] }, { accessFlags := 25, nameIndex := 440, descriptorIndex := 404, attributes := #[] }, { accessFlags := 25, nameIndex := 442, descriptorIndex := 404, attributes := #[] }, { accessFlags := 25, nameIndex := 444, descriptorIndex := 404, attributes := #[] }, { accessFlags := 25, nameIndex := 446, descriptorIndex := 404, attributes := #[] }, { accessFlags := 25, nameIndex := 448, descriptorIndex := 404, attributes := #[] }, { accessFlags := 25, nameIndex := 450, descriptorIndex := 404, attributes := #[] }, { accessFlags := 25, nameIndex := 452, descriptorIndex := 404, attributes := #[] }, { accessFlags := 25, nameIndex := 454, descriptorIndex := 404, attributes := #[] }, { accessFlags := 25, nameIndex := 456, descriptorIndex := 404, attributes := #[] }, { accessFlags := 25, nameIndex := 458, descriptorIndex := 404, attributes := #[] }, { accessFlags := 25, nameIndex := 460, descriptorIndex := 404, attributes := #[] }, { accessFlags := 24, nameIndex := 462, descriptorIndex := 392, attributes := #[] }, { accessFlags := 25, nameIndex := 464, descriptorIndex := 404, attributes := #[] }, { accessFlags := 25, nameIndex := 465, descriptorIndex := 404, attributes := #[] }, { accessFlags := 25, nameIndex := 466, descriptorIndex := 404, attributes := #[] }, { accessFlags := 25, nameIndex := 467, descriptorIndex := 404, attributes := #[] }, { accessFlags := 25, nameIndex := 468, descriptorIndex := 404, attributes := #[] }, { accessFlags := 25, nameIndex := 469, descriptorIndex := 404, attributes := #[] }, { accessFlags := 25, nameIndex := 470, descriptorIndex := 404, attributes := #[] }, { accessFlags := 25, nameIndex := 471, descriptorIndex := 404, attributes := #[] }, { accessFlags := 25, nameIndex := 472, descriptorIndex := 404, attributes := #[] }, { accessFlags := 25, nameIndex := 473, descriptorIndex := 404, attributes := #[] }, { accessFlags := 25, nameIndex := 474, descriptorIndex := 404, attributes := #[] }, { accessFlags := 25, nameIndex := 475, descriptorIndex := 404, attributes := #[] }, { accessFlags := 25, nameIndex := 476, descriptorIndex := 404, attributes := #[] }, { accessFlags := 25, nameIndex := 477, descriptorIndex := 404, attributes := #[] }, { accessFlags := 25, nameIndex := 478, descriptorIndex := 404, attributes := #[] }, { accessFlags := 25, nameIndex := 479, descriptorIndex := 404, attributes := #[] }, { accessFlags := 25, nameIndex := 480, descriptorIndex := 404, attributes := #[] }, { accessFlags := 25, nameIndex := 481, descriptorIndex := 404, attributes := #[] }, { accessFlags := 25, nameIndex := 482, descriptorIndex := 404, attributes := #[] }, { accessFlags := 25, nameIndex := 484, descriptorIndex := 404, attributes := #[] }, { accessFlags := 25, nameIndex := 485, descriptorIndex := 404, attributes := #[] }, { accessFlags := 25, nameIndex := 486, descriptorIndex := 404, attributes := #[] }, { accessFlags := 25, nameIndex := 487, descriptorIndex := 404, attributes := #[] }, { accessFlags := 25, nameIndex := 488, descriptorIndex := 404, attributes := #[] }, { accessFlags := 25, nameIndex := 489, descriptorIndex := 22, attributes := #[] }, { accessFlags := 25, nameIndex := 490, descriptorIndex := 22, attributes := #[] }, { accessFlags := 25, nameIndex := 492, descriptorIndex := 22, attributes := #[] }, { accessFlags := 25, nameIndex := 493, descriptorIndex := 22, attributes := #[] }, { accessFlags := 25, nameIndex := 495, descriptorIndex := 22, attributes := #[] }, { accessFlags := 25, nameIndex := 496, descriptorIndex := 22, attributes := #[] }, { accessFlags := 25, nameIndex := 497, descriptorIndex := 392, attributes := #[] }, { accessFlags := 25, nameIndex := 498, descriptorIndex := 392, attributes := #[] }, { accessFlags := 25, nameIndex := 499, descriptorIndex := 392, attributes := #[] }, { accessFlags := 18, nameIndex := 21, descriptorIndex := 22, attributes := #[] }, { accessFlags := 26, nameIndex := 501, descriptorIndex := 502, attributes := #[] }, { accessFlags := 25, nameIndex := 505, descriptorIndex := 392, attributes := #[] }, { accessFlags := 25, nameIndex := 506, descriptorIndex := 392, attributes := #[] }, { accessFlags := 4120, nameIndex := 284, descriptorIndex := 285, attributes := #[] }])
  fields := #[{ name := "MIN_RADIX", type := .int, accessFlags := 25, slot := 0, constantValue := 0 }, { name := "MAX_RADIX", type := .int, accessFlags := 25, slot := 1, constantValue := 0 }, { name := "MIN_VALUE", type := .char, accessFlags := 25, slot := 2, constantValue := 0 }, { name := "MAX_VALUE", type := .char, accessFlags := 25, slot := 3, constantValue := 0 }, { name := "TYPE", type := (.object "java/lang/Class"), accessFlags := 25, slot := 4, constantValue := 0 }, { name := "UNASSIGNED", type := .byte, accessFlags := 25, slot := 5, constantValue := 0 }, { name := "UPPERCASE_LETTER", type := .byte, accessFlags := 25, slot := 6, constantValue := 0 }, { name := "LOWERCASE_LETTER", type := .byte, accessFlags := 25, slot := 7, constantValue := 0 }, { name := "TITLECASE_LETTER", type := .byte, accessFlags := 25, slot := 8, constantValue := 0 }, { name := "MODIFIER_LETTER", type := .byte, accessFlags := 25, slot := 9, constantValue := 0 }, { name := "OTHER_LETTER", type := .byte, accessFlags := 25, slot := 10, constantValue := 0 }, { name := "NON_SPACING_MARK", type := .byte, accessFlags := 25, slot := 11, constantValue := 0 }, { name := "ENCLOSING_MARK", type := .byte, accessFlags := 25, slot := 12, constantValue := 0 }, { name := "COMBINING_SPACING_MARK", type := .byte, accessFlags := 25, slot := 13, constantValue := 0 }, { name := "DECIMAL_DIGIT_NUMBER", type := .byte, accessFlags := 25, slot := 14, constantValue := 0 }, { name := "LETTER_NUMBER", type := .byte, accessFlags := 25, slot := 15, constantValue := 0 }, { name := "OTHER_NUMBER", type := .byte, accessFlags := 25, slot := 16, constantValue := 0 }, { name := "SPACE_SEPARATOR", type := .byte, accessFlags := 25, slot := 17, constantValue := 0 }, { name := "LINE_SEPARATOR", type := .byte, accessFlags := 25, slot := 18, constantValue := 0 }, { name := "PARAGRAPH_SEPARATOR", type := .byte, accessFlags := 25, slot := 19, constantValue := 0 }, { name := "CONTROL", type := .byte, accessFlags := 25, slot := 20, constantValue := 0 }, { name := "FORMAT", type := .byte, accessFlags := 25, slot := 21, constantValue := 0 }, { name := "PRIVATE_USE", type := .byte, accessFlags := 25, slot := 22, constantValue := 0 }, { name := "SURROGATE", type := .byte, accessFlags := 25, slot := 23, constantValue := 0 }, { name := "DASH_PUNCTUATION", type := .byte, accessFlags := 25, slot := 24, constantValue := 0 }, { name := "START_PUNCTUATION", type := .byte, accessFlags := 25, slot := 25, constantValue := 0 }, { name := "END_PUNCTUATION", type := .byte, accessFlags := 25, slot := 26, constantValue := 0 }, { name := "CONNECTOR_PUNCTUATION", type := .byte, accessFlags := 25, slot := 27, constantValue := 0 }, { name := "OTHER_PUNCTUATION", type := .byte, accessFlags := 25, slot := 28, constantValue := 0 }, { name := "MATH_SYMBOL", type := .byte, accessFlags := 25, slot := 29, constantValue := 0 }, { name := "CURRENCY_SYMBOL", type := .byte, accessFlags := 25, slot := 30, constantValue := 0 }, { name := "MODIFIER_SYMBOL", type := .byte, accessFlags := 25, slot := 31, constantValue := 0 }, { name := "OTHER_SYMBOL", type := .byte, accessFlags := 25, slot := 32, constantValue := 0 }, { name := "INITIAL_QUOTE_PUNCTUATION", type := .byte, accessFlags := 25, slot := 33, constantValue := 0 }, { name := "FINAL_QUOTE_PUNCTUATION", type := .byte, accessFlags := 25, slot := 34, constantValue := 0 }, { name := "ERROR", type := .int, accessFlags := 24, slot := 35, constantValue := 0 }, { name := "DIRECTIONALITY_UNDEFINED", type := .byte, accessFlags := 25, slot := 36, constantValue := 0 }, { name := "DIRECTIONALITY_LEFT_TO_RIGHT", type := .byte, accessFlags := 25, slot := 37, constantValue := 0 }, { name := "DIRECTIONALITY_RIGHT_TO_LEFT", type := .byte, accessFlags := 25, slot := 38, constantValue := 0 }, { name := "DIRECTIONALITY_RIGHT_TO_LEFT_ARABIC", type := .byte, accessFlags := 25, slot := 39, constantValue := 0 }, { name := "DIRECTIONALITY_EUROPEAN_NUMBER", type := .byte, accessFlags := 25, slot := 40, constantValue := 0 }, { name := "DIRECTIONALITY_EUROPEAN_NUMBER_SEPARATOR", type := .byte, accessFlags := 25, slot := 41, constantValue := 0 }, { name := "DIRECTIONALITY_EUROPEAN_NUMBER_TERMINATOR", type := .byte, accessFlags := 25, slot := 42, constantValue := 0 }, { name := "DIRECTIONALITY_ARABIC_NUMBER", type := .byte, accessFlags := 25, slot := 43, constantValue := 0 }, { name := "DIRECTIONALITY_COMMON_NUMBER_SEPARATOR", type := .byte, accessFlags := 25, slot := 44, constantValue := 0 }, { name := "DIRECTIONALITY_NONSPACING_MARK", type := .byte, accessFlags := 25, slot := 45, constantValue := 0 }, { name := "DIRECTIONALITY_BOUNDARY_NEUTRAL", type := .byte, accessFlags := 25, slot := 46, constantValue := 0 }, { name := "DIRECTIONALITY_PARAGRAPH_SEPARATOR", type := .byte, accessFlags := 25, slot := 47, constantValue := 0 }, { name := "DIRECTIONALITY_SEGMENT_SEPARATOR", type := .byte, accessFlags := 25, slot := 48, constantValue := 0 }, { name := "DIRECTIONALITY_WHITESPACE", type := .byte, accessFlags := 25, slot := 49, constantValue := 0 }, { name := "DIRECTIONALITY_OTHER_NEUTRALS", type := .byte, accessFlags := 25, slot := 50, constantValue := 0 }, { name := "DIRECTIONALITY_LEFT_TO_RIGHT_EMBEDDING", type := .byte, accessFlags := 25, slot := 51, constantValue := 0 }, { name := "DIRECTIONALITY_LEFT_TO_RIGHT_OVERRIDE", type := .byte, accessFlags := 25, slot := 52, constantValue := 0 }, { name := "DIRECTIONALITY_RIGHT_TO_LEFT_EMBEDDING", type := .byte, accessFlags := 25, slot := 53, constantValue := 0 }, { name := "DIRECTIONALITY_RIGHT_TO_LEFT_OVERRIDE", type := .byte, accessFlags := 25, slot := 54, constantValue := 0 }, { name := "DIRECTIONALITY_POP_DIRECTIONAL_FORMAT", type := .byte, accessFlags := 25, slot := 55, constantValue := 0 }, { name := "DIRECTIONALITY_LEFT_TO_RIGHT_ISOLATE", type := .byte, accessFlags := 25, slot := 56, constantValue := 0 }, { name := "DIRECTIONALITY_RIGHT_TO_LEFT_ISOLATE", type := .byte, accessFlags := 25, slot := 57, constantValue := 0 }, { name := "DIRECTIONALITY_FIRST_STRONG_ISOLATE", type := .byte, accessFlags := 25, slot := 58, constantValue := 0 }, { name := "DIRECTIONALITY_POP_DIRECTIONAL_ISOLATE", type := .byte, accessFlags := 25, slot := 59, constantValue := 0 }, { name := "MIN_HIGH_SURROGATE", type := .char, accessFlags := 25, slot := 60, constantValue := 0 }, { name := "MAX_HIGH_SURROGATE", type := .char, accessFlags := 25, slot := 61, constantValue := 0 }, { name := "MIN_LOW_SURROGATE", type := .char, accessFlags := 25, slot := 62, constantValue := 0 }, { name := "MAX_LOW_SURROGATE", type := .char, accessFlags := 25, slot := 63, constantValue := 0 }, { name := "MIN_SURROGATE", type := .char, accessFlags := 25, slot := 64, constantValue := 0 }, { name := "MAX_SURROGATE", type := .char, accessFlags := 25, slot := 65, constantValue := 0 }, { name := "MIN_SUPPLEMENTARY_CODE_POINT", type := .int, accessFlags := 25, slot := 66, constantValue := 0 }, { name := "MIN_CODE_POINT", type := .int, accessFlags := 25, slot := 67, constantValue := 0 }, { name := "MAX_CODE_POINT", type := .int, accessFlags := 25, slot := 68, constantValue := 0 }, { name := "value", type := .char, accessFlags := 18, slot := 0, constantValue := 0 }, { name := "serialVersionUID", type := .long, accessFlags := 26, slot := 69, constantValue := 0 }, { name := "SIZE", type := .int, accessFlags := 25, slot := 70, constantValue := 0 }, { name := "BYTES", type := .int, accessFlags := 25, slot := 71, constantValue := 0 }, { name := "$assertionsDisabled", type := .boolean, accessFlags := 4120, slot := 72, constantValue := 0 }]
  methods := #[k17m0, k17m1, k17m2, k17m3]
  instanceTypes := #[.char]
  staticTypes := #[.int, .int, .char, .char, (.object "java/lang/Class"), .byte, .byte, .byte, .byte, .byte, .byte, .byte, .byte, .byte, .byte, .byte, .byte, .byte, .byte, .byte, .byte, .byte, .byte, .byte, .byte, .byte, .byte, .byte, .byte, .byte, .byte, .byte, .byte, .byte, .byte, .int, .byte, .byte, .byte, .byte, .byte, .byte, .byte, .byte, .byte, .byte, .byte, .byte, .byte, .byte, .byte, .byte, .byte, .byte, .byte, .byte, .byte, .byte, .byte, .byte, .char, .char, .char, .char, .char, .char, .int, .int, .int, .long, .int, .int, .boolean]
  resolved := Array.replicate 604 none
  statics := none }

def pool18 : Array CpInfo := pool [(2, .class_ 4), (1, u "java/lang/Object"), (0, u "<init>"), (0, u "()V"), (7, .class_ 16), (1, u "java/util/Arrays"), (57, .class_ 76), (1, u "java/util/Arrays$NaturalOrder"), (36, .class_ 115), (1, u "java/util/Arrays$LegacyMergeSort"), (1, u "Z"), (32, .methodref 151 152), (0, .class_ 153), (0, .nameAndType 154 155), (0, u "java/lang/System"), (0, u "arraycopy"), (0, u "(Ljava/lang/Object;ILjava/lang/Object;II)V"), (146, u "copyOf"), (1, .methodref 305 306), (0, .class_ 307), (0, .nameAndType 308 309), (0, u "java/lang/Math"), (0, u "min"), (0, u "(II)I"), (65, .class_ 376), (0, u "java/util/Arrays$ArrayList"), (68, u "$assertionsDisabled"), (269, u "MIN_ARRAY_SORT_GRAN"), (0, u "I"), (2, u "INSERTIONSORT_THRESHOLD"), (149, u "([BI)[B"), (105, .class_ 976), (0, u "java/util/Arrays$ArrayItr")] 52

def k18m0 : Method := { name := "<init>", desc := "()V", sig := { parameters := [], returnType := none }, accessFlags := 2, code := none }
def k18c1 : Code := { maxStack := 6, maxLocals := 3, code := jdk_65_method_121_code, exceptionTable := #[], attributes := #[] }
def k18m1 : Method := { name := "copyOf", desc := "([BI)[B", sig := { parameters := [(.array .byte), .int], returnType := some (.array .byte) }, accessFlags := 9, code := some k18c1 }
/-- java/util/Arrays -/
def k18 : Class := { plain "java/util/Arrays" (some 0) with
  accessFlags := 49
  interfaces := #[]
  cf := some (fileOf pool18 14 #[.nestMembers #[975, 375, 113, 74]] #[{ accessFlags := 2, nameIndex := 5, descriptorIndex := 6, attributes := #[] }, { accessFlags := 9, nameIndex := 302, descriptorIndex := 869, attributes := #[] }] 49 2 #[] #[{ accessFlags := 26, nameIndex := 715, descriptorIndex := 716, attributes := #[] }, { accessFlags := 26, nameIndex := 719, descriptorIndex := 716, attributes := #[] }, { accessFlags := 4120, nameIndex := 445, descriptorIndex := 117, attributes := #[] }])
  fields := #[{ name := "MIN_ARRAY_SORT_GRAN", type := .int, accessFlags := 26, slot := 0, constantValue := 0 }, { name := "INSERTIONSORT_THRESHOLD", type := .int, accessFlags := 26, slot := 1, constantValue := 0 }, { name := "$assertionsDisabled", type := .boolean, accessFlags := 4120, slot := 2, constantValue := 0 }]
  methods := #[k18m0, k18m1]
  instanceTypes := #[]
  staticTypes := #[.int, .int, .boolean]
  resolved := Array.replicate 1029 none
  statics := none }

def pool19 : Array CpInfo := pool [(1, .class_ 2), (0, u "java/lang/Math"), (1, .class_ 6), (1, u "java/lang/Object"), (0, u "<init>"), (0, u "()V"), (89, .class_ 100), (1, u "java/lang/Math$RandomNumberGeneratorHolder"), (71, u "negativeZeroFloatBits"), (0, u "J"), (2, u "negativeZeroDoubleBits"), (24, u "min"), (43, u "$assertionsDisabled"), (0, u "Z"), (88, u "(II)I"), (2, u "twoToTheDoubleScaleDown"), (0, u "D"), (4, u "twoToTheDoubleScaleUp"), (9, u "E"), (3, u "PI"), (2, u "TAU"), (2, u "DEGREES_TO_RADIANS"), (0, u "RADIANS_TO_DEGREES")] 94

def k19m0 : Method := { name := "<init>", desc := "()V", sig := { parameters := [], returnType := none }, accessFlags := 2, code := none }
def k19c1 : Code := { maxStack := 2, maxLocals := 2, code := jdk_29_method_69_code, exceptionTable := #[], attributes := #[] }
def k19m1 : Method := { name := "min", desc := "(II)I", sig := { parameters := [.int, .int], returnType := some .int }, accessFlags := 9, code := some k19c1 }
/-- java/lang/Math -/
def k19 : Class := { plain "java/lang/Math" (some 0) with
  accessFlags := 49
  interfaces := #[]
  cf := some (fileOf pool19 1 #[.nestMembers #[98]] #[{ accessFlags := 2, nameIndex := 7, descriptorIndex := 8, attributes := #[] }, { accessFlags := 9, nameIndex := 201, descriptorIndex := 335, attributes := #[] }] 49 4 #[] #[{ accessFlags := 25, nameIndex := 354, descriptorIndex := 339, attributes := #[] }, { accessFlags := 25, nameIndex := 358, descriptorIndex := 339, attributes := #[] }, { accessFlags := 25, nameIndex := 361, descriptorIndex := 339, attributes := #[] }, { accessFlags := 26, nameIndex := 364, descriptorIndex := 339, attributes := #[] }, { accessFlags := 26, nameIndex := 365, descriptorIndex := 339, attributes := #[] }, { accessFlags := 26, nameIndex := 172, descriptorIndex := 173, attributes := #[] }, { accessFlags := 26, nameIndex := 176, descriptorIndex := 173, attributes := #[] }, { accessFlags := 8, nameIndex := 344, descriptorIndex := 339, attributes := #[] }, { accessFlags := 8, nameIndex := 338, descriptorIndex := 339, attributes := #[] }, { accessFlags := 4120, nameIndex := 245, descriptorIndex := 246, attributes := #[] }])
  fields := #[{ name := "E", type := .double, accessFlags := 25, slot := 0, constantValue := 0 }, { name := "PI", type := .double, accessFlags := 25, slot := 1, constantValue := 0 }, { name := "TAU", type := .double, accessFlags := 25, slot := 2, constantValue := 0 }, { name := "DEGREES_TO_RADIANS", type := .double, accessFlags := 26, slot := 3, constantValue := 0 }, { name := "RADIANS_TO_DEGREES", type := .double, accessFlags := 26, slot := 4, constantValue := 0 }, { name := "negativeZeroFloatBits", type := .long, accessFlags := 26, slot := 5, constantValue := 0 }, { name := "negativeZeroDoubleBits", type := .long, accessFlags := 26, slot := 6, constantValue := 0 }, { name := "twoToTheDoubleScaleUp", type := .double, accessFlags := 8, slot := 7, constantValue := 0 }, { name := "twoToTheDoubleScaleDown", type := .double, accessFlags := 8, slot := 8, constantValue := 0 }, { name := "$assertionsDisabled", type := .boolean, accessFlags := 4120, slot := 9, constantValue := 0 }]
  methods := #[k19m0, k19m1]
  instanceTypes := #[]
  staticTypes := #[.double, .double, .double, .double, .double, .long, .long, .double, .double, .boolean]
  resolved := Array.replicate 460 none
  statics := none }

def pool20 : Array CpInfo := pool [(2, .class_ 4), (1, u "java/lang/Object"), (0, u "<init>"), (0, u "()V"), (1, .class_ 10), (1, u "java/lang/System"), (0, u "allowSecurityManager"), (0, u "I"), (16, u "cons"), (0, u "Ljava/io/Console;"), (77, .class_ 110), (1, u "java/lang/System$CallersHolder"), (43, u "initialErrStream"), (0, u "Ljava/io/PrintStream;"), (19, u "security"), (0, u "Ljava/lang/SecurityManager;"), (31, .class_ 209), (0, u "java/lang/System$1"), (7, u "props"), (0, u "Ljava/util/Properties;"), (2, u "lineSeparator"), (0, u "Ljava/lang/String;"), (96, .class_ 321), (1, u "java/lang/System$LoggerFinder"), (5, .class_ 328), (0, u "java/lang/System$Logger"), (67, u "err"), (2, u "out"), (91, u "notSupportedJnuEncoding"), (15, u "in"), (17, u "initialIn"), (0, u "Ljava/io/InputStream;"), (35, u "bootLayer"), (0, u "Ljava/lang/ModuleLayer;"), (99, .class_ 664), (0, u "java/lang/System$2"), (9, u "NEVER"), (2, u "MAYBE"), (49, u "arraycopy"), (0, u "(Ljava/lang/Object;ILjava/lang/Object;II)V"), (72, .class_ 802), (0, u "java/lang/System$Logger$Level")] 31

def k20m0 : Method := { name := "<init>", desc := "()V", sig := { parameters := [], returnType := none }, accessFlags := 2, code := none }
def k20m1 : Method := { name := "arraycopy", desc := "(Ljava/lang/Object;ILjava/lang/Object;II)V", sig := { parameters := [(.object "java/lang/Object"), .int, (.object "java/lang/Object"), .int, .int], returnType := none }, accessFlags := 265, code := none }
/-- java/lang/System -/
def k20 : Class := { plain "java/lang/System" (some 0) with
  accessFlags := 49
  interfaces := #[]
  cf := some (fileOf pool20 8 #[.nestMembers #[319, 327, 801, 108, 663, 208]] #[{ accessFlags := 2, nameIndex := 5, descriptorIndex := 6, attributes := #[] }, { accessFlags := 265, nameIndex := 727, descriptorIndex := 728, attributes := #[] }] 49 2 #[] #[{ accessFlags := 25, nameIndex := 507, descriptorIndex := 526, attributes := #[] }, { accessFlags := 25, nameIndex := 399, descriptorIndex := 155, attributes := #[] }, { accessFlags := 25, nameIndex := 396, descriptorIndex := 155, attributes := #[] }, { accessFlags := 10, nameIndex := 525, descriptorIndex := 526, attributes := #[] }, { accessFlags := 26, nameIndex := 674, descriptorIndex := 12, attributes := #[] }, { accessFlags := 26, nameIndex := 677, descriptorIndex := 12, attributes := #[] }, { accessFlags := 10, nameIndex := 11, descriptorIndex := 12, attributes := #[] }, { accessFlags := 74, nameIndex := 175, descriptorIndex := 176, attributes := #[] }, { accessFlags := 10, nameIndex := 491, descriptorIndex := 222, attributes := #[] }, { accessFlags := 74, nameIndex := 29, descriptorIndex := 30, attributes := #[] }, { accessFlags := 74, nameIndex := 154, descriptorIndex := 155, attributes := #[] }, { accessFlags := 10, nameIndex := 217, descriptorIndex := 218, attributes := #[] }, { accessFlags := 10, nameIndex := 221, descriptorIndex := 222, attributes := #[] }, { accessFlags := 8, nameIndex := 562, descriptorIndex := 563, attributes := #[] }])
  fields := #[{ name := "in", type := (.object "java/io/InputStream"), accessFlags := 25, slot := 0, constantValue := 0 }, { name := "out", type := (.object "java/io/PrintStream"), accessFlags := 25, slot := 1, constantValue := 0 }, { name := "err", type := (.object "java/io/PrintStream"), accessFlags := 25, slot := 2, constantValue := 0 }, { name := "initialIn", type := (.object "java/io/InputStream"), accessFlags := 10, slot := 3, constantValue := 0 }, { name := "NEVER", type := .int, accessFlags := 26, slot := 4, constantValue := 0 }, { name := "MAYBE", type := .int, accessFlags := 26, slot := 5, constantValue := 0 }, { name := "allowSecurityManager", type := .int, accessFlags := 10, slot := 6, constantValue := 0 }, { name := "security", type := (.object "java/lang/SecurityManager"), accessFlags := 74, slot := 7, constantValue := 0 }, { name := "notSupportedJnuEncoding", type := (.object "java/lang/String"), accessFlags := 10, slot := 8, constantValue := 0 }, { name := "cons", type := (.object "java/io/Console"), accessFlags := 74, slot := 9, constantValue := 0 }, { name := "initialErrStream", type := (.object "java/io/PrintStream"), accessFlags := 74, slot := 10, constantValue := 0 }, { name := "props", type := (.object "java/util/Properties"), accessFlags := 10, slot := 11, constantValue := 0 }, { name := "lineSeparator", type := (.object "java/lang/String"), accessFlags := 10, slot := 12, constantValue := 0 }, { name := "bootLayer", type := (.object "java/lang/ModuleLayer"), accessFlags := 8, slot := 13, constantValue := 0 }]
  methods := #[k20m0, k20m1]
  instanceTypes := #[]
  staticTypes := #[(.object "java/io/InputStream"), (.object "java/io/PrintStream"), (.object "java/io/PrintStream"), (.object "java/io/InputStream"), .int, .int, .int, (.object "java/lang/SecurityManager"), (.object "java/lang/String"), (.object "java/io/Console"), (.object "java/io/PrintStream"), (.object "java/util/Properties"), (.object "java/lang/String"), (.object "java/lang/ModuleLayer")]
  resolved := Array.replicate 834 none
  statics := none }

def pool21 : Array CpInfo := pool [(4, .class_ 6), (1, u "java/lang/Object"), (0, u "<init>"), (0, u "()V"), (5, .class_ 16), (1, u "java/lang/StringLatin1"), (104, u "$assertionsDisabled"), (0, u "Z"), (98, .class_ 223), (1, u "java/lang/StringLatin1$LinesSpliterator"), (166, .class_ 391), (0, u "java/lang/StringLatin1$CharsSpliterator")] 3

def k21m0 : Method := { name := "<init>", desc := "()V", sig := { parameters := [], returnType := none }, accessFlags := 0, code := none }
/-- java/lang/StringLatin1 -/
def k21 : Class := { plain "java/lang/StringLatin1" (some 0) with
  accessFlags := 48
  interfaces := #[]
  cf := some (fileOf pool21 14 #[.nestMembers #[390, 221]] #[{ accessFlags := 0, nameIndex := 7, descriptorIndex := 8, attributes := #[] }] 48 4 #[] #[{ accessFlags := 4120, nameIndex := 121, descriptorIndex := 122, attributes := #[] }])
  fields := #[{ name := "$assertionsDisabled", type := .boolean, accessFlags := 4120, slot := 0, constantValue := 0 }]
  methods := #[k21m0]
  instanceTypes := #[]
  staticTypes := #[.boolean]
  resolved := Array.replicate 395 none
  statics := none }

def pool22 : Array CpInfo := pool [(2, .class_ 4), (1, u "java/lang/Object"), (0, u "<init>"), (0, u "()V"), (17, .class_ 26), (1, u "jdk/internal/util/Preconditions"), (28, .class_ 56), (0, u "jdk/internal/util/Preconditions$4"), (57, .class_ 115), (0, u "jdk/internal/util/Preconditions$1"), (7, u "SIOOBE_FORMATTER"), (0, u "Ljava/util/function/BiFunction;"), (0, .class_ 126), (0, u "jdk/internal/util/Preconditions$2"), (3, u "AIOOBE_FORMATTER"), (0, .class_ 132), (0, u "jdk/internal/util/Preconditions$3"), (3, u "IOOBE_FORMATTER")] 57

def k22m0 : Method := { name := "<init>", desc := "()V", sig := { parameters := [], returnType := none }, accessFlags := 1, code := none }
/-- jdk/internal/util/Preconditions -/
def k22 : Class := { plain "jdk/internal/util/Preconditions" (some 0) with
  accessFlags := 33
  interfaces := #[]
  cf := some (fileOf pool22 24 #[.nestMembers #[55, 131, 125, 114]] #[{ accessFlags := 1, nameIndex := 5, descriptorIndex := 6, attributes := #[] }] 33 2 #[] #[{ accessFlags := 25, nameIndex := 123, descriptorIndex := 124, attributes := #[] }, { accessFlags := 25, nameIndex := 130, descriptorIndex := 124, attributes := #[] }, { accessFlags := 25, nameIndex := 136, descriptorIndex := 124, attributes := #[] }])
  fields := #[{ name := "SIOOBE_FORMATTER", type := (.object "java/util/function/BiFunction"), accessFlags := 25, slot := 0, constantValue := 0 }, { name := "AIOOBE_FORMATTER", type := (.object "java/util/function/BiFunction"), accessFlags := 25, slot := 1, constantValue := 0 }, { name := "IOOBE_FORMATTER", type := (.object "java/util/function/BiFunction"), accessFlags := 25, slot := 2, constantValue := 0 }]
  methods := #[k22m0]
  instanceTypes := #[]
  staticTypes := #[(.object "java/util/function/BiFunction"), (.object "java/util/function/BiFunction"), (.object "java/util/function/BiFunction")]
  resolved := Array.replicate 194 none
  statics := some 4 }

def pool23 : Array CpInfo := pool [(9, u "<init>"), (6, .class_ 18), (1, u "java/lang/Object"), (0, u "()V"), (1, .class_ 23), (1, u "jdk/internal/util/ArraysSupport"), (0, u "LOG2_ARRAY_LONG_INDEX_SCALE"), (0, u "I"), (2, u "U"), (0, u "Ljdk/internal/misc/Unsafe;"), (8, u "BIG_ENDIAN"), (0, u "Z"), (8, u "LOG2_BYTE_BIT_SIZE"), (4, u "LOG2_ARRAY_INT_INDEX_SCALE"), (54, u "JLA"), (0, u "Ljdk/internal/access/JavaLangAccess;"), (11, u "LOG2_ARRAY_BOOLEAN_INDEX_SCALE"), (9, u "LOG2_ARRAY_BYTE_INDEX_SCALE"), (5, u "LOG2_ARRAY_CHAR_INDEX_SCALE"), (5, u "LOG2_ARRAY_SHORT_INDEX_SCALE"), (18, u "LOG2_ARRAY_FLOAT_INDEX_SCALE"), (24, u "LOG2_ARRAY_DOUBLE_INDEX_SCALE"), (89, u "T_BOOLEAN"), (2, u "T_CHAR"), (1, u "T_FLOAT"), (1, u "T_DOUBLE"), (1, u "T_BYTE"), (1, u "T_SHORT"), (1, u "T_INT"), (1, u "T_LONG"), (1, u "SOFT_MAX_ARRAY_LENGTH")] 83

def k23m0 : Method := { name := "<init>", desc := "()V", sig := { parameters := [], returnType := none }, accessFlags := 2, code := none }
/-- jdk/internal/util/ArraysSupport -/
def k23 : Class := { plain "jdk/internal/util/ArraysSupport" (some 0) with
  accessFlags := 33
  interfaces := #[]
  cf := some (fileOf pool23 21 #[] #[{ accessFlags := 2, nameIndex := 9, descriptorIndex := 19, attributes := #[] }] 33 16 #[] #[{ accessFlags := 24, nameIndex := 28, descriptorIndex := 29, attributes := #[] }, { accessFlags := 26, nameIndex := 38, descriptorIndex := 39, attributes := #[] }, { accessFlags := 25, nameIndex := 121, descriptorIndex := 25, attributes := #[] }, { accessFlags := 25, nameIndex := 131, descriptorIndex := 25, attributes := #[] }, { accessFlags := 25, nameIndex := 137, descriptorIndex := 25, attributes := #[] }, { accessFlags := 25, nameIndex := 143, descriptorIndex := 25, attributes := #[] }, { accessFlags := 25, nameIndex := 53, descriptorIndex := 25, attributes := #[] }, { accessFlags := 25, nameIndex := 24, descriptorIndex := 25, attributes := #[] }, { accessFlags := 25, nameIndex := 162, descriptorIndex := 25, attributes := #[] }, { accessFlags := 25, nameIndex := 187, descriptorIndex := 25, attributes := #[] }, { accessFlags := 26, nameIndex := 48, descriptorIndex := 25, attributes := #[] }, { accessFlags := 25, nameIndex := 277, descriptorIndex := 25, attributes := #[] }, { accessFlags := 25, nameIndex := 280, descriptorIndex := 25, attributes := #[] }, { accessFlags := 25, nameIndex := 282, descriptorIndex := 25, attributes := #[] }, { accessFlags := 25, nameIndex := 284, descriptorIndex := 25, attributes := #[] }, { accessFlags := 25, nameIndex := 286, descriptorIndex := 25, attributes := #[] }, { accessFlags := 25, nameIndex := 288, descriptorIndex := 25, attributes := #[] }, { accessFlags := 25, nameIndex := 290, descriptorIndex := 25, attributes := #[] }, { accessFlags := 25, nameIndex := 292, descriptorIndex := 25, attributes := #[] }, { accessFlags := 26, nameIndex := 108, descriptorIndex := 109, attributes := #[] }, { accessFlags := 25, nameIndex := 294, descriptorIndex := 25, attributes := #[] }])
  fields := #[{ name := "U", type := (.object "jdk/internal/misc/Unsafe"), accessFlags := 24, slot := 0, constantValue := 0 }, { name := "BIG_ENDIAN", type := .boolean, accessFlags := 26, slot := 1, constantValue := 0 }, { name := "LOG2_ARRAY_BOOLEAN_INDEX_SCALE", type := .int, accessFlags := 25, slot := 2, constantValue := 0 }, { name := "LOG2_ARRAY_BYTE_INDEX_SCALE", type := .int, accessFlags := 25, slot := 3, constantValue := 0 }, { name := "LOG2_ARRAY_CHAR_INDEX_SCALE", type := .int, accessFlags := 25, slot := 4, constantValue := 0 }, { name := "LOG2_ARRAY_SHORT_INDEX_SCALE", type := .int, accessFlags := 25, slot := 5, constantValue := 0 }, { name := "LOG2_ARRAY_INT_INDEX_SCALE", type := .int, accessFlags := 25, slot := 6, constantValue := 0 }, { name := "LOG2_ARRAY_LONG_INDEX_SCALE", type := .int, accessFlags := 25, slot := 7, constantValue := 0 }, { name := "LOG2_ARRAY_FLOAT_INDEX_SCALE", type := .int, accessFlags := 25, slot := 8, constantValue := 0 }, { name := "LOG2_ARRAY_DOUBLE_INDEX_SCALE", type := .int, accessFlags := 25, slot := 9, constantValue := 0 }, { name := "LOG2_BYTE_BIT_SIZE", type := .int, accessFlags := 26, slot := 10, constantValue := 0 }, { name := "T_BOOLEAN", type := .int, accessFlags := 25, slot := 11, constantValue := 0 }, { name := "T_CHAR", type := .int, accessFlags := 25, slot := 12, constantValue := 0 }, { name := "T_FLOAT", type := .int, accessFlags := 25, slot := 13, constantValue := 0 }, { name := "T_DOUBLE", type := .int, accessFlags := 25, slot := 14, constantValue := 0 }, { name := "T_BYTE", type := .int, accessFlags := 25, slot := 15, constantValue := 0 }, { name := "T_SHORT", type := .int, accessFlags := 25, slot := 16, constantValue := 0 }, { name := "T_INT", type := .int, accessFlags := 25, slot := 17, constantValue := 0 }, { name := "T_LONG", type := .int, accessFlags := 25, slot := 18, constantValue := 0 }, { name := "JLA", type := (.object "jdk/internal/access/JavaLangAccess"), accessFlags := 26, slot := 19, constantValue := 0 }, { name := "SOFT_MAX_ARRAY_LENGTH", type := .int, accessFlags := 25, slot := 20, constantValue := 0 }]
  methods := #[k23m0]
  instanceTypes := #[]
  staticTypes := #[(.object "jdk/internal/misc/Unsafe"), .boolean, .int, .int, .int, .int, .int, .int, .int, .int, .int, .int, .int, .int, .int, .int, .int, .int, .int, (.object "jdk/internal/access/JavaLangAccess"), .int]
  resolved := Array.replicate 378 none
  statics := none }

/-- the primitive byte -/
def k24 : Class := { plain "byte" none with kind := .primitive 'B', accessFlags := 0x411 }
/-- [B -/
def k25 : Class := { plain "[B" (some 0) with kind := .array 24 .byte, interfaces := #[16, 2], accessFlags := 1041 }

/-- the primitive char -/
def k26 : Class := { plain "char" none with kind := .primitive 'C', accessFlags := 0x411 }
/-- [C -/
def k27 : Class := { plain "[C" (some 0) with kind := .array 26 .char, interfaces := #[16, 2], accessFlags := 1041 }

/-- the primitive int -/
def k28 : Class := { plain "int" none with kind := .primitive 'I', accessFlags := 0x411 }
/-- [I -/
def k29 : Class := { plain "[I" (some 0) with kind := .array 28 .int, interfaces := #[16, 2], accessFlags := 1041 }

def heap : Heap := #[{ cls := 7, slots := #[.long 0, .int 1, .null, .int 0, .null, .int 0, .int 0], vm := .statics 7 },
  { cls := 8, slots := #[.int 0, .int 8, .int 0, .int 1], vm := .statics 8 },
  { cls := 10, slots := #[.null, .null, .ref 5, .null, .null, .null], vm := .statics 10 },
  { cls := 14, slots := #[.ref 5, .null], vm := .statics 14 },
  { cls := 22, slots := #[.null, .null, .null], vm := .statics 22 },
  { cls := 14, slots := #[.null, .null, .null], vm := .none }]
def classes : Array Class := #[k0, k1, k2, k3, k4, k5, k6, k7, k8, k9, k10, k11, k12, k13, k14, k15, k16, k17, k18, k19, k20, k21, k22, k23, k24, k25, k26, k27, k28, k29]
def interned : List (Array UInt16 × Addr) := []
def slotsUsed : Nat := 25
def theMethod : MethodId := ⟨1, 1⟩
def args0 : Array Value := #[.int 65, .int 66, .int 4]
def aboutOver (below : List Frame) : State where
  vm := { classes := classes, interned := interned.toArray }
  heap := heap
  slotsUsed := slotsUsed
  threads := #[{ frames := .invoking theMethod args0 :: below }]
def below0 : List Frame := [.native { method := ⟨0, 0⟩, args := #[] }]
def about1 : State := aboutOver below0
def p0 : Program := .bare "" "" ""
def e0 : Env := launch0.env 0 0 0
theorem w_frames : about1.frames = Frame.invoking theMethod args0 :: below0 := rfl
set_option maxRecDepth 65536 in
theorem w_args : argsFit about1.vm theMethod args0 = true := by decide +kernel
set_option maxRecDepth 65536 in
theorem w_heap : heapFits about1 = true := by decide +kernel
set_option maxRecDepth 65536 in
theorem w_runnable : about1.curStatus? = some .runnable := by decide +kernel
set_option maxRecDepth 65536 in
theorem w_alone : about1.alone = true := by decide +kernel
set_option maxRecDepth 65536 in
theorem w_named : about1.methodNamed? x = some theMethod := by decide +kernel
set_option maxRecDepth 65536 in
theorem w_hears : about1.hears theMethod below0 = true := by decide +kernel
set_option maxRecDepth 65536 in
theorem w_ripe : about1.ripe theMethod args0 below0 = true := by decide +kernel
theorem w_running : about1.status = .running := rfl
set_option maxRecDepth 65536 in
theorem w_room : about1.hasRoom e0.platform room_1 = true :=
  launch0.hasRoom_least _ room_1 (by decide +kernel) (by decide +kernel) (by decide +kernel) (by decide +kernel) (by decide +kernel) (by decide +kernel)
theorem allAtoms_all (ts : List Jvm.Cond) (a : Array Jvm.Value) (st : Jvm.State) : (allAtoms ts).before a st = ts.all (fun c => c.before a st) := by
  induction ts with
  | nil => rfl
  | cons c t ih =>
    show (Jvm.Cond.and c (allAtoms t)).before a st = _
    rw [Jvm.Cond.before_and, ih, List.all_cons]
def words1 : List Jvm.Cond := Jvm.Cond.code x code maxLocals ret :: tables_1
/-- a 'code' word, met by the world's own term for the bytes: nothing is compared byte by byte -/
theorem code_word {y : MethodName} {bytes : ByteArray} {mx : Nat} {rt : Option FieldType} {a : Array Value} {s : State} {m : MethodId} {meth : Method} {c : Code} (h1 : s.methodNamed? y = some m) (h2 : s.vm.method? m = some meth) (h3 : meth.code = some c) (h4 : c.code = bytes)
    (h5 : (c.maxLocals == mx && c.exceptionTable.isEmpty && decide (c.maxStack ≤ mostOperands) && decide (meth.sig.returnType = rt) && !meth.locks && decide (parseMethodDescriptor y.desc = some meth.sig)) = true) : (Jvm.Cond.code y bytes mx rt).before a s = true := by
  simp only [Bool.and_eq_true, beq_iff_eq, Bool.not_eq_true', decide_eq_true_eq] at h5
  obtain ⟨⟨⟨⟨⟨g1, g2⟩, g3⟩, g4⟩, g5⟩, g6⟩ := h5
  simp [Cond.before, Cond.holds, Cond.value, h1, h2, h3, h4, g1, g2, g3, g4, g5, g6]
def isCode : Jvm.Cond → Bool
  | .code _ _ _ _ => true
  | _ => false
theorem all_split {L : List Jvm.Cond} {P : Jvm.Cond → Bool} (h1 : L.all (fun c => isCode c || P c) = true) (h2 : ∀ c ∈ L.filter isCode, P c = true) : L.all P = true := by
  refine List.all_eq_true.mpr fun c hc => ?_
  have h := List.all_eq_true.mp h1 c hc
  rcases Bool.eq_false_or_eq_true (isCode c) with hi | hi
  · exact h2 c (List.mem_filter.mpr ⟨hc, hi⟩)
  · simpa [hi] using h
set_option maxRecDepth 65536 in
theorem w_c0 : (Jvm.Cond.code x code maxLocals ret).before args0 about1 = true := code_word (m := ⟨1, 1⟩) (meth := k1m1) (c := k1c1) (by decide +kernel) rfl rfl rfl (by decide +kernel)
set_option maxRecDepth 65536 in
theorem w_c1 : (Jvm.Cond.code ({ cls := "java/lang/String", name := "<init>", desc := "([C)V" } : Jvm.MethodName) jdk_42_method_3_code (2 : Nat) (Option.none : Option Jvm.ClassFile.FieldType)).before args0 about1 = true := code_word (m := ⟨7, 1⟩) (meth := k7m1) (c := k7c1) (by decide +kernel) rfl rfl rfl (by decide +kernel)
set_option maxRecDepth 65536 in
theorem w_c2 : (Jvm.Cond.code ({ cls := "java/lang/String", name := "<init>", desc := "([CIILjava/lang/Void;)V" } : Jvm.MethodName) jdk_42_method_149_code (6 : Nat) (Option.none : Option Jvm.ClassFile.FieldType)).before args0 about1 = true := code_word (m := ⟨7, 6⟩) (meth := k7m6) (c := k7c6) (by decide +kernel) rfl rfl rfl (by decide +kernel)
set_option maxRecDepth 65536 in
theorem w_c3 : (Jvm.Cond.code ({ cls := "java/lang/Object", name := "<init>", desc := "()V" } : Jvm.MethodName) object_method_1_code (1 : Nat) (Option.none : Option Jvm.ClassFile.FieldType)).before args0 about1 = true := code_word (m := ⟨0, 0⟩) (meth := k0m0) (c := k0c0) (by decide +kernel) rfl rfl rfl (by decide +kernel)
set_option maxRecDepth 65536 in
theorem w_c4 : (Jvm.Cond.code ({ cls := "java/lang/StringUTF16", name := "compress", desc := "([CII)[B" } : Jvm.MethodName) jdk_52_method_16_code (6 : Nat) (Option.some (Jvm.ClassFile.FieldType.array Jvm.ClassFile.FieldType.byte))).before args0 about1 = true := code_word (m := ⟨8, 7⟩) (meth := k8m7) (c := k8c7) (by decide +kernel) rfl rfl rfl (by decide +kernel)
set_option maxRecDepth 65536 in
theorem w_c5 : (Jvm.Cond.code ({ cls := "java/lang/StringUTF16", name := "compress", desc := "([CI[BII)I" } : Jvm.MethodName) jdk_52_method_21_code (7 : Nat) (Option.some Jvm.ClassFile.FieldType.int)).before args0 about1 = true := code_word (m := ⟨8, 8⟩) (meth := k8m8) (c := k8c8) (by decide +kernel) rfl rfl rfl (by decide +kernel)
set_option maxRecDepth 65536 in
theorem w_c6 : (Jvm.Cond.code ({ cls := "java/lang/StringUTF16", name := "coderFromArrayLen", desc := "([BI)B" } : Jvm.MethodName) jdk_52_method_15_code (2 : Nat) (Option.some Jvm.ClassFile.FieldType.byte)).before args0 about1 = true := code_word (m := ⟨8, 6⟩) (meth := k8m6) (c := k8c6) (by decide +kernel) rfl rfl rfl (by decide +kernel)
set_option maxRecDepth 65536 in
theorem w_c7 : (Jvm.Cond.code ({ cls := "com/example/sibyl/sibyl/core/KeyBytesOfPinLaw", name := "isHigh", desc := "(C)Z" } : Jvm.MethodName) method_3_code (1 : Nat) (Option.some Jvm.ClassFile.FieldType.boolean)).before args0 about1 = true := code_word (m := ⟨1, 2⟩) (meth := k1m2) (c := k1c2) (by decide +kernel) rfl rfl rfl (by decide +kernel)
set_option maxRecDepth 65536 in
theorem w_c8 : (Jvm.Cond.code ({ cls := "com/example/sibyl/sibyl/core/KeyBytesOfPinLaw", name := "unit", desc := "([BIC)I" } : Jvm.MethodName) method_5_code (4 : Nat) (Option.some Jvm.ClassFile.FieldType.int)).before args0 about1 = true := code_word (m := ⟨1, 4⟩) (meth := k1m4) (c := k1c4) (by decide +kernel) rfl rfl rfl (by decide +kernel)
set_option maxRecDepth 65536 in
theorem w_c9 : (Jvm.Cond.code ({ cls := "com/example/sibyl/sibyl/core/KeyBytes", name := "of", desc := "(Ljava/lang/String;)[B" } : Jvm.MethodName) prog_21_method_2_code (1 : Nat) (Option.some (Jvm.ClassFile.FieldType.array Jvm.ClassFile.FieldType.byte))).before args0 about1 = true := code_word (m := ⟨9, 1⟩) (meth := k9m1) (c := k9c1) (by decide +kernel) rfl rfl rfl (by decide +kernel)
set_option maxRecDepth 65536 in
theorem w_c10 : (Jvm.Cond.code ({ cls := "java/lang/String", name := "getBytes", desc := "(Ljava/nio/charset/Charset;)[B" } : Jvm.MethodName) jdk_42_method_64_code (2 : Nat) (Option.some (Jvm.ClassFile.FieldType.array Jvm.ClassFile.FieldType.byte))).before args0 about1 = true := code_word (m := ⟨7, 5⟩) (meth := k7m5) (c := k7c5) (by decide +kernel) rfl rfl rfl (by decide +kernel)
set_option maxRecDepth 65536 in
theorem w_c11 : (Jvm.Cond.code ({ cls := "java/lang/String", name := "coder", desc := "()B" } : Jvm.MethodName) jdk_42_method_152_code (1 : Nat) (Option.some Jvm.ClassFile.FieldType.byte)).before args0 about1 = true := code_word (m := ⟨7, 7⟩) (meth := k7m7) (c := k7c7) (by decide +kernel) rfl rfl rfl (by decide +kernel)
set_option maxRecDepth 65536 in
theorem w_c12 : (Jvm.Cond.code ({ cls := "java/lang/String", name := "encode", desc := "(Ljava/nio/charset/Charset;B[B)[B" } : Jvm.MethodName) jdk_42_method_18_code (3 : Nat) (Option.some (Jvm.ClassFile.FieldType.array Jvm.ClassFile.FieldType.byte))).before args0 about1 = true := code_word (m := ⟨7, 2⟩) (meth := k7m2) (c := k7c2) (by decide +kernel) rfl rfl rfl (by decide +kernel)
set_option maxRecDepth 65536 in
theorem w_c13 : (Jvm.Cond.code ({ cls := "java/lang/String", name := "encodeUTF8", desc := "(B[BZ)[B" } : Jvm.MethodName) jdk_42_method_46_code (9 : Nat) (Option.some (Jvm.ClassFile.FieldType.array Jvm.ClassFile.FieldType.byte))).before args0 about1 = true := code_word (m := ⟨7, 3⟩) (meth := k7m3) (c := k7c3) (by decide +kernel) rfl rfl rfl (by decide +kernel)
set_option maxRecDepth 65536 in
theorem w_c14 : (Jvm.Cond.code ({ cls := "java/lang/StringCoding", name := "hasNegatives", desc := "([BII)Z" } : Jvm.MethodName) jdk_123_method_2_code (3 : Nat) (Option.some Jvm.ClassFile.FieldType.boolean)).before args0 about1 = true := code_word (m := ⟨15, 1⟩) (meth := k15m1) (c := k15c1) (by decide +kernel) rfl rfl rfl (by decide +kernel)
set_option maxRecDepth 65536 in
theorem w_c15 : (Jvm.Cond.code ({ cls := "java/lang/StringCoding", name := "countPositives", desc := "([BII)I" } : Jvm.MethodName) jdk_123_method_3_code (5 : Nat) (Option.some Jvm.ClassFile.FieldType.int)).before args0 about1 = true := code_word (m := ⟨15, 2⟩) (meth := k15m2) (c := k15c2) (by decide +kernel) rfl rfl rfl (by decide +kernel)
set_option maxRecDepth 65536 in
theorem w_c16 : (Jvm.Cond.code ({ cls := "com/example/sibyl/sibyl/core/KeyBytesOfPinLaw", name := "eq", desc := "([B[BI)Z" } : Jvm.MethodName) method_7_code (3 : Nat) (Option.some Jvm.ClassFile.FieldType.boolean)).before args0 about1 = true := code_word (m := ⟨1, 6⟩) (meth := k1m6) (c := k1c6) (by decide +kernel) rfl rfl rfl (by decide +kernel)
set_option maxRecDepth 65536 in
theorem w_c17 : (Jvm.Cond.code ({ cls := "java/lang/StringUTF16", name := "toBytes", desc := "([CII)[B" } : Jvm.MethodName) jdk_52_method_14_code (5 : Nat) (Option.some (Jvm.ClassFile.FieldType.array Jvm.ClassFile.FieldType.byte))).before args0 about1 = true := code_word (m := ⟨8, 5⟩) (meth := k8m5) (c := k8c5) (by decide +kernel) rfl rfl rfl (by decide +kernel)
set_option maxRecDepth 65536 in
theorem w_c18 : (Jvm.Cond.code ({ cls := "java/lang/StringUTF16", name := "newBytesFor", desc := "(I)[B" } : Jvm.MethodName) jdk_52_method_2_code (1 : Nat) (Option.some (Jvm.ClassFile.FieldType.array Jvm.ClassFile.FieldType.byte))).before args0 about1 = true := code_word (m := ⟨8, 1⟩) (meth := k8m1) (c := k8c1) (by decide +kernel) rfl rfl rfl (by decide +kernel)
set_option maxRecDepth 65536 in
theorem w_c19 : (Jvm.Cond.code ({ cls := "java/lang/StringUTF16", name := "newBytesLength", desc := "(I)I" } : Jvm.MethodName) jdk_52_method_3_code (1 : Nat) (Option.some Jvm.ClassFile.FieldType.int)).before args0 about1 = true := code_word (m := ⟨8, 2⟩) (meth := k8m2) (c := k8c2) (by decide +kernel) rfl rfl rfl (by decide +kernel)
set_option maxRecDepth 65536 in
theorem w_c20 : (Jvm.Cond.code ({ cls := "java/lang/StringUTF16", name := "putChar", desc := "([BII)V" } : Jvm.MethodName) jdk_52_method_4_code (3 : Nat) (Option.none : Option Jvm.ClassFile.FieldType)).before args0 about1 = true := code_word (m := ⟨8, 3⟩) (meth := k8m3) (c := k8c3) (by decide +kernel) rfl rfl rfl (by decide +kernel)
set_option maxRecDepth 65536 in
theorem w_c21 : (Jvm.Cond.code ({ cls := "java/lang/StringUTF16", name := "getChar", desc := "([BI)C" } : Jvm.MethodName) jdk_52_method_5_code (2 : Nat) (Option.some Jvm.ClassFile.FieldType.char)).before args0 about1 = true := code_word (m := ⟨8, 4⟩) (meth := k8m4) (c := k8c4) (by decide +kernel) rfl rfl rfl (by decide +kernel)
set_option maxRecDepth 65536 in
theorem w_c22 : (Jvm.Cond.code ({ cls := "java/lang/String", name := "encodeUTF8_UTF16", desc := "([BZ)[B" } : Jvm.MethodName) jdk_42_method_47_code (9 : Nat) (Option.some (Jvm.ClassFile.FieldType.array Jvm.ClassFile.FieldType.byte))).before args0 about1 = true := code_word (m := ⟨7, 4⟩) (meth := k7m4) (c := k7c4) (by decide +kernel) rfl rfl rfl (by decide +kernel)
set_option maxRecDepth 65536 in
theorem w_c23 : (Jvm.Cond.code ({ cls := "java/lang/Character", name := "isSurrogate", desc := "(C)Z" } : Jvm.MethodName) jdk_89_method_16_code (1 : Nat) (Option.some Jvm.ClassFile.FieldType.boolean)).before args0 about1 = true := code_word (m := ⟨17, 2⟩) (meth := k17m2) (c := k17c2) (by decide +kernel) rfl rfl rfl (by decide +kernel)
set_option maxRecDepth 65536 in
theorem w_c24 : (Jvm.Cond.code ({ cls := "java/lang/Character", name := "isHighSurrogate", desc := "(C)Z" } : Jvm.MethodName) jdk_89_method_14_code (1 : Nat) (Option.some Jvm.ClassFile.FieldType.boolean)).before args0 about1 = true := code_word (m := ⟨17, 0⟩) (meth := k17m0) (c := k17c0) (by decide +kernel) rfl rfl rfl (by decide +kernel)
set_option maxRecDepth 65536 in
theorem w_c25 : (Jvm.Cond.code ({ cls := "java/util/Arrays", name := "copyOf", desc := "([BI)[B" } : Jvm.MethodName) jdk_65_method_121_code (3 : Nat) (Option.some (Jvm.ClassFile.FieldType.array Jvm.ClassFile.FieldType.byte))).before args0 about1 = true := code_word (m := ⟨18, 1⟩) (meth := k18m1) (c := k18c1) (by decide +kernel) rfl rfl rfl (by decide +kernel)
set_option maxRecDepth 65536 in
theorem w_c26 : (Jvm.Cond.code ({ cls := "java/lang/Math", name := "min", desc := "(II)I" } : Jvm.MethodName) jdk_29_method_69_code (2 : Nat) (Option.some Jvm.ClassFile.FieldType.int)).before args0 about1 = true := code_word (m := ⟨19, 1⟩) (meth := k19m1) (c := k19c1) (by decide +kernel) rfl rfl rfl (by decide +kernel)
set_option maxRecDepth 65536 in
theorem w_c27 : (Jvm.Cond.code ({ cls := "com/example/sibyl/sibyl/core/KeyBytesOfPinLaw", name := "isLow", desc := "(C)Z" } : Jvm.MethodName) method_4_code (1 : Nat) (Option.some Jvm.ClassFile.FieldType.boolean)).before args0 about1 = true := code_word (m := ⟨1, 3⟩) (meth := k1m3) (c := k1c3) (by decide +kernel) rfl rfl rfl (by decide +kernel)
set_option maxRecDepth 65536 in
theorem w_c28 : (Jvm.Cond.code ({ cls := "com/example/sibyl/sibyl/core/KeyBytesOfPinLaw", name := "pair", desc := "([BCC)I" } : Jvm.MethodName) method_6_code (4 : Nat) (Option.some Jvm.ClassFile.FieldType.int)).before args0 about1 = true := code_word (m := ⟨1, 5⟩) (meth := k1m5) (c := k1c5) (by decide +kernel) rfl rfl rfl (by decide +kernel)
set_option maxRecDepth 65536 in
theorem w_c29 : (Jvm.Cond.code ({ cls := "java/lang/Character", name := "isLowSurrogate", desc := "(C)Z" } : Jvm.MethodName) jdk_89_method_15_code (1 : Nat) (Option.some Jvm.ClassFile.FieldType.boolean)).before args0 about1 = true := code_word (m := ⟨17, 1⟩) (meth := k17m1) (c := k17c1) (by decide +kernel) rfl rfl rfl (by decide +kernel)
set_option maxRecDepth 65536 in
theorem w_c30 : (Jvm.Cond.code ({ cls := "java/lang/Character", name := "toCodePoint", desc := "(CC)I" } : Jvm.MethodName) jdk_89_method_19_code (2 : Nat) (Option.some Jvm.ClassFile.FieldType.int)).before args0 about1 = true := code_word (m := ⟨17, 3⟩) (meth := k17m3) (c := k17c3) (by decide +kernel) rfl rfl rfl (by decide +kernel)
def codes1 : List Jvm.Cond := [Jvm.Cond.code x code maxLocals ret, Jvm.Cond.code ({ cls := "java/lang/String", name := "<init>", desc := "([C)V" } : Jvm.MethodName) jdk_42_method_3_code (2 : Nat) (Option.none : Option Jvm.ClassFile.FieldType), Jvm.Cond.code ({ cls := "java/lang/String", name := "<init>", desc := "([CIILjava/lang/Void;)V" } : Jvm.MethodName) jdk_42_method_149_code (6 : Nat) (Option.none : Option Jvm.ClassFile.FieldType), Jvm.Cond.code ({ cls := "java/lang/Object", name := "<init>", desc := "()V" } : Jvm.MethodName) object_method_1_code (1 : Nat) (Option.none : Option Jvm.ClassFile.FieldType), Jvm.Cond.code ({ cls := "java/lang/StringUTF16", name := "compress", desc := "([CII)[B" } : Jvm.MethodName) jdk_52_method_16_code (6 : Nat) (Option.some (Jvm.ClassFile.FieldType.array Jvm.ClassFile.FieldType.byte)), Jvm.Cond.code ({ cls := "java/lang/StringUTF16", name := "compress", desc := "([CI[BII)I" } : Jvm.MethodName) jdk_52_method_21_code (7 : Nat) (Option.some Jvm.ClassFile.FieldType.int), Jvm.Cond.code ({ cls := "java/lang/StringUTF16", name := "coderFromArrayLen", desc := "([BI)B" } : Jvm.MethodName) jdk_52_method_15_code (2 : Nat) (Option.some Jvm.ClassFile.FieldType.byte), Jvm.Cond.code ({ cls := "com/example/sibyl/sibyl/core/KeyBytesOfPinLaw", name := "isHigh", desc := "(C)Z" } : Jvm.MethodName) method_3_code (1 : Nat) (Option.some Jvm.ClassFile.FieldType.boolean), Jvm.Cond.code ({ cls := "com/example/sibyl/sibyl/core/KeyBytesOfPinLaw", name := "unit", desc := "([BIC)I" } : Jvm.MethodName) method_5_code (4 : Nat) (Option.some Jvm.ClassFile.FieldType.int), Jvm.Cond.code ({ cls := "com/example/sibyl/sibyl/core/KeyBytes", name := "of", desc := "(Ljava/lang/String;)[B" } : Jvm.MethodName) prog_21_method_2_code (1 : Nat) (Option.some (Jvm.ClassFile.FieldType.array Jvm.ClassFile.FieldType.byte)), Jvm.Cond.code ({ cls := "java/lang/String", name := "getBytes", desc := "(Ljava/nio/charset/Charset;)[B" } : Jvm.MethodName) jdk_42_method_64_code (2 : Nat) (Option.some (Jvm.ClassFile.FieldType.array Jvm.ClassFile.FieldType.byte)), Jvm.Cond.code ({ cls := "java/lang/String", name := "coder", desc := "()B" } : Jvm.MethodName) jdk_42_method_152_code (1 : Nat) (Option.some Jvm.ClassFile.FieldType.byte), Jvm.Cond.code ({ cls := "java/lang/String", name := "encode", desc := "(Ljava/nio/charset/Charset;B[B)[B" } : Jvm.MethodName) jdk_42_method_18_code (3 : Nat) (Option.some (Jvm.ClassFile.FieldType.array Jvm.ClassFile.FieldType.byte)), Jvm.Cond.code ({ cls := "java/lang/String", name := "encodeUTF8", desc := "(B[BZ)[B" } : Jvm.MethodName) jdk_42_method_46_code (9 : Nat) (Option.some (Jvm.ClassFile.FieldType.array Jvm.ClassFile.FieldType.byte)), Jvm.Cond.code ({ cls := "java/lang/StringCoding", name := "hasNegatives", desc := "([BII)Z" } : Jvm.MethodName) jdk_123_method_2_code (3 : Nat) (Option.some Jvm.ClassFile.FieldType.boolean), Jvm.Cond.code ({ cls := "java/lang/StringCoding", name := "countPositives", desc := "([BII)I" } : Jvm.MethodName) jdk_123_method_3_code (5 : Nat) (Option.some Jvm.ClassFile.FieldType.int), Jvm.Cond.code ({ cls := "com/example/sibyl/sibyl/core/KeyBytesOfPinLaw", name := "eq", desc := "([B[BI)Z" } : Jvm.MethodName) method_7_code (3 : Nat) (Option.some Jvm.ClassFile.FieldType.boolean), Jvm.Cond.code ({ cls := "java/lang/StringUTF16", name := "toBytes", desc := "([CII)[B" } : Jvm.MethodName) jdk_52_method_14_code (5 : Nat) (Option.some (Jvm.ClassFile.FieldType.array Jvm.ClassFile.FieldType.byte)), Jvm.Cond.code ({ cls := "java/lang/StringUTF16", name := "newBytesFor", desc := "(I)[B" } : Jvm.MethodName) jdk_52_method_2_code (1 : Nat) (Option.some (Jvm.ClassFile.FieldType.array Jvm.ClassFile.FieldType.byte)), Jvm.Cond.code ({ cls := "java/lang/StringUTF16", name := "newBytesLength", desc := "(I)I" } : Jvm.MethodName) jdk_52_method_3_code (1 : Nat) (Option.some Jvm.ClassFile.FieldType.int), Jvm.Cond.code ({ cls := "java/lang/StringUTF16", name := "putChar", desc := "([BII)V" } : Jvm.MethodName) jdk_52_method_4_code (3 : Nat) (Option.none : Option Jvm.ClassFile.FieldType), Jvm.Cond.code ({ cls := "java/lang/StringUTF16", name := "getChar", desc := "([BI)C" } : Jvm.MethodName) jdk_52_method_5_code (2 : Nat) (Option.some Jvm.ClassFile.FieldType.char), Jvm.Cond.code ({ cls := "java/lang/String", name := "encodeUTF8_UTF16", desc := "([BZ)[B" } : Jvm.MethodName) jdk_42_method_47_code (9 : Nat) (Option.some (Jvm.ClassFile.FieldType.array Jvm.ClassFile.FieldType.byte)), Jvm.Cond.code ({ cls := "java/lang/Character", name := "isSurrogate", desc := "(C)Z" } : Jvm.MethodName) jdk_89_method_16_code (1 : Nat) (Option.some Jvm.ClassFile.FieldType.boolean), Jvm.Cond.code ({ cls := "java/lang/Character", name := "isHighSurrogate", desc := "(C)Z" } : Jvm.MethodName) jdk_89_method_14_code (1 : Nat) (Option.some Jvm.ClassFile.FieldType.boolean), Jvm.Cond.code ({ cls := "java/util/Arrays", name := "copyOf", desc := "([BI)[B" } : Jvm.MethodName) jdk_65_method_121_code (3 : Nat) (Option.some (Jvm.ClassFile.FieldType.array Jvm.ClassFile.FieldType.byte)), Jvm.Cond.code ({ cls := "java/lang/Math", name := "min", desc := "(II)I" } : Jvm.MethodName) jdk_29_method_69_code (2 : Nat) (Option.some Jvm.ClassFile.FieldType.int), Jvm.Cond.code ({ cls := "com/example/sibyl/sibyl/core/KeyBytesOfPinLaw", name := "isLow", desc := "(C)Z" } : Jvm.MethodName) method_4_code (1 : Nat) (Option.some Jvm.ClassFile.FieldType.boolean), Jvm.Cond.code ({ cls := "com/example/sibyl/sibyl/core/KeyBytesOfPinLaw", name := "pair", desc := "([BCC)I" } : Jvm.MethodName) method_6_code (4 : Nat) (Option.some Jvm.ClassFile.FieldType.int), Jvm.Cond.code ({ cls := "java/lang/Character", name := "isLowSurrogate", desc := "(C)Z" } : Jvm.MethodName) jdk_89_method_15_code (1 : Nat) (Option.some Jvm.ClassFile.FieldType.boolean), Jvm.Cond.code ({ cls := "java/lang/Character", name := "toCodePoint", desc := "(CC)I" } : Jvm.MethodName) jdk_89_method_19_code (2 : Nat) (Option.some Jvm.ClassFile.FieldType.int)]
set_option maxRecDepth 65536 in
theorem codes_eq : words1.filter isCode = codes1 := rfl
theorem w_codes : ∀ c ∈ words1.filter isCode, c.before args0 about1 = true := by
  rw [codes_eq]
  intro c hc
  simp only [codes1, List.mem_cons, List.not_mem_nil, or_false] at hc
  rcases hc with rfl | rfl | rfl | rfl | rfl | rfl | rfl | rfl | rfl | rfl | rfl | rfl | rfl | rfl | rfl | rfl | rfl | rfl | rfl | rfl | rfl | rfl | rfl | rfl | rfl | rfl | rfl | rfl | rfl | rfl | rfl
  · exact w_c0
  · exact w_c1
  · exact w_c2
  · exact w_c3
  · exact w_c4
  · exact w_c5
  · exact w_c6
  · exact w_c7
  · exact w_c8
  · exact w_c9
  · exact w_c10
  · exact w_c11
  · exact w_c12
  · exact w_c13
  · exact w_c14
  · exact w_c15
  · exact w_c16
  · exact w_c17
  · exact w_c18
  · exact w_c19
  · exact w_c20
  · exact w_c21
  · exact w_c22
  · exact w_c23
  · exact w_c24
  · exact w_c25
  · exact w_c26
  · exact w_c27
  · exact w_c28
  · exact w_c29
  · exact w_c30
set_option maxRecDepth 65536 in
theorem w_t1 : (words1.take 24).all (fun c => isCode c || c.before args0 about1) = true := by decide +kernel
set_option maxRecDepth 65536 in
theorem w_t2 : ((words1.drop 24).take 24).all (fun c => isCode c || c.before args0 about1) = true := by decide +kernel
set_option maxRecDepth 65536 in
theorem w_t3 : (((words1.drop 24).drop 24).take 24).all (fun c => isCode c || c.before args0 about1) = true := by decide +kernel
set_option maxRecDepth 65536 in
theorem w_t4 : ((((words1.drop 24).drop 24).drop 24).take 24).all (fun c => isCode c || c.before args0 about1) = true := by decide +kernel
set_option maxRecDepth 65536 in
theorem w_t5 : (((((words1.drop 24).drop 24).drop 24).drop 24).take 24).all (fun c => isCode c || c.before args0 about1) = true := by decide +kernel
set_option maxRecDepth 65536 in
theorem w_t6 : ((((((words1.drop 24).drop 24).drop 24).drop 24).drop 24).take 24).all (fun c => isCode c || c.before args0 about1) = true := by decide +kernel
set_option maxRecDepth 65536 in
theorem w_t7 : ((((((words1.drop 24).drop 24).drop 24).drop 24).drop 24).drop 24).all (fun c => isCode c || c.before args0 about1) = true := by decide +kernel
theorem w_tables : (allAtoms (Jvm.Cond.code x code maxLocals ret :: tables_1)).before args0 about1 = true := by
  rw [allAtoms_all]
  show words1.all (fun c => c.before args0 about1) = true
  refine all_split ?_ w_codes
  rw [← List.take_append_drop 24 words1, List.all_append, w_t1, ← List.take_append_drop 24 (words1.drop 24), List.all_append, w_t2, ← List.take_append_drop 24 ((words1.drop 24).drop 24), List.all_append, w_t3, ← List.take_append_drop 24 (((words1.drop 24).drop 24).drop 24), List.all_append, w_t4, ← List.take_append_drop 24 ((((words1.drop 24).drop 24).drop 24).drop 24), List.all_append, w_t5, ← List.take_append_drop 24 (((((words1.drop 24).drop 24).drop 24).drop 24).drop 24), List.all_append, w_t6, w_t7]
  rfl
set_option maxRecDepth 65536 in
theorem w_rest : rest_1_c.before args0 about1 = true := by decide +kernel
set_option maxRecDepth 65536 in
theorem w_case : (Jvm.Cond.and given_1 narrow_1).before args0 about1 = true := by decide +kernel
set_option maxRecDepth 65536 in
theorem w_consts : constsHeld consts_1 about1 := Jvm.Lit.constsHeldB_iff.mp (by decide +kernel)
theorem w_applies : (headSpec (Jvm.Cond.code x code maxLocals ret :: tables_1) room_1).applies x e0.platform about1 = true :=
  (Spec.applies_iff w_frames).mpr ⟨w_running, w_runnable, w_alone, w_named, w_hears, w_ripe, w_room, w_tables⟩
theorem atStart : AtStart classFile x code maxLocals ret World_1 tables_1 room_1 Calls_1 rest_1 Pre_1 launch0 p0 e0 about1 theMethod args0 below0 :=
  ⟨lists_1, trivial, launch0.admits_env _ _ _, launch0.least_env, fairChoices_fair.cas, fairChoices_fair.clock, w_frames, w_args, w_heap, w_applies, ⟨w_consts, trivial⟩, w_rest, w_case⟩
end start1
theorem witness_1 : WitnessClaimed_1 := ⟨start1.p0, start1.e0, start1.about1, start1.theMethod, start1.args0, start1.below0, start1.atStart⟩
end Jvm.Pilot.@@N@@
